import JvmDerived
import JvmDerived.Pilot.@@N@@Statement
import JvmDerived.Pilot.@@N@@Code
set_option linter.unusedVariables false
set_option linter.unusedSimpArgs false
@@BLOCK:NumsL.lean.txt@@
/- laws to paste: Road.backV, Road.lenW, Road.chN, Road.codOf (cut by pick.py; bodies as the Statement names them) -/
namespace Jvm.Pilot.@@N@@
namespace StrChars
open Jvm Sem ClassFile Op Lib Jvm.Stand Jvm.Free.XT Jvm.Free.ALB Jvm.Free.JM Jvm.Free
open Jvm.Lib.Cold (StaticIs)
/-- a char array whose places are chars -/
def Ch (a : Addr) (A : Cell) (U : State) : Prop := Arr .char a A U ∧ Typed .char A
theorem Ch.mv {a : Addr} {A : Cell} {U U' : State} (h : Ch a A U) (hal : U.vm.Alike U'.vm) (hh : U'.heap = U.heap) : Ch a A U' := ⟨h.1.mv hal hh, h.2⟩
theorem Ch.keep {a : Addr} {A : Cell} {U U' : State} (h : Ch a A U) (hal : U.vm.Alike U'.vm) (hk : U'.heap[a]? = some A) : Ch a A U' := ⟨h.1.keep hal hk, h.2⟩
/-- what place i of a char[]'s cell holds -/
def cv (A : Cell) (i : Nat) : Int32 := match A.slots[i]? with | some (.int x) => x | _ => 0
theorem Ch.get {a : Addr} {A : Cell} {U : State} (h : Ch a A U) {i : Nat} (hi : i < A.slots.size) : A.slots[i]? = some (.int (cv A i)) := by
  have e := Array.getElem?_eq_getElem hi
  have f := h.2 i _ e
  unfold cv; rw [e]
  generalize A.slots[i] = v at f
  cases v <;> simp [fits] at f ⊢
/-- the byte that i2b leaves of a char -/
def lo8 (x : Int32) : Int32 := x.toInt8.toInt32
theorem fits_lo8 (y : Int32) : fits .byte (.int (lo8 y)) = true := by
  have h1 := y.toInt8.le_toInt
  have h2 := y.toInt8.toInt_lt
  simp only [lo8, fits, Bool.and_eq_true, decide_eq_true_eq, Int32.le_iff_toInt_le, Int8.toInt_toInt32, show (-128 : Int32).toInt = -128 from by decide, show (127 : Int32).toInt = 127 from by decide]
  omega
/-- A' is A but that each place j of lo .. hi - 1 holds f j -/
def Laid (A A' : Cell) (lo hi : Nat) (f : Nat → Value) : Prop := A'.cls = A.cls ∧ A'.vm = A.vm ∧ A'.slots.size = A.slots.size ∧ ∀ i, A'.slots[i]? = if lo ≤ i ∧ i < hi then some (f i) else A.slots[i]?
theorem Laid.zero (A : Cell) (lo : Nat) (f : Nat → Value) : Laid A A lo (lo + 0) f := ⟨rfl, rfl, rfl, fun i => by rw [if_neg (by omega)]⟩
theorem Laid.step {A Ak : Cell} {lo k : Nat} {f : Nat → Value} {v : Value} (h : Laid A Ak lo k f) (hlo : lo ≤ k) (hk : k < Ak.slots.size) (hv : v = f k) : Laid A (Ak.setSlot k v) lo (k + 1) f := by
  refine ⟨h.1, h.2.1, by simpa [Cell.setSlot] using h.2.2.1, fun i => ?_⟩
  by_cases e : k = i
  · subst e; rw [Cell.slots_setSlot_self v hk, if_pos (by omega), hv]
  · rw [Cell.slots_setSlot_ne v e, h.2.2.2 i]
    by_cases q : lo ≤ i ∧ i < k
    · rw [if_pos q, if_pos (by omega)]
    · rw [if_neg q, if_neg (by omega)]
def U16 : String := "java/lang/StringUTF16"
namespace Cmp5
def yN : MethodName := ⟨"java/lang/StringUTF16", "compress", "([CI[BII)I"⟩
abbrev yB : ByteArray := jdk_52_method_21_code
theorem d0 : decode yB 0 = .ok (.iconst 0, 1) := by decide +kernel
theorem d1 : decode yB 1 = .ok (.istore 5, 2) := by decide +kernel
theorem d3 : decode yB 3 = .ok (.iload 5, 2) := by decide +kernel
theorem d5 : decode yB 5 = .ok (.iload 4, 2) := by decide +kernel
theorem d7 : decode yB 7 = .ok (.if_icmp (.ge) 37, 3) := by decide +kernel
theorem d10 : decode yB 10 = .ok (.aload_n 0, 1) := by decide +kernel
theorem d11 : decode yB 11 = .ok (.iload_n 1, 1) := by decide +kernel
theorem d12 : decode yB 12 = .ok (.caload, 1) := by decide +kernel
theorem d13 : decode yB 13 = .ok (.istore 6, 2) := by decide +kernel
theorem d15 : decode yB 15 = .ok (.iload 6, 2) := by decide +kernel
theorem d17 : decode yB 17 = .ok (.sipush 255, 3) := by decide +kernel
theorem d20 : decode yB 20 = .ok (.if_icmp (.le) 6, 3) := by decide +kernel
theorem d26 : decode yB 26 = .ok (.aload_n 2, 1) := by decide +kernel
theorem d27 : decode yB 27 = .ok (.iload_n 3, 1) := by decide +kernel
theorem d28 : decode yB 28 = .ok (.iload 6, 2) := by decide +kernel
theorem d30 : decode yB 30 = .ok (.i2b, 1) := by decide +kernel
theorem d31 : decode yB 31 = .ok (.bastore, 1) := by decide +kernel
theorem d32 : decode yB 32 = .ok (.iinc 1 1, 3) := by decide +kernel
theorem d35 : decode yB 35 = .ok (.iinc 3 1, 3) := by decide +kernel
theorem d38 : decode yB 38 = .ok (.iinc 5 1, 3) := by decide +kernel
theorem d41 : decode yB 41 = .ok (.goto (-38), 3) := by decide +kernel
theorem d44 : decode yB 44 = .ok (.iload 4, 2) := by decide +kernel
theorem d46 : decode yB 46 = .ok (.ireturn, 1) := by decide +kernel
def site : List Cond := []
def tab : Cond := tabOf yN yB 7 (some .int) site
def P (b : Addr) (A : Cell) (d : Addr) (B : Cell) (o q len : Nat) (args : Array Value) (s : State) : Prop := args = #[.ref b, .int (Int32.ofNat o), .ref d, .int (Int32.ofNat q), .int (Int32.ofNat len)] ∧ Ch b A s ∧ Arr .byte d B s ∧ b ≠ d ∧ o + len ≤ A.slots.size ∧ q + len ≤ B.slots.size ∧ ∀ i, i < len → ¬ 255 < cv A (o + i)
def E (b : Addr) (A : Cell) (d : Addr) (B : Cell) (o q len : Nat) (r : Option Value) (s u : State) : Prop := r = some (.int (Int32.ofNat len)) ∧ ∃ B', Put d B' s u ∧ Laid B B' q (q + len) (fun j => Value.int (lo8 (cv A (o + (j - q)))))
/-- no char of the range above 255: len; the places written hold each char's low byte -/
theorem law (l : Launch) (b : Addr) (A : Cell) (d : Addr) (B : Cell) (o q len : Nat) : Law l yN 5 5 0 0 yB 7 (some .int) site (P b A d B o q len) (E b A d B o q len) (copyLocs d q len) 0 0 := by
  refine Law.of_walk (plainFor_of_name (by decide +kernel)) (by decide +kernel) (by decide +kernel) (by decide) (fun _ _ h => by rw [h.1]; rfl) (fun _ U U' hal hh h => ⟨h.1, h.2.1.mv hal hh, h.2.2.1.mv hal hh, h.2.2.2⟩) (fun r U U' V V' h1 hal h2 h => ⟨h.1, h.2.elim fun B' q => ⟨B', q.1.mv h1 h2, q.2⟩⟩) ?_
  intro p e s m args below meth c s₁ X0 hexec hbytes hml hret hlk hnm hown hh0 W hP
  obtain ⟨rfl, hA, hB, hne, l1, l2, hp⟩ := hP
  have c1 : Steps p.tables e below (s₁.setTop (entryFrame m #[.ref b, .int (Int32.ofNat o), .ref d, .int (Int32.ofNat q), .int (Int32.ofNat len)] 7)) (s₁.setTop (mkF m 0 #[.val (.ref b), .val (.int (Int32.ofNat o)), .val (.ref d), .val (.int (Int32.ofNat q)), .val (.int (Int32.ofNat len)), .unset, .unset] [])) := entry rfl
  have hA0 := hA.1.mv X0.warmed.alike hh0
  have hB0 := hB.mv X0.warmed.alike hh0
  have a31 := hA.1.2.2.2
  have c2 : Steps p.tables e below (s₁.setTop (entryFrame m #[.ref b, .int (Int32.ofNat o), .ref d, .int (Int32.ofNat q), .int (Int32.ofNat len)] 7)) (s₁.setTop (mkF m 3 #[.val (.ref b), .val (.int (Int32.ofNat o)), .val (.ref d), .val (.int (Int32.ofNat q)), .val (.int (Int32.ofNat len)), .val (.int 0), .unset] [])) := c1.trans (by
    refine iconstV X0.here hexec rfl 0 (hb hbytes d0) (by decide) ?_
    refine XS.istore X0.here hexec rfl (hb hbytes d1) rfl rfl ?_
    exact Steps.refl _)
  have loop : ∀ (r i : Nat), i + r = len → ∀ (z : Slot), (z = .unset ∨ ∃ w, z = .val w ∧ w.category = 1) → ∀ (Tl : State) (Bk : Cell), Stand p l e { frames := 0, locals := 0, cells := 0, slots := 0 } s m #[.ref b, .int (Int32.ofNat o), .ref d, .int (Int32.ofNat q), .int (Int32.ofNat len)] below meth c Tl ([] ++ copyLocs d q i) 0 0 → Put d Bk s₁ Tl → Laid B Bk q (q + i) (fun j => Value.int (lo8 (cv A (o + (j - q))))) →
      Steps p.tables e below (s₁.setTop (entryFrame m #[.ref b, .int (Int32.ofNat o), .ref d, .int (Int32.ofNat q), .int (Int32.ofNat len)] 7)) (Tl.setTop (mkF m 3 #[.val (.ref b), .val (.int (Int32.ofNat (o + i))), .val (.ref d), .val (.int (Int32.ofNat (q + i))), .val (.int (Int32.ofNat len)), .val (.int (Int32.ofNat i)), z] [])) → ∃ (T' : State) (B' : Cell) (z' : Slot), Stand p l e { frames := 0, locals := 0, cells := 0, slots := 0 } s m #[.ref b, .int (Int32.ofNat o), .ref d, .int (Int32.ofNat q), .int (Int32.ofNat len)] below meth c T' ([] ++ copyLocs d q len) 0 0 ∧ Put d B' s₁ T' ∧ Laid B B' q (q + len) (fun j => Value.int (lo8 (cv A (o + (j - q))))) ∧
      Steps p.tables e below (s₁.setTop (entryFrame m #[.ref b, .int (Int32.ofNat o), .ref d, .int (Int32.ofNat q), .int (Int32.ofNat len)] 7)) (T'.setTop (mkF m 3 #[.val (.ref b), .val (.int (Int32.ofNat (o + len))), .val (.ref d), .val (.int (Int32.ofNat (q + len))), .val (.int (Int32.ofNat len)), .val (.int (Int32.ofNat len)), z'] [])) := by
    intro r
    induction r with
    | zero =>
      intro i hi z hz Tl Bk Xl pl fl cl
      have hil : i = len := by omega
      rw [hil] at Xl fl cl
      exact ⟨Tl, Bk, z, Xl, pl, fl, cl⟩
    | succ r ih =>
      intro i hi z hz Tl Bk Xl pl fl cl
      have all := X0.warmed.alike.symm.trans Xl.warmed.alike
      have hAl := hA0.keep all (pl.other hne hA0.1)
      have hBk := hB0.like all pl.1 fl.1 fl.2.1 fl.2.2.1
      have hlt : q + i < Bk.slots.size := by rw [fl.2.2.1]; omega
      have c3 : Steps p.tables e below (s₁.setTop (entryFrame m #[.ref b, .int (Int32.ofNat o), .ref d, .int (Int32.ofNat q), .int (Int32.ofNat len)] 7)) (Tl.setTop (mkF m 12 #[.val (.ref b), .val (.int (Int32.ofNat (o + i))), .val (.ref d), .val (.int (Int32.ofNat (q + i))), .val (.int (Int32.ofNat len)), .val (.int (Int32.ofNat i)), z] [.int (Int32.ofNat (o + i)), .ref b])) := cl.trans (by
        refine XS.iload Xl.here hexec rfl (hb hbytes d3) rfl ?_
        refine XS.iload Xl.here hexec rfl (hb hbytes d5) rfl ?_
        refine XS.icmpNo Xl.here hexec rfl (hb hbytes d7) rfl (ii_ge_f (lt32 (by omega) (by omega))) ?_
        refine XS.aloadN Xl.here hexec rfl (hb hbytes d10) rfl rfl ?_
        refine XS.iloadN Xl.here hexec rfl (hb hbytes d11) rfl ?_
        exact Steps.refl _)
      have c4 : Steps p.tables e below (s₁.setTop (entryFrame m #[.ref b, .int (Int32.ofNat o), .ref d, .int (Int32.ofNat q), .int (Int32.ofNat len)] 7)) (Tl.setTop (mkF m 13 #[.val (.ref b), .val (.int (Int32.ofNat (o + i))), .val (.ref d), .val (.int (Int32.ofNat (q + i))), .val (.int (Int32.ofNat len)), .val (.int (Int32.ofNat i)), z] [.int (cv A (o + i))])) := c3.trans (by
        refine Xl.aget hexec hAl rfl (hA.get (i := o + i) (by omega)) rfl rfl (hb hbytes d12) ?_
        exact Steps.refl _)
      have c5 : Steps p.tables e below (s₁.setTop (entryFrame m #[.ref b, .int (Int32.ofNat o), .ref d, .int (Int32.ofNat q), .int (Int32.ofNat len)] 7)) (Tl.setTop (mkF m 15 #[.val (.ref b), .val (.int (Int32.ofNat (o + i))), .val (.ref d), .val (.int (Int32.ofNat (q + i))), .val (.int (Int32.ofNat len)), .val (.int (Int32.ofNat i)), .val (.int (cv A (o + i)))] [])) := c4.trans (by
        refine XS.istoreS Xl.here hexec rfl (hb hbytes d13) rfl rfl hz ?_
        exact Steps.refl _)
      have c6 : Steps p.tables e below (s₁.setTop (entryFrame m #[.ref b, .int (Int32.ofNat o), .ref d, .int (Int32.ofNat q), .int (Int32.ofNat len)] 7)) (Tl.setTop (mkF m 31 #[.val (.ref b), .val (.int (Int32.ofNat (o + i))), .val (.ref d), .val (.int (Int32.ofNat (q + i))), .val (.int (Int32.ofNat len)), .val (.int (Int32.ofNat i)), .val (.int (cv A (o + i)))] [.int (lo8 (cv A (o + i))), .int (Int32.ofNat (q + i)), .ref d])) := c5.trans (by
        refine XS.iload Xl.here hexec rfl (hb hbytes d15) rfl ?_
        refine sipushV Xl.here hexec rfl 255 (hb hbytes d17) (by decide) ?_
        refine XS.icmpYes Xl.here hexec rfl (pc0 := 20) rfl (hb hbytes d20) rfl (ii_le_t (hp i (by omega))) (by decide) rfl ?_
        refine XS.aloadN Xl.here hexec rfl (hb hbytes d26) rfl rfl ?_
        refine XS.iloadN Xl.here hexec rfl (hb hbytes d27) rfl ?_
        refine XS.iload Xl.here hexec rfl (hb hbytes d28) rfl ?_
        refine i2b Xl.here hexec rfl (hb hbytes d30) rfl ?_
        exact Steps.refl _)
      obtain ⟨T7, X7, p7, st7⟩ := Xl.aput hexec hBk rfl hlt rfl (fits_lo8 (cv A (o + i))) (g := (mkF m 31 #[.val (.ref b), .val (.int (Int32.ofNat (o + i))), .val (.ref d), .val (.int (Int32.ofNat (q + i))), .val (.int (Int32.ofNat len)), .val (.int (Int32.ofNat i)), .val (.int (cv A (o + i)))] [.int (lo8 (cv A (o + i))), .int (Int32.ofNat (q + i)), .ref d])) rfl (rest := []) rfl (hb hbytes d31)
      have c8 : Steps p.tables e below (s₁.setTop (entryFrame m #[.ref b, .int (Int32.ofNat o), .ref d, .int (Int32.ofNat q), .int (Int32.ofNat len)] 7)) (T7.setTop (mkF m 32 #[.val (.ref b), .val (.int (Int32.ofNat (o + i))), .val (.ref d), .val (.int (Int32.ofNat (q + i))), .val (.int (Int32.ofNat len)), .val (.int (Int32.ofNat i)), .val (.int (cv A (o + i)))] [])) := c6.trans (st7 _ (Steps.refl _))
      have c9 : Steps p.tables e below (s₁.setTop (entryFrame m #[.ref b, .int (Int32.ofNat o), .ref d, .int (Int32.ofNat q), .int (Int32.ofNat len)] 7)) (T7.setTop (mkF m 3 #[.val (.ref b), .val (.int (Int32.ofNat (o + i) + 1)), .val (.ref d), .val (.int (Int32.ofNat (q + i) + 1)), .val (.int (Int32.ofNat len)), .val (.int (Int32.ofNat i + 1)), .val (.int (cv A (o + i)))] [])) := c8.trans (by
        refine iincV X7.here hexec rfl 1 (hb hbytes d32) (by decide) rfl rfl ?_
        refine iincV X7.here hexec rfl 1 (hb hbytes d35) (by decide) rfl rfl ?_
        refine iincV X7.here hexec rfl 1 (hb hbytes d38) (by decide) rfl rfl ?_
        refine XS.goto X7.here hexec rfl (pc0 := 41) rfl (hb hbytes d41) (by decide) rfl ?_
        exact Steps.refl _)
      have c10 : Steps p.tables e below (s₁.setTop (entryFrame m #[.ref b, .int (Int32.ofNat o), .ref d, .int (Int32.ofNat q), .int (Int32.ofNat len)] 7)) (T7.setTop (mkF m 3 #[.val (.ref b), .val (.int (Int32.ofNat (o + (i + 1)))), .val (.ref d), .val (.int (Int32.ofNat (q + (i + 1)))), .val (.int (Int32.ofNat len)), .val (.int (Int32.ofNat (i + 1))), .val (.int (cv A (o + i)))] [])) := by
        have := c9
        rw [succ32, succ32, succ32] at this
        exact this
      exact ih (i + 1) (by omega) _ (Or.inr ⟨_, rfl, rfl⟩) T7 _ (by rw [copyLocs_step, ← List.append_assoc]; exact X7) (pl.trans p7) (fl.step (by omega) hlt (by simp)) c10
  obtain ⟨T9, B9, z9, X9, p9, f9, g9⟩ := loop len 0 (by omega) .unset (Or.inl rfl) s₁ B (by simpa [copyLocs] using X0) ⟨hB0.1, fun _ _ => rfl, rfl⟩ (Laid.zero _ _ _) c2
  have c11 : Steps p.tables e below (s₁.setTop (entryFrame m #[.ref b, .int (Int32.ofNat o), .ref d, .int (Int32.ofNat q), .int (Int32.ofNat len)] 7)) (T9.setTop (mkF m 46 #[.val (.ref b), .val (.int (Int32.ofNat (o + len))), .val (.ref d), .val (.int (Int32.ofNat (q + len))), .val (.int (Int32.ofNat len)), .val (.int (Int32.ofNat len)), z9] [.int (Int32.ofNat len)])) := g9.trans (by
    refine XS.iload X9.here hexec rfl (hb hbytes d3) rfl ?_
    refine XS.iload X9.here hexec rfl (hb hbytes d5) rfl ?_
    refine XS.icmpYes X9.here hexec rfl (pc0 := 7) rfl (hb hbytes d7) rfl (ii_ge_t (nlt32 (by omega) (Nat.le_refl _))) (by decide) rfl ?_
    refine XS.iload X9.here hexec rfl (hb hbytes d44) rfl ?_
    exact Steps.refl _)
  exact ⟨T9, some (.int (Int32.ofNat len)), _, _, _, X9, by simp, rfl, rfl, (fun h => by cases h), ⟨rfl, B9, p9.from hh0, f9⟩, fun fs hl => c11.trans (X9.ireturnOut hexec hret rfl (Or.inl rfl) (hb hbytes d46) hl)⟩
end Cmp5
namespace Cmp3
def yN : MethodName := ⟨"java/lang/StringUTF16", "compress", "([CII)[B"⟩
abbrev yB : ByteArray := jdk_52_method_16_code
theorem d0 : decode yB 0 = .ok (.iload_n 2, 1) := by decide +kernel
theorem d1 : decode yB 1 = .ok (.newarray .byte, 2) := by decide +kernel
theorem d3 : decode yB 3 = .ok (.astore_n 3, 1) := by decide +kernel
theorem d4 : decode yB 4 = .ok (.aload_n 0, 1) := by decide +kernel
theorem d5 : decode yB 5 = .ok (.iload_n 1, 1) := by decide +kernel
theorem d6 : decode yB 6 = .ok (.aload_n 3, 1) := by decide +kernel
theorem d7 : decode yB 7 = .ok (.iconst 0, 1) := by decide +kernel
theorem d8 : decode yB 8 = .ok (.iload_n 2, 1) := by decide +kernel
theorem d9 : decode yB 9 = .ok (.invokestatic 115, 3) := by decide +kernel
theorem d12 : decode yB 12 = .ok (.istore 4, 2) := by decide +kernel
theorem d14 : decode yB 14 = .ok (.iload 4, 2) := by decide +kernel
theorem d16 : decode yB 16 = .ok (.iload_n 2, 1) := by decide +kernel
theorem d17 : decode yB 17 = .ok (.if_icmp (.eq) 40, 3) := by decide +kernel
theorem d57 : decode yB 57 = .ok (.aload_n 3, 1) := by decide +kernel
theorem d58 : decode yB 58 = .ok (.areturn, 1) := by decide +kernel
def site : List Cond := [.arrayClass .byte, Cmp5.tab] ++ staticW U16 115 Cmp5.yN
def tab : Cond := tabOf yN yB 6 (some (.array .byte)) site
def P (b : Addr) (A : Cell) (o len : Nat) (args : Array Value) (s : State) : Prop := args = #[.ref b, .int (Int32.ofNat o), .int (Int32.ofNat len)] ∧ Ch b A s ∧ o + len ≤ A.slots.size ∧ len ≤ 536870912 ∧ ∀ i, i < len → ¬ 255 < cv A (o + i)
def E (b : Addr) (A : Cell) (o len : Nat) (r : Option Value) (s u : State) : Prop := NewArr .byte "[B" len (fun j => .int (lo8 (cv A (o + j)))) r s u ∧ u.heap.size = s.heap.size + 1
/-- no char of the range above 255: a new byte[] of their low bytes -/
theorem law (l : Launch) (b : Addr) (A : Cell) (o len : Nat) : Law l yN 3 3 1 18 yB 6 (some (.array .byte)) site (P b A o len) (E b A o len) [] 1 len := by
  refine Law.of_walk (plainFor_of_name (by decide +kernel)) (by decide +kernel) (by decide +kernel) (by decide) (fun _ _ h => by rw [h.1]; rfl) (fun _ U U' hal hh h => ⟨h.1, h.2.1.mv hal hh, h.2.2⟩) (fun r U U' V V' h1 hal h2 h => ⟨NewArr.mv r U U' V V' h1 hal h2 h.1, by rw [h1, h2]; exact h.2⟩) ?_
  intro p e s m args below meth c s₁ X0 hexec hbytes hml hret hlk hnm hown hh0 W hP
  obtain ⟨rfl, hA, l1, l2, hp⟩ := hP
  have a31 := hA.1.2.2.2
  have c1 : Steps p.tables e below (s₁.setTop (entryFrame m #[.ref b, .int (Int32.ofNat o), .int (Int32.ofNat len)] 6)) (s₁.setTop (mkF m 0 #[.val (.ref b), .val (.int (Int32.ofNat o)), .val (.int (Int32.ofNat len)), .unset, .unset, .unset] [])) := entry rfl
  have c2 : Steps p.tables e below (s₁.setTop (entryFrame m #[.ref b, .int (Int32.ofNat o), .int (Int32.ofNat len)] 6)) (s₁.setTop (mkF m 1 #[.val (.ref b), .val (.int (Int32.ofNat o)), .val (.int (Int32.ofNat len)), .unset, .unset, .unset] [.int (Int32.ofNat len)])) := c1.trans (by
    refine XS.iloadN X0.here hexec rfl (hb hbytes d0) rfl ?_
    exact Steps.refl _)
  obtain ⟨T3, B3, X3, ba3, bs3, bv3, bh3, bf3, st3⟩ := X0.anew hexec (atype := .byte) (wk W (.arrayClass .byte)) rfl (by show len * 1 ≤ _; omega) (by omega) (g := (mkF m 1 #[.val (.ref b), .val (.int (Int32.ofNat o)), .val (.int (Int32.ofNat len)), .unset, .unset, .unset] [.int (Int32.ofNat len)])) rfl (hb hbytes d1) (rest := []) rfl (Nat.le_refl _) (by show 0 + len ≤ len; omega)
  rw [hh0] at ba3 st3
  have kp3 : XT.Kept s T3 := (XT.Kept.of_eq hh0).push bh3
  have hA3 := hA.keep X3.warmed.alike (kp3 _ _ hA.1.1)
  have hne : b ≠ s.heap.size := hA.1.ne
  have c4 : Steps p.tables e below (s₁.setTop (entryFrame m #[.ref b, .int (Int32.ofNat o), .int (Int32.ofNat len)] 6)) (T3.setTop (mkF m 3 #[.val (.ref b), .val (.int (Int32.ofNat o)), .val (.int (Int32.ofNat len)), .unset, .unset, .unset] [.ref s.heap.size])) := c2.trans (st3 _ (Steps.refl _))
  have c5 : Steps p.tables e below (s₁.setTop (entryFrame m #[.ref b, .int (Int32.ofNat o), .int (Int32.ofNat len)] 6)) (T3.setTop (mkF m 9 #[.val (.ref b), .val (.int (Int32.ofNat o)), .val (.int (Int32.ofNat len)), .val (.ref s.heap.size), .unset, .unset] [.int (Int32.ofNat len), .int 0, .ref s.heap.size, .int (Int32.ofNat o), .ref b])) := c4.trans (by
    refine XS.astoreN X3.here hexec rfl (hb hbytes d3) rfl rfl rfl ?_
    refine XS.aloadN X3.here hexec rfl (hb hbytes d4) rfl rfl ?_
    refine XS.iloadN X3.here hexec rfl (hb hbytes d5) rfl ?_
    refine XS.aloadN X3.here hexec rfl (hb hbytes d6) rfl rfl ?_
    refine iconstV X3.here hexec rfl 0 (hb hbytes d7) (by decide) ?_
    refine XS.iloadN X3.here hexec rfl (hb hbytes d8) rfl ?_
    exact Steps.refl _)
  obtain ⟨v6, T6, X6, E6, g6⟩ := X3.callS hexec (Cmp5.law l b A s.heap.size B3 o 0 len) hown (wks W (staticW U16 115 Cmp5.yN)) (wk W Cmp5.tab) (W := 0) (Nat.le_of_ble_eq_true rfl) (Nat.le_of_ble_eq_true rfl) (Nat.le_refl _) (by show 0 + len + 0 ≤ len; omega) (g := (mkF m 9 #[.val (.ref b), .val (.int (Int32.ofNat o)), .val (.int (Int32.ofNat len)), .val (.ref s.heap.size), .unset, .unset] [.int (Int32.ofNat len), .int (Int32.ofNat 0), .ref s.heap.size, .int (Int32.ofNat o), .ref b])) rfl (by rw [hml]; rfl) c5 (argsL := [.ref b, .int (Int32.ofNat o), .ref s.heap.size, .int (Int32.ofNat 0), .int (Int32.ofNat len)]) (rest := []) rfl rfl (by show 2 * 0 + 0 ≤ _; decide) (hb hbytes d9) (⟨rfl, hA3, ba3, hne, l1, by rw [bs3]; simp, hp⟩)
  obtain ⟨rfl, B6, p6, f6⟩ := E6
  have c7 : Steps p.tables e below (s₁.setTop (entryFrame m #[.ref b, .int (Int32.ofNat o), .int (Int32.ofNat len)] 6)) (T6.setTop (mkF m 12 #[.val (.ref b), .val (.int (Int32.ofNat o)), .val (.int (Int32.ofNat len)), .val (.ref s.heap.size), .unset, .unset] [.int (Int32.ofNat len)])) := g6
  have c8 : Steps p.tables e below (s₁.setTop (entryFrame m #[.ref b, .int (Int32.ofNat o), .int (Int32.ofNat len)] 6)) (T6.setTop (mkF m 58 #[.val (.ref b), .val (.int (Int32.ofNat o)), .val (.int (Int32.ofNat len)), .val (.ref s.heap.size), .val (.int (Int32.ofNat len)), .unset] [.ref s.heap.size])) := c7.trans (by
    refine XS.istore X6.here hexec rfl (hb hbytes d12) rfl rfl ?_
    refine XS.iload X6.here hexec rfl (hb hbytes d14) rfl ?_
    refine XS.iloadN X6.here hexec rfl (hb hbytes d16) rfl ?_
    refine XS.icmpYes X6.here hexec rfl (pc0 := 17) rfl (hb hbytes d17) rfl (ii_eq_t rfl) (by decide) rfl ?_
    refine XS.aloadN X6.here hexec rfl (hb hbytes d57) rfl rfl ?_
    exact Steps.refl _)
  have X8 := X6.wide (L' := []) (cells' := 1) (slots' := len) (fun x hx hlt => by
    simp only [List.nil_append, copyLocs, List.mem_map, List.mem_range] at hx
    obtain ⟨i, -, rfl⟩ := hx
    exact absurd hlt (Nat.lt_irrefl _)) (Nat.le_refl _) (by omega)
  exact ⟨T6, some (.ref s.heap.size), _, _, _, X8, rfl, rfl, rfl, (fun h => by cases h), ⟨⟨rfl, B6, ba3.like (X3.warmed.alike.symm.trans X6.warmed.alike) p6.1 f6.1 f6.2.1 f6.2.2.1, f6.2.1.trans bv3, by rw [X6.warmed.alike.findClass, f6.1]; exact bf3, by rw [f6.2.2.1, bs3]; simp, fun j hj => by rw [f6.2.2.2 j, if_pos (by omega)]; rfl, kp3.put p6 (Nat.le_refl _)⟩, by rw [p6.2.2, bh3, hh0]; simp⟩, fun fs hl => c8.trans (X8.areturnOut hexec rfl hret rfl (hb hbytes d58) hl)⟩
end Cmp3
namespace CodL
def yN : MethodName := ⟨"java/lang/StringUTF16", "coderFromArrayLen", "([BI)B"⟩
abbrev yB : ByteArray := jdk_52_method_15_code
theorem d0 : decode yB 0 = .ok (.iload_n 1, 1) := by decide +kernel
theorem d1 : decode yB 1 = .ok (.aload_n 0, 1) := by decide +kernel
theorem d2 : decode yB 2 = .ok (.arraylength, 1) := by decide +kernel
theorem d3 : decode yB 3 = .ok (.isub, 1) := by decide +kernel
theorem d4 : decode yB 4 = .ok (.bipush 31, 2) := by decide +kernel
theorem d6 : decode yB 6 = .ok (.iushr, 1) := by decide +kernel
theorem d7 : decode yB 7 = .ok (.i2b, 1) := by decide +kernel
theorem d8 : decode yB 8 = .ok (.ireturn, 1) := by decide +kernel
def site : List Cond := []
def tab : Cond := tabOf yN yB 2 (some .byte) site
def P (d : Addr) (B : Cell) (args : Array Value) (s : State) : Prop := args = #[.ref d, .int (Int32.ofNat B.slots.size)] ∧ Arr .byte d B s
def E (r : Option Value) (s u : State) : Prop := XT.PureE (some (.int 0)) r s u
/-- an array as long as the number of chars: LATIN1 -/
theorem law (l : Launch) (d : Addr) (B : Cell) : Law l yN 2 2 0 0 yB 2 (some .byte) site (P d B) E [] 0 0 := by
  refine Law.of_walk (plainFor_of_name (by decide +kernel)) (by decide +kernel) (by decide +kernel) (by decide) (fun _ _ h => by rw [h.1]; rfl) (fun _ U U' hal hh h => ⟨h.1, h.2.mv hal hh⟩) (fun r U U' V V' h1 hal h2 h => XT.PureE.mv r U U' V V' h1 hal h2 h) ?_
  intro p e s m args below meth c s₁ X0 hexec hbytes hml hret hlk hnm hown hh0 W hP
  obtain ⟨rfl, hB⟩ := hP
  have hB0 := hB.mv X0.warmed.alike hh0
  have c1 : Steps p.tables e below (s₁.setTop (entryFrame m #[.ref d, .int (Int32.ofNat B.slots.size)] 2)) (s₁.setTop (mkF m 0 #[.val (.ref d), .val (.int (Int32.ofNat B.slots.size))] [])) := entry rfl
  have c2 : Steps p.tables e below (s₁.setTop (entryFrame m #[.ref d, .int (Int32.ofNat B.slots.size)] 2)) (s₁.setTop (mkF m 2 #[.val (.ref d), .val (.int (Int32.ofNat B.slots.size))] [.ref d, .int (Int32.ofNat B.slots.size)])) := c1.trans (by
    refine XS.iloadN X0.here hexec rfl (hb hbytes d0) rfl ?_
    refine XS.aloadN X0.here hexec rfl (hb hbytes d1) rfl rfl ?_
    exact Steps.refl _)
  have c3 : Steps p.tables e below (s₁.setTop (entryFrame m #[.ref d, .int (Int32.ofNat B.slots.size)] 2)) (s₁.setTop (mkF m 8 #[.val (.ref d), .val (.int (Int32.ofNat B.slots.size))] [.int (lo8 (ushr (Int32.ofNat B.slots.size - Int32.ofNat B.slots.size) 31))])) := c2.trans (by
    refine X0.alen hexec hB0 rfl rfl (hb hbytes d2) ?_
    refine XS.isub X0.here hexec rfl (hb hbytes d3) rfl ?_
    refine bipushV X0.here hexec rfl 31 (hb hbytes d4) (by decide) ?_
    refine iushr X0.here hexec rfl (hb hbytes d6) rfl ?_
    refine i2b X0.here hexec rfl (hb hbytes d7) rfl ?_
    exact Steps.refl _)
  have e0 : lo8 (ushr (Int32.ofNat B.slots.size - Int32.ofNat B.slots.size) 31) = 0 := by rw [Int32.sub_self]; decide
  rw [e0] at c3
  exact ⟨s₁, some (.int 0), _, _, _, X0, rfl, rfl, rfl, (fun h => by cases h), ⟨rfl, hh0⟩, fun fs hl => c3.trans (X0.ireturnOut hexec hret rfl (Or.inr (Or.inr (Or.inl rfl))) (hb hbytes d8) hl)⟩
end CodL
/-- the String at a is Latin-1 over a new byte[] (the heap's one new cell): the low bytes of the len chars of A from o on; every cell but a is kept -/
def Got (a : Addr) (D : Cell) (fV fC : Field) (A : Cell) (o len : Nat) (r : Option Value) (s u : State) : Prop := r = none ∧ ∃ D' V : Cell, Blank "java/lang/String" a D' u ∧ Same D D' [fV.slot, fC.slot] ∧ D'.slots[fV.slot]? = some (.ref s.heap.size) ∧ D'.slots[fC.slot]? = some (.int 0) ∧ Arr .byte s.heap.size V u ∧ V.vm = .none ∧ u.vm.findClass "[B" = some V.cls ∧ V.slots.size = len ∧ (∀ j, j < len → V.slots[j]? = some (.int (lo8 (cv A (o + j))))) ∧ (∀ (y : Addr) (c : Cell), y ≠ a → s.heap[y]? = some c → u.heap[y]? = some c) ∧ u.heap.size = s.heap.size + 1
theorem Got.mv {a : Addr} {D A : Cell} {fV fC : Field} {o len : Nat} : ∀ r (U U' V V' : State), U'.heap = U.heap → V.vm.Alike V'.vm → V'.heap = V.heap → Got a D fV fC A o len r U V → Got a D fV fC A o len r U' V' :=
  fun r U U' V V' h1 hal h2 ⟨e0, D', X, a1, a2, a3, a4, a5, a6, a7, a8, a9, a10, a11⟩ => ⟨e0, D', X, a1.mv hal h2, a2, by rw [h1]; exact a3, a4, by rw [h1]; exact a5.mv hal h2, a6, by rw [hal.findClass]; exact a7, a8, a9, by rw [h1, h2]; exact a10, by rw [h1, h2]; exact a11⟩
namespace New4
def yN : MethodName := ⟨"java/lang/String", "<init>", "([CIILjava/lang/Void;)V"⟩
abbrev yB : ByteArray := jdk_42_method_149_code
theorem d0 : decode yB 0 = .ok (.aload_n 0, 1) := by decide +kernel
theorem d1 : decode yB 1 = .ok (.invokespecial 1, 3) := by decide +kernel
theorem d4 : decode yB 4 = .ok (.iload_n 3, 1) := by decide +kernel
theorem d5 : decode yB 5 = .ok (.ifCond (.ne) 22, 3) := by decide +kernel
theorem d27 : decode yB 27 = .ok (.getstatic 38, 3) := by decide +kernel
theorem d30 : decode yB 30 = .ok (.ifCond (.eq) 28, 3) := by decide +kernel
theorem d33 : decode yB 33 = .ok (.aload_n 1, 1) := by decide +kernel
theorem d34 : decode yB 34 = .ok (.iload_n 2, 1) := by decide +kernel
theorem d35 : decode yB 35 = .ok (.iload_n 3, 1) := by decide +kernel
theorem d36 : decode yB 36 = .ok (.invokestatic 177, 3) := by decide +kernel
theorem d39 : decode yB 39 = .ok (.astore 5, 2) := by decide +kernel
theorem d41 : decode yB 41 = .ok (.aload_n 0, 1) := by decide +kernel
theorem d42 : decode yB 42 = .ok (.aload 5, 2) := by decide +kernel
theorem d44 : decode yB 44 = .ok (.iload_n 3, 1) := by decide +kernel
theorem d45 : decode yB 45 = .ok (.invokestatic 47, 3) := by decide +kernel
theorem d48 : decode yB 48 = .ok (.putfield 15, 3) := by decide +kernel
theorem d51 : decode yB 51 = .ok (.aload_n 0, 1) := by decide +kernel
theorem d52 : decode yB 52 = .ok (.aload 5, 2) := by decide +kernel
theorem d54 : decode yB 54 = .ok (.putfield 9, 3) := by decide +kernel
theorem d57 : decode yB 57 = .ok (.return_, 1) := by decide +kernel
def site : List Cond := [.fieldLink "java/lang/String" 38 "java/lang/String" "COMPACT_STRINGS" "Z", Cmp3.tab, CodL.tab, .laysFinal "java/lang/String" "java/lang/String" "value" "[B", .fieldLink "java/lang/String" 9 "java/lang/String" "value" "[B", .laysFinal "java/lang/String" "java/lang/String" "coder" "B", .fieldLink "java/lang/String" 15 "java/lang/String" "coder" "B"] ++ objW "java/lang/String" 1 ++ staticW "java/lang/String" 177 Cmp3.yN ++ staticW "java/lang/String" 47 CodL.yN
def tab : Cond := tabOf yN yB 6 none site
def P (a : Addr) (D : Cell) (fV fC : Field) (b : Addr) (A : Cell) (z : Int32) (o len : Nat) (args : Array Value) (s : State) : Prop := args = #[.ref a, .ref b, .int (Int32.ofNat o), .int (Int32.ofNat len), .null] ∧ Blank "java/lang/String" a D s ∧ Found "java/lang/String" "value" "[B" fV s ∧ Found "java/lang/String" "coder" "B" fC s ∧ Ch b A s ∧ StaticIs s "java/lang/String" "COMPACT_STRINGS" "Z" (.int z) ∧ ¬ z = 0 ∧ 0 < len ∧ o + len ≤ A.slots.size ∧ len ≤ 536870912 ∧ ∀ i, i < len → ¬ 255 < cv A (o + i)
def E (a : Addr) (D : Cell) (fV fC : Field) (A : Cell) (o len : Nat) (r : Option Value) (s u : State) : Prop := Got a D fV fC A o len r s u
/-- len > 0, no char of the range above 255: a Latin-1 String of their low bytes -/
theorem law (l : Launch) (a : Addr) (D : Cell) (fV fC : Field) (b : Addr) (A : Cell) (z : Int32) (o len : Nat) : Law l yN 5 4 2 35 yB 6 none site (P a D fV fC b A z o len) (E a D fV fC A o len) [⟨a, fC.slot⟩, ⟨a, fV.slot⟩] 1 len := by
  refine Law.of_walk (plainFor_of_name (by decide +kernel)) (by decide +kernel) (by decide +kernel) (by decide) (fun _ _ h => by rw [h.1]; rfl) (fun _ U U' hal hh h => ⟨h.1, h.2.1.mv hal hh, h.2.2.1.al hal, h.2.2.2.1.al hal, h.2.2.2.2.1.mv hal hh, h.2.2.2.2.2.1.there hal hh, h.2.2.2.2.2.2⟩) (fun r U U' V V' h1 hal h2 h => Got.mv r U U' V V' h1 hal h2 h) ?_
  intro p e s m args below meth c s₁ X0 hexec hbytes hml hret hlk hnm hown hh0 W hP
  obtain ⟨rfl, hB, f1, f2, hA, s1, hz, l0, l1, l2, hp⟩ := hP
  have a31 := hA.1.2.2.2
  have c1 : Steps p.tables e below (s₁.setTop (entryFrame m #[.ref a, .ref b, .int (Int32.ofNat o), .int (Int32.ofNat len), .null] 6)) (s₁.setTop (mkF m 0 #[.val (.ref a), .val (.ref b), .val (.int (Int32.ofNat o)), .val (.int (Int32.ofNat len)), .val .null, .unset] [])) := entry rfl
  have c2 : Steps p.tables e below (s₁.setTop (entryFrame m #[.ref a, .ref b, .int (Int32.ofNat o), .int (Int32.ofNat len), .null] 6)) (s₁.setTop (mkF m 1 #[.val (.ref a), .val (.ref b), .val (.int (Int32.ofNat o)), .val (.int (Int32.ofNat len)), .val .null, .unset] [.ref a])) := c1.trans (by
    refine XS.aloadN X0.here hexec rfl (hb hbytes d0) rfl rfl ?_
    exact Steps.refl _)
  obtain ⟨T3, X3, q3, st3⟩ := X0.oinit hexec hown (wks W (objW "java/lang/String" 1)) (g := (mkF m 1 #[.val (.ref a), .val (.ref b), .val (.int (Int32.ofNat o)), .val (.int (Int32.ofNat len)), .val .null, .unset] [.ref a])) rfl (by rw [hml]; rfl) (rest := []) rfl (hb hbytes d1) (W := 0) (by show 2 * 0 + 0 ≤ _; decide) (Nat.le_of_ble_eq_true rfl) (Nat.le_of_ble_eq_true rfl)
  have hh3 := q3.trans hh0
  have c4 : Steps p.tables e below (s₁.setTop (entryFrame m #[.ref a, .ref b, .int (Int32.ofNat o), .int (Int32.ofNat len), .null] 6)) (T3.setTop (mkF m 27 #[.val (.ref a), .val (.ref b), .val (.int (Int32.ofNat o)), .val (.int (Int32.ofNat len)), .val .null, .unset] [])) := (c2.trans (st3 _ (Steps.refl _))).trans (by
    refine XS.iloadN X3.here hexec rfl (hb hbytes d4) rfl ?_
    refine XS.ifYes X3.here hexec rfl (pc0 := 5) rfl (hb hbytes d5) rfl (i0_ne_t (nz32 (by omega) l0)) (by decide) rfl ?_
    exact Steps.refl _)
  obtain ⟨T5, X5, q5, st5⟩ := X3.sget hexec hown (wk W (.fieldLink "java/lang/String" 38 "java/lang/String" "COMPACT_STRINGS" "Z")) s1 (fun _ _ h => by rw [hh3]; exact h) (g := (mkF m 27 #[.val (.ref a), .val (.ref b), .val (.int (Int32.ofNat o)), .val (.int (Int32.ofNat len)), .val .null, .unset] [])) rfl (hb hbytes d27)
  have hh5 := q5.trans hh3
  have c6 : Steps p.tables e below (s₁.setTop (entryFrame m #[.ref a, .ref b, .int (Int32.ofNat o), .int (Int32.ofNat len), .null] 6)) (T5.setTop (mkF m 30 #[.val (.ref a), .val (.ref b), .val (.int (Int32.ofNat o)), .val (.int (Int32.ofNat len)), .val .null, .unset] [.int z])) := c4.trans (st5 _ (Steps.refl _))
  have c7 : Steps p.tables e below (s₁.setTop (entryFrame m #[.ref a, .ref b, .int (Int32.ofNat o), .int (Int32.ofNat len), .null] 6)) (T5.setTop (mkF m 36 #[.val (.ref a), .val (.ref b), .val (.int (Int32.ofNat o)), .val (.int (Int32.ofNat len)), .val .null, .unset] [.int (Int32.ofNat len), .int (Int32.ofNat o), .ref b])) := c6.trans (by
    refine XS.ifNo X5.here hexec rfl (hb hbytes d30) rfl (i0_eq_f hz) ?_
    refine XS.aloadN X5.here hexec rfl (hb hbytes d33) rfl rfl ?_
    refine XS.iloadN X5.here hexec rfl (hb hbytes d34) rfl ?_
    refine XS.iloadN X5.here hexec rfl (hb hbytes d35) rfl ?_
    exact Steps.refl _)
  obtain ⟨v8, T8, X8, E8, g8⟩ := X5.callS hexec (Cmp3.law l b A o len) hown (wks W (staticW "java/lang/String" 177 Cmp3.yN)) (wk W Cmp3.tab) (W := 0) (Nat.le_of_ble_eq_true rfl) (Nat.le_of_ble_eq_true rfl) (Nat.le_refl _) (by show 0 + len ≤ len; omega) (g := (mkF m 36 #[.val (.ref a), .val (.ref b), .val (.int (Int32.ofNat o)), .val (.int (Int32.ofNat len)), .val .null, .unset] [.int (Int32.ofNat len), .int (Int32.ofNat o), .ref b])) rfl (by rw [hml]; rfl) c7 (argsL := [.ref b, .int (Int32.ofNat o), .int (Int32.ofNat len)]) (rest := []) rfl rfl (by show 2 * 0 + 0 ≤ _; decide) (hb hbytes d36) (⟨rfl, hA.mv X5.warmed.alike hh5, l1, l2, hp⟩)
  obtain ⟨e8, z8⟩ := E8
  obtain ⟨rfl, N, n1, n2, n3, n4, n5, n6⟩ := NewArr.mv _ T5 s _ _ hh5.symm (Vm.Alike.refl _) rfl e8
  rw [hh5] at z8
  have hB1 := hB.keep X8.warmed.alike (n6 _ _ hB.1)
  have hne : s.heap.size ≠ a := (Nat.ne_of_lt (Array.getElem?_eq_some_iff.mp hB.1).1).symm
  have c9 : Steps p.tables e below (s₁.setTop (entryFrame m #[.ref a, .ref b, .int (Int32.ofNat o), .int (Int32.ofNat len), .null] 6)) (T8.setTop (mkF m 39 #[.val (.ref a), .val (.ref b), .val (.int (Int32.ofNat o)), .val (.int (Int32.ofNat len)), .val .null, .unset] [.ref s.heap.size])) := g8
  have c10 : Steps p.tables e below (s₁.setTop (entryFrame m #[.ref a, .ref b, .int (Int32.ofNat o), .int (Int32.ofNat len), .null] 6)) (T8.setTop (mkF m 45 #[.val (.ref a), .val (.ref b), .val (.int (Int32.ofNat o)), .val (.int (Int32.ofNat len)), .val .null, .val (.ref s.heap.size)] [.int (Int32.ofNat N.slots.size), .ref s.heap.size, .ref a])) := by
    have hc : Steps p.tables e below (s₁.setTop (entryFrame m #[.ref a, .ref b, .int (Int32.ofNat o), .int (Int32.ofNat len), .null] 6)) (T8.setTop (mkF m 45 #[.val (.ref a), .val (.ref b), .val (.int (Int32.ofNat o)), .val (.int (Int32.ofNat len)), .val .null, .val (.ref s.heap.size)] [.int (Int32.ofNat len), .ref s.heap.size, .ref a])) := c9.trans (by
      refine XS.astore X8.here hexec rfl (hb hbytes d39) rfl rfl rfl ?_
      refine XS.aloadN X8.here hexec rfl (hb hbytes d41) rfl rfl ?_
      refine XS.aload X8.here hexec rfl (hb hbytes d42) rfl rfl ?_
      refine XS.iloadN X8.here hexec rfl (hb hbytes d44) rfl ?_
      exact Steps.refl _)
    rw [n4]; exact hc
  obtain ⟨v11, T11, X11, E11, g11⟩ := X8.callS hexec (CodL.law l s.heap.size N) hown (wks W (staticW "java/lang/String" 47 CodL.yN)) (wk W CodL.tab) (W := 1) (Nat.le_of_ble_eq_true rfl) (Nat.le_of_ble_eq_true rfl) (Nat.le_refl _) (by show 0 + len + 0 ≤ len; omega) (g := (mkF m 45 #[.val (.ref a), .val (.ref b), .val (.int (Int32.ofNat o)), .val (.int (Int32.ofNat len)), .val .null, .val (.ref s.heap.size)] [.int (Int32.ofNat N.slots.size), .ref s.heap.size, .ref a])) rfl (by rw [hml]; rfl) c10 (argsL := [.ref s.heap.size, .int (Int32.ofNat N.slots.size)]) (rest := [.ref a]) rfl rfl (by show 2 * 0 + (1 + 0) ≤ _; decide) (hb hbytes d45) (⟨rfl, n1⟩)
  obtain ⟨rfl, q11⟩ := E11
  have hB11 := hB1.mv (X8.warmed.alike.symm.trans X11.warmed.alike) q11
  have c12 : Steps p.tables e below (s₁.setTop (entryFrame m #[.ref a, .ref b, .int (Int32.ofNat o), .int (Int32.ofNat len), .null] 6)) (T11.setTop (mkF m 48 #[.val (.ref a), .val (.ref b), .val (.int (Int32.ofNat o)), .val (.int (Int32.ofNat len)), .val .null, .val (.ref s.heap.size)] [.int 0, .ref a])) := g11
  obtain ⟨T13, X13, p13, bl13, sl13, st13⟩ := X11.finit hexec hown (wk W (.fieldLink "java/lang/String" 15 "java/lang/String" "coder" "B")) (Or.inr ⟨_, (wk W (.laysFinal "java/lang/String" "java/lang/String" "coder" "B"))⟩) (Or.inl ⟨rfl, hnm⟩) f2 (Or.inl rfl) hB11 (t := .byte) (by decide +kernel) rfl (g := (mkF m 48 #[.val (.ref a), .val (.ref b), .val (.int (Int32.ofNat o)), .val (.int (Int32.ofNat len)), .val .null, .val (.ref s.heap.size)] [.int 0, .ref a])) rfl (rest := []) rfl (hb hbytes d48)
  have c14 : Steps p.tables e below (s₁.setTop (entryFrame m #[.ref a, .ref b, .int (Int32.ofNat o), .int (Int32.ofNat len), .null] 6)) (T13.setTop (mkF m 54 #[.val (.ref a), .val (.ref b), .val (.int (Int32.ofNat o)), .val (.int (Int32.ofNat len)), .val .null, .val (.ref s.heap.size)] [.ref s.heap.size, .ref a])) := (c12.trans (st13 _ (Steps.refl _))).trans (by
    refine XS.aloadN X13.here hexec rfl (hb hbytes d51) rfl rfl ?_
    refine XS.aload X13.here hexec rfl (hb hbytes d52) rfl rfl ?_
    exact Steps.refl _)
  obtain ⟨T15, X15, p15, bl15, sl15, st15⟩ := X13.finit hexec hown (wk W (.fieldLink "java/lang/String" 9 "java/lang/String" "value" "[B")) (Or.inr ⟨_, (wk W (.laysFinal "java/lang/String" "java/lang/String" "value" "[B"))⟩) (Or.inl ⟨rfl, hnm⟩) f1 (Or.inl rfl) bl13 (t := (.array .byte)) (by decide +kernel) rfl (g := (mkF m 54 #[.val (.ref a), .val (.ref b), .val (.int (Int32.ofNat o)), .val (.int (Int32.ofNat len)), .val .null, .val (.ref s.heap.size)] [.ref s.heap.size, .ref a])) rfl (rest := []) rfl (hb hbytes d54)
  have c16 : Steps p.tables e below (s₁.setTop (entryFrame m #[.ref a, .ref b, .int (Int32.ofNat o), .int (Int32.ofNat len), .null] 6)) (T15.setTop (mkF m 57 #[.val (.ref a), .val (.ref b), .val (.int (Int32.ofNat o)), .val (.int (Int32.ofNat len)), .val .null, .val (.ref s.heap.size)] [])) := c14.trans (st15 _ (Steps.refl _))
  have ap := apart (Or.inr ⟨_, (wk W (.laysFinal "java/lang/String" "java/lang/String" "value" "[B"))⟩) (Or.inr ⟨_, (wk W (.laysFinal "java/lang/String" "java/lang/String" "coder" "B"))⟩) f1 f2 (t₁ := .array .byte) (t₂ := .byte) (by decide +kernel) (by decide +kernel) (by decide)
  have al := X8.warmed.alike.symm.trans X15.warmed.alike
  have n7 : T11.heap[s.heap.size]? = some N := by rw [q11]; exact n1.1
  exact ⟨T15, none, _, _, _, X15, by simp, rfl, by omega, (fun _ => rfl), ⟨rfl, _, N, bl15, ((Same.refl D _).set _ (by simp)).set _ (by simp), sl15, (Cell.slots_setSlot_ne _ ap).trans sl13, n1.keep al (p15.other hne (p13.other hne n7)), n2, by rw [al.findClass]; exact n3, n4, n5, fun y c h1 h2 => p15.other h1 (p13.other h1 (by rw [q11]; exact n6 y c h2)), by rw [p15.2.2, p13.2.2, q11]; exact z8⟩, fun fs hl => c16.trans (X15.returnOut hexec hret (hb hbytes d57) hl)⟩
end New4
namespace New1
def yN : MethodName := ⟨"java/lang/String", "<init>", "([C)V"⟩
abbrev yB : ByteArray := jdk_42_method_3_code
theorem d0 : decode yB 0 = .ok (.aload_n 0, 1) := by decide +kernel
theorem d1 : decode yB 1 = .ok (.aload_n 1, 1) := by decide +kernel
theorem d2 : decode yB 2 = .ok (.iconst 0, 1) := by decide +kernel
theorem d3 : decode yB 3 = .ok (.aload_n 1, 1) := by decide +kernel
theorem d4 : decode yB 4 = .ok (.arraylength, 1) := by decide +kernel
theorem d5 : decode yB 5 = .ok (.aconst_null, 1) := by decide +kernel
theorem d6 : decode yB 6 = .ok (.invokespecial 27, 3) := by decide +kernel
theorem d9 : decode yB 9 = .ok (.return_, 1) := by decide +kernel
def site : List Cond := [New4.tab] ++ initW "java/lang/String" 27 New4.yN
def tab : Cond := tabOf yN yB 2 none site
def P (a : Addr) (D : Cell) (fV fC : Field) (b : Addr) (A : Cell) (z : Int32) (args : Array Value) (s : State) : Prop := args = #[.ref a, .ref b] ∧ Blank "java/lang/String" a D s ∧ Found "java/lang/String" "value" "[B" fV s ∧ Found "java/lang/String" "coder" "B" fC s ∧ Ch b A s ∧ StaticIs s "java/lang/String" "COMPACT_STRINGS" "Z" (.int z) ∧ ¬ z = 0 ∧ 0 < A.slots.size ∧ A.slots.size ≤ 536870912 ∧ ∀ i, i < A.slots.size → ¬ 255 < cv A i
def E (a : Addr) (D : Cell) (fV fC : Field) (A : Cell) (r : Option Value) (s u : State) : Prop := Got a D fV fC A 0 A.slots.size r s u
/-- new String(chars), not empty, no char above 255: a Latin-1 String of their low bytes -/
theorem law (l : Launch) (a : Addr) (D : Cell) (fV fC : Field) (b : Addr) (A : Cell) (z : Int32) : Law l yN 2 1 3 52 yB 2 none site (P a D fV fC b A z) (E a D fV fC A) [⟨a, fC.slot⟩, ⟨a, fV.slot⟩] 1 A.slots.size := by
  refine Law.of_walk (plainFor_of_name (by decide +kernel)) (by decide +kernel) (by decide +kernel) (by decide) (fun _ _ h => by rw [h.1]; rfl) (fun _ U U' hal hh h => ⟨h.1, h.2.1.mv hal hh, h.2.2.1.al hal, h.2.2.2.1.al hal, h.2.2.2.2.1.mv hal hh, h.2.2.2.2.2.1.there hal hh, h.2.2.2.2.2.2⟩) (fun r U U' V V' h1 hal h2 h => Got.mv r U U' V V' h1 hal h2 h) ?_
  intro p e s m args below meth c s₁ X0 hexec hbytes hml hret hlk hnm hown hh0 W hP
  obtain ⟨rfl, hB, f1, f2, hA, s1, hz, l0, l2, hp⟩ := hP
  have c1 : Steps p.tables e below (s₁.setTop (entryFrame m #[.ref a, .ref b] 2)) (s₁.setTop (mkF m 0 #[.val (.ref a), .val (.ref b)] [])) := entry rfl
  have c2 : Steps p.tables e below (s₁.setTop (entryFrame m #[.ref a, .ref b] 2)) (s₁.setTop (mkF m 6 #[.val (.ref a), .val (.ref b)] [.null, .int (Int32.ofNat A.slots.size), .int 0, .ref b, .ref a])) := c1.trans (by
    refine XS.aloadN X0.here hexec rfl (hb hbytes d0) rfl rfl ?_
    refine XS.aloadN X0.here hexec rfl (hb hbytes d1) rfl rfl ?_
    refine iconstV X0.here hexec rfl 0 (hb hbytes d2) (by decide) ?_
    refine XS.aloadN X0.here hexec rfl (hb hbytes d3) rfl rfl ?_
    refine X0.alen hexec (hA.1.mv X0.warmed.alike hh0) rfl rfl (hb hbytes d4) ?_
    refine XS.aconstNull X0.here hexec rfl (hb hbytes d5) ?_
    exact Steps.refl _)
  obtain ⟨v3, T3, X3, E3, g3⟩ := X0.callN hexec (New4.law l a D fV fC b A z 0 A.slots.size) rfl hown (wks W (initW "java/lang/String" 27 New4.yN)) (W New4.tab (by simp only [site, List.mem_cons, List.mem_append, true_or, or_true])) (W := 0) (Nat.le_of_ble_eq_true rfl) (Nat.le_of_ble_eq_true rfl) (Nat.le_refl _) (by show 0 + A.slots.size ≤ A.slots.size; omega) (g := (mkF m 6 #[.val (.ref a), .val (.ref b)] [.null, .int (Int32.ofNat A.slots.size), .int (Int32.ofNat 0), .ref b, .ref a])) rfl (by rw [hml]; rfl) c2 (argsL := [.ref b, .int (Int32.ofNat 0), .int (Int32.ofNat A.slots.size), .null]) (rest := []) rfl rfl (by show 2 * 0 + 0 ≤ _; decide) (hb hbytes d6) (⟨rfl, hB.mv X0.warmed.alike hh0, f1.al X0.warmed.alike, f2.al X0.warmed.alike, hA.mv X0.warmed.alike hh0, s1.there X0.warmed.alike hh0, hz, l0, by omega, l2, fun i hi => by rw [Nat.zero_add]; exact hp i hi⟩)
  have e0 := Got.mv _ s₁ s _ _ hh0.symm (Vm.Alike.refl _) rfl E3
  obtain rfl := e0.1
  have c4 : Steps p.tables e below (s₁.setTop (entryFrame m #[.ref a, .ref b] 2)) (T3.setTop (mkF m 9 #[.val (.ref a), .val (.ref b)] [])) := g3
  exact ⟨T3, none, _, _, _, X3, by simp, rfl, by omega, (fun _ => rfl), e0, fun fs hl => c4.trans (X3.returnOut hexec hret (hb hbytes d9) hl)⟩
theorem pays {l : Launch} {R : Room} {p : Program} {e : Env} {below : List Frame} {s : State} {sargs : Array Value} {len W : Nat} (a : Addr) (D : Cell) (fV fC : Field) (b : Addr) (A : Cell) (z : Int32) (htab : tab.before sargs s = true) (hfr : 4 ≤ R.frames) (hlo : W + 65 ≤ R.locals) :
    Back l R p e below s sargs yN len W (fun A₁ a₁ => A₁.cells + 1 ≤ R.cells ∧ A₁.slots + A.slots.size ≤ R.slots ∧ P a D fV fC b A z a₁ A₁.U) (fun A₁ _ v₁ B₁ => E a D fV fC A v₁ A₁.U B₁.U ∧ B₁.locs = A₁.locs ++ [⟨a, fC.slot⟩, ⟨a, fV.slot⟩] ∧ B₁.cells = A₁.cells + 1 ∧ B₁.slots = A₁.slots + A.slots.size) :=
  (law l a D fV fC b A z).pays htab hfr (by omega)
end New1
/-- the byte, read back as charAt reads it, is the char -/
theorem lo8_mask {x : Int32} (h0 : ¬ x < 0) (h1 : ¬ 255 < x) : lo8 x &&& 255 = x := by
  have t : ∀ k : Fin 256, lo8 (Int32.ofNat k.val) &&& 255 = Int32.ofNat k.val := by decide +kernel
  rw [Int32.lt_iff_toInt_lt] at h0 h1
  have e0 : (0 : Int32).toInt = 0 := rfl
  have e1 : (255 : Int32).toInt = 255 := rfl
  obtain ⟨k, hk⟩ : ∃ k : Nat, x.toInt = k := ⟨x.toInt.toNat, by omega⟩
  have hx : x = Int32.ofNat k := Int32.toInt_inj.mp (by rw [hk, Int32.toInt_ofNat_small (by omega)])
  rw [hx]
  exact t ⟨k, by omega⟩
end StrChars
namespace StrChars.Road
open Jvm Sem ClassFile Op Lib Jvm.Stand Jvm.Free Jvm.Free.XT
open Jvm.Lib.Cold (StaticIs)
abbrev ST : String := "java/lang/String"
/-- every table word that New1's law asks, flat -/
abbrev words : List Jvm.Cond := [.code New1.yN New1.yB 2 none, .initialized ST, .methodLink ST 27 New4.yN, .instanceMethod New4.yN,
  .code New4.yN New4.yB 6 none, .fieldLink ST 38 ST "COMPACT_STRINGS" "Z", .laysFinal ST ST "value" "[B", .fieldLink ST 9 ST "value" "[B", .laysFinal ST ST "coder" "B", .fieldLink ST 15 ST "coder" "B",
  .methodLink ST 1 Lib.objectInit, .instanceMethod Lib.objectInit, .code Lib.objectInit ⟨#[0xb1]⟩ 1 none, .methodLink ST 177 Cmp3.yN, .static Cmp3.yN, .methodLink ST 47 CodL.yN, .static CodL.yN,
  .code Cmp3.yN Cmp3.yB 6 (some (.array .byte)), .initialized U16, .arrayClass .byte, .methodLink U16 115 Cmp5.yN, .static Cmp5.yN, .code Cmp5.yN Cmp5.yB 7 (some .int), .code CodL.yN CodL.yB 2 (some .byte)]
theorem tab_of {a : Array Value} {s : State} (h : ∀ w ∈ words, w.before a s = true) : New1.tab.before a s = true := by
  have h5 : Cmp5.tab.before a s = true := unparts (wk h (.code Cmp5.yN Cmp5.yB 7 (some .int))) (wks h (.initialized Cmp5.yN.cls :: Cmp5.site))
  have hc : CodL.tab.before a s = true := unparts (wk h (.code CodL.yN CodL.yB 2 (some .byte))) (wks h (.initialized CodL.yN.cls :: CodL.site))
  have q5 : ∀ w ∈ Cmp5.tab :: words, w.before a s = true := fun w hw => (List.mem_cons.mp hw).elim (fun e => e ▸ h5) (h w)
  have h3 : Cmp3.tab.before a s = true := unparts (wk q5 (.code Cmp3.yN Cmp3.yB 6 (some (.array .byte)))) (wks q5 (.initialized Cmp3.yN.cls :: Cmp3.site))
  have q3 : ∀ w ∈ Cmp3.tab :: CodL.tab :: words, w.before a s = true := fun w hw => (List.mem_cons.mp hw).elim (fun e => e ▸ h3) fun hw => (List.mem_cons.mp hw).elim (fun e => e ▸ hc) (h w)
  have h4 : New4.tab.before a s = true := unparts (wk q3 (.code New4.yN New4.yB 6 none)) (wks q3 (.initialized New4.yN.cls :: New4.site))
  have q4 : ∀ w ∈ New4.tab :: words, w.before a s = true := fun w hw => (List.mem_cons.mp hw).elim (fun e => e ▸ h4) (h w)
  exact unparts (wk q4 (.code New1.yN New1.yB 2 none)) (wks q4 (.initialized New1.yN.cls :: New1.site))
/-- the words ride from the start Z to the walk's own state -/
theorem moved {Z s : State} {a0 args : Array Value} (hZ : Z.Warmed39 s.vm) (hw : ∀ d ∈ words, d.before a0 Z = true) : ∀ d ∈ words, d.before args s = true := fun d hd => by
  have q := hw d hd
  have t : ∀ d ∈ words, d = .arrayClass .byte ∨ (d.onTables && d.keepsFace) = true := by decide +kernel
  rcases t d hd with rfl | t
  · exact RoadKit.mvA hZ q
  · exact RoadKit.mv hZ q t
/-- WHAT COMES BACK, over the tables of the start Z: h the heap at the call, h' behind it -/
def Q (Z : State) (x : Addr) (A : Cell) (h : Heap) (v : Option Value) (h' : Heap) (L : List Loc) : Prop := v = none ∧ (∀ y ∈ L, y.base = x) ∧ RoadKit.Keep h h' [x] ∧ h'.size = h.size + 1 ∧ RoadKit.Exa Z h' x ST ∧ RoadKit.Fld Z h' x ST "value" "[B" (.ref h.size) ∧ RoadKit.Fld Z h' x ST "coder" "B" (.int 0) ∧
  (∃ V : Cell, RoadKit.Arr Z h' h.size V .byte ∧ V.vm = .none ∧ Z.vm.findClass "[B" = some V.cls ∧ V.slots.size = A.slots.size ∧ ∀ j, j < A.slots.size → V.slots[j]? = some (.int (lo8 (cv A j)))) ∧
  ∀ (O n d : String) (w : Value), RoadKit.Fld Z h x O n d w → RoadKit.slotOf Z O n d ≠ RoadKit.slotOf Z ST "value" "[B" → RoadKit.slotOf Z O n d ≠ RoadKit.slotOf Z ST "coder" "B" → RoadKit.Fld Z h' x O n d w
/-- **new String(chars) AT A CALL, IN THE ROAD'S FORM**: for specialBack behind newO: x the fresh String, b the char[] with the cell A -/
theorem back {p : Program} {l : Launch} {e : Env} {R : Room} {s : State} {args : Array Value} {below : List Frame} {len W : Nat} {Z : State} {a0 : Array Value} {h : Heap} (hZ : Z.Warmed39 s.vm) (hw : ∀ d ∈ words, d.before a0 Z = true) {kI : Nat} (wi : (Jvm.Cond.instantiable ST kI).before a0 Z = true)
    {x b : Addr} {A : Cell} {z : Int32} {v0 c0 : Value} (E : RoadKit.Exa Z h x ST) (V : RoadKit.Fld Z h x ST "value" "[B" v0) (C : RoadKit.Fld Z h x ST "coder" "B" c0) (K : RoadKit.Arr Z h b A .char) (hty : Typed .char A) (S : RoadKit.Sta Z h ST "COMPACT_STRINGS" "Z" (.int z)) (hz : ¬ z = 0)
    (l0 : 0 < A.slots.size) (l2 : A.slots.size ≤ 536870912) (hp : ∀ i, i < A.slots.size → ¬ 255 < cv A i) (hfr : 4 ≤ R.frames) (hlo : W + 65 ≤ R.locals) :
    Back l R p e below s args New1.yN len W (fun P a => a = #[.ref x, .ref b] ∧ P.U.heap = h ∧ P.cells + 1 ≤ R.cells ∧ P.slots + A.slots.size ≤ R.slots)
      (fun P _ v B => ∃ L, Q Z x A h v B.U.heap L ∧ B.locs = P.locs ++ L ∧ B.cells = P.cells + 1 ∧ B.slots = P.slots + A.slots.size) := by
  intro m meth c P g ig mk a X hg hsize hdg hW hn hp'
  obtain ⟨rfl, rfl, r1, r2⟩ := hp'
  have al : Z.vm.Alike P.U.vm := hZ.alike.trans X.warmed.alike
  obtain ⟨D, cfV, kV, iV, fV, hD, gV, stV, knV, obV, asV, slV⟩ := id V
  obtain ⟨D', cfC, kC, iC, fC, hD', gC, stC, -, -, asC, slC⟩ := id C
  cases hD.symm.trans hD'
  obtain ⟨D2, kD, e1, e2, e3, e4, e5⟩ := id E
  cases hD.symm.trans e1
  obtain ⟨c2, k2, i1, i2, i3, -⟩ := Cond.instantiable_spec wi
  cases e2.symm.trans i1
  cases e3.symm.trans i2
  obtain ⟨kU, u1, u2⟩ := al.2.2 _ _ e3
  have hB : Blank ST x D P.U := ⟨hD, ⟨knV, fun q hq => by rw [hq] at obV; cases obV⟩, by rw [al.findClass]; exact e2, kU, u1, by rw [u2]; exact i3, by rw [u2]; exact e5 i3⟩
  have F1 : Found ST "value" "[B" fV P.U := ⟨SBG.found_only al ⟨cfV, kV, iV, gV⟩, stV⟩
  have F2 : Found ST "coder" "B" fC P.U := ⟨SBG.found_only al ⟨cfC, kC, iC, gC⟩, stC⟩
  have hA : Ch b A P.U := ⟨⟨K.1, State.isArrayOf_alike al K.2.1, K.2.2, by omega⟩, hty⟩
  have hS : StaticIs P.U ST "COMPACT_STRINGS" "Z" (.int z) := by
    obtain ⟨cfS, iS, kS, fS, st, cS, t1, t2, t3, t4, t5, t6, t7⟩ := S
    exact StaticIs.there (s := { Z with heap := P.U.heap }) ⟨cfS, iS, kS, fS, st, cS, t1, t2, t3, t4, t5, (fun q => by rw [q] at t6; cases t6), t7⟩ al rfl
  obtain ⟨v, B, X', ⟨⟨hv, E', V', q1, q2, q3, q4, q5, q6, q7, q8, q9, q10, q11⟩, hl, hc, hs⟩, st⟩ := New1.pays x D fV fC b A z (tab_of (moved hZ hw)) hfr hlo m meth c P g ig mk _ X hg hsize hdg hW hn ⟨r1, r2, rfl, hB, F1, F2, hA, hS, hz, l0, l2, hp⟩
  have al' : Z.vm.Alike B.U.vm := hZ.alike.trans X'.warmed.alike
  have hsz : E'.slots.size = D.slots.size := by
    obtain ⟨-, -, -, kB, w1, w2, w3⟩ := q1
    obtain ⟨kB', y1, y2⟩ := al'.2.2 _ _ e3
    rw [q2.2.1] at w1
    cases w1.symm.trans y1
    rw [w3, e5 i3, y2]
  refine ⟨v, B, X', ⟨_, ⟨hv, ?_, ⟨by omega, fun y cy hy hn' => q10 y cy (by simpa using hn') hy, fun y cy hy => ?_⟩, q11, ⟨E', _, q1.1, by rw [q2.2.1]; exact e2, by rw [q2.2.1]; exact e3, by rw [q2.1]; exact obV, fun _ => by rw [hsz]; exact e5 i3⟩,
    ⟨E', cfV, kV, iV, fV, q1.1, gV, stV, by rw [q2.1]; exact knV, by rw [q2.1]; exact obV, by rw [q2.2.1]; exact asV, q3⟩, ⟨E', cfC, kC, iC, fC, q1.1, gC, stC, by rw [q2.1]; exact knV, by rw [q2.1]; exact obV, by rw [q2.2.1]; exact asC, q4⟩,
    ⟨V', ⟨q5.1, State.isArrayOf_alike al'.symm q5.2.1, q5.2.2.1⟩, q6, by rw [← al'.findClass]; exact q7, q8, fun j hj => by have := q9 j hj; rwa [Nat.zero_add] at this⟩, fun O n d w F n1 n2 => ?_⟩, hl, hc, hs⟩, st⟩
  · intro y hy
    simp only [List.mem_cons, List.not_mem_nil, or_false] at hy
    rcases hy with rfl | rfl <;> rfl
  · by_cases q : y = x
    · subst q
      cases hD.symm.trans hy
      exact ⟨E', q1.1, q2.2.1, q2.1, hsz⟩
    · exact ⟨cy, q10 y cy q hy, rfl, rfl, rfl⟩
  · obtain ⟨D3, cf, k, i, f, g1, g2, g3, g4, g5, g6, g7⟩ := F
    cases hD.symm.trans g1
    simp only [RoadKit.slotOf, g2, gV, gC, Option.map_some, Option.getD_some] at n1 n2
    exact ⟨E', cf, k, i, f, q1.1, g2, g3, by rw [q2.1]; exact g4, by rw [q2.1]; exact g5, by rw [q2.2.1]; exact g6, by rw [q2.2.2 f.slot (by simp [n1, n2])]; exact g7⟩
end StrChars.Road
namespace StrChars.Road
open Jvm Sem ClassFile Op Lib Jvm.Stand Jvm.Free Jvm.Free.XT
/-- WHAT COMES BACK, the byte[] as a list of values -/
def QA (Z : State) (x : Addr) (zn : Int32) (cs : List Int32) (h : Heap) (v : Option Value) (h' : Heap) (L : List Loc) : Prop := v = none ∧ (∀ y ∈ L, y.base = x) ∧ RoadKit.Keep h h' [x] ∧ h'.size = h.size + 1 ∧ RoadKit.Exa Z h' x ST ∧ RoadKit.Fld Z h' x ST "value" "[B" (.ref h.size) ∧ RoadKit.Fld Z h' x ST "coder" "B" (.int 0) ∧
  (∃ kb, Z.vm.findClass "[B" = some kb ∧ RoadKit.Arv Z h' h.size kb .byte zn (cs.map fun c => .int (lo8 c)) (.int 0)) ∧
  ∀ (O n d : String) (w : Value), RoadKit.Fld Z h x O n d w → RoadKit.slotOf Z O n d ≠ RoadKit.slotOf Z ST "value" "[B" → RoadKit.slotOf Z O n d ≠ RoadKit.slotOf Z ST "coder" "B" → RoadKit.Fld Z h' x O n d w
/-- **new String(chars) AT A CALL, THE ARRAYS AS LISTS**: the char[] at b holds cs, not empty, no char above 255 -/
theorem backArv {p : Program} {l : Launch} {e : Env} {R : Room} {s : State} {args : Array Value} {below : List Frame} {len W : Nat} {Z : State} {a0 : Array Value} {h : Heap} (hZ : Z.Warmed39 s.vm) (hw : ∀ d ∈ words, d.before a0 Z = true) {kI : Nat} (wi : (Jvm.Cond.instantiable ST kI).before a0 Z = true)
    {x b : Addr} {k : ClassId} {zn z : Int32} {cs : List Int32} {dv v0 c0 : Value} (E : RoadKit.Exa Z h x ST) (V : RoadKit.Fld Z h x ST "value" "[B" v0) (C : RoadKit.Fld Z h x ST "coder" "B" c0) (K : RoadKit.Arv Z h b k .char zn (cs.map Value.int) dv) (S : RoadKit.Sta Z h ST "COMPACT_STRINGS" "Z" (.int z)) (hz : ¬ z = 0)
    (hlen : zn.toNatClampNeg = cs.length) (h0 : 0 < cs.length) (hbig : cs.length ≤ 536870912) (hall : ∀ c ∈ cs, ¬ 255 < c) (hfr : 4 ≤ R.frames) (hlo : W + 65 ≤ R.locals) :
    Back l R p e below s args New1.yN len W (fun P a => a = #[.ref x, .ref b] ∧ P.U.heap = h ∧ P.cells + 1 ≤ R.cells ∧ P.slots + cs.length ≤ R.slots)
      (fun P _ v B => ∃ L, QA Z x zn cs h v B.U.heap L ∧ B.locs = P.locs ++ L ∧ B.cells = P.cells + 1 ∧ B.slots = P.slots + cs.length) := by
  obtain ⟨A, K1, K2, K3, K4, K5, K6⟩ := K
  have e : A.slots.size = cs.length := K3.trans hlen
  have hat : ∀ (i : Nat) (hi : i < cs.length), A.slots[i]? = some (.int cs[i]) := fun i hi => by rw [K5 i (by omega)]; simp [List.getD_eq_getElem?_getD, hi]
  have hcv : ∀ (i : Nat) (hi : i < cs.length), cv A i = cs[i] := fun i hi => by unfold cv; rw [hat i hi]
  have hty : Typed .char A := fun i v hv => by
    have hi : i < A.slots.size := (Array.getElem?_eq_some_iff.mp hv).1
    have q := K5 i hi
    rw [hv] at q
    rw [Option.some.inj q]
    exact K6 i hi
  refine Back.mono (back hZ hw wi E V C K1 hty S hz (by omega) (by omega) (fun i hi => by rw [hcv i (by omega)]; exact hall _ (List.getElem_mem _)) hfr hlo) (fun P a hp => ⟨hp.1, hp.2.1, hp.2.2.1, by rw [e]; exact hp.2.2.2⟩) (fun P a v B hp hq => ?_)
  obtain ⟨L, ⟨q1, q2, q3, q4, q5, q6, q7, ⟨V', v1, v2, v3, v4, v5⟩, q9⟩, hl, hc, hs⟩ := hq
  refine ⟨L, ⟨q1, q2, q3, q4, q5, q6, q7, ⟨V'.cls, v3, V', v1, rfl, by rw [v4, e, hlen], K4, fun i hi => ?_, fun i hi => ?_⟩, q9⟩, hl, hc, by rw [hs, e]⟩
  · have hi' : i < cs.length := by omega
    rw [v5 i (by omega), hcv i hi']; simp [List.getD_eq_getElem?_getD, hi']
  · have hi' : i < cs.length := by omega
    simp only [List.getD_eq_getElem?_getD, List.getElem?_map, List.getElem?_eq_getElem hi', Option.map_some, Option.getD_some]
    exact fits_lo8 _
end StrChars.Road
namespace StrChars.Road
open Jvm Sem ClassFile Op Lib Jvm.Stand Jvm.Free Jvm.Free.XT
/-- WHAT COMES BACK, in the writer's own shape -/
def QV (Z : State) (x : Addr) (N : Int32) (bs : List Int32) (h : Heap) (n0 : Nat) (v : Option Value) (h' : Heap) (L : List Loc) : Prop := v = none ∧ RoadKit.Fr n0 L ∧ RoadKit.Keep h h' [x] ∧ RoadKit.Exa Z h' x ST ∧ RoadKit.Fld Z h' x ST "coder" "B" (.int 0) ∧
  ∃ (t : Addr) (kb : ClassId), n0 ≤ t ∧ h.size ≤ t ∧ ¬ t = x ∧ RoadKit.Fld Z h' x ST "value" "[B" (.ref t) ∧ RoadKit.Arv Z h' t kb .byte N (bs.map Value.int) (.int 0)
/-- **new String(chars) AT A CALL, FOR THE WRITER**: a char[] of n known ints, each 0 to 255 -/
theorem backV {p : Program} {l : Launch} {e : Env} {R : Room} {s : State} {args : Array Value} {below : List Frame} {len W : Nat} {Z : State} {a0 : Array Value} {h : Heap} (hZ : Z.Warmed39 s.vm) (hw : ∀ d ∈ words, d.before a0 Z = true) {kI : Nat} (wi : (Jvm.Cond.instantiable ST kI).before a0 Z = true)
    {x b : Addr} {kC : ClassId} {cs bs : List Int32} {d v0 c0 : Value} {z N : Int32} {n n0 : Nat} (hx0 : n0 ≤ x) (hh0 : n0 ≤ h.size) (E : RoadKit.Exa Z h x ST) (V : RoadKit.Fld Z h x ST "value" "[B" v0) (C : RoadKit.Fld Z h x ST "coder" "B" c0) (K : RoadKit.Arv Z h b kC .char N (cs.map Value.int) d) (S : RoadKit.Sta Z h ST "COMPACT_STRINGS" "Z" (.int z)) (hz : ¬ z = 0)
    (hn : cs.length = n) (hN : N = Int32.ofNat n) (l0 : 0 < n) (l2 : n ≤ 4000) (hp : ∀ c ∈ cs, ¬ c < 0 ∧ ¬ (255 : Int32) < c) (hb : bs = cs.map (fun c => c.toInt8.toInt32)) (hfr : 4 ≤ R.frames) (hlo : W + 65 ≤ R.locals) :
    Back l R p e below s args (⟨"java/lang/String", "<init>", "([C)V"⟩ : MethodName) len W (fun P a => a = #[.ref x, .ref b] ∧ P.U.heap = h ∧ P.cells + 1 ≤ R.cells ∧ P.slots + n ≤ R.slots)
      (fun P _ v B => ∃ L, QV Z x N bs h n0 v B.U.heap L ∧ B.locs = P.locs ++ L ∧ B.cells = P.cells + 1 ∧ B.slots = P.slots + n) := by
  subst hn hN hb
  refine Back.mono (backArv hZ hw wi E V C K S hz (n32 (by omega)) l0 (by omega) (fun c hc => (hp c hc).2) hfr hlo) (fun P a hp => hp) (fun P a v B hp hq => ?_)
  obtain ⟨L, ⟨q1, q2, q3, q4, q5, q6, q7, ⟨kb, v1, v2⟩, q9⟩, hl, hc, hs⟩ := hq
  exact ⟨L, ⟨q1, fun y hy => by rw [q2 y hy]; exact hx0, q3, q5, q7, h.size, kb, hh0, Nat.le_refl _, Nat.ne_of_gt E.lt, q6, by rw [List.map_map]; exact v2⟩, hl, hc, hs⟩
end StrChars.Road
namespace StrChars
open Jvm Sem ClassFile Op Lib Jvm.Stand Jvm.Free.XT Jvm.Free.ALB Jvm.Free.JM Jvm.Free
open Jvm.Lib.Cold (StaticIs)
def hi8 (x : Int32) : Int32 := lo8 (x >>> ((8 : Int32) &&& 31))
/-- what StringUTF16.getChar makes of two bytes -/
def pairCh (u v : Int32) : Int32 := (((u &&& 255) <<< ((0 : Int32) &&& 31)) ||| ((v &&& 255) <<< ((8 : Int32) &&& 31))).toUInt32.toUInt16.toUInt32.toInt32
theorem shr0 (c : Int32) : c >>> ((0 : Int32) &&& 31) = c := by
  have e : ((0 : Int32) &&& 31) = 0 := by decide
  rw [e]
  apply Int32.toBitVec_inj.mp
  rw [Int32.toBitVec_shiftRight]
  have e1 : ((0 : Int32).toBitVec.smod 32) = 0#32 := by decide
  rw [e1, BitVec.sshiftRight_eq']
  exact BitVec.sshiftRight_zero
theorem lo8_and (x : Int32) : (lo8 x &&& 255).toBitVec.toNat = x.toBitVec.toNat % 256 := by
  have h : (lo8 x).toBitVec = (x.toBitVec.signExtend 8).signExtend 32 := by rw [lo8, Int8.toBitVec_toInt32, Int32.toBitVec_toInt8]
  rw [Int32.toBitVec_and, BitVec.toNat_and, h]
  have e : ((x.toBitVec.signExtend 8).signExtend 32).toNat % 256 = x.toBitVec.toNat % 256 := by
    rw [BitVec.toNat_signExtend]
    have hlt := x.toBitVec.isLt
    simp only [BitVec.toNat_setWidth, BitVec.toNat_signExtend]
    split <;> split <;> omega
  rw [← e]
  exact Nat.and_two_pow_sub_one_eq_mod _ 8
theorem pair_says {c : Int32} (h0 : ¬ c < 0) (h1 : ¬ 65535 < c) : pairCh (lo8 c) (hi8 c) = c := by
  rw [Int32.lt_iff_toInt_lt] at h0 h1
  have e0 : (0 : Int32).toInt = 0 := rfl
  have e1 : (65535 : Int32).toInt = 65535 := rfl
  have hc : c.toInt = c.toBitVec.toNat := by
    have := c.toBitVec.isLt
    have e : c.toInt = c.toBitVec.toInt := rfl
    rw [e] at h0 h1
    rw [e]
    rw [BitVec.toInt_eq_toNat_cond] at h0 h1 ⊢
    split at h0 <;> split <;> omega
  have hn : c.toBitVec.toNat < 65536 := by omega
  have a1 := lo8_and c
  have a2 : (hi8 c &&& 255).toBitVec.toNat = c.toBitVec.toNat / 256 := by
    rw [hi8, lo8_and]
    have e : ((8 : Int32) &&& 31) = 8 := by decide
    rw [e, Int32.toBitVec_shiftRight]
    have e2 : ((8 : Int32).toBitVec.smod 32) = 8#32 := by decide
    rw [e2, BitVec.sshiftRight_eq', BitVec.toNat_sshiftRight_of_msb_false (by rw [BitVec.msb_eq_false_iff_two_mul_lt]; omega)]
    show c.toBitVec.toNat >>> 8 % 256 = _
    rw [Nat.shiftRight_eq_div_pow]
    omega
  unfold pairCh
  apply Int32.toBitVec_inj.mp
  apply BitVec.eq_of_toNat_eq
  have f0 : ((0 : Int32) &&& 31) = 0 := by decide
  have f8 : ((8 : Int32) &&& 31) = 8 := by decide
  rw [f0, f8]
  have g : (((lo8 c &&& 255) <<< (0 : Int32)) ||| ((hi8 c &&& 255) <<< (8 : Int32))).toBitVec.toNat = c.toBitVec.toNat := by
    rw [Int32.toBitVec_or, Int32.toBitVec_shiftLeft, Int32.toBitVec_shiftLeft]
    have s0 : ((0 : Int32).toBitVec.smod 32) = 0#32 := by decide
    have s8 : ((8 : Int32).toBitVec.smod 32) = 8#32 := by decide
    rw [s0, s8, BitVec.toNat_or]
    simp only [BitVec.shiftLeft_eq', BitVec.toNat_shiftLeft, a1, a2]
    show (c.toBitVec.toNat % 256) <<< 0 % 2 ^ 32 ||| (c.toBitVec.toNat / 256) <<< 8 % 2 ^ 32 = _
    rw [Nat.shiftLeft_zero, Nat.mod_eq_of_lt (show c.toBitVec.toNat % 256 < 2 ^ 32 by omega), Nat.mod_eq_of_lt (show (c.toBitVec.toNat / 256) <<< 8 < 2 ^ 32 by rw [Nat.shiftLeft_eq]; omega), Nat.or_comm, ← Nat.shiftLeft_add_eq_or_of_lt (by omega), Nat.shiftLeft_eq]
    omega
  show BitVec.toNat (((((lo8 c &&& 255) <<< (0 : Int32)) ||| ((hi8 c &&& 255) <<< (8 : Int32))).toBitVec.setWidth 16).setWidth 32) = _
  rw [BitVec.toNat_setWidth, BitVec.toNat_setWidth, g]
  omega
end StrChars
namespace StrChars
open Jvm Sem ClassFile Op Lib Jvm.Stand Jvm.Free.XT Jvm.Free.ALB Jvm.Free.JM Jvm.Free
open Jvm.Lib.Cold (StaticIs)
theorem shr1 {n : Nat} (h : 2 * n < 2 ^ 31) : Int32.ofNat (2 * n) >>> ((1 : Int32) &&& 31) = Int32.ofNat n := by
  have e : ((1 : Int32) &&& 31) = 1 := by decide
  rw [e]
  apply Int32.toBitVec_inj.mp
  rw [Int32.toBitVec_shiftRight]
  have e1 : ((1 : Int32).toBitVec.smod 32) = 1#32 := by decide
  have hm : (BitVec.ofNat 32 (2 * n)).toNat = 2 * n := by rw [BitVec.toNat_ofNat, Nat.mod_eq_of_lt (by omega)]
  rw [e1, BitVec.sshiftRight_eq']
  apply BitVec.eq_of_toNat_eq
  show ((BitVec.ofNat 32 (2 * n)).sshiftRight 1).toNat = (BitVec.ofNat 32 n).toNat
  rw [BitVec.toNat_sshiftRight_of_msb_false (by rw [BitVec.msb_eq_false_iff_two_mul_lt, hm]; omega), hm, BitVec.toNat_ofNat, Nat.shiftRight_eq_div_pow]
  omega
/-- charAt's cast of a byte read back -/
def chr8 (u : Int32) : Int32 := (u &&& 255).toUInt32.toUInt16.toUInt32.toInt32
theorem chr8_lo8 {c : Int32} (h0 : ¬ c < 0) (h1 : ¬ 255 < c) : chr8 (lo8 c) = c := by
  have t : ∀ k : Fin 256, (Int32.ofNat k.val).toUInt32.toUInt16.toUInt32.toInt32 = Int32.ofNat k.val := by decide +kernel
  unfold chr8
  rw [lo8_mask h0 h1]
  rw [Int32.lt_iff_toInt_lt] at h0 h1
  have e0 : (0 : Int32).toInt = 0 := rfl
  have e1 : (255 : Int32).toInt = 255 := rfl
  obtain ⟨k, hk⟩ : ∃ k : Nat, c.toInt = k := ⟨c.toInt.toNat, by omega⟩
  have hx : c = Int32.ofNat k := Int32.toInt_inj.mp (by rw [hk, Int32.toInt_ofNat_small (by omega)])
  rw [hx]
  exact t ⟨k, by omega⟩
theorem narrow_ch {c : Int32} (h0 : ¬ c < 0) (h1 : ¬ 65535 < c) : narrow .char (.int c) = .int c := by
  have q : narrow .char (.int (pairCh (lo8 c) (hi8 c))) = .int (pairCh (lo8 c) (hi8 c)) := narrow_c _
  rwa [pair_says h0 h1] at q
/-- the array's cell V codes the n chars f 0 .. f (n - 1) by the coder cd, as the JDK does: coder 1 just where some char is above 255 -/
def Cod (cd : Int32) (n : Nat) (f : Nat → Int32) (V : Cell) : Prop := (cd = 0 ∧ V.slots.size = n ∧ ∀ j, j < n → V.slots[j]? = some (.int (lo8 (f j))) ∧ ¬ 255 < f j) ∨ (cd = 1 ∧ V.slots.size = 2 * n ∧ (∀ j, j < n → V.slots[2 * j]? = some (.int (lo8 (f j))) ∧ V.slots[2 * j + 1]? = some (.int (hi8 (f j)))) ∧ ∃ j, j < n ∧ 255 < f j)
theorem Cod.cd {cd : Int32} {n : Nat} {f : Nat → Int32} {V : Cell} (h : Cod cd n f V) : cd = 0 ∨ cd = 1 := h.imp (fun q => q.1) fun q => q.1
theorem Cod.len {cd : Int32} {n : Nat} {f : Nat → Int32} {V : Cell} (h : Cod cd n f V) (hs : V.slots.size < 2 ^ 31) : Int32.ofNat V.slots.size >>> (cd &&& 31) = Int32.ofNat n := by
  rcases h with ⟨rfl, h, -⟩ | ⟨rfl, h, -⟩
  · rw [shr0, h]
  · rw [h, shr1 (by omega)]
/-- **x is a String of the n chars f 0 .. f (n - 1)**, Latin-1 or UTF-16; its array at t has the cell V -/
def Txt (x t : Addr) (V : Cell) (cd : Int32) (n : Nat) (f : Nat → Int32) (U : State) : Prop := Exact "java/lang/String" x U ∧ Has x "java/lang/String" "value" "[B" (.ref t) U ∧ Has x "java/lang/String" "coder" "B" (.int cd) U ∧ XT.Arr .byte t V U ∧ Cod cd n f V ∧ ∀ j, j < n → ¬ f j < 0 ∧ ¬ 65535 < f j
theorem Txt.mv {x t : Addr} {V : Cell} {cd : Int32} {n : Nat} {f : Nat → Int32} {U U' : State} (h : Txt x t V cd n f U) (hal : U.vm.Alike U'.vm) (hh : U'.heap = U.heap) : Txt x t V cd n f U' := ⟨h.1.mv hal hh, h.2.1.mv hal hh, h.2.2.1.mv hal hh, h.2.2.2.1.mv hal hh, h.2.2.2.2⟩
namespace Cdr
def yN : MethodName := ⟨"java/lang/String", "coder", "()B"⟩
abbrev yB : ByteArray := jdk_42_method_152_code
theorem d0 : decode yB 0 = .ok (.getstatic 38, 3) := by decide +kernel
theorem d3 : decode yB 3 = .ok (.ifCond (.eq) 10, 3) := by decide +kernel
theorem d6 : decode yB 6 = .ok (.aload_n 0, 1) := by decide +kernel
theorem d7 : decode yB 7 = .ok (.getfield 15, 3) := by decide +kernel
theorem d10 : decode yB 10 = .ok (.goto 4, 3) := by decide +kernel
theorem d14 : decode yB 14 = .ok (.ireturn, 1) := by decide +kernel
def site : List Cond := [.fieldLink "java/lang/String" 38 "java/lang/String" "COMPACT_STRINGS" "Z", .fieldLink "java/lang/String" 15 "java/lang/String" "coder" "B"]
def tab : Cond := tabOf yN yB 1 (some .byte) site
def P (x : Addr) (cd z : Int32) (args : Array Value) (s : State) : Prop := args = #[.ref x] ∧ Has x "java/lang/String" "coder" "B" (.int cd) s ∧ (cd = 0 ∨ cd = 1) ∧ StaticIs s "java/lang/String" "COMPACT_STRINGS" "Z" (.int z) ∧ ¬ z = 0
def E (cd : Int32) (r : Option Value) (s u : State) : Prop := XT.PureE (some (.int cd)) r s u
theorem law (l : Launch) (x : Addr) (cd z : Int32) : Law l yN 1 0 0 0 yB 1 (some .byte) site (P x cd z) (E cd) [] 0 0 := by
  refine Law.of_walk (plainFor_of_name (by decide +kernel)) (by decide +kernel) (by decide +kernel) (by decide) (fun _ _ h => by rw [h.1]; rfl) (fun _ U U' hal hh h => ⟨h.1, h.2.1.mv hal hh, h.2.2.1, h.2.2.2.1.there hal hh, h.2.2.2.2⟩) (fun r U U' V V' h1 hal h2 h => XT.PureE.mv r U U' V V' h1 hal h2 h) ?_
  intro p e s m args below meth c s₁ X0 hexec hbytes hml hret hlk hnm hown hh0 W hP
  obtain ⟨rfl, hx, hc, s1, hz⟩ := hP
  have c1 : Steps p.tables e below (s₁.setTop (entryFrame m #[.ref x] 1)) (s₁.setTop (mkF m 0 #[.val (.ref x)] [])) := entry rfl
  obtain ⟨T2, X2, q2, st2⟩ := X0.sget hexec hown (wk W (.fieldLink "java/lang/String" 38 "java/lang/String" "COMPACT_STRINGS" "Z")) s1 (fun _ _ h => by rw [hh0]; exact h) (g := (mkF m 0 #[.val (.ref x)] [])) rfl (hb hbytes d0)
  have hh2 := q2.trans hh0
  have c3 : Steps p.tables e below (s₁.setTop (entryFrame m #[.ref x] 1)) (T2.setTop (mkF m 7 #[.val (.ref x)] [.ref x])) := (c1.trans (st2 _ (Steps.refl _))).trans (by
    refine XS.ifNo X2.here hexec rfl (hb hbytes d3) rfl (i0_eq_f hz) ?_
    refine XS.aloadN X2.here hexec rfl (hb hbytes d6) rfl rfl ?_
    exact Steps.refl _)
  obtain ⟨T4, X4, q4, st4⟩ := X2.hget hexec hown (wk W (.fieldLink "java/lang/String" 15 "java/lang/String" "coder" "B")) (hx.mv X2.warmed.alike hh2) (g := (mkF m 7 #[.val (.ref x)] [.ref x])) rfl (rest := []) rfl (hb hbytes d7)
  have c5 : Steps p.tables e below (s₁.setTop (entryFrame m #[.ref x] 1)) (T4.setTop (mkF m 14 #[.val (.ref x)] [.int cd])) := (c3.trans (st4 _ (Steps.refl _))).trans (by
    refine XS.goto X4.here hexec rfl (pc0 := 10) rfl (hb hbytes d10) (by decide) rfl ?_
    exact Steps.refl _)
  exact ⟨T4, some (.int cd), _, _, _, X4, rfl, rfl, rfl, (fun h => by cases h), ⟨rfl, q4.trans hh2⟩, fun fs hl => c5.trans (X4.ireturnOut hexec hret (by rcases hc with rfl | rfl <;> rfl) (Or.inr (Or.inr (Or.inl rfl))) (hb hbytes d14) hl)⟩
end Cdr
namespace Len
def yN : MethodName := ⟨"java/lang/String", "length", "()I"⟩
abbrev yB : ByteArray := jdk_42_method_54_code
theorem d0 : decode yB 0 = .ok (.aload_n 0, 1) := by decide +kernel
theorem d1 : decode yB 1 = .ok (.getfield 9, 3) := by decide +kernel
theorem d4 : decode yB 4 = .ok (.arraylength, 1) := by decide +kernel
theorem d5 : decode yB 5 = .ok (.aload_n 0, 1) := by decide +kernel
theorem d6 : decode yB 6 = .ok (.invokevirtual 335, 3) := by decide +kernel
theorem d9 : decode yB 9 = .ok (.ishr, 1) := by decide +kernel
theorem d10 : decode yB 10 = .ok (.ireturn, 1) := by decide +kernel
def site : List Cond := [.fieldLink "java/lang/String" 9 "java/lang/String" "value" "[B", Cdr.tab] ++ virtW "java/lang/String" 335 "java/lang/String" Cdr.yN Cdr.yN
def tab : Cond := tabOf yN yB 1 (some .int) site
def P (x t : Addr) (V : Cell) (cd : Int32) (n : Nat) (f : Nat → Int32) (z : Int32) (args : Array Value) (s : State) : Prop := args = #[.ref x] ∧ Txt x t V cd n f s ∧ StaticIs s "java/lang/String" "COMPACT_STRINGS" "Z" (.int z) ∧ ¬ z = 0
def E (n : Nat) (r : Option Value) (s u : State) : Prop := XT.PureE (some (.int (Int32.ofNat n))) r s u
/-- length() of a String of n chars, in either coding -/
theorem law (l : Launch) (x t : Addr) (V : Cell) (cd : Int32) (n : Nat) (f : Nat → Int32) (z : Int32) : Law l yN 1 0 1 13 yB 1 (some .int) site (P x t V cd n f z) (E n) [] 0 0 := by
  refine Law.of_walk (plainFor_of_name (by decide +kernel)) (by decide +kernel) (by decide +kernel) (by decide) (fun _ _ h => by rw [h.1]; rfl) (fun _ U U' hal hh h => ⟨h.1, h.2.1.mv hal hh, h.2.2.1.there hal hh, h.2.2.2⟩) (fun r U U' V V' h1 hal h2 h => XT.PureE.mv r U U' V V' h1 hal h2 h) ?_
  intro p e s m args below meth c s₁ X0 hexec hbytes hml hret hlk hnm hown hh0 W hP
  obtain ⟨rfl, hx, s1, hz⟩ := hP
  have v31 := hx.2.2.2.1.2.2.2
  have c1 : Steps p.tables e below (s₁.setTop (entryFrame m #[.ref x] 1)) (s₁.setTop (mkF m 1 #[.val (.ref x)] [.ref x])) := Steps.trans (entry rfl) (by
    show Steps p.tables e below (s₁.setTop (mkF m 0 #[.val (.ref x)] [])) _
    refine XS.aloadN X0.here hexec rfl (hb hbytes d0) rfl rfl ?_
    exact Steps.refl _)
  obtain ⟨T2, X2, q2, st2⟩ := X0.hget hexec hown (wk W (.fieldLink "java/lang/String" 9 "java/lang/String" "value" "[B")) (hx.mv X0.warmed.alike hh0).2.1 (g := (mkF m 1 #[.val (.ref x)] [.ref x])) rfl (rest := []) rfl (hb hbytes d1)
  have hh2 := q2.trans hh0
  have hx2 := hx.mv X2.warmed.alike hh2
  have c3 : Steps p.tables e below (s₁.setTop (entryFrame m #[.ref x] 1)) (T2.setTop (mkF m 6 #[.val (.ref x)] [.ref x, .int (Int32.ofNat V.slots.size)])) := (c1.trans (st2 _ (Steps.refl _))).trans (by
    refine X2.alen hexec hx2.2.2.2.1 rfl rfl (hb hbytes d4) ?_
    refine XS.aloadN X2.here hexec rfl (hb hbytes d5) rfl rfl ?_
    exact Steps.refl _)
  obtain ⟨v4, T4, X4, E4, g4⟩ := X2.callV hexec (Cdr.law l x cd z) hown (wks W (virtW "java/lang/String" 335 "java/lang/String" Cdr.yN Cdr.yN)) rfl (by decide) (wk W Cdr.tab) (W := 1) (Nat.le_of_ble_eq_true rfl) (Nat.le_of_ble_eq_true rfl) (Nat.le_refl _) (Nat.le_refl _) (hx2.1.fc X2.warmed.alike) hx2.1.is (g := (mkF m 6 #[.val (.ref x)] [.ref x, .int (Int32.ofNat V.slots.size)])) rfl (by rw [hml]; rfl) c3 (argsL := []) (rest := [.int (Int32.ofNat V.slots.size)]) rfl rfl (by show 2 * 0 + (1 + 0) ≤ _; decide) (hb hbytes d6) (⟨rfl, hx2.2.2.1, hx.2.2.2.2.1.cd, s1.there X2.warmed.alike hh2, hz⟩)
  obtain ⟨rfl, q4⟩ := E4
  have c5 : Steps p.tables e below (s₁.setTop (entryFrame m #[.ref x] 1)) (T4.setTop (mkF m 10 #[.val (.ref x)] [.int (Int32.ofNat V.slots.size >>> (cd &&& 31))])) := Steps.trans g4 (by
    refine ishr X4.here hexec rfl (hb hbytes d9) rfl ?_
    exact Steps.refl _)
  rw [hx.2.2.2.2.1.len v31] at c5
  exact ⟨T4, some (.int (Int32.ofNat n)), _, _, _, X4, rfl, rfl, rfl, (fun h => by cases h), ⟨rfl, q4.trans hh2⟩, fun fs hl => c5.trans (X4.ireturnOut hexec hret rfl (Or.inl rfl) (hb hbytes d10) hl)⟩
theorem pays {l : Launch} {R : Room} {p : Program} {e : Env} {below : List Frame} {s : State} {sargs : Array Value} {len W : Nat} (x t : Addr) (V : Cell) (cd : Int32) (n : Nat) (f : Nat → Int32) (z : Int32) (htab : tab.before sargs s = true) (hfr : 2 ≤ R.frames) (hlo : W + 25 ≤ R.locals) :
    Back l R p e below s sargs yN len W (fun A₁ a₁ => A₁.cells + 0 ≤ R.cells ∧ A₁.slots + 0 ≤ R.slots ∧ P x t V cd n f z a₁ A₁.U) (fun A₁ _ v₁ B₁ => E n v₁ A₁.U B₁.U ∧ B₁.locs = A₁.locs ++ [] ∧ B₁.cells = A₁.cells + 0 ∧ B₁.slots = A₁.slots + 0) :=
  (law l x t V cd n f z).pays htab hfr (by omega)
end Len
namespace IsL
def yN : MethodName := ⟨"java/lang/String", "isLatin1", "()Z"⟩
abbrev yB : ByteArray := jdk_42_method_154_code
theorem d0 : decode yB 0 = .ok (.getstatic 38, 3) := by decide +kernel
theorem d3 : decode yB 3 = .ok (.ifCond (.eq) 14, 3) := by decide +kernel
theorem d6 : decode yB 6 = .ok (.aload_n 0, 1) := by decide +kernel
theorem d7 : decode yB 7 = .ok (.getfield 15, 3) := by decide +kernel
theorem d10 : decode yB 10 = .ok (.ifCond (.ne) 7, 3) := by decide +kernel
theorem d13 : decode yB 13 = .ok (.iconst 1, 1) := by decide +kernel
theorem d14 : decode yB 14 = .ok (.goto 4, 3) := by decide +kernel
theorem d17 : decode yB 17 = .ok (.iconst 0, 1) := by decide +kernel
theorem d18 : decode yB 18 = .ok (.ireturn, 1) := by decide +kernel
def site : List Cond := [.fieldLink "java/lang/String" 38 "java/lang/String" "COMPACT_STRINGS" "Z", .fieldLink "java/lang/String" 15 "java/lang/String" "coder" "B"]
def tab : Cond := tabOf yN yB 1 (some .boolean) site
def P (x : Addr) (cd z : Int32) (args : Array Value) (s : State) : Prop := args = #[.ref x] ∧ Has x "java/lang/String" "coder" "B" (.int cd) s ∧ (cd = 0 ∨ cd = 1) ∧ StaticIs s "java/lang/String" "COMPACT_STRINGS" "Z" (.int z) ∧ ¬ z = 0
def E (cd : Int32) (r : Option Value) (s u : State) : Prop := XT.PureE (some (.int (1 - cd))) r s u
theorem law (l : Launch) (x : Addr) (cd z : Int32) : Law l yN 1 0 0 0 yB 1 (some .boolean) site (P x cd z) (E cd) [] 0 0 := by
  refine Law.of_walk (plainFor_of_name (by decide +kernel)) (by decide +kernel) (by decide +kernel) (by decide) (fun _ _ h => by rw [h.1]; rfl) (fun _ U U' hal hh h => ⟨h.1, h.2.1.mv hal hh, h.2.2.1, h.2.2.2.1.there hal hh, h.2.2.2.2⟩) (fun r U U' V V' h1 hal h2 h => XT.PureE.mv r U U' V V' h1 hal h2 h) ?_
  intro p e s m args below meth c s₁ X0 hexec hbytes hml hret hlk hnm hown hh0 W hP
  obtain ⟨rfl, hx, hc, s1, hz⟩ := hP
  have c1 : Steps p.tables e below (s₁.setTop (entryFrame m #[.ref x] 1)) (s₁.setTop (mkF m 0 #[.val (.ref x)] [])) := entry rfl
  obtain ⟨T2, X2, q2, st2⟩ := X0.sget hexec hown (wk W (.fieldLink "java/lang/String" 38 "java/lang/String" "COMPACT_STRINGS" "Z")) s1 (fun _ _ h => by rw [hh0]; exact h) (g := (mkF m 0 #[.val (.ref x)] [])) rfl (hb hbytes d0)
  have hh2 := q2.trans hh0
  have c3 : Steps p.tables e below (s₁.setTop (entryFrame m #[.ref x] 1)) (T2.setTop (mkF m 7 #[.val (.ref x)] [.ref x])) := (c1.trans (st2 _ (Steps.refl _))).trans (by
    refine XS.ifNo X2.here hexec rfl (hb hbytes d3) rfl (i0_eq_f hz) ?_
    refine XS.aloadN X2.here hexec rfl (hb hbytes d6) rfl rfl ?_
    exact Steps.refl _)
  obtain ⟨T4, X4, q4, st4⟩ := X2.hget hexec hown (wk W (.fieldLink "java/lang/String" 15 "java/lang/String" "coder" "B")) (hx.mv X2.warmed.alike hh2) (g := (mkF m 7 #[.val (.ref x)] [.ref x])) rfl (rest := []) rfl (hb hbytes d7)
  have c5 : Steps p.tables e below (s₁.setTop (entryFrame m #[.ref x] 1)) (T4.setTop (mkF m 10 #[.val (.ref x)] [.int cd])) := c3.trans (st4 _ (Steps.refl _))
  have c6 : Steps p.tables e below (s₁.setTop (entryFrame m #[.ref x] 1)) (T4.setTop (mkF m 18 #[.val (.ref x)] [.int (1 - cd)])) := by
    rcases hc with rfl | rfl
    · exact c5.trans (by
        refine XS.ifNo X4.here hexec rfl (hb hbytes d10) rfl (i0_ne_f rfl) ?_
        refine iconstV X4.here hexec rfl 1 (hb hbytes d13) (by decide) ?_
        refine XS.goto X4.here hexec rfl (pc0 := 14) rfl (hb hbytes d14) (by decide) rfl ?_
        exact Steps.refl _)
    · exact c5.trans (by
        refine XS.ifYes X4.here hexec rfl (pc0 := 10) rfl (hb hbytes d10) rfl (i0_ne_t (by decide)) (by decide) rfl ?_
        refine iconstV X4.here hexec rfl 0 (hb hbytes d17) (by decide) ?_
        exact Steps.refl _)
  exact ⟨T4, some (.int (1 - cd)), _, _, _, X4, rfl, rfl, rfl, (fun h => by cases h), ⟨rfl, q4.trans hh2⟩, fun fs hl => c6.trans (X4.ireturnOut hexec hret (by rcases hc with rfl | rfl <;> rfl) (Or.inr (Or.inl rfl)) (hb hbytes d18) hl)⟩
end IsL
namespace LChA
def yN : MethodName := ⟨"java/lang/StringLatin1", "charAt", "([BI)C"⟩
abbrev yB : ByteArray := jdk_43_method_2_code
theorem d0 : decode yB 0 = .ok (.iload_n 1, 1) := by decide +kernel
theorem d1 : decode yB 1 = .ok (.aload_n 0, 1) := by decide +kernel
theorem d2 : decode yB 2 = .ok (.arraylength, 1) := by decide +kernel
theorem d3 : decode yB 3 = .ok (.invokestatic 9, 3) := by decide +kernel
theorem d6 : decode yB 6 = .ok (.aload_n 0, 1) := by decide +kernel
theorem d7 : decode yB 7 = .ok (.iload_n 1, 1) := by decide +kernel
theorem d8 : decode yB 8 = .ok (.baload, 1) := by decide +kernel
theorem d9 : decode yB 9 = .ok (.sipush 255, 3) := by decide +kernel
theorem d12 : decode yB 12 = .ok (.iand, 1) := by decide +kernel
theorem d13 : decode yB 13 = .ok (.i2c, 1) := by decide +kernel
theorem d14 : decode yB 14 = .ok (.ireturn, 1) := by decide +kernel
def site : List Cond := [JO.Str_checkIndex.tab] ++ staticW "java/lang/StringLatin1" 9 JO.Str_checkIndex.yN
def tab : Cond := tabOf yN yB 2 (some .char) site
def P (t : Addr) (V : Cell) (i : Nat) (u : Int32) (fm : Value) (args : Array Value) (s : State) : Prop := args = #[.ref t, .int (Int32.ofNat i)] ∧ XT.Arr .byte t V s ∧ V.slots[i]? = some (.int u) ∧ (StaticIs s "jdk/internal/util/Preconditions" "SIOOBE_FORMATTER" "Ljava/util/function/BiFunction;" fm ∧ fm.isRef = true)
def E (u : Int32) (r : Option Value) (s w : State) : Prop := XT.PureE (some (.int (chr8 u))) r s w
theorem law (l : Launch) (t : Addr) (V : Cell) (i : Nat) (u : Int32) (fm : Value) : Law l yN 2 2 2 27 yB 2 (some .char) site (P t V i u fm) (E u) [] 0 0 := by
  refine Law.of_walk (plainFor_of_name (by decide +kernel)) (by decide +kernel) (by decide +kernel) (by decide) (fun _ _ h => by rw [h.1]; rfl) (fun _ U U' hal hh h => ⟨h.1, h.2.1.mv hal hh, h.2.2.1, h.2.2.2.1.there hal hh, h.2.2.2.2⟩) (fun r U U' V V' h1 hal h2 h => XT.PureE.mv r U U' V V' h1 hal h2 h) ?_
  intro p e s m args below meth c s₁ X0 hexec hbytes hml hret hlk hnm hown hh0 W hP
  obtain ⟨rfl, hV, hu, s1, rf⟩ := hP
  have v31 := hV.2.2.2
  have hi : i < V.slots.size := (Array.getElem?_eq_some_iff.mp hu).1
  have c1 : Steps p.tables e below (s₁.setTop (entryFrame m #[.ref t, .int (Int32.ofNat i)] 2)) (s₁.setTop (mkF m 0 #[.val (.ref t), .val (.int (Int32.ofNat i))] [])) := entry rfl
  have c2 : Steps p.tables e below (s₁.setTop (entryFrame m #[.ref t, .int (Int32.ofNat i)] 2)) (s₁.setTop (mkF m 3 #[.val (.ref t), .val (.int (Int32.ofNat i))] [.int (Int32.ofNat V.slots.size), .int (Int32.ofNat i)])) := c1.trans (by
    refine XS.iloadN X0.here hexec rfl (hb hbytes d0) rfl ?_
    refine XS.aloadN X0.here hexec rfl (hb hbytes d1) rfl rfl ?_
    refine X0.alen hexec (hV.mv X0.warmed.alike hh0) rfl rfl (hb hbytes d2) ?_
    exact Steps.refl _)
  obtain ⟨v3, T3, X3, E3, g3⟩ := X0.callS hexec (JO.Str_checkIndex.law l (Int32.ofNat i) (Int32.ofNat V.slots.size) fm) hown (wks W (staticW "java/lang/StringLatin1" 9 JO.Str_checkIndex.yN)) (wk W JO.Str_checkIndex.tab) (W := 0) (Nat.le_of_ble_eq_true rfl) (Nat.le_of_ble_eq_true rfl) (Nat.le_refl _) (Nat.le_refl _) (g := (mkF m 3 #[.val (.ref t), .val (.int (Int32.ofNat i))] [.int (Int32.ofNat V.slots.size), .int (Int32.ofNat i)])) rfl (by rw [hml]; rfl) c2 (argsL := [.int (Int32.ofNat i), .int (Int32.ofNat V.slots.size)]) (rest := []) rfl rfl (by show 2 * 0 + 0 ≤ _; decide) (hb hbytes d3) (⟨rfl, rf, s1.there X0.warmed.alike hh0, Int32.ofNat_not_neg (by omega), lt32 v31 hi⟩)
  obtain ⟨rfl, q3⟩ := E3
  have hh3 := q3.trans hh0
  have c4 : Steps p.tables e below (s₁.setTop (entryFrame m #[.ref t, .int (Int32.ofNat i)] 2)) (T3.setTop (mkF m 14 #[.val (.ref t), .val (.int (Int32.ofNat i))] [.int (chr8 u)])) := Steps.trans g3 (by
    refine XS.aloadN X3.here hexec rfl (hb hbytes d6) rfl rfl ?_
    refine XS.iloadN X3.here hexec rfl (hb hbytes d7) rfl ?_
    refine X3.aget hexec (hV.mv X3.warmed.alike hh3) rfl hu rfl rfl (hb hbytes d8) ?_
    refine sipushV X3.here hexec rfl 255 (hb hbytes d9) (by decide) ?_
    refine XS.iand X3.here hexec rfl (hb hbytes d12) rfl ?_
    refine i2c X3.here hexec rfl (hb hbytes d13) rfl ?_
    exact Steps.refl _)
  exact ⟨T3, some (.int (chr8 u)), _, _, _, X3, rfl, rfl, rfl, (fun h => by cases h), ⟨rfl, hh3⟩, fun fs hl => c4.trans (X3.ireturnOut hexec hret (narrow_c _) (Or.inr (Or.inr (Or.inr (Or.inl rfl)))) (hb hbytes d14) hl)⟩
end LChA
end StrChars
namespace StrChars.Road
open Jvm Sem ClassFile Op Lib Jvm.Stand Jvm.Free Jvm.Free.XT
open Jvm.Lib.Cold (StaticIs)
theorem consq {a : Array Value} {s : State} {c : Jvm.Cond} {L : List Jvm.Cond} (h0 : c.before a s = true) (h : ∀ w ∈ L, w.before a s = true) : ∀ w ∈ c :: L, w.before a s = true := fun w hw => (List.mem_cons.mp hw).elim (fun e => e ▸ h0) (h w)
/-- the words of String.length(), either coding -/
abbrev wordsLen : List Jvm.Cond := [.code Len.yN Len.yB 1 (some .int), .initialized ST, .fieldLink ST 9 ST "value" "[B", .fieldLink ST 38 ST "COMPACT_STRINGS" "Z", .fieldLink ST 15 ST "coder" "B", .code Cdr.yN Cdr.yB 1 (some .byte), .methodLink ST 335 Cdr.yN, .declares Cdr.yN, .selects ST Cdr.yN Cdr.yN, .instanceMethod Cdr.yN]
theorem tabLen_of {a : Array Value} {s : State} (h : ∀ w ∈ wordsLen, w.before a s = true) : Len.tab.before a s = true := by
  have hc : Cdr.tab.before a s = true := unparts (wk h (.code Cdr.yN Cdr.yB 1 (some .byte))) (wks h (.initialized Cdr.yN.cls :: Cdr.site))
  have q := consq hc h
  exact unparts (wk q (.code Len.yN Len.yB 1 (some .int))) (wks q (.initialized Len.yN.cls :: Len.site))
theorem movedLen {Z s : State} {a0 args : Array Value} (hZ : Z.Warmed39 s.vm) (hw : ∀ d ∈ wordsLen, d.before a0 Z = true) : ∀ d ∈ wordsLen, d.before args s = true := fun d hd => by
  have q := hw d hd
  have t : ∀ d ∈ wordsLen, d = .arrayClass .byte ∨ (d.onTables && d.keepsFace) = true := by decide +kernel
  rcases t d hd with rfl | t
  · exact RoadKit.mvA hZ q
  · exact RoadKit.mv hZ q t
/-- the bytes of the chars cs, low before high -/
def wideBytes : List Int32 → List Value
  | [] => []
  | c :: cs => .int (lo8 c) :: .int (hi8 c) :: wideBytes cs
theorem wide_lo (d : Value) : ∀ (cs : List Int32) (j : Nat), j < cs.length → (wideBytes cs).getD (2 * j) d = .int (lo8 (cs.getD j 0))
  | [], j, h => absurd h (Nat.not_lt_zero j)
  | c :: cs, 0, _ => rfl
  | c :: cs, j + 1, h => by
    have q := wide_lo d cs j (by simpa using h)
    rw [show 2 * (j + 1) = 2 * j + 1 + 1 from by omega]
    simpa [wideBytes] using q
theorem wide_hi (d : Value) : ∀ (cs : List Int32) (j : Nat), j < cs.length → (wideBytes cs).getD (2 * j + 1) d = .int (hi8 (cs.getD j 0))
  | [], j, h => absurd h (Nat.not_lt_zero j)
  | c :: cs, 0, _ => rfl
  | c :: cs, j + 1, h => by
    have q := wide_hi d cs j (by simpa using h)
    rw [show 2 * (j + 1) + 1 = 2 * j + 1 + 1 + 1 from by omega]
    simpa [wideBytes] using q
theorem low_at (d : Value) (cs : List Int32) (j : Nat) (h : j < cs.length) : (cs.map fun c => Value.int (lo8 c)).getD j d = .int (lo8 (cs.getD j 0)) := by
  simp [List.getD_eq_getElem?_getD, h]
/-- an array of N2 bytes vs codes the chars cs by the coder cd -/
def CodA (cs : List Int32) (cd N2 : Int32) (vs : List Value) : Prop := (cd = 0 ∧ N2 = Int32.ofNat cs.length ∧ vs = (cs.map fun c => Value.int (lo8 c)) ∧ ∀ c ∈ cs, ¬ 255 < c) ∨ (cd = 1 ∧ N2 = Int32.ofNat (2 * cs.length) ∧ vs = wideBytes cs ∧ ∃ c ∈ cs, 255 < c)
theorem CodA.cod {cs : List Int32} {cd N2 : Int32} {vs : List Value} {V : Cell} (h : CodA cs cd N2 vs) (hn : 2 * cs.length < 2 ^ 31) (hs : V.slots.size = N2.toNatClampNeg) (hv : RoadKit.Has V vs (.int 0)) : Cod cd cs.length (fun j => cs.getD j 0) V := by
  rcases h with ⟨rfl, rfl, rfl, h⟩ | ⟨rfl, rfl, rfl, c, hc, hw⟩
  · rw [n32 (by omega)] at hs
    exact Or.inl ⟨rfl, hs, fun j hj => ⟨by rw [hv j (by omega), low_at _ _ _ hj], by
      have e : cs.getD j 0 = cs[j] := by simp [List.getD_eq_getElem?_getD, hj]
      show ¬ 255 < cs.getD j 0
      rw [e]; exact h _ (List.getElem_mem _)⟩⟩
  · rw [n32 (by omega)] at hs
    obtain ⟨j, hj, rfl⟩ := List.getElem_of_mem hc
    exact Or.inr ⟨rfl, hs, fun j hj => ⟨by rw [hv _ (by omega), wide_lo _ _ _ hj], by rw [hv _ (by omega), wide_hi _ _ _ hj]⟩, j, hj, by
      have e : cs.getD j 0 = cs[j] := by simp [List.getD_eq_getElem?_getD, hj]
      show 255 < cs.getD j 0
      rw [e]; exact hw⟩
/-- an object of exactly java/lang/String, its two fields found: as the laws ask it -/
theorem strObj {Z U : State} {a0 : Array Value} {kI : Nat} (wi : (Jvm.Cond.instantiable ST kI).before a0 Z = true) (al : Z.vm.Alike U.vm) {x : Addr} {v0 c0 : Value} (E : RoadKit.Exa Z U.heap x ST) (V : RoadKit.Fld Z U.heap x ST "value" "[B" v0) (C : RoadKit.Fld Z U.heap x ST "coder" "B" c0) :
    ∃ (D : Cell) (fV fC : Field), Blank ST x D U ∧ Found ST "value" "[B" fV U ∧ Found ST "coder" "B" fC U ∧ D.slots[fV.slot]? = some v0 ∧ D.slots[fC.slot]? = some c0 ∧ RoadKit.slotOf Z ST "value" "[B" = fV.slot ∧ RoadKit.slotOf Z ST "coder" "B" = fC.slot := by
  obtain ⟨D, cfV, kV, iV, fV, hD, gV, stV, knV, obV, asV, slV⟩ := V
  obtain ⟨D', cfC, kC, iC, fC, hD', gC, stC, -, -, asC, slC⟩ := C
  cases hD.symm.trans hD'
  obtain ⟨D2, kD, e1, e2, e3, e4, e5⟩ := E
  cases hD.symm.trans e1
  obtain ⟨c2, k2, i1, i2, i3, -⟩ := Cond.instantiable_spec wi
  cases e2.symm.trans i1
  cases e3.symm.trans i2
  obtain ⟨kU, u1, u2⟩ := al.2.2 _ _ e3
  exact ⟨D, fV, fC, ⟨hD, ⟨knV, fun q hq => by rw [hq] at obV; cases obV⟩, by rw [al.findClass]; exact e2, kU, u1, by rw [u2]; exact i3, by rw [u2]; exact e5 i3⟩, ⟨SBG.found_only al ⟨cfV, kV, iV, gV⟩, stV⟩, ⟨SBG.found_only al ⟨cfC, kC, iC, gC⟩, stC⟩, slV, slC, by simp [RoadKit.slotOf, gV], by simp [RoadKit.slotOf, gC]⟩
theorem sta_is {Z U : State} (al : Z.vm.Alike U.vm) {C n d : String} {v : Value} (S : RoadKit.Sta Z U.heap C n d v) : StaticIs U C n d v := by
  obtain ⟨cfS, iS, kS, fS, st, cS, t1, t2, t3, t4, t5, t6, t7⟩ := S
  exact StaticIs.there (s := { Z with heap := U.heap }) ⟨cfS, iS, kS, fS, st, cS, t1, t2, t3, t4, t5, (fun q => by rw [q] at t6; cases t6), t7⟩ al rfl
/-- **length() OF SUCH A STRING** -/
theorem lenW {p : Program} {l : Launch} {e : Env} {R : Room} {s : State} {args : Array Value} {below : List Frame} {len W : Nat} {Z : State} {a0 : Array Value} {h : Heap} (hZ : Z.Warmed39 s.vm) (hw : ∀ d ∈ wordsLen, d.before a0 Z = true) {kI : Nat} (wi : (Jvm.Cond.instantiable ST kI).before a0 Z = true)
    {x t : Addr} {kb : ClassId} {cs : List Int32} {cd N2 z : Int32} {vs : List Value} (E : RoadKit.Exa Z h x ST) (V : RoadKit.Fld Z h x ST "value" "[B" (.ref t)) (C : RoadKit.Fld Z h x ST "coder" "B" (.int cd)) (K : RoadKit.Arv Z h t kb .byte N2 vs (.int 0)) (hc : CodA cs cd N2 vs) (hb : ∀ c ∈ cs, ¬ c < 0 ∧ ¬ (65535 : Int32) < c)
    (S : RoadKit.Sta Z h ST "COMPACT_STRINGS" "Z" (.int z)) (hz : ¬ z = 0) (l2 : cs.length ≤ 4000) (hfr : 2 ≤ R.frames) (hlo : W + 25 ≤ R.locals) :
    Back l R p e below s args (⟨"java/lang/String", "length", "()I"⟩ : MethodName) len W (fun P a => a = #[.ref x] ∧ P.U.heap = h ∧ P.cells + 0 ≤ R.cells ∧ P.slots + 0 ≤ R.slots)
      (fun P _ v B => ∃ L, (v = some (.int (Int32.ofNat cs.length)) ∧ L = [] ∧ B.U.heap = h) ∧ B.locs = P.locs ++ L ∧ B.cells = P.cells + 0 ∧ B.slots = P.slots + 0) := by
  obtain ⟨A, K1, K2, K3, K4, K5, K6⟩ := K
  have hcod := hc.cod (by omega) K3 K5
  intro m meth c P g ig mk a X hg hsize hdg hW hn hp'
  obtain ⟨rfl, rfl, r1, r2⟩ := hp'
  have al : Z.vm.Alike P.U.vm := hZ.alike.trans X.warmed.alike
  obtain ⟨D, fV, fC, hB, F1, F2, g1, g2, -, -⟩ := strObj wi al E V C
  have hx : Txt x t A cd cs.length (fun j => cs.getD j 0) P.U := ⟨⟨_, hB.2.2.1, D, hB.1, rfl, by cases q : D.vm <;> first | rfl | exact absurd q (hB.2.1.2 _)⟩, Has.of hB F1 g1, Has.of hB F2 g2, ⟨K1.1, State.isArrayOf_alike al K1.2.1, K1.2.2, by rcases hcod with ⟨-, q, -⟩ | ⟨-, q, -⟩ <;> omega⟩, hcod, fun j hj => by
    have e : cs.getD j 0 = cs[j] := by simp [List.getD_eq_getElem?_getD, hj]
    show ¬ cs.getD j 0 < 0 ∧ ¬ 65535 < cs.getD j 0
    rw [e]; exact hb _ (List.getElem_mem _)⟩
  obtain ⟨v, B, X', ⟨⟨hv, hh⟩, hl, hk, hs⟩, st⟩ := Len.pays x t A cd cs.length (fun j => cs.getD j 0) z (tabLen_of (movedLen hZ hw)) hfr hlo m meth c P g ig mk _ X hg hsize hdg hW hn ⟨r1, r2, rfl, hx, sta_is al S, hz⟩
  exact ⟨v, B, X', ⟨[], ⟨hv, rfl, hh⟩, hl, hk, hs⟩, st⟩
end StrChars.Road
namespace StrChars.Road
open Jvm Sem ClassFile Op Lib Jvm.Stand Jvm.Free Jvm.Free.XT
open Jvm.Lib.Cold (StaticIs)
/-- the road's facts of a String, as the laws ask it -/
theorem txt_of {Z U : State} {a0 : Array Value} {kI : Nat} (wi : (Jvm.Cond.instantiable ST kI).before a0 Z = true) (al : Z.vm.Alike U.vm) {x t : Addr} {kb : ClassId} {cs : List Int32} {cd N2 : Int32} {vs : List Value} (E : RoadKit.Exa Z U.heap x ST) (V : RoadKit.Fld Z U.heap x ST "value" "[B" (.ref t)) (C : RoadKit.Fld Z U.heap x ST "coder" "B" (.int cd)) (K : RoadKit.Arv Z U.heap t kb .byte N2 vs (.int 0)) (hc : CodA cs cd N2 vs) (hb : ∀ c ∈ cs, ¬ c < 0 ∧ ¬ (65535 : Int32) < c) (l2 : cs.length ≤ 4000) :
    ∃ A, Txt x t A cd cs.length (fun j => cs.getD j 0) U := by
  obtain ⟨A, K1, K2, K3, K4, K5, K6⟩ := K
  have hcod := hc.cod (by omega) K3 K5
  obtain ⟨D, fV, fC, hB, F1, F2, g1, g2, -, -⟩ := strObj wi al E V C
  exact ⟨A, ⟨_, hB.2.2.1, D, hB.1, rfl, by cases q : D.vm <;> first | rfl | exact absurd q (hB.2.1.2 _)⟩, Has.of hB F1 g1, Has.of hB F2 g2, ⟨K1.1, State.isArrayOf_alike al K1.2.1, K1.2.2, by rcases hcod with ⟨-, q, -⟩ | ⟨-, q, -⟩ <;> omega⟩, hcod, fun j hj => by
    have e : cs.getD j 0 = cs[j] := by simp [List.getD_eq_getElem?_getD, hj]
    show ¬ cs.getD j 0 < 0 ∧ ¬ 65535 < cs.getD j 0
    rw [e]; exact hb _ (List.getElem_mem _)⟩
end StrChars.Road
namespace StrChars
open Jvm Sem ClassFile Op Lib Jvm.Stand Jvm.Free.XT Jvm.Free.ALB Jvm.Free.JM Jvm.Free
open Jvm.Lib.Cold (StaticIs)
namespace ChN
def yN : MethodName := ⟨"java/lang/String", "charAt", "(I)C"⟩
abbrev yB : ByteArray := jdk_42_method_56_code
theorem d0 : decode yB 0 = .ok (.aload_n 0, 1) := by decide +kernel
theorem d1 : decode yB 1 = .ok (.invokevirtual 492, 3) := by decide +kernel
theorem d4 : decode yB 4 = .ok (.ifCond (.eq) 12, 3) := by decide +kernel
theorem d7 : decode yB 7 = .ok (.aload_n 0, 1) := by decide +kernel
theorem d8 : decode yB 8 = .ok (.getfield 9, 3) := by decide +kernel
theorem d11 : decode yB 11 = .ok (.iload_n 1, 1) := by decide +kernel
theorem d12 : decode yB 12 = .ok (.invokestatic 495, 3) := by decide +kernel
theorem d15 : decode yB 15 = .ok (.ireturn, 1) := by decide +kernel
def site : List Cond := [.fieldLink "java/lang/String" 9 "java/lang/String" "value" "[B", IsL.tab, LChA.tab] ++ virtW "java/lang/String" 492 "java/lang/String" IsL.yN IsL.yN ++ staticW "java/lang/String" 495 LChA.yN
def tab : Cond := tabOf yN yB 2 (some .char) site
def P (x t : Addr) (V : Cell) (n : Nat) (f : Nat → Int32) (z : Int32) (fm : Value) (i : Nat) (args : Array Value) (s : State) : Prop := args = #[.ref x, .int (Int32.ofNat i)] ∧ Txt x t V 0 n f s ∧ i < n ∧ StaticIs s "java/lang/String" "COMPACT_STRINGS" "Z" (.int z) ∧ ¬ z = 0 ∧ StaticIs s "jdk/internal/util/Preconditions" "SIOOBE_FORMATTER" "Ljava/util/function/BiFunction;" fm ∧ fm.isRef = true
def E (f : Nat → Int32) (i : Nat) (r : Option Value) (s u : State) : Prop := XT.PureE (some (.int (f i))) r s u
/-- charAt(i) of a Latin-1 String of n chars, i < n: f i -/
theorem law (l : Launch) (x t : Addr) (V : Cell) (n : Nat) (f : Nat → Int32) (z : Int32) (fm : Value) (i : Nat) : Law l yN 2 1 3 40 yB 2 (some .char) site (P x t V n f z fm i) (E f i) [] 0 0 := by
  refine Law.of_walk (plainFor_of_name (by decide +kernel)) (by decide +kernel) (by decide +kernel) (by decide) (fun _ _ h => by rw [h.1]; rfl) (fun _ U U' hal hh h => ⟨h.1, h.2.1.mv hal hh, h.2.2.1, h.2.2.2.1.there hal hh, h.2.2.2.2.1, h.2.2.2.2.2.1.there hal hh, h.2.2.2.2.2.2⟩) (fun r U U' V V' h1 hal h2 h => XT.PureE.mv r U U' V V' h1 hal h2 h) ?_
  intro p e s m args below meth c s₁ X0 hexec hbytes hml hret hlk hnm hown hh0 W hP
  obtain ⟨rfl, hx, hi, s1, hz, s3, rf⟩ := hP
  have v31 := hx.2.2.2.1.2.2.2
  have hr := hx.2.2.2.2.2 i hi
  have hx0 := hx.mv X0.warmed.alike hh0
  have c1 : Steps p.tables e below (s₁.setTop (entryFrame m #[.ref x, .int (Int32.ofNat i)] 2)) (s₁.setTop (mkF m 1 #[.val (.ref x), .val (.int (Int32.ofNat i))] [.ref x])) := Steps.trans (entry rfl) (by
    show Steps p.tables e below (s₁.setTop (mkF m 0 #[.val (.ref x), .val (.int (Int32.ofNat i))] [])) _
    refine XS.aloadN X0.here hexec rfl (hb hbytes d0) rfl rfl ?_
    exact Steps.refl _)
  obtain ⟨v2, T2, X2, E2, g2⟩ := X0.callV hexec (IsL.law l x 0 z) hown (wks W (virtW "java/lang/String" 492 "java/lang/String" IsL.yN IsL.yN)) rfl (by decide) (wk W IsL.tab) (W := 0) (Nat.le_of_ble_eq_true rfl) (Nat.le_of_ble_eq_true rfl) (Nat.le_refl _) (Nat.le_refl _) (hx0.1.fc X0.warmed.alike) hx0.1.is (g := (mkF m 1 #[.val (.ref x), .val (.int (Int32.ofNat i))] [.ref x])) rfl (by rw [hml]; rfl) c1 (argsL := []) (rest := []) rfl rfl (by show 2 * 0 + 0 ≤ _; decide) (hb hbytes d1) (⟨rfl, hx0.2.2.1, hx.2.2.2.2.1.cd, s1.there X0.warmed.alike hh0, hz⟩)
  obtain ⟨rfl, q2⟩ := E2
  have hh2 := q2.trans hh0
  have hx2 := hx.mv X2.warmed.alike hh2
  obtain ⟨-, k1, k2⟩ | ⟨k0, -⟩ := hx.2.2.2.2.1
  · have c3 : Steps p.tables e below (s₁.setTop (entryFrame m #[.ref x, .int (Int32.ofNat i)] 2)) (T2.setTop (mkF m 8 #[.val (.ref x), .val (.int (Int32.ofNat i))] [.ref x])) := Steps.trans g2 (by
      refine XS.ifNo X2.here hexec rfl (hb hbytes d4) rfl (i0_eq_f (by decide)) ?_
      refine XS.aloadN X2.here hexec rfl (hb hbytes d7) rfl rfl ?_
      exact Steps.refl _)
    obtain ⟨T4, X4, q4, st4⟩ := X2.hget hexec hown (wk W (.fieldLink "java/lang/String" 9 "java/lang/String" "value" "[B")) hx2.2.1 (g := (mkF m 8 #[.val (.ref x), .val (.int (Int32.ofNat i))] [.ref x])) rfl (rest := []) rfl (hb hbytes d8)
    have hh4 := q4.trans hh2
    have c5 : Steps p.tables e below (s₁.setTop (entryFrame m #[.ref x, .int (Int32.ofNat i)] 2)) (T4.setTop (mkF m 12 #[.val (.ref x), .val (.int (Int32.ofNat i))] [.int (Int32.ofNat i), .ref t])) := (c3.trans (st4 _ (Steps.refl _))).trans (by
      refine XS.iloadN X4.here hexec rfl (hb hbytes d11) rfl ?_
      exact Steps.refl _)
    obtain ⟨v6, T6, X6, E6, g6⟩ := X4.callS hexec (LChA.law l t V i (lo8 (f i)) fm) hown (wks W (staticW "java/lang/String" 495 LChA.yN)) (wk W LChA.tab) (W := 0) (Nat.le_of_ble_eq_true rfl) (Nat.le_of_ble_eq_true rfl) (Nat.le_refl _) (Nat.le_refl _) (g := (mkF m 12 #[.val (.ref x), .val (.int (Int32.ofNat i))] [.int (Int32.ofNat i), .ref t])) rfl (by rw [hml]; rfl) c5 (argsL := [.ref t, .int (Int32.ofNat i)]) (rest := []) rfl rfl (by show 2 * 0 + 0 ≤ _; decide) (hb hbytes d12) (⟨rfl, hx.2.2.2.1.mv X4.warmed.alike hh4, (k2 i hi).1, s3.there X4.warmed.alike hh4, rf⟩)
    obtain ⟨rfl, q6⟩ := E6
    rw [chr8_lo8 hr.1 (k2 i hi).2] at g6
    exact ⟨T6, some (.int (f i)), _, _, _, X6, rfl, rfl, rfl, (fun h => by cases h), ⟨rfl, q6.trans hh4⟩, fun fs hl => Steps.trans g6 (X6.ireturnOut hexec hret (narrow_ch hr.1 hr.2) (Or.inr (Or.inr (Or.inr (Or.inl rfl)))) (hb hbytes d15) hl)⟩
  · exact absurd k0 (by decide)
theorem pays {l : Launch} {R : Room} {p : Program} {e : Env} {below : List Frame} {s : State} {sargs : Array Value} {len W : Nat} (x t : Addr) (V : Cell) (n : Nat) (f : Nat → Int32) (z : Int32) (fm : Value) (i : Nat) (htab : tab.before sargs s = true) (hfr : 4 ≤ R.frames) (hlo : W + 53 ≤ R.locals) :
    Back l R p e below s sargs yN len W (fun A₁ a₁ => A₁.cells + 0 ≤ R.cells ∧ A₁.slots + 0 ≤ R.slots ∧ P x t V n f z fm i a₁ A₁.U) (fun A₁ _ v₁ B₁ => E f i v₁ A₁.U B₁.U ∧ B₁.locs = A₁.locs ++ [] ∧ B₁.cells = A₁.cells + 0 ∧ B₁.slots = A₁.slots + 0) :=
  (law l x t V n f z fm i).pays htab hfr (by omega)
end ChN
end StrChars
namespace StrChars.Road
open Jvm Sem ClassFile Op Lib Jvm.Stand Jvm.Free Jvm.Free.XT
open Jvm.Lib.Cold (StaticIs)
/-- the words of String.charAt(int), the Latin-1 road alone -/
abbrev wordsChN : List Jvm.Cond := [.code ChN.yN ChN.yB 2 (some .char), .initialized ST, .fieldLink ST 9 ST "value" "[B", .fieldLink ST 38 ST "COMPACT_STRINGS" "Z", .fieldLink ST 15 ST "coder" "B", .code IsL.yN IsL.yB 1 (some .boolean), .methodLink ST 492 IsL.yN, .declares IsL.yN, .selects ST IsL.yN IsL.yN, .instanceMethod IsL.yN,
  .methodLink ST 495 LChA.yN, .static LChA.yN, .code LChA.yN LChA.yB 2 (some .char), .initialized "java/lang/StringLatin1", .methodLink "java/lang/StringLatin1" 9 JO.Str_checkIndex.yN, .static JO.Str_checkIndex.yN, .code JO.Str_checkIndex.yN JO.Str_checkIndex.yB 2 none,
  .fieldLink ST 1053 "jdk/internal/util/Preconditions" "SIOOBE_FORMATTER" "Ljava/util/function/BiFunction;", .methodLink ST 1059 JC.PreCheck.yN, .static JC.PreCheck.yN, .code JC.PreCheck.yN JC.PreCheck.yB 3 (some .int), .initialized "jdk/internal/util/Preconditions"]
theorem tabChN_of {a : Array Value} {s : State} (h : ∀ w ∈ wordsChN, w.before a s = true) : ChN.tab.before a s = true := by
  have hp : JC.PreCheck.tab.before a s = true := unparts (wk h (.code JC.PreCheck.yN JC.PreCheck.yB 3 (some .int))) (wks h (.initialized JC.PreCheck.yN.cls :: JC.PreCheck.site))
  have qk := consq hp h
  have hk : JO.Str_checkIndex.tab.before a s = true := unparts (wk qk (.code JO.Str_checkIndex.yN JO.Str_checkIndex.yB 2 none)) (wks qk (.initialized JO.Str_checkIndex.yN.cls :: JO.Str_checkIndex.site))
  have ql := consq hk h
  have hl : LChA.tab.before a s = true := unparts (wk ql (.code LChA.yN LChA.yB 2 (some .char))) (wks ql (.initialized LChA.yN.cls :: LChA.site))
  have hi : IsL.tab.before a s = true := unparts (wk h (.code IsL.yN IsL.yB 1 (some .boolean))) (wks h (.initialized IsL.yN.cls :: IsL.site))
  have q := consq hi (consq hl h)
  exact unparts (wk q (.code ChN.yN ChN.yB 2 (some .char))) (wks q (.initialized ChN.yN.cls :: ChN.site))
theorem movedChN {Z s : State} {a0 args : Array Value} (hZ : Z.Warmed39 s.vm) (hw : ∀ d ∈ wordsChN, d.before a0 Z = true) : ∀ d ∈ wordsChN, d.before args s = true := fun d hd => by
  have t : ∀ d ∈ wordsChN, (d.onTables && d.keepsFace) = true := by decide +kernel
  exact RoadKit.mv hZ (hw d hd) (t d hd)
/-- **charAt(i) OF A LATIN-1 STRING**, i < n: the char -/
theorem chN {p : Program} {l : Launch} {e : Env} {R : Room} {s : State} {args : Array Value} {below : List Frame} {len W : Nat} {Z : State} {a0 : Array Value} {h : Heap} (hZ : Z.Warmed39 s.vm) (hw : ∀ d ∈ wordsChN, d.before a0 Z = true) {kI : Nat} (wi : (Jvm.Cond.instantiable ST kI).before a0 Z = true)
    {x t : Addr} {kb : ClassId} {cs : List Int32} {N2 z : Int32} {vs : List Value} {fm : Value} {i : Nat} {j : Int32} (E : RoadKit.Exa Z h x ST) (V : RoadKit.Fld Z h x ST "value" "[B" (.ref t)) (C : RoadKit.Fld Z h x ST "coder" "B" (.int 0)) (K : RoadKit.Arv Z h t kb .byte N2 vs (.int 0)) (hc : CodA cs 0 N2 vs) (hb : ∀ c ∈ cs, ¬ c < 0 ∧ ¬ (65535 : Int32) < c)
    (S : RoadKit.Sta Z h ST "COMPACT_STRINGS" "Z" (.int z)) (hz : ¬ z = 0) (F : RoadKit.Sta Z h "jdk/internal/util/Preconditions" "SIOOBE_FORMATTER" "Ljava/util/function/BiFunction;" fm) (rf : fm.isRef = true) (l2 : cs.length ≤ 4000) (hi : i < cs.length) (hj : j = Int32.ofNat i) (hfr : 4 ≤ R.frames) (hlo : W + 53 ≤ R.locals) :
    Back l R p e below s args (⟨"java/lang/String", "charAt", "(I)C"⟩ : MethodName) len W (fun P a => a = #[.ref x, .int j] ∧ P.U.heap = h ∧ P.cells + 0 ≤ R.cells ∧ P.slots + 0 ≤ R.slots)
      (fun P _ v B => ∃ L, (v = some (.int (cs.getD i 0)) ∧ L = [] ∧ B.U.heap = h) ∧ B.locs = P.locs ++ L ∧ B.cells = P.cells + 0 ∧ B.slots = P.slots + 0) := by
  subst hj
  intro m meth c P g ig mk a X hg hsize hdg hW hn hp'
  obtain ⟨rfl, rfl, r1, r2⟩ := hp'
  have al : Z.vm.Alike P.U.vm := hZ.alike.trans X.warmed.alike
  obtain ⟨A, hx⟩ := txt_of wi al E V C K hc hb l2
  obtain ⟨v, B, X', ⟨⟨hv, hh⟩, hl, hk, hs⟩, st⟩ := ChN.pays x t A cs.length (fun j => cs.getD j 0) z fm i (tabChN_of (movedChN hZ hw)) hfr hlo m meth c P g ig mk _ X hg hsize hdg hW hn ⟨r1, r2, rfl, hx, hi, sta_is al S, hz, sta_is al F, rf⟩
  exact ⟨v, B, X', ⟨[], ⟨hv, rfl, hh⟩, hl, hk, hs⟩, st⟩
/-- what backV says of its String, as the contracts of this text ask it: cs's low bytes, coder 0 -/
theorem codOf {cs : List Int32} {n : Nat} (hn : cs.length = n) (hb : ∀ c ∈ cs, ¬ 255 < c) : CodA cs 0 (Int32.ofNat n) ((cs.map lo8).map Value.int) := Or.inl ⟨rfl, by rw [hn], by simp [List.map_map, Function.comp_def], hb⟩
end StrChars.Road
end Jvm.Pilot.@@N@@
namespace Jvm.Pilot.@@N@@
open Jvm Jvm.ClassFile Sem Op Lib Jvm.Free Jvm.Stand Jvm.LawKit Jvm.RoadKit Bundle Jvm.Pilot.@@N@@.Jvm.D
/-! general: a run that comes to its end with what Q says -/
def own_G (tb : Tables) (e : Env) (below : List Frame) (S : State) (s : State) (C N : Nat) (Q : Option Value → Heap → List Loc → Prop) : Prop :=
  ∃ t o, Steps tb e below S t ∧ t.status = .running ∧ Ended t below o ∧ ∃ v L, o = .returned v ∧ Q v t.heap L ∧ FrameEnd s o t L C N
def own_P (n0 : Nat) (h0 : Heap) (w : Option Value) (v : Option Value) (h : Heap) (L : List Loc) : Prop := v = w ∧ Fr n0 L ∧ h = h0
section Own
variable {tb : Tables} {p : Program} {l : Launch} {e : Env} {R : Room} {s : State} {m : MethodId} {args : Array Value} {below : List Frame} {meth : Method} {c : Code} {T S S' : State} {locs : List Loc} {cells slots C N n0 : Nat} {h0 : Heap} {Q : Option Value → Heap → List Loc → Prop}
theorem own_go (h : ∀ t, Steps tb e below S' t → Steps tb e below S t) (k : own_G tb e below S' s C N Q) : own_G tb e below S s C N Q := by
  obtain ⟨t, o, a, b⟩ := k
  exact ⟨t, o, h t a, b⟩
theorem own_tr (h : Steps tb e below S S') (k : own_G tb e below S' s C N Q) : own_G tb e below S s C N Q := by
  obtain ⟨t, o, a, b⟩ := k
  exact ⟨t, o, h.trans a, b⟩
theorem own_itI {P : Prop} [Decidable P] {A B : Int32} (h : P) (k : own_G tb e below S s C N (own_P n0 h0 (some (.int A)))) : own_G tb e below S s C N (own_P n0 h0 (some (.int (if P then A else B)))) := by rw [if_pos h]; exact k
theorem own_ifI {P : Prop} [Decidable P] {A B : Int32} (h : ¬ P) (k : own_G tb e below S s C N (own_P n0 h0 (some (.int B)))) : own_G tb e below S s C N (own_P n0 h0 (some (.int (if P then A else B)))) := by rw [if_neg h]; exact k
theorem own_itJ {P : Prop} [Decidable P] {A B : Int64} (h : P) (k : own_G tb e below S s C N (own_P n0 h0 (some (.long A)))) : own_G tb e below S s C N (own_P n0 h0 (some (.long (if P then A else B)))) := by rw [if_pos h]; exact k
theorem own_ifJ {P : Prop} [Decidable P] {A B : Int64} (h : ¬ P) (k : own_G tb e below S s C N (own_P n0 h0 (some (.long B)))) : own_G tb e below S s C N (own_P n0 h0 (some (.long (if P then A else B)))) := by rw [if_neg h]; exact k
theorem own_endO {w : Value} {t : FieldType} {i : Instr} (X : Stand p l e R s m args below meth c T locs cells slots) (hx : p.tables.exec = Jvm.exec) (hlk : meth.locks = false) {pc : Nat} {Ls : Array Slot} {rest : List Value} (hret : meth.sig.returnType = some t) (hn : narrow t w = w)
    (hi : (i = .ireturn ∧ (t = .int ∨ t = .boolean ∨ t = .byte ∨ t = .char ∨ t = .short) ∧ ∃ z, w = .int z) ∨ (i = .lreturn ∧ t = .long ∧ ∃ z, w = .long z) ∨ (i = .dreturn ∧ t = .double ∧ ∃ z, w = .double z) ∨ (i = .freturn ∧ t = .float ∧ ∃ z, w = .float z) ∨ (i = .areturn ∧ t.isReference = true ∧ w.isRef = true))
    (hd : decode c.code pc = .ok (i, 1)) (hC : cells ≤ C) (hN : slots ≤ N) (hQ : Q (some w) T.heap locs) : own_G p.tables e below (T.setTop (mkF m pc Ls (w :: rest))) s C N Q := by
  obtain ⟨fs, hr, hrun, hended, hW, hsame⟩ := X.leave (v := some w) (fun h => by rw [hret] at h; cases h) hlk
  exact ⟨_, _, retOut X hx hret hn hi hd hr, hrun, hended, _, _, rfl, hQ, ⟨_, rfl⟩, hW, hsame.mono hC hN⟩
theorem own_endI {z : Int32} (X : Stand p l e R s m args below meth c T locs cells slots) (hx : p.tables.exec = Jvm.exec) (hlk : meth.locks = false) {pc : Nat} {Ls : Array Slot} {rest : List Value} (hret : meth.sig.returnType = some .int)
    (hd : decode c.code pc = .ok (.ireturn, 1)) (hC : cells ≤ C) (hN : slots ≤ N) (hQ : Q (some (.int z)) T.heap locs) : own_G p.tables e below (T.setTop (mkF m pc Ls (.int z :: rest))) s C N Q :=
  own_endO X hx hlk hret rfl (Or.inl ⟨rfl, Or.inl rfl, z, rfl⟩) hd hC hN hQ
theorem own_endJ {z : Int64} (X : Stand p l e R s m args below meth c T locs cells slots) (hx : p.tables.exec = Jvm.exec) (hlk : meth.locks = false) {pc : Nat} {Ls : Array Slot} {rest : List Value} (hret : meth.sig.returnType = some .long)
    (hd : decode c.code pc = .ok (.lreturn, 1)) (hC : cells ≤ C) (hN : slots ≤ N) (hQ : Q (some (.long z)) T.heap locs) : own_G p.tables e below (T.setTop (mkF m pc Ls (.long z :: rest))) s C N Q :=
  own_endO X hx hlk hret rfl (Or.inr (Or.inl ⟨rfl, rfl, z, rfl⟩)) hd hC hN hQ
theorem own_endR {w : Value} {t : FieldType} (X : Stand p l e R s m args below meth c T locs cells slots) (hx : p.tables.exec = Jvm.exec) (hlk : meth.locks = false) {pc : Nat} {Ls : Array Slot} {rest : List Value} (hret : meth.sig.returnType = some t) (hn : narrow t w = w) (ht : t.isReference = true) (hw : w.isRef = true)
    (hd : decode c.code pc = .ok (.areturn, 1)) (hC : cells ≤ C) (hN : slots ≤ N) (hQ : Q (some w) T.heap locs) : own_G p.tables e below (T.setTop (mkF m pc Ls (w :: rest))) s C N Q :=
  own_endO X hx hlk hret hn (Or.inr (Or.inr (Or.inr (Or.inr ⟨rfl, ht, hw⟩)))) hd hC hN hQ
theorem own_endN {z : Int32} {t : FieldType} (X : Stand p l e R s m args below meth c T locs cells slots) (hx : p.tables.exec = Jvm.exec) (hlk : meth.locks = false) {pc : Nat} {Ls : Array Slot} {rest : List Value} (hret : meth.sig.returnType = some t) (ht : t = .boolean ∨ t = .byte ∨ t = .char ∨ t = .short)
    (hd : decode c.code pc = .ok (.ireturn, 1)) (hC : cells ≤ C) (hN : slots ≤ N) (hQ : Q (some (.int (nar t z))) T.heap locs) : own_G p.tables e below (T.setTop (mkF m pc Ls (.int z :: rest))) s C N Q := by
  obtain ⟨fs, hr, hrun, hended, hW, hsame⟩ := X.leave (v := some (.int (nar t z))) (fun h => by rw [hret] at h; cases h) hlk
  exact ⟨_, _, retN X hx hret ht hd hr, hrun, hended, _, _, rfl, hQ, ⟨_, rfl⟩, hW, hsame.mono hC hN⟩
theorem own_endV (X : Stand p l e R s m args below meth c T locs cells slots) (hx : p.tables.exec = Jvm.exec) (hlk : meth.locks = false) {pc : Nat} {Ls : Array Slot} (hret : meth.sig.returnType = none)
    (hd : decode c.code pc = .ok (.return_, 1)) (hC : cells ≤ C) (hN : slots ≤ N) (hQ : Q none T.heap locs) : own_G p.tables e below (T.setTop (mkF m pc Ls [])) s C N Q := by
  obtain ⟨fs, hr, hrun, hended, hW, hsame⟩ := X.leave (v := none) (fun _ => rfl) hlk
  exact ⟨_, _, X.returnOut hx hret hd hr, hrun, hended, _, _, rfl, hQ, ⟨_, rfl⟩, hW, hsame.mono hC hN⟩
end Own
section OwnW
variable {tb : Tables} {p : Program} {l : Launch} {e : Env} {R : Room} {s Z : State} {EL : List (String × Nat)} {vm0 : Vm} {m : MethodId} {args : Array Value} {below : List Frame} {meth : Method} {c : Code} {T S S' : State} {locs : List Loc} {cells slots C N n0 k0 : Nat} {h0 : Heap} {Q : Option Value → Heap → List Loc → Prop}
/-- the same for a run that may load a literal -/
def own_GW (tb : Tables) (e : Env) (below : List Frame) (S : State) (s : State) (C N : Nat) (Z : State) (EL : List (String × Nat)) (Q : Option Value → Heap → List Loc → Prop) : Prop :=
  ∃ t o, Steps tb e below S t ∧ t.status = .running ∧ Ended t below o ∧ ∃ v L, o = .returned v ∧ Q v t.heap L ∧ CHr Z EL s.vm s.heap t.vm t.heap ∧ ReturnedEndW s o t L C N
theorem own_goW (h : ∀ t, Steps tb e below S' t → Steps tb e below S t) (k : own_GW tb e below S' s C N Z EL Q) : own_GW tb e below S s C N Z EL Q := by
  obtain ⟨t, o, a, b⟩ := k
  exact ⟨t, o, h t a, b⟩
theorem own_trW (h : Steps tb e below S S') (k : own_GW tb e below S' s C N Z EL Q) : own_GW tb e below S s C N Z EL Q := by
  obtain ⟨t, o, a, b⟩ := k
  exact ⟨t, o, h.trans a, b⟩
theorem own_monoW {o : Outcome} {t : State} {L : List Loc} {k n k' n' : Nat} (h : ReturnedEndW s o t L k n) (hk : k ≤ k') (hn : n ≤ n') : ReturnedEndW s o t L k' n' := ⟨h.1, h.2.1, h.2.2.1, h.2.2.2.mono hk hn⟩
theorem own_endWO {w : Value} {t : FieldType} {i : Instr} (X : Stand p l e R (s.setVm vm0) m args below meth c T locs cells slots) (hx : p.tables.exec = Jvm.exec) (hlk : meth.locks = false) {pc : Nat} {Ls : Array Slot} {rest : List Value} (hret : meth.sig.returnType = some t) (hn : narrow t w = w)
    (hi : (i = .ireturn ∧ (t = .int ∨ t = .boolean ∨ t = .byte ∨ t = .char ∨ t = .short) ∧ ∃ z, w = .int z) ∨ (i = .lreturn ∧ t = .long ∧ ∃ z, w = .long z) ∨ (i = .dreturn ∧ t = .double ∧ ∃ z, w = .double z) ∨ (i = .freturn ∧ t = .float ∧ ∃ z, w = .float z) ∨ (i = .areturn ∧ t.isReference = true ∧ w.isRef = true))
    (hd : decode c.code pc = .ok (i, 1)) (hS : s.Since vm0 k0) (hk : k0 ≤ T.heap.size) (hC : cells ≤ C) (hN : slots ≤ N) (hR : CHr Z EL s.vm s.heap T.vm T.heap) (hQ : Q (some w) T.heap locs) : own_GW p.tables e below (T.setTop (mkF m pc Ls (w :: rest))) s C N Z EL Q := by
  obtain ⟨fs, hr, hrun, hended, hW⟩ := X.leaveW hS hk (v := some w) (fun h => by rw [hret] at h; cases h) hlk
  exact ⟨_, _, retOut X hx hret hn hi hd hr, hrun, hended, _, _, rfl, hQ, hR, own_monoW hW hC hN⟩
theorem own_endWN {z : Int32} {t : FieldType} (X : Stand p l e R (s.setVm vm0) m args below meth c T locs cells slots) (hx : p.tables.exec = Jvm.exec) (hlk : meth.locks = false) {pc : Nat} {Ls : Array Slot} {rest : List Value} (hret : meth.sig.returnType = some t) (ht : t = .boolean ∨ t = .byte ∨ t = .char ∨ t = .short)
    (hd : decode c.code pc = .ok (.ireturn, 1)) (hS : s.Since vm0 k0) (hk : k0 ≤ T.heap.size) (hC : cells ≤ C) (hN : slots ≤ N) (hR : CHr Z EL s.vm s.heap T.vm T.heap) (hQ : Q (some (.int (nar t z))) T.heap locs) : own_GW p.tables e below (T.setTop (mkF m pc Ls (.int z :: rest))) s C N Z EL Q := by
  obtain ⟨fs, hr, hrun, hended, hW⟩ := X.leaveW hS hk (v := some (.int (nar t z))) (fun h => by rw [hret] at h; cases h) hlk
  exact ⟨_, _, retN X hx hret ht hd hr, hrun, hended, _, _, rfl, hQ, hR, own_monoW hW hC hN⟩
theorem own_endWV (X : Stand p l e R (s.setVm vm0) m args below meth c T locs cells slots) (hx : p.tables.exec = Jvm.exec) (hlk : meth.locks = false) {pc : Nat} {Ls : Array Slot} (hret : meth.sig.returnType = none)
    (hd : decode c.code pc = .ok (.return_, 1)) (hS : s.Since vm0 k0) (hk : k0 ≤ T.heap.size) (hC : cells ≤ C) (hN : slots ≤ N) (hR : CHr Z EL s.vm s.heap T.vm T.heap) (hQ : Q none T.heap locs) : own_GW p.tables e below (T.setTop (mkF m pc Ls [])) s C N Z EL Q := by
  obtain ⟨fs, hr, hrun, hended, hW⟩ := X.leaveW hS hk (v := none) (fun _ => rfl) hlk
  exact ⟨_, _, X.returnOut hx hret hd hr, hrun, hended, _, _, rfl, hQ, hR, own_monoW hW hC hN⟩
end OwnW

/-! a String of known chars -/
theorem own_up (cs : List Int32) (h : ∀ c ∈ cs, ¬ c < 0 ∧ ¬ (255 : Int32) < c) : ∀ c ∈ cs, ¬ c < 0 ∧ ¬ (65535 : Int32) < c := fun c hc => ⟨(h c hc).1, fun q => (h c hc).2 (by
  simp only [Int32.lt_iff_toInt_lt, Int32.reduceToInt] at q ⊢
  omega)⟩
def own_Str (Z : State) (h : Heap) (x : Addr) (cs : List Int32) : Prop := ∃ (t : Addr) (kb : ClassId), Exa Z h x "java/lang/String" ∧ Fld Z h x "java/lang/String" "coder" "B" (.int 0) ∧ Fld Z h x "java/lang/String" "value" "[B" (.ref t) ∧ Arv Z h t kb .byte (Int32.ofNat cs.length) ((cs.map (fun c => c.toInt8.toInt32)).map Value.int) (.int 0) ∧ (∀ c ∈ cs, ¬ c < 0 ∧ ¬ (255 : Int32) < c) ∧ cs.length ≤ 4000
theorem own_Str.ext {Z : State} {h h' : Heap} {x : Addr} {cs : List Int32} (F : own_Str Z h x cs) (E : Ext h h') : own_Str Z h' x cs := by
  obtain ⟨t, kb, a, b, c, d, r⟩ := F
  exact ⟨t, kb, a.ext E, b.ext E, c.ext E, d.ext E, r⟩
theorem own_Str.keep {Z : State} {h h' : Heap} {x : Addr} {cs : List Int32} (F : own_Str Z h x cs) (K : Keep h h' []) : own_Str Z h' x cs := by
  obtain ⟨t, kb, a, b, c, d, r⟩ := F
  exact ⟨t, kb, a.keep K, b.keep K nin0, c.keep K nin0, d.keep K nin0, r⟩

def own_EL : List (String × Nat) := [("com/example/issuerd/issuerd/xml/DomReferencesPinLaw", 7), ("com/example/issuerd/issuerd/xml/DomReferencesPinLaw", 18), ("com/example/issuerd/issuerd/xml/DomReferencesPinLaw", 20), ("com/example/issuerd/issuerd/xml/DomReferencesPinLaw", 22)]
theorem own_EW {Z : State} {a0 : Array Value} (hw : ∀ d ∈ tables_1, d.before a0 Z = true) : EW Z a0 own_EL := (EW.cons (hw _ (List.mem_of_getElem? (i := 1) rfl)) (by decide) (EW.cons (hw _ (List.mem_of_getElem? (i := 11) rfl)) (by decide) (EW.cons (hw _ (List.mem_of_getElem? (i := 13) rfl)) (by decide) (EW.cons (hw _ (List.mem_of_getElem? (i := 14) rfl)) (by decide) EW.nil))))
theorem own_wS {Z : State} {a0 : Array Value} (hw : ∀ d ∈ tables_1, d.before a0 Z = true) : ∀ a ∈ Bundle.stringAtoms, a.before a0 Z = true := fun d hd => hw d ((by decide +kernel : ∀ d ∈ Bundle.stringAtoms, d ∈ tables_1) d hd)
theorem own_words : ∀ d ∈ StrChars.Road.words, d ∈ tables_1 := by decide +kernel
theorem own_wLen {Z : State} {a0 : Array Value} (hw : ∀ d ∈ tables_1, d.before a0 Z = true) : ∀ d ∈ StrChars.Road.wordsLen, d.before a0 Z = true := fun d hd => hw d ((by decide +kernel : ∀ d ∈ StrChars.Road.wordsLen, d ∈ tables_1) d hd)
theorem own_wCh {Z : State} {a0 : Array Value} (hw : ∀ d ∈ tables_1, d.before a0 Z = true) : ∀ d ∈ StrChars.Road.wordsChN, d.before a0 Z = true := fun d hd => hw d ((by decide +kernel : ∀ d ∈ StrChars.Road.wordsChN, d ∈ tables_1) d hd)
/-! plain facts -/
theorem own_n (p : Int32) : p &&& 3 = 0 ∨ p &&& 3 = 1 ∨ p &&& 3 = 2 ∨ p &&& 3 = 3 := by
  have e := Jvm.Kit.i32_mask p 3 (k := 2) (by decide) (by decide)
  have h : (p &&& 3).toInt = 0 ∨ (p &&& 3).toInt = 1 ∨ (p &&& 3).toInt = 2 ∨ (p &&& 3).toInt = 3 := by omega
  rcases h with h | h | h | h
  · exact Or.inl (Int32.toInt_inj.mp (h.trans (by decide)))
  · exact Or.inr (Or.inl (Int32.toInt_inj.mp (h.trans (by decide))))
  · exact Or.inr (Or.inr (Or.inl (Int32.toInt_inj.mp (h.trans (by decide)))))
  · exact Or.inr (Or.inr (Or.inr (Int32.toInt_inj.mp (h.trans (by decide)))))
def own_rg (x : Int32) : Prop := 0 ≤ x.toInt ∧ x.toInt < 128
theorem own_i2c (x : Int32) (h : own_rg x) : x.toUInt32.toUInt16.toUInt32.toInt32 = x := by
  obtain ⟨h1, h2⟩ := h
  apply Int32.toBitVec_inj.mp
  have e : x.toBitVec.toNat < 128 := by
    have q : x.toInt = x.toBitVec.toInt := rfl
    rw [q, BitVec.toInt_eq_toNat_cond] at h1 h2
    split at h1 <;> omega
  apply BitVec.eq_of_toNat_eq
  show ((x.toBitVec.setWidth 16).setWidth 32).toNat = _
  simp only [BitVec.toNat_setWidth]
  omega
theorem own_rgm (p : Int32) : own_rg (p &&& 127) := by
  have e := Jvm.Kit.i32_mask p 127 (k := 7) (by decide) (by decide)
  unfold own_rg; omega
theorem own_rgc (p : Int32) : own_rg ((p &&& 127).toUInt32.toUInt16.toUInt32.toInt32) := by rw [own_i2c _ (own_rgm p)]; exact own_rgm p
theorem own_rg.inb {x : Int32} (h : own_rg x) : ¬ x < 0 ∧ x < 128 := by
  obtain ⟨h1, h2⟩ := h
  constructor
  · simp only [Int32.lt_iff_toInt_lt, Int32.reduceToInt]; omega
  · simp only [Int32.lt_iff_toInt_lt, Int32.reduceToInt]; omega
theorem own_rg.byte {x : Int32} (h : own_rg x) : ¬ x < 0 ∧ ¬ (255 : Int32) < x := by
  obtain ⟨h1, h2⟩ := h
  constructor
  · simp only [Int32.lt_iff_toInt_lt, Int32.reduceToInt]; omega
  · simp only [Int32.lt_iff_toInt_lt, Int32.reduceToInt]; omega
theorem own_rg.nar {x : Int32} (h : own_rg x) : nar .char x = x := own_i2c x h
theorem own_narb (x : Int32) : x.toInt8.toInt32.toInt8.toInt32 = x.toInt8.toInt32 := by
  rw [Int8.toInt8_toInt32]
theorem own_rg.nat {x : Int32} (h : own_rg x) : x.toNatClampNeg < 128 := by
  obtain ⟨h1, h2⟩ := h
  show x.toInt.toNat < 128
  omega
theorem own_rg.inj {x y : Int32} (h : own_rg x) (g : own_rg y) (q : x.toNatClampNeg = y.toNatClampNeg) : x = y := by
  obtain ⟨h1, h2⟩ := h
  obtain ⟨g1, g2⟩ := g
  have q' : x.toInt.toNat = y.toInt.toNat := q
  exact Int32.toInt_inj.mp (by omega)
/-! the table -/
def own_set (vs : List Value) (x : Int32) (v : Value) : List Value := vs.set x.toNatClampNeg v
def own_t0 : List Value := List.replicate 128 Value.null
theorem own_t0_len : own_t0.length = 128 := by unfold own_t0; exact List.length_replicate
theorem own_set_len (vs : List Value) (x : Int32) (v : Value) : (own_set vs x v).length = vs.length := by unfold own_set; exact List.length_set
theorem own_t0_get (i : Nat) : own_t0.getD i Value.null = Value.null := by
  unfold own_t0
  rw [List.getD_eq_getElem?_getD, List.getElem?_replicate]
  split <;> rfl
theorem own_set_yes (vs : List Value) (x q : Int32) (v : Value) (hx : own_rg x) (hl : vs.length = 128) (e : x = q) : (own_set vs x v).getD q.toNatClampNeg Value.null = v := by
  subst e
  unfold own_set
  rw [List.getD_eq_getElem?_getD, List.getElem?_set_self (by rw [hl]; exact hx.nat)]
  rfl
theorem own_set_no (vs : List Value) (x q : Int32) (v : Value) (hx : own_rg x) (hq : own_rg q) (e : ¬ x = q) : (own_set vs x v).getD q.toNatClampNeg Value.null = vs.getD q.toNatClampNeg Value.null := by
  unfold own_set
  rw [List.getD_eq_getElem?_getD, List.getElem?_set_ne (fun h => e (hx.inj hq h)), ← List.getD_eq_getElem?_getD]

theorem d18_0 : decode jdk_43_method_3_code 0 = .ok (.iload_n 0, 1) := by decide +kernel
theorem d18_1 : decode jdk_43_method_3_code 1 = .ok (.sipush 255, 3) := by decide +kernel
theorem d18_4 : decode jdk_43_method_3_code 4 = .ok (.if_icmp .gt 7, 3) := by decide +kernel
theorem d18_7 : decode jdk_43_method_3_code 7 = .ok (.iconst 1, 1) := by decide +kernel
theorem d18_8 : decode jdk_43_method_3_code 8 = .ok (.goto 4, 3) := by decide +kernel
theorem d18_11 : decode jdk_43_method_3_code 11 = .ok (.iconst 0, 1) := by decide +kernel
theorem d18_12 : decode jdk_43_method_3_code 12 = .ok (.ireturn, 1) := by decide +kernel
def own_can_12 (p0 : Int32) (w0 : Int32) : Int32 := (w0 &&& 1)
def own_can (p0 : Int32) : Int32 := (if (255 : Int32) < p0 then (own_can_12 p0 (0 : Int32)) else (own_can_12 p0 (1 : Int32)))
theorem pn_0 : plainName "java/lang/StringLatin1" = true := by first | (simp [plainName, overriddenIn]; done) | decide +kernel
theorem ef_18 (m : MethodId) (p0 : Int32) : entryFrame m #[(.int p0)] 1 = mkF m 0 #[.val (.int p0)] [] := by first | (simp [entryFrame, mkF, argsToLocals, Value.category]; done) | rfl
set_option maxRecDepth 65536 in
set_option maxHeartbeats 40000000 in
theorem rm18 (l : Launch) (Z : State) (a0 : Array Value) (hw : ∀ d ∈ tables_1, d.before a0 Z = true) (ws : List Jvm.Cond) (p0 : Int32) (h0 : Heap) (n0 : Nat) :
    MetFree l (⟨"java/lang/StringLatin1", "canEncode", "(C)Z"⟩ : MethodName) (head1 (Jvm.Cond.code (⟨"java/lang/StringLatin1", "canEncode", "(C)Z"⟩ : MethodName) jdk_43_method_3_code 1 (some .boolean) :: ws) ({ frames := 0, cells := 0, slots := 0, locals := 0 } : Room)) (fun a U => a = #[(.int p0)] ∧ Z.Warmed39 U.vm ∧ U.heap = h0) (fun _ _ _ _ _ => True) (fun _ U o U' => ∃ v L, o = .returned v ∧ (own_P n0 h0 (some (.int (own_can p0)))) v U'.heap L ∧ FrameEnd U o U' L ({ frames := 0, cells := 0, slots := 0, locals := 0 } : Room).cells ({ frames := 0, cells := 0, slots := 0, locals := 0 } : Room).slots) := by
  refine MetFree.of_bodySF (plainFor_of_name pn_0) hisR ?_
  intro p e s m args below meth c s₁ Bd hml0 hP hK
  obtain ⟨rfl, hZ, hh⟩ := hP
  have hx := Bd.exec
  have hby := Bd.bytes
  have hml : c.maxLocals = 1 := hml0
  have hown : s.vm.findClass "java/lang/StringLatin1" = some m.cls := findClass_of_methodNamed Bd.named
  have hnm := (name_of_methodNamed Bd.named Bd.method).1
  have hlk : meth.locks = false := BodyLoose.notSynchronized Bd
  have X0 : Stand p l e ({ frames := 0, cells := 0, slots := 0, locals := 0 } : Room) s m #[(.int p0)] below meth c s₁ [] 0 0 := Stand.of_body Bd
  have e0 : s₁.heap = h0 := by rw [← hh, Bd.state]; rfl
  have N0 := Fr.nil n0
  have J12 : ∀ (T : State) (Lc : List Loc) (X : Stand p l e ({ frames := 0, cells := 0, slots := 0, locals := 0 } : Room) s m #[(.int p0)] below meth c T Lc 0 0) (eT : T.heap = h0) (N : Fr n0 Lc) (w0 : Int32) , own_G p.tables e below (T.setTop (mkF m 12 #[.val (.int p0)] [(.int w0)])) s ({ frames := 0, cells := 0, slots := 0, locals := 0 } : Room).cells ({ frames := 0, cells := 0, slots := 0, locals := 0 } : Room).slots (own_P n0 h0 (some (.int (own_can_12 p0 w0)))) := by
    intro T Lc X eT N w0 
    show own_G _ _ _ _ _ _ _ (own_P n0 h0 (some (.int ((w0 &&& 1)))))
    exact own_endN X hx hlk (t := .boolean) Bd.returns (by simp) (hb hby d18_12) (by decide) (by decide) ⟨rfl, N, eT⟩
  show own_G p.tables e below (s₁.setTop (entryFrame m #[(.int p0)] 1)) s ({ frames := 0, cells := 0, slots := 0, locals := 0 } : Room).cells ({ frames := 0, cells := 0, slots := 0, locals := 0 } : Room).slots (own_P n0 h0 (some (.int ((if (255 : Int32) < p0 then (own_can_12 p0 (0 : Int32)) else (own_can_12 p0 (1 : Int32)))))))
  refine own_go (fun _ k => castTop (ef_18 m p0) k) ?_
  refine own_go (fun _ k => XS.iloadN X0.here hx rfl (hb hby d18_0) rfl k) ?_
  show own_G _ _ _ (s₁.setTop (mkF m 1 #[.val (.int p0)] [(.int p0)])) _ _ _ _
  refine own_go (fun _ k => XS.sipush X0.here hx rfl (hb hby d18_1) k) ?_
  show own_G _ _ _ (s₁.setTop (mkF m 4 #[.val (.int p0)] [(.int (255 : Int32)), (.int p0)])) _ _ _ _
  by_cases hc1 : (255 : Int32) < p0
  · refine own_itI hc1 ?_
    refine own_go (fun _ k => XS.icmpYes X0.here hx rfl (pc0 := 4) (pc' := 11) rfl (hb hby d18_4) rfl (tlt hc1).2.2.1 (by decide) (by decide) k) ?_
    show own_G _ _ _ (s₁.setTop (mkF m 11 #[.val (.int p0)] [])) _ _ _ _
    refine own_go (fun _ k => XS.iconst X0.here hx rfl (hb hby d18_11) k) ?_
    show own_G _ _ _ (s₁.setTop (mkF m 12 #[.val (.int p0)] [(.int (0 : Int32))])) _ _ _ _
    exact J12 _ _ X0 e0 N0 (0 : Int32) 
  · refine own_ifI hc1 ?_
    refine own_go (fun _ k => XS.icmpNo X0.here hx rfl (hb hby d18_4) rfl (flt hc1).2.2.1 k) ?_
    show own_G _ _ _ (s₁.setTop (mkF m 7 #[.val (.int p0)] [])) _ _ _ _
    refine own_go (fun _ k => XS.iconst X0.here hx rfl (hb hby d18_7) k) ?_
    show own_G _ _ _ (s₁.setTop (mkF m 8 #[.val (.int p0)] [(.int (1 : Int32))])) _ _ _ _
    refine own_go (fun _ k => XS.goto X0.here hx rfl (pc0 := 8) (pc' := 12) rfl (hb hby d18_8) (by decide) (by decide) k) ?_
    show own_G _ _ _ (s₁.setTop (mkF m 12 #[.val (.int p0)] [(.int (1 : Int32))])) _ _ _ _
    exact J12 _ _ X0 e0 N0 (1 : Int32) 
theorem d19_0 : decode jdk_43_method_46_code 0 = .ok (.iconst 1, 1) := by decide +kernel
theorem d19_1 : decode jdk_43_method_46_code 1 = .ok (.newarray .byte, 2) := by decide +kernel
theorem d19_3 : decode jdk_43_method_46_code 3 = .ok (.dup, 1) := by decide +kernel
theorem d19_4 : decode jdk_43_method_46_code 4 = .ok (.iconst 0, 1) := by decide +kernel
theorem d19_5 : decode jdk_43_method_46_code 5 = .ok (.iload_n 0, 1) := by decide +kernel
theorem d19_6 : decode jdk_43_method_46_code 6 = .ok (.i2b, 1) := by decide +kernel
theorem d19_7 : decode jdk_43_method_46_code 7 = .ok (.bastore, 1) := by decide +kernel
theorem d19_8 : decode jdk_43_method_46_code 8 = .ok (.areturn, 1) := by decide +kernel
theorem ef_19 (m : MethodId) (p0 : Int32) : entryFrame m #[(.int p0)] 1 = mkF m 0 #[.val (.int p0)] [] := by first | (simp [entryFrame, mkF, argsToLocals, Value.category]; done) | rfl
def Q19 (Z : State) (p0 : Int32) (h0 : Heap) (n0 : Nat) (v : Option Value) (h : Heap) (L : List Loc) : Prop := ∃ (b : Addr) (kb : ClassId), v = some (.ref b) ∧ Fr n0 L ∧ Keep h0 h [] ∧ h0.size ≤ b ∧ Arv Z h b kb .byte (1 : Int32) [(.int p0.toInt8.toInt32)] (.int (0 : Int32))
set_option maxRecDepth 65536 in
set_option maxHeartbeats 40000000 in
theorem rm19 (l : Launch) (Z : State) (a0 : Array Value) (hw : ∀ d ∈ tables_1, d.before a0 Z = true) (ws : List Jvm.Cond) (p0 : Int32) (h0 : Heap) (n0 : Nat) (Z0 : n0 ≤ h0.size) :
    MetFree l (⟨"java/lang/StringLatin1", "toBytes", "(C)[B"⟩ : MethodName) (head1 (Jvm.Cond.code (⟨"java/lang/StringLatin1", "toBytes", "(C)[B"⟩ : MethodName) jdk_43_method_46_code 1 (some (.array .byte)) :: ws) ({ frames := 0, cells := 1, slots := 1, locals := 0 } : Room)) (fun a U => a = #[(.int p0)] ∧ Z.Warmed39 U.vm ∧ U.heap = h0) (fun _ _ _ _ _ => True) (fun _ U o U' => ∃ v L, o = .returned v ∧ (Q19 Z p0 h0 n0) v U'.heap L ∧ FrameEnd U o U' L ({ frames := 0, cells := 1, slots := 1, locals := 0 } : Room).cells ({ frames := 0, cells := 1, slots := 1, locals := 0 } : Room).slots) := by
  refine MetFree.of_bodySF (plainFor_of_name pn_0) hisR ?_
  intro p e s m args below meth c s₁ Bd hml0 hP hK
  obtain ⟨rfl, hZ, hh⟩ := hP
  have hx := Bd.exec
  have hby := Bd.bytes
  have hml : c.maxLocals = 1 := hml0
  have hown : s.vm.findClass "java/lang/StringLatin1" = some m.cls := findClass_of_methodNamed Bd.named
  have hnm := (name_of_methodNamed Bd.named Bd.method).1
  have hlk : meth.locks = false := BodyLoose.notSynchronized Bd
  have X0 : Stand p l e ({ frames := 0, cells := 1, slots := 1, locals := 0 } : Room) s m #[(.int p0)] below meth c s₁ [] 0 0 := Stand.of_body Bd
  have e0 : s₁.heap = h0 := by rw [← hh, Bd.state]; rfl
  have N0 := Fr.nil n0
  have K0 : Keep h0 h0 [] := Keep.refl h0 []
  show own_G p.tables e below (s₁.setTop (entryFrame m #[(.int p0)] 1)) s ({ frames := 0, cells := 1, slots := 1, locals := 0 } : Room).cells ({ frames := 0, cells := 1, slots := 1, locals := 0 } : Room).slots (Q19 Z p0 h0 n0)
  refine own_go (fun _ k => castTop (ef_19 m p0) k) ?_
  show own_G _ _ _ (s₁.setTop (mkF m 0 #[.val (.int p0)] [])) _ _ _ _
  refine own_go (fun _ k => XS.iconst X0.here hx rfl (hb hby d19_0) k) ?_
  show own_G _ _ _ (s₁.setTop (mkF m 1 #[.val (.int p0)] [(.int (1 : Int32))])) _ _ _ _
  obtain ⟨T1, h1, k1, X1, e1, E1, A1, st1⟩ := newP X0 hx hZ (hw _ (List.mem_of_getElem? (i := 4) rfl)) e0 (g := (mkF m 1 #[.val (.int p0)] [(.int (1 : Int32))])) rfl (hb hby d19_1) rfl (by decide) (cap := 1) (by decide) (by decide) (by decide) (by decide)
  obtain ⟨b1, g1⟩ : ∃ z, z = h0.size := ⟨_, rfl⟩
  rw [← g1] at A1 st1
  have gg1 : n0 ≤ b1 := Nat.le_trans Z0 (Nat.le_of_eq g1.symm)
  have sz1_0 : h0.size ≤ b1 := Nat.le_trans K0.1 (Nat.le_of_eq g1.symm)
  have Zs1 : n0 ≤ h1.size := Nat.le_trans Z0 E1.1
  have K1_0 : Keep h0 h1 [] := K0.ext E1
  have f2 : Arv Z h1 b1 k1 .byte (1 : Int32) [(.int (0 : Int32))] (.int (0 : Int32)) := (Arv.new A1 (by decide)).pad (pad_rep [] (.int (0 : Int32)) 1)
  refine own_go (fun _ k => st1 _ k) ?_
  show own_G _ _ _ (T1.setTop (mkF m 3 #[.val (.int p0)] [(.ref b1)])) _ _ _ _
  refine own_go (fun _ k => XS.dup X1.here hx rfl (hb hby d19_3) rfl rfl k) ?_
  show own_G _ _ _ (T1.setTop (mkF m 4 #[.val (.int p0)] [(.ref b1), (.ref b1)])) _ _ _ _
  refine own_go (fun _ k => XS.iconst X1.here hx rfl (hb hby d19_4) k) ?_
  show own_G _ _ _ (T1.setTop (mkF m 5 #[.val (.int p0)] [(.int (0 : Int32)), (.ref b1), (.ref b1)])) _ _ _ _
  refine own_go (fun _ k => XS.iloadN X1.here hx rfl (hb hby d19_5) rfl k) ?_
  show own_G _ _ _ (T1.setTop (mkF m 6 #[.val (.int p0)] [(.int p0), (.int (0 : Int32)), (.ref b1), (.ref b1)])) _ _ _ _
  refine own_go (fun _ k => XS.i2b X1.here hx rfl (hb hby d19_6) rfl k) ?_
  show own_G _ _ _ (T1.setTop (mkF m 7 #[.val (.int p0)] [(.int p0.toInt8.toInt32), (.int (0 : Int32)), (.ref b1), (.ref b1)])) _ _ _ _
  obtain ⟨cl3, Ar3, q3, S3, Ng3, H3, G3⟩ := id f2
  have in3 : ¬ ((0 : Int32) < 0 ∨ cl3.slots.size ≤ ((0 : Int32)).toNatClampNeg) := inb_of S3 ⟨by decide, by decide⟩
  obtain ⟨T3, h3, X3, e3, W3, st3⟩ := stB X1 hx hZ e1 Ar3 (j := (0 : Int32)) in3 (g := (mkF m 7 #[.val (.int p0)] [(.int p0.toInt8.toInt32), (.int (0 : Int32)), (.ref b1), (.ref b1)])) rfl rfl (hb hby d19_7)
  have N3 := Fr.snoc X3 N0 gg1
  have Zs3 : n0 ≤ h3.size := Nat.le_trans Zs1 (Keep.of_wr W3).1
  have K3_0 : Keep h0 h3 [] := K1_0.wr W3 (Or.inr sz1_0)
  have f4 : Arv Z h3 b1 k1 .byte (1 : Int32) [(.int p0.toInt8.toInt32)] (.int (0 : Int32)) := (by have q := Arv.set Ar3 q3 S3 Ng3 H3 G3 (fits_nar_byte _) W3 0 rfl (Nat.le_of_ble_eq_true rfl); rw [(own_narb p0)] at q; exact q)
  refine own_go (fun _ k => st3 _ k) ?_
  show own_G _ _ _ (T3.setTop (mkF m 8 #[.val (.int p0)] [(.ref b1)])) _ _ _ _
  exact own_endR X3 hx hlk Bd.returns rfl rfl rfl (hb hby d19_8) (by decide) (by decide) (Q := (Q19 Z p0 h0 n0)) (by rw [e3]; exact ⟨b1, k1, rfl, N3, K3_0, sz1_0, f4⟩)
theorem d20_0 : decode jdk_42_method_151_code 0 = .ok (.aload_n 0, 1) := by decide +kernel
theorem d20_1 : decode jdk_42_method_151_code 1 = .ok (.invokespecial 1, 3) := by decide +kernel
theorem d20_4 : decode jdk_42_method_151_code 4 = .ok (.aload_n 0, 1) := by decide +kernel
theorem d20_5 : decode jdk_42_method_151_code 5 = .ok (.aload_n 1, 1) := by decide +kernel
theorem d20_6 : decode jdk_42_method_151_code 6 = .ok (.putfield 9, 3) := by decide +kernel
theorem d20_9 : decode jdk_42_method_151_code 9 = .ok (.aload_n 0, 1) := by decide +kernel
theorem d20_10 : decode jdk_42_method_151_code 10 = .ok (.iload_n 2, 1) := by decide +kernel
theorem d20_11 : decode jdk_42_method_151_code 11 = .ok (.putfield 15, 3) := by decide +kernel
theorem d20_14 : decode jdk_42_method_151_code 14 = .ok (.return_, 1) := by decide +kernel
theorem pn_1 : plainName "java/lang/String" = true := by first | (simp [plainName, overriddenIn]; done) | decide +kernel
theorem ef_20 (m : MethodId) (p0 : Addr) (p1 : Addr) : entryFrame m #[(.ref p0), (.ref p1), (.int (0 : Int32))] 3 = mkF m 0 #[.val (.ref p0), .val (.ref p1), .val (.int (0 : Int32))] [] := by first | (simp [entryFrame, mkF, argsToLocals, Value.category]; done) | rfl
def Q20 (Z : State) (p0 : Addr) (p1 : Addr) (h0 : Heap) (n0 : Nat) (v : Option Value) (h : Heap) (L : List Loc) : Prop := v = none ∧ Fr n0 L ∧ Keep h0 h [p0] ∧ Exa Z h p0 "java/lang/String" ∧ Fld Z h p0 "java/lang/String" "value" "[B" (.ref p1) ∧ Fld Z h p0 "java/lang/String" "coder" "B" (.int (0 : Int32))
set_option maxRecDepth 65536 in
set_option maxHeartbeats 40000000 in
theorem rm20 (l : Launch) (Z : State) (a0 : Array Value) (hw : ∀ d ∈ tables_1, d.before a0 Z = true) (ws : List Jvm.Cond) (p0 : Addr) (p1 : Addr) (h0 : Heap) (n0 : Nat) (Z0 : n0 ≤ h0.size) (P_E_p0 : Exa Z h0 p0 "java/lang/String") (P_F_p0_value : Fld Z h0 p0 "java/lang/String" "value" "[B" .null) (P_F_p0_coder : Fld Z h0 p0 "java/lang/String" "coder" "B" (.int (0 : Int32))) (g_p0 : n0 ≤ p0) :
    MetFree l (⟨"java/lang/String", "<init>", "([BB)V"⟩ : MethodName) (head1 (Jvm.Cond.code (⟨"java/lang/String", "<init>", "([BB)V"⟩ : MethodName) jdk_42_method_151_code 3 none :: ws) ({ frames := 1, cells := 0, slots := 0, locals := 12 } : Room)) (fun a U => a = #[(.ref p0), (.ref p1), (.int (0 : Int32))] ∧ Z.Warmed39 U.vm ∧ U.heap = h0) (fun _ _ _ _ _ => True) (fun _ U o U' => ∃ v L, o = .returned v ∧ (Q20 Z p0 p1 h0 n0) v U'.heap L ∧ FrameEnd U o U' L ({ frames := 1, cells := 0, slots := 0, locals := 12 } : Room).cells ({ frames := 1, cells := 0, slots := 0, locals := 12 } : Room).slots) := by
  refine MetFree.of_bodySF (plainFor_of_name pn_1) hisR ?_
  intro p e s m args below meth c s₁ Bd hml0 hP hK
  obtain ⟨rfl, hZ, hh⟩ := hP
  have hx := Bd.exec
  have hby := Bd.bytes
  have hml : c.maxLocals = 3 := hml0
  have hown : s.vm.findClass "java/lang/String" = some m.cls := findClass_of_methodNamed Bd.named
  have hnm := (name_of_methodNamed Bd.named Bd.method).1
  have hlk : meth.locks = false := BodyLoose.notSynchronized Bd
  have X0 : Stand p l e ({ frames := 1, cells := 0, slots := 0, locals := 12 } : Room) s m #[(.ref p0), (.ref p1), (.int (0 : Int32))] below meth c s₁ [] 0 0 := Stand.of_body Bd
  have e0 : s₁.heap = h0 := by rw [← hh, Bd.state]; rfl
  have N0 := Fr.nil n0
  have K0 : Keep h0 h0 [p0] := Keep.refl h0 [p0]
  show own_G p.tables e below (s₁.setTop (entryFrame m #[(.ref p0), (.ref p1), (.int (0 : Int32))] 3)) s ({ frames := 1, cells := 0, slots := 0, locals := 12 } : Room).cells ({ frames := 1, cells := 0, slots := 0, locals := 12 } : Room).slots (Q20 Z p0 p1 h0 n0)
  refine own_go (fun _ k => castTop (ef_20 m p0 p1) k) ?_
  show own_G _ _ _ (s₁.setTop (mkF m 0 #[.val (.ref p0), .val (.ref p1), .val (.int (0 : Int32))] [])) _ _ _ _
  refine own_go (fun _ k => XS.aloadN X0.here hx rfl (hb hby d20_0) rfl rfl k) ?_
  show own_G _ _ _ (s₁.setTop (mkF m 1 #[.val (.ref p0), .val (.ref p1), .val (.int (0 : Int32))] [(.ref p0)])) _ _ _ _
  obtain ⟨T1, X1, e1, st1⟩ := initO X0 hx hZ hown (hw _ (List.mem_of_getElem? (i := 44) rfl)) (hw _ (List.mem_of_getElem? (i := 45) rfl)) (hw _ (List.mem_of_getElem? (i := 46) rfl)) e0 (g := (mkF m 1 #[.val (.ref p0), .val (.ref p1), .val (.int (0 : Int32))] [(.ref p0)])) rfl (by rw [hml]; rfl) rfl (hb hby d20_1) (by decide) (W := 0) (by show 2 * 0 + _ ≤ _; exact Nat.le_of_eq rfl) (by decide)
  refine own_go (fun _ k => st1 _ k) ?_
  show own_G _ _ _ (T1.setTop (mkF m 4 #[.val (.ref p0), .val (.ref p1), .val (.int (0 : Int32))] [])) _ _ _ _
  refine own_go (fun _ k => XS.aloadN X1.here hx rfl (hb hby d20_4) rfl rfl k) ?_
  show own_G _ _ _ (T1.setTop (mkF m 5 #[.val (.ref p0), .val (.ref p1), .val (.int (0 : Int32))] [(.ref p0)])) _ _ _ _
  refine own_go (fun _ k => XS.aloadN X1.here hx rfl (hb hby d20_5) rfl rfl k) ?_
  show own_G _ _ _ (T1.setTop (mkF m 6 #[.val (.ref p0), .val (.ref p1), .val (.int (0 : Int32))] [(.ref p1), (.ref p0)])) _ _ _ _
  obtain ⟨T2, h2, X2, e2, W2, st2⟩ := putF X1 hx hZ hown (host := "") (Or.inl (hw _ (List.mem_of_getElem? (i := 24) rfl))) Via.refl e1 P_F_p0_value P_E_p0 (Or.inr ⟨(hw _ (List.mem_of_getElem? (i := 5) rfl)), rfl, hnm⟩) (hw _ (List.mem_of_getElem? (i := 3) rfl)) (ty := (.array .byte)) (by decide) rfl rfl (g := (mkF m 6 #[.val (.ref p0), .val (.ref p1), .val (.int (0 : Int32))] [(.ref p1), (.ref p0)])) rfl rfl (hb hby d20_6)
  have N2 := Fr.snoc X2 N0 g_p0
  have Zs2 : n0 ≤ h2.size := Nat.le_trans Z0 (Keep.of_wr W2).1
  have K2_0 : Keep h0 h2 [p0] := K0.wr W2 (Or.inl (List.mem_of_getElem? (i := 0) rfl))
  have f3 : Exa Z h2 p0 "java/lang/String" := P_E_p0.wr W2
  have f4 : Fld Z h2 p0 "java/lang/String" "value" "[B" (.ref p1) := P_F_p0_value.same W2
  have f5 : Fld Z h2 p0 "java/lang/String" "coder" "B" (.int (0 : Int32)) := P_F_p0_coder.other W2 (Or.inr (slot_ne (Or.inr (hw _ (List.mem_of_getElem? (i := 6) rfl))) (Or.inr (hw _ (List.mem_of_getElem? (i := 5) rfl))) (by decide) (t := .byte) (t' := (.array .byte)) (by decide) (by decide)))
  refine own_go (fun _ k => st2 _ k) ?_
  show own_G _ _ _ (T2.setTop (mkF m 9 #[.val (.ref p0), .val (.ref p1), .val (.int (0 : Int32))] [])) _ _ _ _
  refine own_go (fun _ k => XS.aloadN X2.here hx rfl (hb hby d20_9) rfl rfl k) ?_
  show own_G _ _ _ (T2.setTop (mkF m 10 #[.val (.ref p0), .val (.ref p1), .val (.int (0 : Int32))] [(.ref p0)])) _ _ _ _
  refine own_go (fun _ k => XS.iloadN X2.here hx rfl (hb hby d20_10) rfl k) ?_
  show own_G _ _ _ (T2.setTop (mkF m 11 #[.val (.ref p0), .val (.ref p1), .val (.int (0 : Int32))] [(.int (0 : Int32)), (.ref p0)])) _ _ _ _
  obtain ⟨T6, h6, X6, e6, W6, st6⟩ := putFN X2 hx hZ hown (hw _ (List.mem_of_getElem? (i := 37) rfl)) Via.refl e2 f5 f3 (Or.inr ⟨(hw _ (List.mem_of_getElem? (i := 6) rfl)), rfl, hnm⟩) (hw _ (List.mem_of_getElem? (i := 3) rfl)) (ty := .byte) (v' := (.int (0 : Int32))) (by decide) rfl rfl (g := (mkF m 11 #[.val (.ref p0), .val (.ref p1), .val (.int (0 : Int32))] [(.int (0 : Int32)), (.ref p0)])) rfl rfl (hb hby d20_11)
  have N6 := Fr.snoc X6 N2 g_p0
  have Zs6 : n0 ≤ h6.size := Nat.le_trans Zs2 (Keep.of_wr W6).1
  have K6_0 : Keep h0 h6 [p0] := K2_0.wr W6 (Or.inl (List.mem_of_getElem? (i := 0) rfl))
  have f7 : Exa Z h6 p0 "java/lang/String" := f3.wr W6
  have f8 : Fld Z h6 p0 "java/lang/String" "value" "[B" (.ref p1) := f4.other W6 (Or.inr (slot_ne (Or.inr (hw _ (List.mem_of_getElem? (i := 5) rfl))) (Or.inr (hw _ (List.mem_of_getElem? (i := 6) rfl))) (by decide) (t := (.array .byte)) (t' := .byte) (by decide) (by decide)))
  have f9 : Fld Z h6 p0 "java/lang/String" "coder" "B" (.int (0 : Int32)) := f5.same W6
  refine own_go (fun _ k => st6 _ k) ?_
  show own_G _ _ _ (T6.setTop (mkF m 14 #[.val (.ref p0), .val (.ref p1), .val (.int (0 : Int32))] [])) _ _ _ _
  exact own_endV X6 hx hlk Bd.returns (hb hby d20_14) (by decide) (by decide) (Q := (Q20 Z p0 p1 h0 n0)) (by rw [e6]; exact ⟨rfl, N6, K6_0, f7, f8, f9⟩)
theorem d17_0 : decode jdk_42_method_139_code 0 = .ok (.getstatic 38, 3) := by decide +kernel
theorem d17_3 : decode jdk_42_method_139_code 3 = .ok (.ifCond .eq 23, 3) := by decide +kernel
theorem d17_6 : decode jdk_42_method_139_code 6 = .ok (.iload_n 0, 1) := by decide +kernel
theorem d17_7 : decode jdk_42_method_139_code 7 = .ok (.invokestatic 1015, 3) := by decide +kernel
theorem d17_10 : decode jdk_42_method_139_code 10 = .ok (.ifCond .eq 16, 3) := by decide +kernel
theorem d17_13 : decode jdk_42_method_139_code 13 = .ok (.new 10, 3) := by decide +kernel
theorem d17_16 : decode jdk_42_method_139_code 16 = .ok (.dup, 1) := by decide +kernel
theorem d17_17 : decode jdk_42_method_139_code 17 = .ok (.iload_n 0, 1) := by decide +kernel
theorem d17_18 : decode jdk_42_method_139_code 18 = .ok (.invokestatic 1018, 3) := by decide +kernel
theorem d17_21 : decode jdk_42_method_139_code 21 = .ok (.iconst 0, 1) := by decide +kernel
theorem d17_22 : decode jdk_42_method_139_code 22 = .ok (.invokespecial 209, 3) := by decide +kernel
theorem d17_25 : decode jdk_42_method_139_code 25 = .ok (.areturn, 1) := by decide +kernel
theorem d17_26 : decode jdk_42_method_139_code 26 = .ok (.new 10, 3) := by decide +kernel
theorem d17_29 : decode jdk_42_method_139_code 29 = .ok (.dup, 1) := by decide +kernel
theorem d17_30 : decode jdk_42_method_139_code 30 = .ok (.iload_n 0, 1) := by decide +kernel
theorem d17_31 : decode jdk_42_method_139_code 31 = .ok (.invokestatic 1021, 3) := by decide +kernel
theorem d17_34 : decode jdk_42_method_139_code 34 = .ok (.iconst 1, 1) := by decide +kernel
theorem d17_35 : decode jdk_42_method_139_code 35 = .ok (.invokespecial 209, 3) := by decide +kernel
theorem d17_38 : decode jdk_42_method_139_code 38 = .ok (.areturn, 1) := by decide +kernel
theorem pd_0 : parseMethodDescriptor "(C)Z" = some ⟨[.char], some .boolean⟩ := by decide +kernel
theorem pd_1 : parseMethodDescriptor "(C)[B" = some ⟨[.char], some (.array .byte)⟩ := by decide +kernel
theorem pd_2 : parseMethodDescriptor "([BB)V" = some ⟨[(.array .byte), .byte], none⟩ := by decide +kernel
theorem ef_17 (m : MethodId) (p0 : Int32) : entryFrame m #[(.int p0)] 1 = mkF m 0 #[.val (.int p0)] [] := by first | (simp [entryFrame, mkF, argsToLocals, Value.category]; done) | rfl
def Q17 (Z : State) (p0 : Int32) (zc : Int32) (h0 : Heap) (n0 : Nat) (v : Option Value) (h : Heap) (L : List Loc) : Prop := ∃ (b : Addr) (u : Addr) (kb : ClassId), v = some (.ref b) ∧ Fr n0 L ∧ Keep h0 h [] ∧ h0.size ≤ b ∧ h0.size ≤ u ∧ Exa Z h b "java/lang/String" ∧ Fld Z h b "java/lang/String" "coder" "B" (.int (0 : Int32)) ∧ Fld Z h b "java/lang/String" "value" "[B" (.ref u) ∧ Arv Z h u kb .byte (1 : Int32) [(.int p0.toInt8.toInt32)] (.int (0 : Int32))
set_option maxRecDepth 65536 in
set_option maxHeartbeats 40000000 in
theorem rm17 (l : Launch) (Z : State) (a0 : Array Value) (hw : ∀ d ∈ tables_1, d.before a0 Z = true) (ws : List Jvm.Cond) (p0 : Int32) (zc : Int32) (h0 : Heap) (n0 : Nat) (Z0 : n0 ≤ h0.size) (P_Old : Old Z n0 h0) (P_ZS_java_lang_String_COMPACT_STRINGS : Sta Z Z.heap "java/lang/String" "COMPACT_STRINGS" "Z" (.int zc)) (hcs : ¬ zc = 0) (hch : ¬ own_can p0 = 0) :
    MetFree l (⟨"java/lang/String", "valueOf", "(C)Ljava/lang/String;"⟩ : MethodName) (head1 (Jvm.Cond.code (⟨"java/lang/String", "valueOf", "(C)Ljava/lang/String;"⟩ : MethodName) jdk_42_method_139_code 1 (some (.object "java/lang/String")) :: ws) ({ frames := 2, cells := 2, slots := 5, locals := 27 } : Room)) (fun a U => a = #[(.int p0)] ∧ Z.Warmed39 U.vm ∧ U.heap = h0) (fun _ _ _ _ _ => True) (fun _ U o U' => ∃ v L, o = .returned v ∧ (Q17 Z p0 zc h0 n0) v U'.heap L ∧ FrameEnd U o U' L ({ frames := 2, cells := 2, slots := 5, locals := 27 } : Room).cells ({ frames := 2, cells := 2, slots := 5, locals := 27 } : Room).slots) := by
  refine MetFree.of_bodySF (plainFor_of_name pn_1) hisR ?_
  intro p e s m args below meth c s₁ Bd hml0 hP hK
  obtain ⟨rfl, hZ, hh⟩ := hP
  have hx := Bd.exec
  have hby := Bd.bytes
  have hml : c.maxLocals = 1 := hml0
  have hown : s.vm.findClass "java/lang/String" = some m.cls := findClass_of_methodNamed Bd.named
  have hnm := (name_of_methodNamed Bd.named Bd.method).1
  have hlk : meth.locks = false := BodyLoose.notSynchronized Bd
  have X0 : Stand p l e ({ frames := 2, cells := 2, slots := 5, locals := 27 } : Room) s m #[(.int p0)] below meth c s₁ [] 0 0 := Stand.of_body Bd
  have e0 : s₁.heap = h0 := by rw [← hh, Bd.state]; rfl
  have N0 := Fr.nil n0
  have K0 : Keep h0 h0 [] := Keep.refl h0 []
  show own_G p.tables e below (s₁.setTop (entryFrame m #[(.int p0)] 1)) s ({ frames := 2, cells := 2, slots := 5, locals := 27 } : Room).cells ({ frames := 2, cells := 2, slots := 5, locals := 27 } : Room).slots (Q17 Z p0 zc h0 n0)
  refine own_go (fun _ k => castTop (ef_17 m p0) k) ?_
  show own_G _ _ _ (s₁.setTop (mkF m 0 #[.val (.int p0)] [])) _ _ _ _
  obtain ⟨T1, X1, e1, st1⟩ := getS2 X0 hx hZ hown (host := "") (Or.inl (hw _ (List.mem_of_getElem? (i := 36) rfl))) Via.refl e0 (P_ZS_java_lang_String_COMPACT_STRINGS.ext P_Old.2) (g := (mkF m 0 #[.val (.int p0)] [])) rfl (hb hby d17_0)
  refine own_go (fun _ k => st1 _ k) ?_
  show own_G _ _ _ (T1.setTop (mkF m 3 #[.val (.int p0)] [(.int zc)])) _ _ _ _
  have hc2 : ¬ (zc = (0 : Int32)) := hcs
  refine own_go (fun _ k => XS.ifNo X1.here hx rfl (hb hby d17_3) rfl ((if0 _ _).trans (feq hc2).1) k) ?_
  show own_G _ _ _ (T1.setTop (mkF m 6 #[.val (.int p0)] [])) _ _ _ _
  refine own_go (fun _ k => XS.iloadN X1.here hx rfl (hb hby d17_6) rfl k) ?_
  show own_G _ _ _ (T1.setTop (mkF m 7 #[.val (.int p0)] [(.int p0)])) _ _ _ _
  obtain ⟨_, _, ⟨T3, L3, k3, n3⟩, -, X3, ⟨Lc3, hQ3, l3, y3, z3⟩, st3⟩ := Jvm.LawKit.callS X1 hx (y := (⟨"java/lang/StringLatin1", "canEncode", "(C)Z"⟩ : MethodName)) hown (mvT hZ (hw _ (List.mem_of_getElem? (i := 86) rfl))) (mvT hZ (hw _ (List.mem_of_getElem? (i := 87) rfl))) (mvT hZ (hw _ (List.mem_of_getElem? (i := 69) rfl))) (mvT hZ (hw _ (List.mem_of_getElem? (i := 88) rfl))) (by decide) (backOf (W := 0) (rm18 l Z a0 hw [] p0 h0 n0) hZ (hw _ (List.mem_of_getElem? (i := 88) rfl)) (hw _ (List.mem_of_getElem? (i := 69) rfl)) (by decide) (by decide)) (g := (mkF m 7 #[.val (.int p0)] [(.int p0)])) rfl (by rw [hml]; rfl) (argsL := [(.int p0)]) (rest := []) (lenOf pd_0 rfl) rfl (by show 2 * 0 + _ ≤ _; exact Nat.le_of_eq rfl) (hb hby d17_7) (fun _ _ => ⟨rfl, e1, (by decide : 0 + 0 ≤ _), (by decide : 0 + 0 ≤ _)⟩)
  dsimp only [Pt.U, Pt.locs, Pt.cells, Pt.slots] at X3 l3 y3 z3 st3 hQ3
  rw [l3] at X3
  subst y3 z3
  obtain ⟨rfl, Nq3, eh3⟩ := hQ3
  have N3 := Fr.app N0 Nq3
  refine own_go (fun _ k => st3 _ k) ?_
  show own_G _ _ _ (T3.setTop (mkF m 10 #[.val (.int p0)] [(.int (own_can p0))])) _ _ _ _
  have hc4 : ¬ ((own_can p0) = (0 : Int32)) := hch
  refine own_go (fun _ k => XS.ifNo X3.here hx rfl (hb hby d17_10) rfl ((if0 _ _).trans (feq hc4).1) k) ?_
  show own_G _ _ _ (T3.setTop (mkF m 13 #[.val (.int p0)] [])) _ _ _ _
  obtain ⟨T5, h5, X5, e5, E5, A5, D5, -, st5⟩ := newO X3 hx hZ hown (hw _ (List.mem_of_getElem? (i := 89) rfl)) (hw _ (List.mem_of_getElem? (i := 3) rfl)) (hw _ (List.mem_of_getElem? (i := 2) rfl)) eh3 (g := (mkF m 13 #[.val (.int p0)] [])) rfl (hb hby d17_13) (by decide) (by decide)
  obtain ⟨b5, g5⟩ : ∃ z, z = h0.size := ⟨_, rfl⟩
  rw [← g5] at A5 D5 st5
  have gg5 : n0 ≤ b5 := Nat.le_trans Z0 (Nat.le_of_eq g5.symm)
  have sz5_0 : h0.size ≤ b5 := Nat.le_trans K0.1 (Nat.le_of_eq g5.symm)
  have Zs5 : n0 ≤ h5.size := Nat.le_trans Z0 E5.1
  have K5_0 : Keep h0 h5 [] := K0.ext E5
  have f6 : Old Z n0 h5 := P_Old.ext E5
  have f7 : Exa Z h5 b5 "java/lang/String" := A5
  have f8 : Fld Z h5 b5 "java/lang/String" "value" "[B" .null := D5 (Or.inr (hw _ (List.mem_of_getElem? (i := 5) rfl))) (ty := (.array .byte)) (by decide)
  have f9 : Fld Z h5 b5 "java/lang/String" "coder" "B" (.int (0 : Int32)) := D5 (Or.inr (hw _ (List.mem_of_getElem? (i := 6) rfl))) (ty := .byte) (by decide)
  refine own_go (fun _ k => st5 _ k) ?_
  show own_G _ _ _ (T5.setTop (mkF m 16 #[.val (.int p0)] [(.ref b5)])) _ _ _ _
  refine own_go (fun _ k => XS.dup X5.here hx rfl (hb hby d17_16) rfl rfl k) ?_
  show own_G _ _ _ (T5.setTop (mkF m 17 #[.val (.int p0)] [(.ref b5), (.ref b5)])) _ _ _ _
  refine own_go (fun _ k => XS.iloadN X5.here hx rfl (hb hby d17_17) rfl k) ?_
  show own_G _ _ _ (T5.setTop (mkF m 18 #[.val (.int p0)] [(.int p0), (.ref b5), (.ref b5)])) _ _ _ _
  obtain ⟨_, _, ⟨T10, L10, k10, n10⟩, -, X10, ⟨Lc10, hQ10, l10, y10, z10⟩, st10⟩ := Jvm.LawKit.callS X5 hx (y := (⟨"java/lang/StringLatin1", "toBytes", "(C)[B"⟩ : MethodName)) hown (mvT hZ (hw _ (List.mem_of_getElem? (i := 90) rfl))) (mvT hZ (hw _ (List.mem_of_getElem? (i := 91) rfl))) (mvT hZ (hw _ (List.mem_of_getElem? (i := 69) rfl))) (mvT hZ (hw _ (List.mem_of_getElem? (i := 92) rfl))) (by decide) (backOf (W := 2) (rm19 l Z a0 hw [] p0  h5 n0 Zs5 ) hZ (hw _ (List.mem_of_getElem? (i := 92) rfl)) (hw _ (List.mem_of_getElem? (i := 69) rfl)) (by decide) (by decide)) (g := (mkF m 18 #[.val (.int p0)] [(.int p0), (.ref b5), (.ref b5)])) rfl (by rw [hml]; rfl) (argsL := [(.int p0)]) (rest := [(.ref b5), (.ref b5)]) (lenOf pd_1 rfl) rfl (by show 2 * 0 + _ ≤ _; exact Nat.le_of_eq rfl) (hb hby d17_18) (fun _ _ => ⟨rfl, e5, (by decide : 1 + 1 ≤ _), (by decide : 4 + 1 ≤ _)⟩)
  dsimp only [Pt.U, Pt.locs, Pt.cells, Pt.slots] at X10 l10 y10 z10 st10 hQ10
  rw [l10] at X10
  subst y10 z10
  obtain ⟨b10, kb10, rfl, Nq10, Kq10, r10_0, r10_1⟩ := hQ10
  have N10 := Fr.app N3 Nq10
  have ne11 : b5 ≠ b10 := Nat.ne_of_lt (Nat.lt_of_lt_of_le f7.lt r10_0)
  have gg_b10 : n0 ≤ b10 := Nat.le_trans Zs5 r10_0
  have sz_b10_0 : h0.size ≤ b10 := Nat.le_trans K5_0.1 r10_0
  have f12 : Old Z n0 T10.heap := f6.keep Kq10 all0
  have f13 : Exa Z T10.heap b5 "java/lang/String" := f7.keep Kq10
  have f14 : Fld Z T10.heap b5 "java/lang/String" "value" "[B" .null := f8.keep Kq10 nin0
  have f15 : Fld Z T10.heap b5 "java/lang/String" "coder" "B" (.int (0 : Int32)) := f9.keep Kq10 nin0
  have Zs10 : n0 ≤ T10.heap.size := Nat.le_trans Zs5 Kq10.1
  have K10_0 : Keep h0 T10.heap [] := K5_0.trans Kq10 all0
  refine own_go (fun _ k => st10 _ k) ?_
  show own_G _ _ _ (T10.setTop (mkF m 21 #[.val (.int p0)] [(.ref b10), (.ref b5), (.ref b5)])) _ _ _ _
  refine own_go (fun _ k => XS.iconst X10.here hx rfl (hb hby d17_21) k) ?_
  show own_G _ _ _ (T10.setTop (mkF m 22 #[.val (.int p0)] [(.int (0 : Int32)), (.ref b10), (.ref b5), (.ref b5)])) _ _ _ _
  obtain ⟨_, _, ⟨T16, L16, k16, n16⟩, -, X16, ⟨Lc16, hQ16, l16, y16, z16⟩, st16⟩ := X10.specialBack hx (y := (⟨"java/lang/String", "<init>", "([BB)V"⟩ : MethodName)) rfl hown (mvT hZ (hw _ (List.mem_of_getElem? (i := 93) rfl))) (mvT hZ (hw _ (List.mem_of_getElem? (i := 94) rfl))) (mvT hZ (hw _ (List.mem_of_getElem? (i := 95) rfl))) (by decide) (backOf (W := 1) (rm20 l Z a0 hw [] b5 b10  T10.heap n0 Zs10 f13 f14 f15 gg5) hZ (hw _ (List.mem_of_getElem? (i := 95) rfl)) (hw _ (List.mem_of_getElem? (i := 2) rfl)) (by decide) (by decide)) (g := (mkF m 22 #[.val (.int p0)] [(.int (0 : Int32)), (.ref b10), (.ref b5), (.ref b5)])) rfl (by rw [hml]; rfl) (Steps.refl _) (a := b5) (argsL := [(.ref b10), (.int (0 : Int32))]) (rest := [(.ref b5)]) (lenOf pd_2 rfl) rfl (by show 2 * 0 + _ ≤ _; exact Nat.le_of_eq rfl) (hb hby d17_22) (fun _ _ => ⟨rfl, rfl, (by decide : 2 + 0 ≤ _), (by decide : 5 + 0 ≤ _)⟩)
  dsimp only [Pt.U, Pt.locs, Pt.cells, Pt.slots] at X16 l16 y16 z16 st16 hQ16
  rw [l16] at X16
  subst y16 z16
  obtain ⟨rfl, Nq16, Kq16, r16_0, r16_1, r16_2⟩ := hQ16
  have N16 := Fr.app N10 Nq16
  have f17 : Old Z n0 T16.heap := f12.keep Kq16 (allS gg5 all0)
  have f18 : Exa Z T16.heap b5 "java/lang/String" := f13.keep Kq16
  have f19 : Arv Z T16.heap b10 kb10 .byte (1 : Int32) [(.int p0.toInt8.toInt32)] (.int (0 : Int32)) := r10_1.keep Kq16 (ninS (Ne.symm ne11) nin0)
  have Zs16 : n0 ≤ T16.heap.size := Nat.le_trans Zs10 Kq16.1
  have K16_0 : Keep h0 T16.heap [] := K10_0.trans Kq16 (allS (Or.inr sz5_0) all0)
  refine own_tr st16 ?_
  show own_G _ _ _ (T16.setTop (mkF m 25 #[.val (.int p0)] [(.ref b5)])) _ _ _ _
  exact own_endR X16 hx hlk Bd.returns rfl rfl rfl (hb hby d17_25) (by decide) (by decide) (Q := (Q17 Z p0 zc h0 n0)) ⟨b5, b10, kb10, rfl, N16, K16_0, sz5_0, sz_b10_0, r16_0, r16_2, r16_1, f19⟩
theorem own_rg.can {x : Int32} (h : own_rg x) : ¬ own_can x = 0 := by
  have e : x = Int32.ofInt ((x.toInt.toNat : Nat) : Int) := by rw [Int.toNat_of_nonneg h.1, Int32.ofInt_toInt]
  rw [e]
  exact (by decide +kernel : ∀ k : Fin 128, ¬ own_can (Int32.ofInt (k.val : Int)) = 0) ⟨x.toInt.toNat, by have := h.2; have := h.1; omega⟩
theorem d2_0 : decode jdk_42_method_55_code 0 = .ok (.aload_n 0, 1) := by decide +kernel
theorem d2_1 : decode jdk_42_method_55_code 1 = .ok (.getfield 9, 3) := by decide +kernel
theorem d2_4 : decode jdk_42_method_55_code 4 = .ok (.arraylength, 1) := by decide +kernel
theorem d2_5 : decode jdk_42_method_55_code 5 = .ok (.ifCond .ne 7, 3) := by decide +kernel
theorem d2_8 : decode jdk_42_method_55_code 8 = .ok (.iconst 1, 1) := by decide +kernel
theorem d2_9 : decode jdk_42_method_55_code 9 = .ok (.goto 4, 3) := by decide +kernel
theorem d2_12 : decode jdk_42_method_55_code 12 = .ok (.iconst 0, 1) := by decide +kernel
theorem d2_13 : decode jdk_42_method_55_code 13 = .ok (.ireturn, 1) := by decide +kernel
theorem ef_2a (m : MethodId) (p0 : Addr) : entryFrame m #[(.ref p0)] 1 = mkF m 0 #[.val (.ref p0)] [] := by first | (simp [entryFrame, mkF, argsToLocals, Value.category]; done) | rfl
def Q2a (Z : State) (p0 : Addr) (u : Addr) (kt : ClassId) (h0 : Heap) (n0 : Nat) (v : Option Value) (h : Heap) (L : List Loc) : Prop := v = some (.int (1 : Int32)) ∧ Fr n0 L ∧ h = h0
set_option maxRecDepth 65536 in
set_option maxHeartbeats 40000000 in
theorem rm2a (l : Launch) (Z : State) (a0 : Array Value) (hw : ∀ d ∈ tables_1, d.before a0 Z = true) (ws : List Jvm.Cond) (p0 : Addr) (u : Addr) (kt : ClassId) (h0 : Heap) (n0 : Nat) (Z0 : n0 ≤ h0.size) (P_F_p0_value : Fld Z h0 p0 "java/lang/String" "value" "[B" (.ref u)) (P_V_u : Arv Z h0 u kt .byte (0 : Int32) [] (.int (0 : Int32))) :
    MetFree l (⟨"java/lang/String", "isEmpty", "()Z"⟩ : MethodName) (head1 (Jvm.Cond.code (⟨"java/lang/String", "isEmpty", "()Z"⟩ : MethodName) jdk_42_method_55_code 1 (some .boolean) :: ws) ({ frames := 0, cells := 0, slots := 0, locals := 0 } : Room)) (fun a U => a = #[(.ref p0)] ∧ Z.Warmed39 U.vm ∧ U.heap = h0) (fun _ _ _ _ _ => True) (fun _ U o U' => ∃ v L, o = .returned v ∧ (Q2a Z p0 u kt h0 n0) v U'.heap L ∧ FrameEnd U o U' L ({ frames := 0, cells := 0, slots := 0, locals := 0 } : Room).cells ({ frames := 0, cells := 0, slots := 0, locals := 0 } : Room).slots) := by
  refine MetFree.of_bodySF (plainFor_of_name pn_1) hisR ?_
  intro p e s m args below meth c s₁ Bd hml0 hP hK
  obtain ⟨rfl, hZ, hh⟩ := hP
  have hx := Bd.exec
  have hby := Bd.bytes
  have hml : c.maxLocals = 1 := hml0
  have hown : s.vm.findClass "java/lang/String" = some m.cls := findClass_of_methodNamed Bd.named
  have hnm := (name_of_methodNamed Bd.named Bd.method).1
  have hlk : meth.locks = false := BodyLoose.notSynchronized Bd
  have X0 : Stand p l e ({ frames := 0, cells := 0, slots := 0, locals := 0 } : Room) s m #[(.ref p0)] below meth c s₁ [] 0 0 := Stand.of_body Bd
  have e0 : s₁.heap = h0 := by rw [← hh, Bd.state]; rfl
  have N0 := Fr.nil n0
  show own_G p.tables e below (s₁.setTop (entryFrame m #[(.ref p0)] 1)) s ({ frames := 0, cells := 0, slots := 0, locals := 0 } : Room).cells ({ frames := 0, cells := 0, slots := 0, locals := 0 } : Room).slots (Q2a Z p0 u kt h0 n0)
  refine own_go (fun _ k => castTop (ef_2a m p0) k) ?_
  show own_G _ _ _ (s₁.setTop (mkF m 0 #[.val (.ref p0)] [])) _ _ _ _
  refine own_go (fun _ k => XS.aloadN X0.here hx rfl (hb hby d2_0) rfl rfl k) ?_
  show own_G _ _ _ (s₁.setTop (mkF m 1 #[.val (.ref p0)] [(.ref p0)])) _ _ _ _
  obtain ⟨T1, X1, e1, st1⟩ := getF X0 hx hZ hown (host := "") (Or.inl (hw _ (List.mem_of_getElem? (i := 24) rfl))) Via.refl e0 P_F_p0_value (g := (mkF m 1 #[.val (.ref p0)] [(.ref p0)])) rfl rfl (hb hby d2_1)
  refine own_go (fun _ k => st1 _ k) ?_
  show own_G _ _ _ (T1.setTop (mkF m 4 #[.val (.ref p0)] [(.ref u)])) _ _ _ _
  obtain ⟨cl2, Ar2, -, S2, Ng2, -, -⟩ := id P_V_u
  refine own_go (fun _ k => X1.arraylength hx (by rw [e1]; exact Ar2.1) (State.isArrayOf_alike hZ.alike Ar2.2.1) (g := (mkF m 4 #[.val (.ref p0)] [(.ref u)])) rfl rfl (hb hby d2_4) _ k) ?_
  rw [len_of S2 Ng2]
  show own_G _ _ _ (T1.setTop (mkF m 5 #[.val (.ref p0)] [(.int (0 : Int32))])) _ _ _ _
  have hc3 : (0 : Int32) = (0 : Int32) := (by decide)
  refine own_go (fun _ k => XS.ifNo X1.here hx rfl (hb hby d2_5) rfl ((if0 _ _).trans (teq hc3).2) k) ?_
  show own_G _ _ _ (T1.setTop (mkF m 8 #[.val (.ref p0)] [])) _ _ _ _
  refine own_go (fun _ k => XS.iconst X1.here hx rfl (hb hby d2_8) k) ?_
  show own_G _ _ _ (T1.setTop (mkF m 9 #[.val (.ref p0)] [(.int (1 : Int32))])) _ _ _ _
  refine own_go (fun _ k => XS.goto X1.here hx rfl (pc0 := 9) (pc' := 13) rfl (hb hby d2_9) (by decide) (by decide) k) ?_
  show own_G _ _ _ (T1.setTop (mkF m 13 #[.val (.ref p0)] [(.int (1 : Int32))])) _ _ _ _
  exact own_endN X1 hx hlk (t := .boolean) Bd.returns (by simp) (hb hby d2_13) (by decide) (by decide) (Q := (Q2a Z p0 u kt h0 n0)) (by rw [e1]; exact ⟨rfl, N0, rfl⟩)
def Q2b (Z : State) (p0 : Addr) (u : Addr) (kt : ClassId) (y0 : Int32) (h0 : Heap) (n0 : Nat) (v : Option Value) (h : Heap) (L : List Loc) : Prop := v = some (.int (0 : Int32)) ∧ Fr n0 L ∧ h = h0
set_option maxRecDepth 65536 in
set_option maxHeartbeats 40000000 in
theorem rm2b (l : Launch) (Z : State) (a0 : Array Value) (hw : ∀ d ∈ tables_1, d.before a0 Z = true) (ws : List Jvm.Cond) (p0 : Addr) (u : Addr) (kt : ClassId) (y0 : Int32) (h0 : Heap) (n0 : Nat) (Z0 : n0 ≤ h0.size) (P_F_p0_value : Fld Z h0 p0 "java/lang/String" "value" "[B" (.ref u)) (P_V_u : Arv Z h0 u kt .byte (1 : Int32) [(.int y0)] (.int (0 : Int32))) :
    MetFree l (⟨"java/lang/String", "isEmpty", "()Z"⟩ : MethodName) (head1 (Jvm.Cond.code (⟨"java/lang/String", "isEmpty", "()Z"⟩ : MethodName) jdk_42_method_55_code 1 (some .boolean) :: ws) ({ frames := 0, cells := 0, slots := 0, locals := 0 } : Room)) (fun a U => a = #[(.ref p0)] ∧ Z.Warmed39 U.vm ∧ U.heap = h0) (fun _ _ _ _ _ => True) (fun _ U o U' => ∃ v L, o = .returned v ∧ (Q2b Z p0 u kt y0 h0 n0) v U'.heap L ∧ FrameEnd U o U' L ({ frames := 0, cells := 0, slots := 0, locals := 0 } : Room).cells ({ frames := 0, cells := 0, slots := 0, locals := 0 } : Room).slots) := by
  refine MetFree.of_bodySF (plainFor_of_name pn_1) hisR ?_
  intro p e s m args below meth c s₁ Bd hml0 hP hK
  obtain ⟨rfl, hZ, hh⟩ := hP
  have hx := Bd.exec
  have hby := Bd.bytes
  have hml : c.maxLocals = 1 := hml0
  have hown : s.vm.findClass "java/lang/String" = some m.cls := findClass_of_methodNamed Bd.named
  have hnm := (name_of_methodNamed Bd.named Bd.method).1
  have hlk : meth.locks = false := BodyLoose.notSynchronized Bd
  have X0 : Stand p l e ({ frames := 0, cells := 0, slots := 0, locals := 0 } : Room) s m #[(.ref p0)] below meth c s₁ [] 0 0 := Stand.of_body Bd
  have e0 : s₁.heap = h0 := by rw [← hh, Bd.state]; rfl
  have N0 := Fr.nil n0
  show own_G p.tables e below (s₁.setTop (entryFrame m #[(.ref p0)] 1)) s ({ frames := 0, cells := 0, slots := 0, locals := 0 } : Room).cells ({ frames := 0, cells := 0, slots := 0, locals := 0 } : Room).slots (Q2b Z p0 u kt y0 h0 n0)
  refine own_go (fun _ k => castTop (ef_2a m p0) k) ?_
  show own_G _ _ _ (s₁.setTop (mkF m 0 #[.val (.ref p0)] [])) _ _ _ _
  refine own_go (fun _ k => XS.aloadN X0.here hx rfl (hb hby d2_0) rfl rfl k) ?_
  show own_G _ _ _ (s₁.setTop (mkF m 1 #[.val (.ref p0)] [(.ref p0)])) _ _ _ _
  obtain ⟨T1, X1, e1, st1⟩ := getF X0 hx hZ hown (host := "") (Or.inl (hw _ (List.mem_of_getElem? (i := 24) rfl))) Via.refl e0 P_F_p0_value (g := (mkF m 1 #[.val (.ref p0)] [(.ref p0)])) rfl rfl (hb hby d2_1)
  refine own_go (fun _ k => st1 _ k) ?_
  show own_G _ _ _ (T1.setTop (mkF m 4 #[.val (.ref p0)] [(.ref u)])) _ _ _ _
  obtain ⟨cl2, Ar2, -, S2, Ng2, -, -⟩ := id P_V_u
  refine own_go (fun _ k => X1.arraylength hx (by rw [e1]; exact Ar2.1) (State.isArrayOf_alike hZ.alike Ar2.2.1) (g := (mkF m 4 #[.val (.ref p0)] [(.ref u)])) rfl rfl (hb hby d2_4) _ k) ?_
  rw [len_of S2 Ng2]
  show own_G _ _ _ (T1.setTop (mkF m 5 #[.val (.ref p0)] [(.int (1 : Int32))])) _ _ _ _
  have hc3 : ¬ ((1 : Int32) = (0 : Int32)) := (by decide)
  refine own_go (fun _ k => XS.ifYes X1.here hx rfl (pc0 := 5) (pc' := 12) rfl (hb hby d2_5) rfl ((if0 _ _).trans (feq hc3).2) (by decide) (by decide) k) ?_
  show own_G _ _ _ (T1.setTop (mkF m 12 #[.val (.ref p0)] [])) _ _ _ _
  refine own_go (fun _ k => XS.iconst X1.here hx rfl (hb hby d2_12) k) ?_
  show own_G _ _ _ (T1.setTop (mkF m 13 #[.val (.ref p0)] [(.int (0 : Int32))])) _ _ _ _
  exact own_endN X1 hx hlk (t := .boolean) Bd.returns (by simp) (hb hby d2_13) (by decide) (by decide) (Q := (Q2b Z p0 u kt y0 h0 n0)) (by rw [e1]; exact ⟨rfl, N0, rfl⟩)
def Q2c (Z : State) (p0 : Addr) (u : Addr) (kt : ClassId) (y0 : Int32) (y1 : Int32) (h0 : Heap) (n0 : Nat) (v : Option Value) (h : Heap) (L : List Loc) : Prop := v = some (.int (0 : Int32)) ∧ Fr n0 L ∧ h = h0
set_option maxRecDepth 65536 in
set_option maxHeartbeats 40000000 in
theorem rm2c (l : Launch) (Z : State) (a0 : Array Value) (hw : ∀ d ∈ tables_1, d.before a0 Z = true) (ws : List Jvm.Cond) (p0 : Addr) (u : Addr) (kt : ClassId) (y0 : Int32) (y1 : Int32) (h0 : Heap) (n0 : Nat) (Z0 : n0 ≤ h0.size) (P_F_p0_value : Fld Z h0 p0 "java/lang/String" "value" "[B" (.ref u)) (P_V_u : Arv Z h0 u kt .byte (2 : Int32) [(.int y0), (.int y1)] (.int (0 : Int32))) :
    MetFree l (⟨"java/lang/String", "isEmpty", "()Z"⟩ : MethodName) (head1 (Jvm.Cond.code (⟨"java/lang/String", "isEmpty", "()Z"⟩ : MethodName) jdk_42_method_55_code 1 (some .boolean) :: ws) ({ frames := 0, cells := 0, slots := 0, locals := 0 } : Room)) (fun a U => a = #[(.ref p0)] ∧ Z.Warmed39 U.vm ∧ U.heap = h0) (fun _ _ _ _ _ => True) (fun _ U o U' => ∃ v L, o = .returned v ∧ (Q2c Z p0 u kt y0 y1 h0 n0) v U'.heap L ∧ FrameEnd U o U' L ({ frames := 0, cells := 0, slots := 0, locals := 0 } : Room).cells ({ frames := 0, cells := 0, slots := 0, locals := 0 } : Room).slots) := by
  refine MetFree.of_bodySF (plainFor_of_name pn_1) hisR ?_
  intro p e s m args below meth c s₁ Bd hml0 hP hK
  obtain ⟨rfl, hZ, hh⟩ := hP
  have hx := Bd.exec
  have hby := Bd.bytes
  have hml : c.maxLocals = 1 := hml0
  have hown : s.vm.findClass "java/lang/String" = some m.cls := findClass_of_methodNamed Bd.named
  have hnm := (name_of_methodNamed Bd.named Bd.method).1
  have hlk : meth.locks = false := BodyLoose.notSynchronized Bd
  have X0 : Stand p l e ({ frames := 0, cells := 0, slots := 0, locals := 0 } : Room) s m #[(.ref p0)] below meth c s₁ [] 0 0 := Stand.of_body Bd
  have e0 : s₁.heap = h0 := by rw [← hh, Bd.state]; rfl
  have N0 := Fr.nil n0
  show own_G p.tables e below (s₁.setTop (entryFrame m #[(.ref p0)] 1)) s ({ frames := 0, cells := 0, slots := 0, locals := 0 } : Room).cells ({ frames := 0, cells := 0, slots := 0, locals := 0 } : Room).slots (Q2c Z p0 u kt y0 y1 h0 n0)
  refine own_go (fun _ k => castTop (ef_2a m p0) k) ?_
  show own_G _ _ _ (s₁.setTop (mkF m 0 #[.val (.ref p0)] [])) _ _ _ _
  refine own_go (fun _ k => XS.aloadN X0.here hx rfl (hb hby d2_0) rfl rfl k) ?_
  show own_G _ _ _ (s₁.setTop (mkF m 1 #[.val (.ref p0)] [(.ref p0)])) _ _ _ _
  obtain ⟨T1, X1, e1, st1⟩ := getF X0 hx hZ hown (host := "") (Or.inl (hw _ (List.mem_of_getElem? (i := 24) rfl))) Via.refl e0 P_F_p0_value (g := (mkF m 1 #[.val (.ref p0)] [(.ref p0)])) rfl rfl (hb hby d2_1)
  refine own_go (fun _ k => st1 _ k) ?_
  show own_G _ _ _ (T1.setTop (mkF m 4 #[.val (.ref p0)] [(.ref u)])) _ _ _ _
  obtain ⟨cl2, Ar2, -, S2, Ng2, -, -⟩ := id P_V_u
  refine own_go (fun _ k => X1.arraylength hx (by rw [e1]; exact Ar2.1) (State.isArrayOf_alike hZ.alike Ar2.2.1) (g := (mkF m 4 #[.val (.ref p0)] [(.ref u)])) rfl rfl (hb hby d2_4) _ k) ?_
  rw [len_of S2 Ng2]
  show own_G _ _ _ (T1.setTop (mkF m 5 #[.val (.ref p0)] [(.int (2 : Int32))])) _ _ _ _
  have hc3 : ¬ ((2 : Int32) = (0 : Int32)) := (by decide)
  refine own_go (fun _ k => XS.ifYes X1.here hx rfl (pc0 := 5) (pc' := 12) rfl (hb hby d2_5) rfl ((if0 _ _).trans (feq hc3).2) (by decide) (by decide) k) ?_
  show own_G _ _ _ (T1.setTop (mkF m 12 #[.val (.ref p0)] [])) _ _ _ _
  refine own_go (fun _ k => XS.iconst X1.here hx rfl (hb hby d2_12) k) ?_
  show own_G _ _ _ (T1.setTop (mkF m 13 #[.val (.ref p0)] [(.int (0 : Int32))])) _ _ _ _
  exact own_endN X1 hx hlk (t := .boolean) Bd.returns (by simp) (hb hby d2_13) (by decide) (by decide) (Q := (Q2c Z p0 u kt y0 y1 h0 n0)) (by rw [e1]; exact ⟨rfl, N0, rfl⟩)
def Q2d (Z : State) (p0 : Addr) (u : Addr) (kt : ClassId) (y0 : Int32) (y1 : Int32) (y2 : Int32) (h0 : Heap) (n0 : Nat) (v : Option Value) (h : Heap) (L : List Loc) : Prop := v = some (.int (0 : Int32)) ∧ Fr n0 L ∧ h = h0
set_option maxRecDepth 65536 in
set_option maxHeartbeats 40000000 in
theorem rm2d (l : Launch) (Z : State) (a0 : Array Value) (hw : ∀ d ∈ tables_1, d.before a0 Z = true) (ws : List Jvm.Cond) (p0 : Addr) (u : Addr) (kt : ClassId) (y0 : Int32) (y1 : Int32) (y2 : Int32) (h0 : Heap) (n0 : Nat) (Z0 : n0 ≤ h0.size) (P_F_p0_value : Fld Z h0 p0 "java/lang/String" "value" "[B" (.ref u)) (P_V_u : Arv Z h0 u kt .byte (3 : Int32) [(.int y0), (.int y1), (.int y2)] (.int (0 : Int32))) :
    MetFree l (⟨"java/lang/String", "isEmpty", "()Z"⟩ : MethodName) (head1 (Jvm.Cond.code (⟨"java/lang/String", "isEmpty", "()Z"⟩ : MethodName) jdk_42_method_55_code 1 (some .boolean) :: ws) ({ frames := 0, cells := 0, slots := 0, locals := 0 } : Room)) (fun a U => a = #[(.ref p0)] ∧ Z.Warmed39 U.vm ∧ U.heap = h0) (fun _ _ _ _ _ => True) (fun _ U o U' => ∃ v L, o = .returned v ∧ (Q2d Z p0 u kt y0 y1 y2 h0 n0) v U'.heap L ∧ FrameEnd U o U' L ({ frames := 0, cells := 0, slots := 0, locals := 0 } : Room).cells ({ frames := 0, cells := 0, slots := 0, locals := 0 } : Room).slots) := by
  refine MetFree.of_bodySF (plainFor_of_name pn_1) hisR ?_
  intro p e s m args below meth c s₁ Bd hml0 hP hK
  obtain ⟨rfl, hZ, hh⟩ := hP
  have hx := Bd.exec
  have hby := Bd.bytes
  have hml : c.maxLocals = 1 := hml0
  have hown : s.vm.findClass "java/lang/String" = some m.cls := findClass_of_methodNamed Bd.named
  have hnm := (name_of_methodNamed Bd.named Bd.method).1
  have hlk : meth.locks = false := BodyLoose.notSynchronized Bd
  have X0 : Stand p l e ({ frames := 0, cells := 0, slots := 0, locals := 0 } : Room) s m #[(.ref p0)] below meth c s₁ [] 0 0 := Stand.of_body Bd
  have e0 : s₁.heap = h0 := by rw [← hh, Bd.state]; rfl
  have N0 := Fr.nil n0
  show own_G p.tables e below (s₁.setTop (entryFrame m #[(.ref p0)] 1)) s ({ frames := 0, cells := 0, slots := 0, locals := 0 } : Room).cells ({ frames := 0, cells := 0, slots := 0, locals := 0 } : Room).slots (Q2d Z p0 u kt y0 y1 y2 h0 n0)
  refine own_go (fun _ k => castTop (ef_2a m p0) k) ?_
  show own_G _ _ _ (s₁.setTop (mkF m 0 #[.val (.ref p0)] [])) _ _ _ _
  refine own_go (fun _ k => XS.aloadN X0.here hx rfl (hb hby d2_0) rfl rfl k) ?_
  show own_G _ _ _ (s₁.setTop (mkF m 1 #[.val (.ref p0)] [(.ref p0)])) _ _ _ _
  obtain ⟨T1, X1, e1, st1⟩ := getF X0 hx hZ hown (host := "") (Or.inl (hw _ (List.mem_of_getElem? (i := 24) rfl))) Via.refl e0 P_F_p0_value (g := (mkF m 1 #[.val (.ref p0)] [(.ref p0)])) rfl rfl (hb hby d2_1)
  refine own_go (fun _ k => st1 _ k) ?_
  show own_G _ _ _ (T1.setTop (mkF m 4 #[.val (.ref p0)] [(.ref u)])) _ _ _ _
  obtain ⟨cl2, Ar2, -, S2, Ng2, -, -⟩ := id P_V_u
  refine own_go (fun _ k => X1.arraylength hx (by rw [e1]; exact Ar2.1) (State.isArrayOf_alike hZ.alike Ar2.2.1) (g := (mkF m 4 #[.val (.ref p0)] [(.ref u)])) rfl rfl (hb hby d2_4) _ k) ?_
  rw [len_of S2 Ng2]
  show own_G _ _ _ (T1.setTop (mkF m 5 #[.val (.ref p0)] [(.int (3 : Int32))])) _ _ _ _
  have hc3 : ¬ ((3 : Int32) = (0 : Int32)) := (by decide)
  refine own_go (fun _ k => XS.ifYes X1.here hx rfl (pc0 := 5) (pc' := 12) rfl (hb hby d2_5) rfl ((if0 _ _).trans (feq hc3).2) (by decide) (by decide) k) ?_
  show own_G _ _ _ (T1.setTop (mkF m 12 #[.val (.ref p0)] [])) _ _ _ _
  refine own_go (fun _ k => XS.iconst X1.here hx rfl (hb hby d2_12) k) ?_
  show own_G _ _ _ (T1.setTop (mkF m 13 #[.val (.ref p0)] [(.int (0 : Int32))])) _ _ _ _
  exact own_endN X1 hx hlk (t := .boolean) Bd.returns (by simp) (hb hby d2_13) (by decide) (by decide) (Q := (Q2d Z p0 u kt y0 y1 y2 h0 n0)) (by rw [e1]; exact ⟨rfl, N0, rfl⟩)
theorem d1_0 : decode prog_48_method_10_code 0 = .ok (.aload_n 0, 1) := by decide +kernel
theorem d1_1 : decode prog_48_method_10_code 1 = .ok (.invokevirtual 178, 3) := by decide +kernel
theorem d1_4 : decode prog_48_method_10_code 4 = .ok (.ifCond .eq 7, 3) := by decide +kernel
theorem d1_7 : decode prog_48_method_10_code 7 = .ok (.iconst 0, 1) := by decide +kernel
theorem d1_8 : decode prog_48_method_10_code 8 = .ok (.goto 6, 3) := by decide +kernel
theorem d1_11 : decode prog_48_method_10_code 11 = .ok (.sipush 128, 3) := by decide +kernel
theorem d1_14 : decode prog_48_method_10_code 14 = .ok (.anewarray 60, 3) := by decide +kernel
theorem d1_17 : decode prog_48_method_10_code 17 = .ok (.astore_n 2, 1) := by decide +kernel
theorem d1_18 : decode prog_48_method_10_code 18 = .ok (.iconst 0, 1) := by decide +kernel
theorem d1_19 : decode prog_48_method_10_code 19 = .ok (.istore_n 3, 1) := by decide +kernel
theorem d1_20 : decode prog_48_method_10_code 20 = .ok (.iload_n 3, 1) := by decide +kernel
theorem d1_21 : decode prog_48_method_10_code 21 = .ok (.aload_n 0, 1) := by decide +kernel
theorem d1_22 : decode prog_48_method_10_code 22 = .ok (.invokevirtual 185, 3) := by decide +kernel
theorem d1_25 : decode prog_48_method_10_code 25 = .ok (.if_icmp .ge 19, 3) := by decide +kernel
theorem d1_28 : decode prog_48_method_10_code 28 = .ok (.aload_n 2, 1) := by decide +kernel
theorem d1_29 : decode prog_48_method_10_code 29 = .ok (.aload_n 0, 1) := by decide +kernel
theorem d1_30 : decode prog_48_method_10_code 30 = .ok (.iload_n 3, 1) := by decide +kernel
theorem d1_31 : decode prog_48_method_10_code 31 = .ok (.invokevirtual 188, 3) := by decide +kernel
theorem d1_34 : decode prog_48_method_10_code 34 = .ok (.aload_n 1, 1) := by decide +kernel
theorem d1_35 : decode prog_48_method_10_code 35 = .ok (.iload_n 3, 1) := by decide +kernel
theorem d1_36 : decode prog_48_method_10_code 36 = .ok (.aaload, 1) := by decide +kernel
theorem d1_37 : decode prog_48_method_10_code 37 = .ok (.aastore, 1) := by decide +kernel
theorem d1_38 : decode prog_48_method_10_code 38 = .ok (.iinc 3 1, 3) := by decide +kernel
theorem d1_41 : decode prog_48_method_10_code 41 = .ok (.goto (-21), 3) := by decide +kernel
theorem d1_44 : decode prog_48_method_10_code 44 = .ok (.aload_n 2, 1) := by decide +kernel
theorem d1_45 : decode prog_48_method_10_code 45 = .ok (.areturn, 1) := by decide +kernel
theorem pd_3 : parseMethodDescriptor "()Z" = some ⟨[], some .boolean⟩ := by decide +kernel
theorem pd_4 : parseMethodDescriptor "()I" = some ⟨[], some .int⟩ := by decide +kernel
theorem pn_2 : plainName "com/example/issuerd/issuerd/xml/Dom" = true := by first | (simp [plainName, overriddenIn]; done) | decide +kernel
theorem ef_1a (m : MethodId) (p0 : Addr) (p1 : Addr) : entryFrame m #[(.ref p0), (.ref p1)] 4 = mkF m 0 #[.val (.ref p0), .val (.ref p1), .unset, .unset] [] := by first | (simp [entryFrame, mkF, argsToLocals, Value.category]; done) | rfl
def Q1a (Z : State) (p0 : Addr) (p1 : Addr) (zc : Int32) (fm : Value) (u : Addr) (kb : ClassId) (kr : ClassId) (sA : Addr) (sB : Addr) (sC : Addr) (h0 : Heap) (n0 : Nat) (v : Option Value) (h : Heap) (L : List Loc) : Prop := ∃ (na : Addr) (kn : ClassId), v = some (.ref na) ∧ Fr n0 L ∧ Keep h0 h [] ∧ Arv Z h na kn (.object "java/lang/String") (0 : Int32) [] .null
set_option maxRecDepth 65536 in
set_option maxHeartbeats 40000000 in
theorem rm1a (l : Launch) (Z : State) (a0 : Array Value) (hw : ∀ d ∈ tables_1, d.before a0 Z = true) (ws : List Jvm.Cond) (p0 : Addr) (p1 : Addr) (zc : Int32) (fm : Value) (u : Addr) (kb : ClassId) (kr : ClassId) (sA : Addr) (sB : Addr) (sC : Addr) (h0 : Heap) (n0 : Nat) (Z0 : n0 ≤ h0.size) (P_Old : Old Z n0 h0) (P_ZS_java_lang_String_COMPACT_STRINGS : Sta Z Z.heap "java/lang/String" "COMPACT_STRINGS" "Z" (.int zc)) (hcs : ¬ zc = 0) (P_ZS_jdk_internal_util_Preconditions_SIOOBE_FORMATTER : Sta Z Z.heap "jdk/internal/util/Preconditions" "SIOOBE_FORMATTER" "Ljava/util/function/BiFunction;" fm) (hfm : fm.isRef = true) (P_E_p0 : Exa Z h0 p0 "java/lang/String") (P_F_p0_coder : Fld Z h0 p0 "java/lang/String" "coder" "B" (.int (0 : Int32))) (P_F_p0_value : Fld Z h0 p0 "java/lang/String" "value" "[B" (.ref u)) (P_V_u : Arv Z h0 u kb .byte (0 : Int32) [] (.int (0 : Int32))) (P_V_p1 : Arv Z h0 p1 kr (.object "java/lang/String") (3 : Int32) [(.ref sA), (.ref sB), (.ref sC)] .null) (P_E_sA : Exa Z h0 sA "java/lang/String") (P_E_sB : Exa Z h0 sB "java/lang/String") (P_E_sC : Exa Z h0 sC "java/lang/String") :
    MetFree l (⟨"com/example/issuerd/issuerd/xml/Dom", "references", "(Ljava/lang/String;[Ljava/lang/String;)[Ljava/lang/String;"⟩ : MethodName) (head1 (Jvm.Cond.code (⟨"com/example/issuerd/issuerd/xml/Dom", "references", "(Ljava/lang/String;[Ljava/lang/String;)[Ljava/lang/String;"⟩ : MethodName) prog_48_method_10_code 4 (some (.array (.object "java/lang/String"))) :: ws) ({ frames := 2, cells := 1, slots := 0, locals := 26 } : Room)) (fun a U => a = #[(.ref p0), (.ref p1)] ∧ Z.Warmed39 U.vm ∧ U.heap = h0) (fun _ _ _ _ _ => True) (fun _ U o U' => ∃ v L, o = .returned v ∧ (Q1a Z p0 p1 zc fm u kb kr sA sB sC h0 n0) v U'.heap L ∧ FrameEnd U o U' L ({ frames := 2, cells := 1, slots := 0, locals := 26 } : Room).cells ({ frames := 2, cells := 1, slots := 0, locals := 26 } : Room).slots) := by
  refine MetFree.of_bodySF (plainFor_of_name pn_2) hisR ?_
  intro p e s m args below meth c s₁ Bd hml0 hP hK
  obtain ⟨rfl, hZ, hh⟩ := hP
  have hx := Bd.exec
  have hby := Bd.bytes
  have hml : c.maxLocals = 4 := hml0
  have hown : s.vm.findClass "com/example/issuerd/issuerd/xml/Dom" = some m.cls := findClass_of_methodNamed Bd.named
  have hnm := (name_of_methodNamed Bd.named Bd.method).1
  have hlk : meth.locks = false := BodyLoose.notSynchronized Bd
  have X0 : Stand p l e ({ frames := 2, cells := 1, slots := 0, locals := 26 } : Room) s m #[(.ref p0), (.ref p1)] below meth c s₁ [] 0 0 := Stand.of_body Bd
  have e0 : s₁.heap = h0 := by rw [← hh, Bd.state]; rfl
  have N0 := Fr.nil n0
  have K0 : Keep h0 h0 [] := Keep.refl h0 []
  show own_G p.tables e below (s₁.setTop (entryFrame m #[(.ref p0), (.ref p1)] 4)) s ({ frames := 2, cells := 1, slots := 0, locals := 26 } : Room).cells ({ frames := 2, cells := 1, slots := 0, locals := 26 } : Room).slots (Q1a Z p0 p1 zc fm u kb kr sA sB sC h0 n0)
  refine own_go (fun _ k => castTop (ef_1a m p0 p1) k) ?_
  show own_G _ _ _ (s₁.setTop (mkF m 0 #[.val (.ref p0), .val (.ref p1), .unset, .unset] [])) _ _ _ _
  refine own_go (fun _ k => XS.aloadN X0.here hx rfl (hb hby d1_0) rfl rfl k) ?_
  show own_G _ _ _ (s₁.setTop (mkF m 1 #[.val (.ref p0), .val (.ref p1), .unset, .unset] [(.ref p0)])) _ _ _ _
  obtain ⟨cq1, kq1, q1a, q1b, q1c⟩ := isOf hZ e0 P_E_p0
  obtain ⟨_, _, ⟨T1, L1, k1, n1⟩, -, X1, ⟨Lc1, hQ1, l1, y1, z1⟩, st1⟩ := X0.virtualBack hx (y := (⟨"java/lang/String", "isEmpty", "()Z"⟩ : MethodName)) (z := (⟨"java/lang/String", "isEmpty", "()Z"⟩ : MethodName)) hown (mvT hZ (hw _ (List.mem_of_getElem? (i := 19) rfl))) (mvT hZ (hw _ (List.mem_of_getElem? (i := 20) rfl))) (notFace_of_selects (args := #[]) (mvT hZ (hw _ (List.mem_of_getElem? (i := 22) rfl)))) (mvT hZ (hw _ (List.mem_of_getElem? (i := 22) rfl))) (mvT hZ (hw _ (List.mem_of_getElem? (i := 21) rfl))) (by decide) (backOf (W := 0) (rm2a l Z a0 hw [] p0 u kb h0 n0 Z0 P_F_p0_value P_V_u) hZ (hw _ (List.mem_of_getElem? (i := 23) rfl)) (hw _ (List.mem_of_getElem? (i := 2) rfl)) (by decide) (by decide)) q1a q1c (g := (mkF m 1 #[.val (.ref p0), .val (.ref p1), .unset, .unset] [(.ref p0)])) rfl (by rw [hml]; rfl) (Steps.refl _) (argsL := []) (rest := []) (lenOf pd_3 rfl) rfl (by show 2 * 0 + _ ≤ _; exact Nat.le_of_eq rfl) (hb hby d1_1) (fun _ _ => ⟨rfl, e0, (by decide : 0 + 0 ≤ _), (by decide : 0 + 0 ≤ _)⟩)
  dsimp only [Pt.U, Pt.locs, Pt.cells, Pt.slots] at X1 l1 y1 z1 st1 hQ1
  rw [l1] at X1
  subst y1 z1
  obtain ⟨rfl, Nq1, eh1⟩ := hQ1
  have N1 := Fr.app N0 Nq1
  refine own_tr st1 ?_
  show own_G _ _ _ (T1.setTop (mkF m 4 #[.val (.ref p0), .val (.ref p1), .unset, .unset] [(.int (1 : Int32))])) _ _ _ _
  have hc2 : ¬ ((1 : Int32) = (0 : Int32)) := (by decide)
  refine own_go (fun _ k => XS.ifNo X1.here hx rfl (hb hby d1_4) rfl ((if0 _ _).trans (feq hc2).1) k) ?_
  show own_G _ _ _ (T1.setTop (mkF m 7 #[.val (.ref p0), .val (.ref p1), .unset, .unset] [])) _ _ _ _
  refine own_go (fun _ k => XS.iconst X1.here hx rfl (hb hby d1_7) k) ?_
  show own_G _ _ _ (T1.setTop (mkF m 8 #[.val (.ref p0), .val (.ref p1), .unset, .unset] [(.int (0 : Int32))])) _ _ _ _
  refine own_go (fun _ k => XS.goto X1.here hx rfl (pc0 := 8) (pc' := 14) rfl (hb hby d1_8) (by decide) (by decide) k) ?_
  show own_G _ _ _ (T1.setTop (mkF m 14 #[.val (.ref p0), .val (.ref p1), .unset, .unset] [(.int (0 : Int32))])) _ _ _ _
  obtain ⟨T3, h3, k3, X3, e3, E3, A3, O3, st3⟩ := newR X1 hx hZ hown (hw _ (List.mem_of_getElem? (i := 25) rfl)) (hw _ (List.mem_of_getElem? (i := 10) rfl)) eh1 (g := (mkF m 14 #[.val (.ref p0), .val (.ref p1), .unset, .unset] [(.int (0 : Int32))])) rfl (hb hby d1_14) rfl (by decide) (cap := 0) (by decide) (by decide) (by decide) (by decide)
  obtain ⟨b3, g3⟩ : ∃ z, z = h0.size := ⟨_, rfl⟩
  rw [← g3] at A3 st3
  have ne4 : p0 ≠ b3 := Nat.ne_of_lt (Nat.lt_of_lt_of_le P_E_p0.lt (Nat.le_of_eq g3.symm))
  have ne5 : u ≠ b3 := Nat.ne_of_lt (Nat.lt_of_lt_of_le P_V_u.lt (Nat.le_of_eq g3.symm))
  have ne6 : p1 ≠ b3 := Nat.ne_of_lt (Nat.lt_of_lt_of_le P_V_p1.lt (Nat.le_of_eq g3.symm))
  have ne7 : sA ≠ b3 := Nat.ne_of_lt (Nat.lt_of_lt_of_le P_E_sA.lt (Nat.le_of_eq g3.symm))
  have ne8 : sB ≠ b3 := Nat.ne_of_lt (Nat.lt_of_lt_of_le P_E_sB.lt (Nat.le_of_eq g3.symm))
  have ne9 : sC ≠ b3 := Nat.ne_of_lt (Nat.lt_of_lt_of_le P_E_sC.lt (Nat.le_of_eq g3.symm))
  have gg3 : n0 ≤ b3 := Nat.le_trans Z0 (Nat.le_of_eq g3.symm)
  have sz3_0 : h0.size ≤ b3 := Nat.le_trans K0.1 (Nat.le_of_eq g3.symm)
  have Zs3 : n0 ≤ h3.size := Nat.le_trans Z0 E3.1
  have K3_0 : Keep h0 h3 [] := K0.ext E3
  have f10 : Old Z n0 h3 := P_Old.ext E3
  have f11 : Exa Z h3 p0 "java/lang/String" := P_E_p0.ext E3
  have f12 : Fld Z h3 p0 "java/lang/String" "coder" "B" (.int (0 : Int32)) := P_F_p0_coder.ext E3
  have f13 : Fld Z h3 p0 "java/lang/String" "value" "[B" (.ref u) := P_F_p0_value.ext E3
  have f14 : Arv Z h3 u kb .byte (0 : Int32) [] (.int (0 : Int32)) := P_V_u.ext E3
  have f15 : Arv Z h3 p1 kr (.object "java/lang/String") (3 : Int32) [(.ref sA), (.ref sB), (.ref sC)] .null := P_V_p1.ext E3
  have f16 : Exa Z h3 sA "java/lang/String" := P_E_sA.ext E3
  have f17 : Exa Z h3 sB "java/lang/String" := P_E_sB.ext E3
  have f18 : Exa Z h3 sC "java/lang/String" := P_E_sC.ext E3
  have f19 : Ovr Z k3 "java/lang/String" := O3
  have f20 : Arv Z h3 b3 k3 (.object "java/lang/String") (0 : Int32) [] .null := Arv.new A3 (by decide)
  refine own_go (fun _ k => st3 _ k) ?_
  show own_G _ _ _ (T3.setTop (mkF m 17 #[.val (.ref p0), .val (.ref p1), .unset, .unset] [(.ref b3)])) _ _ _ _
  refine own_go (fun _ k => XS.astoreN X3.here hx rfl (hb hby d1_17) rfl rfl (l' := #[.val (.ref p0), .val (.ref p1), .val (.ref b3), .unset]) rfl k) ?_
  show own_G _ _ _ (T3.setTop (mkF m 18 #[.val (.ref p0), .val (.ref p1), .val (.ref b3), .unset] [])) _ _ _ _
  refine own_go (fun _ k => XS.iconst X3.here hx rfl (hb hby d1_18) k) ?_
  show own_G _ _ _ (T3.setTop (mkF m 19 #[.val (.ref p0), .val (.ref p1), .val (.ref b3), .unset] [(.int (0 : Int32))])) _ _ _ _
  refine own_go (fun _ k => XS.istoreN X3.here hx rfl (hb hby d1_19) rfl (l' := #[.val (.ref p0), .val (.ref p1), .val (.ref b3), .val (.int (0 : Int32))]) rfl k) ?_
  show own_G _ _ _ (T3.setTop (mkF m 20 #[.val (.ref p0), .val (.ref p1), .val (.ref b3), .val (.int (0 : Int32))] [])) _ _ _ _
  refine own_go (fun _ k => XS.iloadN X3.here hx rfl (hb hby d1_20) rfl k) ?_
  show own_G _ _ _ (T3.setTop (mkF m 21 #[.val (.ref p0), .val (.ref p1), .val (.ref b3), .val (.int (0 : Int32))] [(.int (0 : Int32))])) _ _ _ _
  refine own_go (fun _ k => XS.aloadN X3.here hx rfl (hb hby d1_21) rfl rfl k) ?_
  show own_G _ _ _ (T3.setTop (mkF m 22 #[.val (.ref p0), .val (.ref p1), .val (.ref b3), .val (.int (0 : Int32))] [(.ref p0), (.int (0 : Int32))])) _ _ _ _
  have fT21 : own_Str Z h3 p0 ([] : List Int32) := ⟨u, kb, f11, f12, f13, f14, (by intro c hc; exact absurd hc List.not_mem_nil), by simp⟩
  obtain ⟨t22, kb22, Es22, Cs22, Vs22, Ks22, hp22, hl22⟩ := id fT21
  obtain ⟨cq22, kq22, q22a, q22b, q22c⟩ := isOf hZ e3 Es22
  obtain ⟨_, _, ⟨T22, L22, k22, n22⟩, -, X22, ⟨Lc22, hQ22, l22, y22, z22⟩, st22⟩ := X3.virtualBack hx (y := (⟨"java/lang/String", "length", "()I"⟩ : MethodName)) (z := (⟨"java/lang/String", "length", "()I"⟩ : MethodName)) hown (mvT hZ (hw _ (List.mem_of_getElem? (i := 26) rfl))) (mvT hZ (hw _ (List.mem_of_getElem? (i := 27) rfl))) (notFace_of_selects (args := #[]) (mvT hZ (hw _ (List.mem_of_getElem? (i := 29) rfl)))) (mvT hZ (hw _ (List.mem_of_getElem? (i := 29) rfl))) (mvT hZ (hw _ (List.mem_of_getElem? (i := 28) rfl))) (by decide) (StrChars.Road.lenW (W := 1) hZ (own_wLen hw) (kI := 4) (hw _ (List.mem_of_getElem? (i := 3) rfl)) Es22 Vs22 Cs22 Ks22 (StrChars.Road.codOf rfl (fun x hx => (hp22 x hx).2)) (own_up _ hp22) (P_ZS_java_lang_String_COMPACT_STRINGS.ext f10.2) hcs hl22 (by decide) (by decide)) q22a q22c (g := (mkF m 22 #[.val (.ref p0), .val (.ref p1), .val (.ref b3), .val (.int (0 : Int32))] [(.ref p0), (.int (0 : Int32))])) rfl (by rw [hml]; rfl) (Steps.refl _) (argsL := []) (rest := [(.int (0 : Int32))]) (lenOf pd_4 rfl) rfl (by show 2 * 0 + _ ≤ _; exact Nat.le_of_eq rfl) (hb hby d1_22) (fun _ _ => ⟨rfl, e3, (by decide : 1 + 0 ≤ _), (by decide : 0 + 0 ≤ _)⟩)
  dsimp only [Pt.U, Pt.locs, Pt.cells, Pt.slots] at X22 l22 y22 z22 st22 hQ22
  rw [l22] at X22
  subst y22 z22
  obtain ⟨rfl, rfl, eh22⟩ := hQ22
  have N22 := Fr.app N1 (Fr.nil n0)
  refine own_tr st22 ?_
  show own_G _ _ _ (T22.setTop (mkF m 25 #[.val (.ref p0), .val (.ref p1), .val (.ref b3), .val (.int (0 : Int32))] [(.int (Int32.ofNat ([] : List Int32).length)), (.int (0 : Int32))])) _ _ _ _
  have hc23 : ¬ ((0 : Int32) < (Int32.ofNat ([] : List Int32).length)) := (by show ¬ ((0 : Int32) < (0 : Int32)); decide)
  refine own_go (fun _ k => XS.icmpYes X22.here hx rfl (pc0 := 25) (pc' := 44) rfl (hb hby d1_25) rfl (flt hc23).2.1 (by decide) (by decide) k) ?_
  show own_G _ _ _ (T22.setTop (mkF m 44 #[.val (.ref p0), .val (.ref p1), .val (.ref b3), .val (.int (0 : Int32))] [])) _ _ _ _
  refine own_go (fun _ k => XS.aloadN X22.here hx rfl (hb hby d1_44) rfl rfl k) ?_
  show own_G _ _ _ (T22.setTop (mkF m 45 #[.val (.ref p0), .val (.ref p1), .val (.ref b3), .val (.int (0 : Int32))] [(.ref b3)])) _ _ _ _
  exact own_endR X22 hx hlk Bd.returns rfl rfl rfl (hb hby d1_45) (by decide) (by decide) (Q := (Q1a Z p0 p1 zc fm u kb kr sA sB sC h0 n0)) (by rw [eh22]; exact ⟨b3, k3, rfl, N22, K3_0, f20⟩)
theorem pd_5 : parseMethodDescriptor "(I)C" = some ⟨[.int], some .char⟩ := by decide +kernel
def Q1b (Z : State) (p0 : Addr) (p1 : Addr) (zc : Int32) (fm : Value) (u : Addr) (kb : ClassId) (kr : ClassId) (sA : Addr) (sB : Addr) (sC : Addr) (x0 : Int32) (h0 : Heap) (n0 : Nat) (v : Option Value) (h : Heap) (L : List Loc) : Prop := ∃ (na : Addr) (kn : ClassId), v = some (.ref na) ∧ Fr n0 L ∧ Keep h0 h [] ∧ Arv Z h na kn (.object "java/lang/String") (128 : Int32) (own_set own_t0 x0 (.ref sA)) .null
set_option maxRecDepth 65536 in
set_option maxHeartbeats 40000000 in
theorem rm1b (l : Launch) (Z : State) (a0 : Array Value) (hw : ∀ d ∈ tables_1, d.before a0 Z = true) (ws : List Jvm.Cond) (p0 : Addr) (p1 : Addr) (zc : Int32) (fm : Value) (u : Addr) (kb : ClassId) (kr : ClassId) (sA : Addr) (sB : Addr) (sC : Addr) (x0 : Int32) (h0 : Heap) (n0 : Nat) (Z0 : n0 ≤ h0.size) (P_Old : Old Z n0 h0) (P_ZS_java_lang_String_COMPACT_STRINGS : Sta Z Z.heap "java/lang/String" "COMPACT_STRINGS" "Z" (.int zc)) (hcs : ¬ zc = 0) (P_ZS_jdk_internal_util_Preconditions_SIOOBE_FORMATTER : Sta Z Z.heap "jdk/internal/util/Preconditions" "SIOOBE_FORMATTER" "Ljava/util/function/BiFunction;" fm) (hfm : fm.isRef = true) (P_E_p0 : Exa Z h0 p0 "java/lang/String") (P_F_p0_coder : Fld Z h0 p0 "java/lang/String" "coder" "B" (.int (0 : Int32))) (P_F_p0_value : Fld Z h0 p0 "java/lang/String" "value" "[B" (.ref u)) (P_V_u : Arv Z h0 u kb .byte (1 : Int32) [(.int x0.toInt8.toInt32)] (.int (0 : Int32))) (P_V_p1 : Arv Z h0 p1 kr (.object "java/lang/String") (3 : Int32) [(.ref sA), (.ref sB), (.ref sC)] .null) (P_E_sA : Exa Z h0 sA "java/lang/String") (P_E_sB : Exa Z h0 sB "java/lang/String") (P_E_sC : Exa Z h0 sC "java/lang/String") (rg0 : own_rg x0) :
    MetFree l (⟨"com/example/issuerd/issuerd/xml/Dom", "references", "(Ljava/lang/String;[Ljava/lang/String;)[Ljava/lang/String;"⟩ : MethodName) (head1 (Jvm.Cond.code (⟨"com/example/issuerd/issuerd/xml/Dom", "references", "(Ljava/lang/String;[Ljava/lang/String;)[Ljava/lang/String;"⟩ : MethodName) prog_48_method_10_code 4 (some (.array (.object "java/lang/String"))) :: ws) ({ frames := 4, cells := 1, slots := 128, locals := 54 } : Room)) (fun a U => a = #[(.ref p0), (.ref p1)] ∧ Z.Warmed39 U.vm ∧ U.heap = h0) (fun _ _ _ _ _ => True) (fun _ U o U' => ∃ v L, o = .returned v ∧ (Q1b Z p0 p1 zc fm u kb kr sA sB sC x0 h0 n0) v U'.heap L ∧ FrameEnd U o U' L ({ frames := 4, cells := 1, slots := 128, locals := 54 } : Room).cells ({ frames := 4, cells := 1, slots := 128, locals := 54 } : Room).slots) := by
  refine MetFree.of_bodySF (plainFor_of_name pn_2) hisR ?_
  intro p e s m args below meth c s₁ Bd hml0 hP hK
  obtain ⟨rfl, hZ, hh⟩ := hP
  have hx := Bd.exec
  have hby := Bd.bytes
  have hml : c.maxLocals = 4 := hml0
  have hown : s.vm.findClass "com/example/issuerd/issuerd/xml/Dom" = some m.cls := findClass_of_methodNamed Bd.named
  have hnm := (name_of_methodNamed Bd.named Bd.method).1
  have hlk : meth.locks = false := BodyLoose.notSynchronized Bd
  have X0 : Stand p l e ({ frames := 4, cells := 1, slots := 128, locals := 54 } : Room) s m #[(.ref p0), (.ref p1)] below meth c s₁ [] 0 0 := Stand.of_body Bd
  have e0 : s₁.heap = h0 := by rw [← hh, Bd.state]; rfl
  have N0 := Fr.nil n0
  have K0 : Keep h0 h0 [] := Keep.refl h0 []
  show own_G p.tables e below (s₁.setTop (entryFrame m #[(.ref p0), (.ref p1)] 4)) s ({ frames := 4, cells := 1, slots := 128, locals := 54 } : Room).cells ({ frames := 4, cells := 1, slots := 128, locals := 54 } : Room).slots (Q1b Z p0 p1 zc fm u kb kr sA sB sC x0 h0 n0)
  refine own_go (fun _ k => castTop (ef_1a m p0 p1) k) ?_
  show own_G _ _ _ (s₁.setTop (mkF m 0 #[.val (.ref p0), .val (.ref p1), .unset, .unset] [])) _ _ _ _
  refine own_go (fun _ k => XS.aloadN X0.here hx rfl (hb hby d1_0) rfl rfl k) ?_
  show own_G _ _ _ (s₁.setTop (mkF m 1 #[.val (.ref p0), .val (.ref p1), .unset, .unset] [(.ref p0)])) _ _ _ _
  obtain ⟨cq1, kq1, q1a, q1b, q1c⟩ := isOf hZ e0 P_E_p0
  obtain ⟨_, _, ⟨T1, L1, k1, n1⟩, -, X1, ⟨Lc1, hQ1, l1, y1, z1⟩, st1⟩ := X0.virtualBack hx (y := (⟨"java/lang/String", "isEmpty", "()Z"⟩ : MethodName)) (z := (⟨"java/lang/String", "isEmpty", "()Z"⟩ : MethodName)) hown (mvT hZ (hw _ (List.mem_of_getElem? (i := 19) rfl))) (mvT hZ (hw _ (List.mem_of_getElem? (i := 20) rfl))) (notFace_of_selects (args := #[]) (mvT hZ (hw _ (List.mem_of_getElem? (i := 22) rfl)))) (mvT hZ (hw _ (List.mem_of_getElem? (i := 22) rfl))) (mvT hZ (hw _ (List.mem_of_getElem? (i := 21) rfl))) (by decide) (backOf (W := 0) (rm2b l Z a0 hw [] p0 u kb x0.toInt8.toInt32 h0 n0 Z0 P_F_p0_value P_V_u) hZ (hw _ (List.mem_of_getElem? (i := 23) rfl)) (hw _ (List.mem_of_getElem? (i := 2) rfl)) (by decide) (by decide)) q1a q1c (g := (mkF m 1 #[.val (.ref p0), .val (.ref p1), .unset, .unset] [(.ref p0)])) rfl (by rw [hml]; rfl) (Steps.refl _) (argsL := []) (rest := []) (lenOf pd_3 rfl) rfl (by show 2 * 0 + _ ≤ _; exact Nat.le_of_eq rfl) (hb hby d1_1) (fun _ _ => ⟨rfl, e0, (by decide : 0 + 0 ≤ _), (by decide : 0 + 0 ≤ _)⟩)
  dsimp only [Pt.U, Pt.locs, Pt.cells, Pt.slots] at X1 l1 y1 z1 st1 hQ1
  rw [l1] at X1
  subst y1 z1
  obtain ⟨rfl, Nq1, eh1⟩ := hQ1
  have N1 := Fr.app N0 Nq1
  refine own_tr st1 ?_
  show own_G _ _ _ (T1.setTop (mkF m 4 #[.val (.ref p0), .val (.ref p1), .unset, .unset] [(.int (0 : Int32))])) _ _ _ _
  have hc2 : (0 : Int32) = (0 : Int32) := (by decide)
  refine own_go (fun _ k => XS.ifYes X1.here hx rfl (pc0 := 4) (pc' := 11) rfl (hb hby d1_4) rfl ((if0 _ _).trans (teq hc2).1) (by decide) (by decide) k) ?_
  show own_G _ _ _ (T1.setTop (mkF m 11 #[.val (.ref p0), .val (.ref p1), .unset, .unset] [])) _ _ _ _
  refine own_go (fun _ k => XS.sipush X1.here hx rfl (hb hby d1_11) k) ?_
  show own_G _ _ _ (T1.setTop (mkF m 14 #[.val (.ref p0), .val (.ref p1), .unset, .unset] [(.int (128 : Int32))])) _ _ _ _
  obtain ⟨T3, h3, k3, X3, e3, E3, A3, O3, st3⟩ := newR X1 hx hZ hown (hw _ (List.mem_of_getElem? (i := 25) rfl)) (hw _ (List.mem_of_getElem? (i := 10) rfl)) eh1 (g := (mkF m 14 #[.val (.ref p0), .val (.ref p1), .unset, .unset] [(.int (128 : Int32))])) rfl (hb hby d1_14) rfl (by decide) (cap := 128) (by decide) (by decide) (by decide) (by decide)
  obtain ⟨b3, g3⟩ : ∃ z, z = h0.size := ⟨_, rfl⟩
  rw [← g3] at A3 st3
  have ne4 : p0 ≠ b3 := Nat.ne_of_lt (Nat.lt_of_lt_of_le P_E_p0.lt (Nat.le_of_eq g3.symm))
  have ne5 : u ≠ b3 := Nat.ne_of_lt (Nat.lt_of_lt_of_le P_V_u.lt (Nat.le_of_eq g3.symm))
  have ne6 : p1 ≠ b3 := Nat.ne_of_lt (Nat.lt_of_lt_of_le P_V_p1.lt (Nat.le_of_eq g3.symm))
  have ne7 : sA ≠ b3 := Nat.ne_of_lt (Nat.lt_of_lt_of_le P_E_sA.lt (Nat.le_of_eq g3.symm))
  have ne8 : sB ≠ b3 := Nat.ne_of_lt (Nat.lt_of_lt_of_le P_E_sB.lt (Nat.le_of_eq g3.symm))
  have ne9 : sC ≠ b3 := Nat.ne_of_lt (Nat.lt_of_lt_of_le P_E_sC.lt (Nat.le_of_eq g3.symm))
  have gg3 : n0 ≤ b3 := Nat.le_trans Z0 (Nat.le_of_eq g3.symm)
  have sz3_0 : h0.size ≤ b3 := Nat.le_trans K0.1 (Nat.le_of_eq g3.symm)
  have Zs3 : n0 ≤ h3.size := Nat.le_trans Z0 E3.1
  have K3_0 : Keep h0 h3 [] := K0.ext E3
  have f10 : Old Z n0 h3 := P_Old.ext E3
  have f11 : Exa Z h3 p0 "java/lang/String" := P_E_p0.ext E3
  have f12 : Fld Z h3 p0 "java/lang/String" "coder" "B" (.int (0 : Int32)) := P_F_p0_coder.ext E3
  have f13 : Fld Z h3 p0 "java/lang/String" "value" "[B" (.ref u) := P_F_p0_value.ext E3
  have f14 : Arv Z h3 u kb .byte (1 : Int32) [(.int x0.toInt8.toInt32)] (.int (0 : Int32)) := P_V_u.ext E3
  have f15 : Arv Z h3 p1 kr (.object "java/lang/String") (3 : Int32) [(.ref sA), (.ref sB), (.ref sC)] .null := P_V_p1.ext E3
  have f16 : Exa Z h3 sA "java/lang/String" := P_E_sA.ext E3
  have f17 : Exa Z h3 sB "java/lang/String" := P_E_sB.ext E3
  have f18 : Exa Z h3 sC "java/lang/String" := P_E_sC.ext E3
  have f19 : Ovr Z k3 "java/lang/String" := O3
  have f20 : Arv Z h3 b3 k3 (.object "java/lang/String") (128 : Int32) [] .null := Arv.new A3 (by decide)
  refine own_go (fun _ k => st3 _ k) ?_
  show own_G _ _ _ (T3.setTop (mkF m 17 #[.val (.ref p0), .val (.ref p1), .unset, .unset] [(.ref b3)])) _ _ _ _
  have f21 : Arv Z h3 b3 k3 (.object "java/lang/String") (128 : Int32) own_t0 .null := (f20).pad (fun i => pad_rep [] .null 128 i)
  refine own_go (fun _ k => XS.astoreN X3.here hx rfl (hb hby d1_17) rfl rfl (l' := #[.val (.ref p0), .val (.ref p1), .val (.ref b3), .unset]) rfl k) ?_
  show own_G _ _ _ (T3.setTop (mkF m 18 #[.val (.ref p0), .val (.ref p1), .val (.ref b3), .unset] [])) _ _ _ _
  refine own_go (fun _ k => XS.iconst X3.here hx rfl (hb hby d1_18) k) ?_
  show own_G _ _ _ (T3.setTop (mkF m 19 #[.val (.ref p0), .val (.ref p1), .val (.ref b3), .unset] [(.int (0 : Int32))])) _ _ _ _
  refine own_go (fun _ k => XS.istoreN X3.here hx rfl (hb hby d1_19) rfl (l' := #[.val (.ref p0), .val (.ref p1), .val (.ref b3), .val (.int (0 : Int32))]) rfl k) ?_
  show own_G _ _ _ (T3.setTop (mkF m 20 #[.val (.ref p0), .val (.ref p1), .val (.ref b3), .val (.int (0 : Int32))] [])) _ _ _ _
  refine own_go (fun _ k => XS.iloadN X3.here hx rfl (hb hby d1_20) rfl k) ?_
  show own_G _ _ _ (T3.setTop (mkF m 21 #[.val (.ref p0), .val (.ref p1), .val (.ref b3), .val (.int (0 : Int32))] [(.int (0 : Int32))])) _ _ _ _
  refine own_go (fun _ k => XS.aloadN X3.here hx rfl (hb hby d1_21) rfl rfl k) ?_
  show own_G _ _ _ (T3.setTop (mkF m 22 #[.val (.ref p0), .val (.ref p1), .val (.ref b3), .val (.int (0 : Int32))] [(.ref p0), (.int (0 : Int32))])) _ _ _ _
  have fT22 : own_Str Z h3 p0 ([x0] : List Int32) := ⟨u, kb, f11, f12, f13, f14, (by intro c hc; simp only [List.mem_cons, List.not_mem_nil, or_false] at hc; rcases hc with hc <;> rw [hc] <;> first | exact rg0.byte), by simp⟩
  obtain ⟨t23, kb23, Es23, Cs23, Vs23, Ks23, hp23, hl23⟩ := id fT22
  obtain ⟨cq23, kq23, q23a, q23b, q23c⟩ := isOf hZ e3 Es23
  obtain ⟨_, _, ⟨T23, L23, k23, n23⟩, -, X23, ⟨Lc23, hQ23, l23, y23, z23⟩, st23⟩ := X3.virtualBack hx (y := (⟨"java/lang/String", "length", "()I"⟩ : MethodName)) (z := (⟨"java/lang/String", "length", "()I"⟩ : MethodName)) hown (mvT hZ (hw _ (List.mem_of_getElem? (i := 26) rfl))) (mvT hZ (hw _ (List.mem_of_getElem? (i := 27) rfl))) (notFace_of_selects (args := #[]) (mvT hZ (hw _ (List.mem_of_getElem? (i := 29) rfl)))) (mvT hZ (hw _ (List.mem_of_getElem? (i := 29) rfl))) (mvT hZ (hw _ (List.mem_of_getElem? (i := 28) rfl))) (by decide) (StrChars.Road.lenW (W := 1) hZ (own_wLen hw) (kI := 4) (hw _ (List.mem_of_getElem? (i := 3) rfl)) Es23 Vs23 Cs23 Ks23 (StrChars.Road.codOf rfl (fun x hx => (hp23 x hx).2)) (own_up _ hp23) (P_ZS_java_lang_String_COMPACT_STRINGS.ext f10.2) hcs hl23 (by decide) (by decide)) q23a q23c (g := (mkF m 22 #[.val (.ref p0), .val (.ref p1), .val (.ref b3), .val (.int (0 : Int32))] [(.ref p0), (.int (0 : Int32))])) rfl (by rw [hml]; rfl) (Steps.refl _) (argsL := []) (rest := [(.int (0 : Int32))]) (lenOf pd_4 rfl) rfl (by show 2 * 0 + _ ≤ _; exact Nat.le_of_eq rfl) (hb hby d1_22) (fun _ _ => ⟨rfl, e3, (by decide : 1 + 0 ≤ _), (by decide : 128 + 0 ≤ _)⟩)
  dsimp only [Pt.U, Pt.locs, Pt.cells, Pt.slots] at X23 l23 y23 z23 st23 hQ23
  rw [l23] at X23
  subst y23 z23
  obtain ⟨rfl, rfl, eh23⟩ := hQ23
  have N23 := Fr.app N1 (Fr.nil n0)
  refine own_tr st23 ?_
  show own_G _ _ _ (T23.setTop (mkF m 25 #[.val (.ref p0), .val (.ref p1), .val (.ref b3), .val (.int (0 : Int32))] [(.int (Int32.ofNat ([x0] : List Int32).length)), (.int (0 : Int32))])) _ _ _ _
  have hc24 : (0 : Int32) < (Int32.ofNat ([x0] : List Int32).length) := (by show (0 : Int32) < (1 : Int32); decide)
  refine own_go (fun _ k => XS.icmpNo X23.here hx rfl (hb hby d1_25) rfl (tlt hc24).2.1 k) ?_
  show own_G _ _ _ (T23.setTop (mkF m 28 #[.val (.ref p0), .val (.ref p1), .val (.ref b3), .val (.int (0 : Int32))] [])) _ _ _ _
  refine own_go (fun _ k => XS.aloadN X23.here hx rfl (hb hby d1_28) rfl rfl k) ?_
  show own_G _ _ _ (T23.setTop (mkF m 29 #[.val (.ref p0), .val (.ref p1), .val (.ref b3), .val (.int (0 : Int32))] [(.ref b3)])) _ _ _ _
  refine own_go (fun _ k => XS.aloadN X23.here hx rfl (hb hby d1_29) rfl rfl k) ?_
  show own_G _ _ _ (T23.setTop (mkF m 30 #[.val (.ref p0), .val (.ref p1), .val (.ref b3), .val (.int (0 : Int32))] [(.ref p0), (.ref b3)])) _ _ _ _
  refine own_go (fun _ k => XS.iloadN X23.here hx rfl (hb hby d1_30) rfl k) ?_
  show own_G _ _ _ (T23.setTop (mkF m 31 #[.val (.ref p0), .val (.ref p1), .val (.ref b3), .val (.int (0 : Int32))] [(.int (0 : Int32)), (.ref p0), (.ref b3)])) _ _ _ _
  have fT25 : own_Str Z h3 p0 ([x0] : List Int32) := ⟨u, kb, f11, f12, f13, f14, (by intro c hc; simp only [List.mem_cons, List.not_mem_nil, or_false] at hc; rcases hc with hc <;> rw [hc] <;> first | exact rg0.byte), by simp⟩
  obtain ⟨t26, kb26, Es26, Cs26, Vs26, Ks26, hp26, hl26⟩ := id fT25
  obtain ⟨cq26, kq26, q26a, q26b, q26c⟩ := isOf hZ eh23 Es26
  obtain ⟨_, _, ⟨T26, L26, k26, n26⟩, -, X26, ⟨Lc26, hQ26, l26, y26, z26⟩, st26⟩ := X23.virtualBack hx (y := (⟨"java/lang/String", "charAt", "(I)C"⟩ : MethodName)) (z := (⟨"java/lang/String", "charAt", "(I)C"⟩ : MethodName)) hown (mvT hZ (hw _ (List.mem_of_getElem? (i := 57) rfl))) (mvT hZ (hw _ (List.mem_of_getElem? (i := 58) rfl))) (notFace_of_selects (args := #[]) (mvT hZ (hw _ (List.mem_of_getElem? (i := 60) rfl)))) (mvT hZ (hw _ (List.mem_of_getElem? (i := 60) rfl))) (mvT hZ (hw _ (List.mem_of_getElem? (i := 59) rfl))) (by decide) (StrChars.Road.chN (W := 1) hZ (own_wCh hw) (kI := 4) (hw _ (List.mem_of_getElem? (i := 3) rfl)) Es26 Vs26 Cs26 Ks26 (StrChars.Road.codOf rfl (fun x hx => (hp26 x hx).2)) (own_up _ hp26) (P_ZS_java_lang_String_COMPACT_STRINGS.ext f10.2) hcs (P_ZS_jdk_internal_util_Preconditions_SIOOBE_FORMATTER.ext f10.2) hfm hl26 (i := 0) (by simp) (j := (0 : Int32)) rfl (by decide) (by decide)) q26a q26c (g := (mkF m 31 #[.val (.ref p0), .val (.ref p1), .val (.ref b3), .val (.int (0 : Int32))] [(.int (0 : Int32)), (.ref p0), (.ref b3)])) rfl (by rw [hml]; rfl) (Steps.refl _) (argsL := [(.int (0 : Int32))]) (rest := [(.ref b3)]) (lenOf pd_5 rfl) rfl (by show 2 * 0 + _ ≤ _; exact Nat.le_of_eq rfl) (hb hby d1_31) (fun _ _ => ⟨rfl, eh23, (by decide : 1 + 0 ≤ _), (by decide : 128 + 0 ≤ _)⟩)
  dsimp only [Pt.U, Pt.locs, Pt.cells, Pt.slots] at X26 l26 y26 z26 st26 hQ26
  rw [l26] at X26
  subst y26 z26
  obtain ⟨rfl, rfl, eh26⟩ := hQ26
  have N26 := Fr.app N23 (Fr.nil n0)
  refine own_tr st26 ?_
  show own_G _ _ _ (T26.setTop (mkF m 34 #[.val (.ref p0), .val (.ref p1), .val (.ref b3), .val (.int (0 : Int32))] [(.int (([x0] : List Int32).getD 0 0)), (.ref b3)])) _ _ _ _
  show own_G _ _ _ (T26.setTop (mkF m 34 #[.val (.ref p0), .val (.ref p1), .val (.ref b3), .val (.int (0 : Int32))] [(.int x0), (.ref b3)])) _ _ _ _
  refine own_go (fun _ k => XS.aloadN X26.here hx rfl (hb hby d1_34) rfl rfl k) ?_
  show own_G _ _ _ (T26.setTop (mkF m 35 #[.val (.ref p0), .val (.ref p1), .val (.ref b3), .val (.int (0 : Int32))] [(.ref p1), (.int x0), (.ref b3)])) _ _ _ _
  refine own_go (fun _ k => XS.iloadN X26.here hx rfl (hb hby d1_35) rfl k) ?_
  show own_G _ _ _ (T26.setTop (mkF m 36 #[.val (.ref p0), .val (.ref p1), .val (.ref b3), .val (.int (0 : Int32))] [(.int (0 : Int32)), (.ref p1), (.int x0), (.ref b3)])) _ _ _ _
  obtain ⟨cl27, Ar27, q27, S27, Ng27, H27, G27⟩ := id f15
  have in27 : ¬ ((0 : Int32) < 0 ∨ cl27.slots.size ≤ ((0 : Int32)).toNatClampNeg) := inb_of S27 ⟨by decide, by decide⟩
  have at27 : cl27.slots[((0 : Int32)).toNatClampNeg]? = some (.ref sA) := H27.at in27 rfl
  refine own_go (fun _ k => X26.aaload hx (j := (0 : Int32)) (v := (.ref sA)) (by rw [eh26]; exact Ar27.1) (State.isArrayOf_alike hZ.alike Ar27.2.1) rfl Ar27.2.2 in27 at27 (g := (mkF m 36 #[.val (.ref p0), .val (.ref p1), .val (.ref b3), .val (.int (0 : Int32))] [(.int (0 : Int32)), (.ref p1), (.int x0), (.ref b3)])) rfl rfl (hb hby d1_36) _ k) ?_
  show own_G _ _ _ (T26.setTop (mkF m 37 #[.val (.ref p0), .val (.ref p1), .val (.ref b3), .val (.int (0 : Int32))] [(.ref sA), (.int x0), (.ref b3)])) _ _ _ _
  obtain ⟨cl28, Ar28, q28, S28, Ng28, H28, G28⟩ := id f21
  have in28 : ¬ (x0 < 0 ∨ cl28.slots.size ≤ (x0).toNatClampNeg) := inb_of S28 rg0.inb
  obtain ⟨T28, h28, X28, e28, W28, st28⟩ := stR X26 hx hZ eh26 Ar28 (j := x0) in28 rfl (Sto.ofV Ar28 q28 f19 (Ins.self f16)) (g := (mkF m 37 #[.val (.ref p0), .val (.ref p1), .val (.ref b3), .val (.int (0 : Int32))] [(.ref sA), (.int x0), (.ref b3)])) rfl rfl (hb hby d1_37)
  have N28 := Fr.snoc X28 N26 gg3
  have Zs28 : n0 ≤ h28.size := Nat.le_trans Zs3 (Keep.of_wr W28).1
  have K28_0 : Keep h0 h28 [] := K3_0.wr W28 (Or.inr sz3_0)
  have f29 : Old Z n0 h28 := f10.wr W28 gg3
  have f30 : Exa Z h28 p0 "java/lang/String" := f11.wr W28
  have f31 : Fld Z h28 p0 "java/lang/String" "coder" "B" (.int (0 : Int32)) := f12.other W28 (Or.inl ne4)
  have f32 : Fld Z h28 p0 "java/lang/String" "value" "[B" (.ref u) := f13.other W28 (Or.inl ne4)
  have f33 : Arv Z h28 u kb .byte (1 : Int32) [(.int x0.toInt8.toInt32)] (.int (0 : Int32)) := f14.other W28 ne5
  have f34 : Arv Z h28 p1 kr (.object "java/lang/String") (3 : Int32) [(.ref sA), (.ref sB), (.ref sC)] .null := f15.other W28 ne6
  have f35 : Exa Z h28 sA "java/lang/String" := f16.wr W28
  have f36 : Exa Z h28 sB "java/lang/String" := f17.wr W28
  have f37 : Exa Z h28 sC "java/lang/String" := f18.wr W28
  have f38 : Arv Z h28 b3 k3 (.object "java/lang/String") (128 : Int32) (own_set own_t0 x0 (.ref sA)) .null := Arv.set Ar28 q28 S28 Ng28 H28 G28 rfl W28 x0.toNatClampNeg rfl (by simp only [own_set_len, own_t0_len]; exact rg0.nat)
  refine own_go (fun _ k => st28 _ k) ?_
  show own_G _ _ _ (T28.setTop (mkF m 38 #[.val (.ref p0), .val (.ref p1), .val (.ref b3), .val (.int (0 : Int32))] [])) _ _ _ _
  refine own_go (fun _ k => XS.iinc X28.here hx rfl (hb hby d1_38) rfl (l' := #[.val (.ref p0), .val (.ref p1), .val (.ref b3), .val (.int (1 : Int32))]) rfl k) ?_
  show own_G _ _ _ (T28.setTop (mkF m 41 #[.val (.ref p0), .val (.ref p1), .val (.ref b3), .val (.int (1 : Int32))] [])) _ _ _ _
  refine own_go (fun _ k => XS.goto X28.here hx rfl (pc0 := 41) (pc' := 20) rfl (hb hby d1_41) (by decide) (by decide) k) ?_
  show own_G _ _ _ (T28.setTop (mkF m 20 #[.val (.ref p0), .val (.ref p1), .val (.ref b3), .val (.int (1 : Int32))] [])) _ _ _ _
  refine own_go (fun _ k => XS.iloadN X28.here hx rfl (hb hby d1_20) rfl k) ?_
  show own_G _ _ _ (T28.setTop (mkF m 21 #[.val (.ref p0), .val (.ref p1), .val (.ref b3), .val (.int (1 : Int32))] [(.int (1 : Int32))])) _ _ _ _
  refine own_go (fun _ k => XS.aloadN X28.here hx rfl (hb hby d1_21) rfl rfl k) ?_
  show own_G _ _ _ (T28.setTop (mkF m 22 #[.val (.ref p0), .val (.ref p1), .val (.ref b3), .val (.int (1 : Int32))] [(.ref p0), (.int (1 : Int32))])) _ _ _ _
  have fT39 : own_Str Z h28 p0 ([x0] : List Int32) := ⟨u, kb, f30, f31, f32, f33, (by intro c hc; simp only [List.mem_cons, List.not_mem_nil, or_false] at hc; rcases hc with hc <;> rw [hc] <;> first | exact rg0.byte), by simp⟩
  obtain ⟨t40, kb40, Es40, Cs40, Vs40, Ks40, hp40, hl40⟩ := id fT39
  obtain ⟨cq40, kq40, q40a, q40b, q40c⟩ := isOf hZ e28 Es40
  obtain ⟨_, _, ⟨T40, L40, k40, n40⟩, -, X40, ⟨Lc40, hQ40, l40, y40, z40⟩, st40⟩ := X28.virtualBack hx (y := (⟨"java/lang/String", "length", "()I"⟩ : MethodName)) (z := (⟨"java/lang/String", "length", "()I"⟩ : MethodName)) hown (mvT hZ (hw _ (List.mem_of_getElem? (i := 26) rfl))) (mvT hZ (hw _ (List.mem_of_getElem? (i := 27) rfl))) (notFace_of_selects (args := #[]) (mvT hZ (hw _ (List.mem_of_getElem? (i := 29) rfl)))) (mvT hZ (hw _ (List.mem_of_getElem? (i := 29) rfl))) (mvT hZ (hw _ (List.mem_of_getElem? (i := 28) rfl))) (by decide) (StrChars.Road.lenW (W := 1) hZ (own_wLen hw) (kI := 4) (hw _ (List.mem_of_getElem? (i := 3) rfl)) Es40 Vs40 Cs40 Ks40 (StrChars.Road.codOf rfl (fun x hx => (hp40 x hx).2)) (own_up _ hp40) (P_ZS_java_lang_String_COMPACT_STRINGS.ext f29.2) hcs hl40 (by decide) (by decide)) q40a q40c (g := (mkF m 22 #[.val (.ref p0), .val (.ref p1), .val (.ref b3), .val (.int (1 : Int32))] [(.ref p0), (.int (1 : Int32))])) rfl (by rw [hml]; rfl) (Steps.refl _) (argsL := []) (rest := [(.int (1 : Int32))]) (lenOf pd_4 rfl) rfl (by show 2 * 0 + _ ≤ _; exact Nat.le_of_eq rfl) (hb hby d1_22) (fun _ _ => ⟨rfl, e28, (by decide : 1 + 0 ≤ _), (by decide : 128 + 0 ≤ _)⟩)
  dsimp only [Pt.U, Pt.locs, Pt.cells, Pt.slots] at X40 l40 y40 z40 st40 hQ40
  rw [l40] at X40
  subst y40 z40
  obtain ⟨rfl, rfl, eh40⟩ := hQ40
  have N40 := Fr.app N28 (Fr.nil n0)
  refine own_tr st40 ?_
  show own_G _ _ _ (T40.setTop (mkF m 25 #[.val (.ref p0), .val (.ref p1), .val (.ref b3), .val (.int (1 : Int32))] [(.int (Int32.ofNat ([x0] : List Int32).length)), (.int (1 : Int32))])) _ _ _ _
  have hc41 : ¬ ((1 : Int32) < (Int32.ofNat ([x0] : List Int32).length)) := (by show ¬ ((1 : Int32) < (1 : Int32)); decide)
  refine own_go (fun _ k => XS.icmpYes X40.here hx rfl (pc0 := 25) (pc' := 44) rfl (hb hby d1_25) rfl (flt hc41).2.1 (by decide) (by decide) k) ?_
  show own_G _ _ _ (T40.setTop (mkF m 44 #[.val (.ref p0), .val (.ref p1), .val (.ref b3), .val (.int (1 : Int32))] [])) _ _ _ _
  refine own_go (fun _ k => XS.aloadN X40.here hx rfl (hb hby d1_44) rfl rfl k) ?_
  show own_G _ _ _ (T40.setTop (mkF m 45 #[.val (.ref p0), .val (.ref p1), .val (.ref b3), .val (.int (1 : Int32))] [(.ref b3)])) _ _ _ _
  exact own_endR X40 hx hlk Bd.returns rfl rfl rfl (hb hby d1_45) (by decide) (by decide) (Q := (Q1b Z p0 p1 zc fm u kb kr sA sB sC x0 h0 n0)) (by rw [eh40]; exact ⟨b3, k3, rfl, N40, K28_0, f38⟩)
def Q1c (Z : State) (p0 : Addr) (p1 : Addr) (zc : Int32) (fm : Value) (u : Addr) (kb : ClassId) (kr : ClassId) (sA : Addr) (sB : Addr) (sC : Addr) (x0 : Int32) (x1 : Int32) (h0 : Heap) (n0 : Nat) (v : Option Value) (h : Heap) (L : List Loc) : Prop := ∃ (na : Addr) (kn : ClassId), v = some (.ref na) ∧ Fr n0 L ∧ Keep h0 h [] ∧ Arv Z h na kn (.object "java/lang/String") (128 : Int32) (own_set (own_set own_t0 x0 (.ref sA)) x1 (.ref sB)) .null
set_option maxRecDepth 65536 in
set_option maxHeartbeats 40000000 in
theorem rm1c (l : Launch) (Z : State) (a0 : Array Value) (hw : ∀ d ∈ tables_1, d.before a0 Z = true) (ws : List Jvm.Cond) (p0 : Addr) (p1 : Addr) (zc : Int32) (fm : Value) (u : Addr) (kb : ClassId) (kr : ClassId) (sA : Addr) (sB : Addr) (sC : Addr) (x0 : Int32) (x1 : Int32) (h0 : Heap) (n0 : Nat) (Z0 : n0 ≤ h0.size) (P_Old : Old Z n0 h0) (P_ZS_java_lang_String_COMPACT_STRINGS : Sta Z Z.heap "java/lang/String" "COMPACT_STRINGS" "Z" (.int zc)) (hcs : ¬ zc = 0) (P_ZS_jdk_internal_util_Preconditions_SIOOBE_FORMATTER : Sta Z Z.heap "jdk/internal/util/Preconditions" "SIOOBE_FORMATTER" "Ljava/util/function/BiFunction;" fm) (hfm : fm.isRef = true) (P_E_p0 : Exa Z h0 p0 "java/lang/String") (P_F_p0_coder : Fld Z h0 p0 "java/lang/String" "coder" "B" (.int (0 : Int32))) (P_F_p0_value : Fld Z h0 p0 "java/lang/String" "value" "[B" (.ref u)) (P_V_u : Arv Z h0 u kb .byte (2 : Int32) [(.int x0.toInt8.toInt32), (.int x1.toInt8.toInt32)] (.int (0 : Int32))) (P_V_p1 : Arv Z h0 p1 kr (.object "java/lang/String") (3 : Int32) [(.ref sA), (.ref sB), (.ref sC)] .null) (P_E_sA : Exa Z h0 sA "java/lang/String") (P_E_sB : Exa Z h0 sB "java/lang/String") (P_E_sC : Exa Z h0 sC "java/lang/String") (rg0 : own_rg x0) (rg1 : own_rg x1) :
    MetFree l (⟨"com/example/issuerd/issuerd/xml/Dom", "references", "(Ljava/lang/String;[Ljava/lang/String;)[Ljava/lang/String;"⟩ : MethodName) (head1 (Jvm.Cond.code (⟨"com/example/issuerd/issuerd/xml/Dom", "references", "(Ljava/lang/String;[Ljava/lang/String;)[Ljava/lang/String;"⟩ : MethodName) prog_48_method_10_code 4 (some (.array (.object "java/lang/String"))) :: ws) ({ frames := 4, cells := 1, slots := 128, locals := 54 } : Room)) (fun a U => a = #[(.ref p0), (.ref p1)] ∧ Z.Warmed39 U.vm ∧ U.heap = h0) (fun _ _ _ _ _ => True) (fun _ U o U' => ∃ v L, o = .returned v ∧ (Q1c Z p0 p1 zc fm u kb kr sA sB sC x0 x1 h0 n0) v U'.heap L ∧ FrameEnd U o U' L ({ frames := 4, cells := 1, slots := 128, locals := 54 } : Room).cells ({ frames := 4, cells := 1, slots := 128, locals := 54 } : Room).slots) := by
  refine MetFree.of_bodySF (plainFor_of_name pn_2) hisR ?_
  intro p e s m args below meth c s₁ Bd hml0 hP hK
  obtain ⟨rfl, hZ, hh⟩ := hP
  have hx := Bd.exec
  have hby := Bd.bytes
  have hml : c.maxLocals = 4 := hml0
  have hown : s.vm.findClass "com/example/issuerd/issuerd/xml/Dom" = some m.cls := findClass_of_methodNamed Bd.named
  have hnm := (name_of_methodNamed Bd.named Bd.method).1
  have hlk : meth.locks = false := BodyLoose.notSynchronized Bd
  have X0 : Stand p l e ({ frames := 4, cells := 1, slots := 128, locals := 54 } : Room) s m #[(.ref p0), (.ref p1)] below meth c s₁ [] 0 0 := Stand.of_body Bd
  have e0 : s₁.heap = h0 := by rw [← hh, Bd.state]; rfl
  have N0 := Fr.nil n0
  have K0 : Keep h0 h0 [] := Keep.refl h0 []
  show own_G p.tables e below (s₁.setTop (entryFrame m #[(.ref p0), (.ref p1)] 4)) s ({ frames := 4, cells := 1, slots := 128, locals := 54 } : Room).cells ({ frames := 4, cells := 1, slots := 128, locals := 54 } : Room).slots (Q1c Z p0 p1 zc fm u kb kr sA sB sC x0 x1 h0 n0)
  refine own_go (fun _ k => castTop (ef_1a m p0 p1) k) ?_
  show own_G _ _ _ (s₁.setTop (mkF m 0 #[.val (.ref p0), .val (.ref p1), .unset, .unset] [])) _ _ _ _
  refine own_go (fun _ k => XS.aloadN X0.here hx rfl (hb hby d1_0) rfl rfl k) ?_
  show own_G _ _ _ (s₁.setTop (mkF m 1 #[.val (.ref p0), .val (.ref p1), .unset, .unset] [(.ref p0)])) _ _ _ _
  obtain ⟨cq1, kq1, q1a, q1b, q1c⟩ := isOf hZ e0 P_E_p0
  obtain ⟨_, _, ⟨T1, L1, k1, n1⟩, -, X1, ⟨Lc1, hQ1, l1, y1, z1⟩, st1⟩ := X0.virtualBack hx (y := (⟨"java/lang/String", "isEmpty", "()Z"⟩ : MethodName)) (z := (⟨"java/lang/String", "isEmpty", "()Z"⟩ : MethodName)) hown (mvT hZ (hw _ (List.mem_of_getElem? (i := 19) rfl))) (mvT hZ (hw _ (List.mem_of_getElem? (i := 20) rfl))) (notFace_of_selects (args := #[]) (mvT hZ (hw _ (List.mem_of_getElem? (i := 22) rfl)))) (mvT hZ (hw _ (List.mem_of_getElem? (i := 22) rfl))) (mvT hZ (hw _ (List.mem_of_getElem? (i := 21) rfl))) (by decide) (backOf (W := 0) (rm2c l Z a0 hw [] p0 u kb x0.toInt8.toInt32 x1.toInt8.toInt32 h0 n0 Z0 P_F_p0_value P_V_u) hZ (hw _ (List.mem_of_getElem? (i := 23) rfl)) (hw _ (List.mem_of_getElem? (i := 2) rfl)) (by decide) (by decide)) q1a q1c (g := (mkF m 1 #[.val (.ref p0), .val (.ref p1), .unset, .unset] [(.ref p0)])) rfl (by rw [hml]; rfl) (Steps.refl _) (argsL := []) (rest := []) (lenOf pd_3 rfl) rfl (by show 2 * 0 + _ ≤ _; exact Nat.le_of_eq rfl) (hb hby d1_1) (fun _ _ => ⟨rfl, e0, (by decide : 0 + 0 ≤ _), (by decide : 0 + 0 ≤ _)⟩)
  dsimp only [Pt.U, Pt.locs, Pt.cells, Pt.slots] at X1 l1 y1 z1 st1 hQ1
  rw [l1] at X1
  subst y1 z1
  obtain ⟨rfl, Nq1, eh1⟩ := hQ1
  have N1 := Fr.app N0 Nq1
  refine own_tr st1 ?_
  show own_G _ _ _ (T1.setTop (mkF m 4 #[.val (.ref p0), .val (.ref p1), .unset, .unset] [(.int (0 : Int32))])) _ _ _ _
  have hc2 : (0 : Int32) = (0 : Int32) := (by decide)
  refine own_go (fun _ k => XS.ifYes X1.here hx rfl (pc0 := 4) (pc' := 11) rfl (hb hby d1_4) rfl ((if0 _ _).trans (teq hc2).1) (by decide) (by decide) k) ?_
  show own_G _ _ _ (T1.setTop (mkF m 11 #[.val (.ref p0), .val (.ref p1), .unset, .unset] [])) _ _ _ _
  refine own_go (fun _ k => XS.sipush X1.here hx rfl (hb hby d1_11) k) ?_
  show own_G _ _ _ (T1.setTop (mkF m 14 #[.val (.ref p0), .val (.ref p1), .unset, .unset] [(.int (128 : Int32))])) _ _ _ _
  obtain ⟨T3, h3, k3, X3, e3, E3, A3, O3, st3⟩ := newR X1 hx hZ hown (hw _ (List.mem_of_getElem? (i := 25) rfl)) (hw _ (List.mem_of_getElem? (i := 10) rfl)) eh1 (g := (mkF m 14 #[.val (.ref p0), .val (.ref p1), .unset, .unset] [(.int (128 : Int32))])) rfl (hb hby d1_14) rfl (by decide) (cap := 128) (by decide) (by decide) (by decide) (by decide)
  obtain ⟨b3, g3⟩ : ∃ z, z = h0.size := ⟨_, rfl⟩
  rw [← g3] at A3 st3
  have ne4 : p0 ≠ b3 := Nat.ne_of_lt (Nat.lt_of_lt_of_le P_E_p0.lt (Nat.le_of_eq g3.symm))
  have ne5 : u ≠ b3 := Nat.ne_of_lt (Nat.lt_of_lt_of_le P_V_u.lt (Nat.le_of_eq g3.symm))
  have ne6 : p1 ≠ b3 := Nat.ne_of_lt (Nat.lt_of_lt_of_le P_V_p1.lt (Nat.le_of_eq g3.symm))
  have ne7 : sA ≠ b3 := Nat.ne_of_lt (Nat.lt_of_lt_of_le P_E_sA.lt (Nat.le_of_eq g3.symm))
  have ne8 : sB ≠ b3 := Nat.ne_of_lt (Nat.lt_of_lt_of_le P_E_sB.lt (Nat.le_of_eq g3.symm))
  have ne9 : sC ≠ b3 := Nat.ne_of_lt (Nat.lt_of_lt_of_le P_E_sC.lt (Nat.le_of_eq g3.symm))
  have gg3 : n0 ≤ b3 := Nat.le_trans Z0 (Nat.le_of_eq g3.symm)
  have sz3_0 : h0.size ≤ b3 := Nat.le_trans K0.1 (Nat.le_of_eq g3.symm)
  have Zs3 : n0 ≤ h3.size := Nat.le_trans Z0 E3.1
  have K3_0 : Keep h0 h3 [] := K0.ext E3
  have f10 : Old Z n0 h3 := P_Old.ext E3
  have f11 : Exa Z h3 p0 "java/lang/String" := P_E_p0.ext E3
  have f12 : Fld Z h3 p0 "java/lang/String" "coder" "B" (.int (0 : Int32)) := P_F_p0_coder.ext E3
  have f13 : Fld Z h3 p0 "java/lang/String" "value" "[B" (.ref u) := P_F_p0_value.ext E3
  have f14 : Arv Z h3 u kb .byte (2 : Int32) [(.int x0.toInt8.toInt32), (.int x1.toInt8.toInt32)] (.int (0 : Int32)) := P_V_u.ext E3
  have f15 : Arv Z h3 p1 kr (.object "java/lang/String") (3 : Int32) [(.ref sA), (.ref sB), (.ref sC)] .null := P_V_p1.ext E3
  have f16 : Exa Z h3 sA "java/lang/String" := P_E_sA.ext E3
  have f17 : Exa Z h3 sB "java/lang/String" := P_E_sB.ext E3
  have f18 : Exa Z h3 sC "java/lang/String" := P_E_sC.ext E3
  have f19 : Ovr Z k3 "java/lang/String" := O3
  have f20 : Arv Z h3 b3 k3 (.object "java/lang/String") (128 : Int32) [] .null := Arv.new A3 (by decide)
  refine own_go (fun _ k => st3 _ k) ?_
  show own_G _ _ _ (T3.setTop (mkF m 17 #[.val (.ref p0), .val (.ref p1), .unset, .unset] [(.ref b3)])) _ _ _ _
  have f21 : Arv Z h3 b3 k3 (.object "java/lang/String") (128 : Int32) own_t0 .null := (f20).pad (fun i => pad_rep [] .null 128 i)
  refine own_go (fun _ k => XS.astoreN X3.here hx rfl (hb hby d1_17) rfl rfl (l' := #[.val (.ref p0), .val (.ref p1), .val (.ref b3), .unset]) rfl k) ?_
  show own_G _ _ _ (T3.setTop (mkF m 18 #[.val (.ref p0), .val (.ref p1), .val (.ref b3), .unset] [])) _ _ _ _
  refine own_go (fun _ k => XS.iconst X3.here hx rfl (hb hby d1_18) k) ?_
  show own_G _ _ _ (T3.setTop (mkF m 19 #[.val (.ref p0), .val (.ref p1), .val (.ref b3), .unset] [(.int (0 : Int32))])) _ _ _ _
  refine own_go (fun _ k => XS.istoreN X3.here hx rfl (hb hby d1_19) rfl (l' := #[.val (.ref p0), .val (.ref p1), .val (.ref b3), .val (.int (0 : Int32))]) rfl k) ?_
  show own_G _ _ _ (T3.setTop (mkF m 20 #[.val (.ref p0), .val (.ref p1), .val (.ref b3), .val (.int (0 : Int32))] [])) _ _ _ _
  refine own_go (fun _ k => XS.iloadN X3.here hx rfl (hb hby d1_20) rfl k) ?_
  show own_G _ _ _ (T3.setTop (mkF m 21 #[.val (.ref p0), .val (.ref p1), .val (.ref b3), .val (.int (0 : Int32))] [(.int (0 : Int32))])) _ _ _ _
  refine own_go (fun _ k => XS.aloadN X3.here hx rfl (hb hby d1_21) rfl rfl k) ?_
  show own_G _ _ _ (T3.setTop (mkF m 22 #[.val (.ref p0), .val (.ref p1), .val (.ref b3), .val (.int (0 : Int32))] [(.ref p0), (.int (0 : Int32))])) _ _ _ _
  have fT22 : own_Str Z h3 p0 ([x0, x1] : List Int32) := ⟨u, kb, f11, f12, f13, f14, (by intro c hc; simp only [List.mem_cons, List.not_mem_nil, or_false] at hc; rcases hc with hc | hc <;> rw [hc] <;> first | exact rg0.byte | exact rg1.byte), by simp⟩
  obtain ⟨t23, kb23, Es23, Cs23, Vs23, Ks23, hp23, hl23⟩ := id fT22
  obtain ⟨cq23, kq23, q23a, q23b, q23c⟩ := isOf hZ e3 Es23
  obtain ⟨_, _, ⟨T23, L23, k23, n23⟩, -, X23, ⟨Lc23, hQ23, l23, y23, z23⟩, st23⟩ := X3.virtualBack hx (y := (⟨"java/lang/String", "length", "()I"⟩ : MethodName)) (z := (⟨"java/lang/String", "length", "()I"⟩ : MethodName)) hown (mvT hZ (hw _ (List.mem_of_getElem? (i := 26) rfl))) (mvT hZ (hw _ (List.mem_of_getElem? (i := 27) rfl))) (notFace_of_selects (args := #[]) (mvT hZ (hw _ (List.mem_of_getElem? (i := 29) rfl)))) (mvT hZ (hw _ (List.mem_of_getElem? (i := 29) rfl))) (mvT hZ (hw _ (List.mem_of_getElem? (i := 28) rfl))) (by decide) (StrChars.Road.lenW (W := 1) hZ (own_wLen hw) (kI := 4) (hw _ (List.mem_of_getElem? (i := 3) rfl)) Es23 Vs23 Cs23 Ks23 (StrChars.Road.codOf rfl (fun x hx => (hp23 x hx).2)) (own_up _ hp23) (P_ZS_java_lang_String_COMPACT_STRINGS.ext f10.2) hcs hl23 (by decide) (by decide)) q23a q23c (g := (mkF m 22 #[.val (.ref p0), .val (.ref p1), .val (.ref b3), .val (.int (0 : Int32))] [(.ref p0), (.int (0 : Int32))])) rfl (by rw [hml]; rfl) (Steps.refl _) (argsL := []) (rest := [(.int (0 : Int32))]) (lenOf pd_4 rfl) rfl (by show 2 * 0 + _ ≤ _; exact Nat.le_of_eq rfl) (hb hby d1_22) (fun _ _ => ⟨rfl, e3, (by decide : 1 + 0 ≤ _), (by decide : 128 + 0 ≤ _)⟩)
  dsimp only [Pt.U, Pt.locs, Pt.cells, Pt.slots] at X23 l23 y23 z23 st23 hQ23
  rw [l23] at X23
  subst y23 z23
  obtain ⟨rfl, rfl, eh23⟩ := hQ23
  have N23 := Fr.app N1 (Fr.nil n0)
  refine own_tr st23 ?_
  show own_G _ _ _ (T23.setTop (mkF m 25 #[.val (.ref p0), .val (.ref p1), .val (.ref b3), .val (.int (0 : Int32))] [(.int (Int32.ofNat ([x0, x1] : List Int32).length)), (.int (0 : Int32))])) _ _ _ _
  have hc24 : (0 : Int32) < (Int32.ofNat ([x0, x1] : List Int32).length) := (by show (0 : Int32) < (2 : Int32); decide)
  refine own_go (fun _ k => XS.icmpNo X23.here hx rfl (hb hby d1_25) rfl (tlt hc24).2.1 k) ?_
  show own_G _ _ _ (T23.setTop (mkF m 28 #[.val (.ref p0), .val (.ref p1), .val (.ref b3), .val (.int (0 : Int32))] [])) _ _ _ _
  refine own_go (fun _ k => XS.aloadN X23.here hx rfl (hb hby d1_28) rfl rfl k) ?_
  show own_G _ _ _ (T23.setTop (mkF m 29 #[.val (.ref p0), .val (.ref p1), .val (.ref b3), .val (.int (0 : Int32))] [(.ref b3)])) _ _ _ _
  refine own_go (fun _ k => XS.aloadN X23.here hx rfl (hb hby d1_29) rfl rfl k) ?_
  show own_G _ _ _ (T23.setTop (mkF m 30 #[.val (.ref p0), .val (.ref p1), .val (.ref b3), .val (.int (0 : Int32))] [(.ref p0), (.ref b3)])) _ _ _ _
  refine own_go (fun _ k => XS.iloadN X23.here hx rfl (hb hby d1_30) rfl k) ?_
  show own_G _ _ _ (T23.setTop (mkF m 31 #[.val (.ref p0), .val (.ref p1), .val (.ref b3), .val (.int (0 : Int32))] [(.int (0 : Int32)), (.ref p0), (.ref b3)])) _ _ _ _
  have fT25 : own_Str Z h3 p0 ([x0, x1] : List Int32) := ⟨u, kb, f11, f12, f13, f14, (by intro c hc; simp only [List.mem_cons, List.not_mem_nil, or_false] at hc; rcases hc with hc | hc <;> rw [hc] <;> first | exact rg0.byte | exact rg1.byte), by simp⟩
  obtain ⟨t26, kb26, Es26, Cs26, Vs26, Ks26, hp26, hl26⟩ := id fT25
  obtain ⟨cq26, kq26, q26a, q26b, q26c⟩ := isOf hZ eh23 Es26
  obtain ⟨_, _, ⟨T26, L26, k26, n26⟩, -, X26, ⟨Lc26, hQ26, l26, y26, z26⟩, st26⟩ := X23.virtualBack hx (y := (⟨"java/lang/String", "charAt", "(I)C"⟩ : MethodName)) (z := (⟨"java/lang/String", "charAt", "(I)C"⟩ : MethodName)) hown (mvT hZ (hw _ (List.mem_of_getElem? (i := 57) rfl))) (mvT hZ (hw _ (List.mem_of_getElem? (i := 58) rfl))) (notFace_of_selects (args := #[]) (mvT hZ (hw _ (List.mem_of_getElem? (i := 60) rfl)))) (mvT hZ (hw _ (List.mem_of_getElem? (i := 60) rfl))) (mvT hZ (hw _ (List.mem_of_getElem? (i := 59) rfl))) (by decide) (StrChars.Road.chN (W := 1) hZ (own_wCh hw) (kI := 4) (hw _ (List.mem_of_getElem? (i := 3) rfl)) Es26 Vs26 Cs26 Ks26 (StrChars.Road.codOf rfl (fun x hx => (hp26 x hx).2)) (own_up _ hp26) (P_ZS_java_lang_String_COMPACT_STRINGS.ext f10.2) hcs (P_ZS_jdk_internal_util_Preconditions_SIOOBE_FORMATTER.ext f10.2) hfm hl26 (i := 0) (by simp) (j := (0 : Int32)) rfl (by decide) (by decide)) q26a q26c (g := (mkF m 31 #[.val (.ref p0), .val (.ref p1), .val (.ref b3), .val (.int (0 : Int32))] [(.int (0 : Int32)), (.ref p0), (.ref b3)])) rfl (by rw [hml]; rfl) (Steps.refl _) (argsL := [(.int (0 : Int32))]) (rest := [(.ref b3)]) (lenOf pd_5 rfl) rfl (by show 2 * 0 + _ ≤ _; exact Nat.le_of_eq rfl) (hb hby d1_31) (fun _ _ => ⟨rfl, eh23, (by decide : 1 + 0 ≤ _), (by decide : 128 + 0 ≤ _)⟩)
  dsimp only [Pt.U, Pt.locs, Pt.cells, Pt.slots] at X26 l26 y26 z26 st26 hQ26
  rw [l26] at X26
  subst y26 z26
  obtain ⟨rfl, rfl, eh26⟩ := hQ26
  have N26 := Fr.app N23 (Fr.nil n0)
  refine own_tr st26 ?_
  show own_G _ _ _ (T26.setTop (mkF m 34 #[.val (.ref p0), .val (.ref p1), .val (.ref b3), .val (.int (0 : Int32))] [(.int (([x0, x1] : List Int32).getD 0 0)), (.ref b3)])) _ _ _ _
  show own_G _ _ _ (T26.setTop (mkF m 34 #[.val (.ref p0), .val (.ref p1), .val (.ref b3), .val (.int (0 : Int32))] [(.int x0), (.ref b3)])) _ _ _ _
  refine own_go (fun _ k => XS.aloadN X26.here hx rfl (hb hby d1_34) rfl rfl k) ?_
  show own_G _ _ _ (T26.setTop (mkF m 35 #[.val (.ref p0), .val (.ref p1), .val (.ref b3), .val (.int (0 : Int32))] [(.ref p1), (.int x0), (.ref b3)])) _ _ _ _
  refine own_go (fun _ k => XS.iloadN X26.here hx rfl (hb hby d1_35) rfl k) ?_
  show own_G _ _ _ (T26.setTop (mkF m 36 #[.val (.ref p0), .val (.ref p1), .val (.ref b3), .val (.int (0 : Int32))] [(.int (0 : Int32)), (.ref p1), (.int x0), (.ref b3)])) _ _ _ _
  obtain ⟨cl27, Ar27, q27, S27, Ng27, H27, G27⟩ := id f15
  have in27 : ¬ ((0 : Int32) < 0 ∨ cl27.slots.size ≤ ((0 : Int32)).toNatClampNeg) := inb_of S27 ⟨by decide, by decide⟩
  have at27 : cl27.slots[((0 : Int32)).toNatClampNeg]? = some (.ref sA) := H27.at in27 rfl
  refine own_go (fun _ k => X26.aaload hx (j := (0 : Int32)) (v := (.ref sA)) (by rw [eh26]; exact Ar27.1) (State.isArrayOf_alike hZ.alike Ar27.2.1) rfl Ar27.2.2 in27 at27 (g := (mkF m 36 #[.val (.ref p0), .val (.ref p1), .val (.ref b3), .val (.int (0 : Int32))] [(.int (0 : Int32)), (.ref p1), (.int x0), (.ref b3)])) rfl rfl (hb hby d1_36) _ k) ?_
  show own_G _ _ _ (T26.setTop (mkF m 37 #[.val (.ref p0), .val (.ref p1), .val (.ref b3), .val (.int (0 : Int32))] [(.ref sA), (.int x0), (.ref b3)])) _ _ _ _
  obtain ⟨cl28, Ar28, q28, S28, Ng28, H28, G28⟩ := id f21
  have in28 : ¬ (x0 < 0 ∨ cl28.slots.size ≤ (x0).toNatClampNeg) := inb_of S28 rg0.inb
  obtain ⟨T28, h28, X28, e28, W28, st28⟩ := stR X26 hx hZ eh26 Ar28 (j := x0) in28 rfl (Sto.ofV Ar28 q28 f19 (Ins.self f16)) (g := (mkF m 37 #[.val (.ref p0), .val (.ref p1), .val (.ref b3), .val (.int (0 : Int32))] [(.ref sA), (.int x0), (.ref b3)])) rfl rfl (hb hby d1_37)
  have N28 := Fr.snoc X28 N26 gg3
  have Zs28 : n0 ≤ h28.size := Nat.le_trans Zs3 (Keep.of_wr W28).1
  have K28_0 : Keep h0 h28 [] := K3_0.wr W28 (Or.inr sz3_0)
  have f29 : Old Z n0 h28 := f10.wr W28 gg3
  have f30 : Exa Z h28 p0 "java/lang/String" := f11.wr W28
  have f31 : Fld Z h28 p0 "java/lang/String" "coder" "B" (.int (0 : Int32)) := f12.other W28 (Or.inl ne4)
  have f32 : Fld Z h28 p0 "java/lang/String" "value" "[B" (.ref u) := f13.other W28 (Or.inl ne4)
  have f33 : Arv Z h28 u kb .byte (2 : Int32) [(.int x0.toInt8.toInt32), (.int x1.toInt8.toInt32)] (.int (0 : Int32)) := f14.other W28 ne5
  have f34 : Arv Z h28 p1 kr (.object "java/lang/String") (3 : Int32) [(.ref sA), (.ref sB), (.ref sC)] .null := f15.other W28 ne6
  have f35 : Exa Z h28 sA "java/lang/String" := f16.wr W28
  have f36 : Exa Z h28 sB "java/lang/String" := f17.wr W28
  have f37 : Exa Z h28 sC "java/lang/String" := f18.wr W28
  have f38 : Arv Z h28 b3 k3 (.object "java/lang/String") (128 : Int32) (own_set own_t0 x0 (.ref sA)) .null := Arv.set Ar28 q28 S28 Ng28 H28 G28 rfl W28 x0.toNatClampNeg rfl (by simp only [own_set_len, own_t0_len]; exact rg0.nat)
  refine own_go (fun _ k => st28 _ k) ?_
  show own_G _ _ _ (T28.setTop (mkF m 38 #[.val (.ref p0), .val (.ref p1), .val (.ref b3), .val (.int (0 : Int32))] [])) _ _ _ _
  refine own_go (fun _ k => XS.iinc X28.here hx rfl (hb hby d1_38) rfl (l' := #[.val (.ref p0), .val (.ref p1), .val (.ref b3), .val (.int (1 : Int32))]) rfl k) ?_
  show own_G _ _ _ (T28.setTop (mkF m 41 #[.val (.ref p0), .val (.ref p1), .val (.ref b3), .val (.int (1 : Int32))] [])) _ _ _ _
  refine own_go (fun _ k => XS.goto X28.here hx rfl (pc0 := 41) (pc' := 20) rfl (hb hby d1_41) (by decide) (by decide) k) ?_
  show own_G _ _ _ (T28.setTop (mkF m 20 #[.val (.ref p0), .val (.ref p1), .val (.ref b3), .val (.int (1 : Int32))] [])) _ _ _ _
  refine own_go (fun _ k => XS.iloadN X28.here hx rfl (hb hby d1_20) rfl k) ?_
  show own_G _ _ _ (T28.setTop (mkF m 21 #[.val (.ref p0), .val (.ref p1), .val (.ref b3), .val (.int (1 : Int32))] [(.int (1 : Int32))])) _ _ _ _
  refine own_go (fun _ k => XS.aloadN X28.here hx rfl (hb hby d1_21) rfl rfl k) ?_
  show own_G _ _ _ (T28.setTop (mkF m 22 #[.val (.ref p0), .val (.ref p1), .val (.ref b3), .val (.int (1 : Int32))] [(.ref p0), (.int (1 : Int32))])) _ _ _ _
  have fT39 : own_Str Z h28 p0 ([x0, x1] : List Int32) := ⟨u, kb, f30, f31, f32, f33, (by intro c hc; simp only [List.mem_cons, List.not_mem_nil, or_false] at hc; rcases hc with hc | hc <;> rw [hc] <;> first | exact rg0.byte | exact rg1.byte), by simp⟩
  obtain ⟨t40, kb40, Es40, Cs40, Vs40, Ks40, hp40, hl40⟩ := id fT39
  obtain ⟨cq40, kq40, q40a, q40b, q40c⟩ := isOf hZ e28 Es40
  obtain ⟨_, _, ⟨T40, L40, k40, n40⟩, -, X40, ⟨Lc40, hQ40, l40, y40, z40⟩, st40⟩ := X28.virtualBack hx (y := (⟨"java/lang/String", "length", "()I"⟩ : MethodName)) (z := (⟨"java/lang/String", "length", "()I"⟩ : MethodName)) hown (mvT hZ (hw _ (List.mem_of_getElem? (i := 26) rfl))) (mvT hZ (hw _ (List.mem_of_getElem? (i := 27) rfl))) (notFace_of_selects (args := #[]) (mvT hZ (hw _ (List.mem_of_getElem? (i := 29) rfl)))) (mvT hZ (hw _ (List.mem_of_getElem? (i := 29) rfl))) (mvT hZ (hw _ (List.mem_of_getElem? (i := 28) rfl))) (by decide) (StrChars.Road.lenW (W := 1) hZ (own_wLen hw) (kI := 4) (hw _ (List.mem_of_getElem? (i := 3) rfl)) Es40 Vs40 Cs40 Ks40 (StrChars.Road.codOf rfl (fun x hx => (hp40 x hx).2)) (own_up _ hp40) (P_ZS_java_lang_String_COMPACT_STRINGS.ext f29.2) hcs hl40 (by decide) (by decide)) q40a q40c (g := (mkF m 22 #[.val (.ref p0), .val (.ref p1), .val (.ref b3), .val (.int (1 : Int32))] [(.ref p0), (.int (1 : Int32))])) rfl (by rw [hml]; rfl) (Steps.refl _) (argsL := []) (rest := [(.int (1 : Int32))]) (lenOf pd_4 rfl) rfl (by show 2 * 0 + _ ≤ _; exact Nat.le_of_eq rfl) (hb hby d1_22) (fun _ _ => ⟨rfl, e28, (by decide : 1 + 0 ≤ _), (by decide : 128 + 0 ≤ _)⟩)
  dsimp only [Pt.U, Pt.locs, Pt.cells, Pt.slots] at X40 l40 y40 z40 st40 hQ40
  rw [l40] at X40
  subst y40 z40
  obtain ⟨rfl, rfl, eh40⟩ := hQ40
  have N40 := Fr.app N28 (Fr.nil n0)
  refine own_tr st40 ?_
  show own_G _ _ _ (T40.setTop (mkF m 25 #[.val (.ref p0), .val (.ref p1), .val (.ref b3), .val (.int (1 : Int32))] [(.int (Int32.ofNat ([x0, x1] : List Int32).length)), (.int (1 : Int32))])) _ _ _ _
  have hc41 : (1 : Int32) < (Int32.ofNat ([x0, x1] : List Int32).length) := (by show (1 : Int32) < (2 : Int32); decide)
  refine own_go (fun _ k => XS.icmpNo X40.here hx rfl (hb hby d1_25) rfl (tlt hc41).2.1 k) ?_
  show own_G _ _ _ (T40.setTop (mkF m 28 #[.val (.ref p0), .val (.ref p1), .val (.ref b3), .val (.int (1 : Int32))] [])) _ _ _ _
  refine own_go (fun _ k => XS.aloadN X40.here hx rfl (hb hby d1_28) rfl rfl k) ?_
  show own_G _ _ _ (T40.setTop (mkF m 29 #[.val (.ref p0), .val (.ref p1), .val (.ref b3), .val (.int (1 : Int32))] [(.ref b3)])) _ _ _ _
  refine own_go (fun _ k => XS.aloadN X40.here hx rfl (hb hby d1_29) rfl rfl k) ?_
  show own_G _ _ _ (T40.setTop (mkF m 30 #[.val (.ref p0), .val (.ref p1), .val (.ref b3), .val (.int (1 : Int32))] [(.ref p0), (.ref b3)])) _ _ _ _
  refine own_go (fun _ k => XS.iloadN X40.here hx rfl (hb hby d1_30) rfl k) ?_
  show own_G _ _ _ (T40.setTop (mkF m 31 #[.val (.ref p0), .val (.ref p1), .val (.ref b3), .val (.int (1 : Int32))] [(.int (1 : Int32)), (.ref p0), (.ref b3)])) _ _ _ _
  have fT42 : own_Str Z h28 p0 ([x0, x1] : List Int32) := ⟨u, kb, f30, f31, f32, f33, (by intro c hc; simp only [List.mem_cons, List.not_mem_nil, or_false] at hc; rcases hc with hc | hc <;> rw [hc] <;> first | exact rg0.byte | exact rg1.byte), by simp⟩
  obtain ⟨t43, kb43, Es43, Cs43, Vs43, Ks43, hp43, hl43⟩ := id fT42
  obtain ⟨cq43, kq43, q43a, q43b, q43c⟩ := isOf hZ eh40 Es43
  obtain ⟨_, _, ⟨T43, L43, k43, n43⟩, -, X43, ⟨Lc43, hQ43, l43, y43, z43⟩, st43⟩ := X40.virtualBack hx (y := (⟨"java/lang/String", "charAt", "(I)C"⟩ : MethodName)) (z := (⟨"java/lang/String", "charAt", "(I)C"⟩ : MethodName)) hown (mvT hZ (hw _ (List.mem_of_getElem? (i := 57) rfl))) (mvT hZ (hw _ (List.mem_of_getElem? (i := 58) rfl))) (notFace_of_selects (args := #[]) (mvT hZ (hw _ (List.mem_of_getElem? (i := 60) rfl)))) (mvT hZ (hw _ (List.mem_of_getElem? (i := 60) rfl))) (mvT hZ (hw _ (List.mem_of_getElem? (i := 59) rfl))) (by decide) (StrChars.Road.chN (W := 1) hZ (own_wCh hw) (kI := 4) (hw _ (List.mem_of_getElem? (i := 3) rfl)) Es43 Vs43 Cs43 Ks43 (StrChars.Road.codOf rfl (fun x hx => (hp43 x hx).2)) (own_up _ hp43) (P_ZS_java_lang_String_COMPACT_STRINGS.ext f29.2) hcs (P_ZS_jdk_internal_util_Preconditions_SIOOBE_FORMATTER.ext f29.2) hfm hl43 (i := 1) (by simp) (j := (1 : Int32)) rfl (by decide) (by decide)) q43a q43c (g := (mkF m 31 #[.val (.ref p0), .val (.ref p1), .val (.ref b3), .val (.int (1 : Int32))] [(.int (1 : Int32)), (.ref p0), (.ref b3)])) rfl (by rw [hml]; rfl) (Steps.refl _) (argsL := [(.int (1 : Int32))]) (rest := [(.ref b3)]) (lenOf pd_5 rfl) rfl (by show 2 * 0 + _ ≤ _; exact Nat.le_of_eq rfl) (hb hby d1_31) (fun _ _ => ⟨rfl, eh40, (by decide : 1 + 0 ≤ _), (by decide : 128 + 0 ≤ _)⟩)
  dsimp only [Pt.U, Pt.locs, Pt.cells, Pt.slots] at X43 l43 y43 z43 st43 hQ43
  rw [l43] at X43
  subst y43 z43
  obtain ⟨rfl, rfl, eh43⟩ := hQ43
  have N43 := Fr.app N40 (Fr.nil n0)
  refine own_tr st43 ?_
  show own_G _ _ _ (T43.setTop (mkF m 34 #[.val (.ref p0), .val (.ref p1), .val (.ref b3), .val (.int (1 : Int32))] [(.int (([x0, x1] : List Int32).getD 1 0)), (.ref b3)])) _ _ _ _
  show own_G _ _ _ (T43.setTop (mkF m 34 #[.val (.ref p0), .val (.ref p1), .val (.ref b3), .val (.int (1 : Int32))] [(.int x1), (.ref b3)])) _ _ _ _
  refine own_go (fun _ k => XS.aloadN X43.here hx rfl (hb hby d1_34) rfl rfl k) ?_
  show own_G _ _ _ (T43.setTop (mkF m 35 #[.val (.ref p0), .val (.ref p1), .val (.ref b3), .val (.int (1 : Int32))] [(.ref p1), (.int x1), (.ref b3)])) _ _ _ _
  refine own_go (fun _ k => XS.iloadN X43.here hx rfl (hb hby d1_35) rfl k) ?_
  show own_G _ _ _ (T43.setTop (mkF m 36 #[.val (.ref p0), .val (.ref p1), .val (.ref b3), .val (.int (1 : Int32))] [(.int (1 : Int32)), (.ref p1), (.int x1), (.ref b3)])) _ _ _ _
  obtain ⟨cl44, Ar44, q44, S44, Ng44, H44, G44⟩ := id f34
  have in44 : ¬ ((1 : Int32) < 0 ∨ cl44.slots.size ≤ ((1 : Int32)).toNatClampNeg) := inb_of S44 ⟨by decide, by decide⟩
  have at44 : cl44.slots[((1 : Int32)).toNatClampNeg]? = some (.ref sB) := H44.at in44 rfl
  refine own_go (fun _ k => X43.aaload hx (j := (1 : Int32)) (v := (.ref sB)) (by rw [eh43]; exact Ar44.1) (State.isArrayOf_alike hZ.alike Ar44.2.1) rfl Ar44.2.2 in44 at44 (g := (mkF m 36 #[.val (.ref p0), .val (.ref p1), .val (.ref b3), .val (.int (1 : Int32))] [(.int (1 : Int32)), (.ref p1), (.int x1), (.ref b3)])) rfl rfl (hb hby d1_36) _ k) ?_
  show own_G _ _ _ (T43.setTop (mkF m 37 #[.val (.ref p0), .val (.ref p1), .val (.ref b3), .val (.int (1 : Int32))] [(.ref sB), (.int x1), (.ref b3)])) _ _ _ _
  obtain ⟨cl45, Ar45, q45, S45, Ng45, H45, G45⟩ := id f38
  have in45 : ¬ (x1 < 0 ∨ cl45.slots.size ≤ (x1).toNatClampNeg) := inb_of S45 rg1.inb
  obtain ⟨T45, h45, X45, e45, W45, st45⟩ := stR X43 hx hZ eh43 Ar45 (j := x1) in45 rfl (Sto.ofV Ar45 q45 f19 (Ins.self f36)) (g := (mkF m 37 #[.val (.ref p0), .val (.ref p1), .val (.ref b3), .val (.int (1 : Int32))] [(.ref sB), (.int x1), (.ref b3)])) rfl rfl (hb hby d1_37)
  have N45 := Fr.snoc X45 N43 gg3
  have Zs45 : n0 ≤ h45.size := Nat.le_trans Zs28 (Keep.of_wr W45).1
  have K45_0 : Keep h0 h45 [] := K28_0.wr W45 (Or.inr sz3_0)
  have f46 : Old Z n0 h45 := f29.wr W45 gg3
  have f47 : Exa Z h45 p0 "java/lang/String" := f30.wr W45
  have f48 : Fld Z h45 p0 "java/lang/String" "coder" "B" (.int (0 : Int32)) := f31.other W45 (Or.inl ne4)
  have f49 : Fld Z h45 p0 "java/lang/String" "value" "[B" (.ref u) := f32.other W45 (Or.inl ne4)
  have f50 : Arv Z h45 u kb .byte (2 : Int32) [(.int x0.toInt8.toInt32), (.int x1.toInt8.toInt32)] (.int (0 : Int32)) := f33.other W45 ne5
  have f51 : Arv Z h45 p1 kr (.object "java/lang/String") (3 : Int32) [(.ref sA), (.ref sB), (.ref sC)] .null := f34.other W45 ne6
  have f52 : Exa Z h45 sA "java/lang/String" := f35.wr W45
  have f53 : Exa Z h45 sB "java/lang/String" := f36.wr W45
  have f54 : Exa Z h45 sC "java/lang/String" := f37.wr W45
  have f55 : Arv Z h45 b3 k3 (.object "java/lang/String") (128 : Int32) (own_set (own_set own_t0 x0 (.ref sA)) x1 (.ref sB)) .null := Arv.set Ar45 q45 S45 Ng45 H45 G45 rfl W45 x1.toNatClampNeg rfl (by simp only [own_set_len, own_t0_len]; exact rg1.nat)
  refine own_go (fun _ k => st45 _ k) ?_
  show own_G _ _ _ (T45.setTop (mkF m 38 #[.val (.ref p0), .val (.ref p1), .val (.ref b3), .val (.int (1 : Int32))] [])) _ _ _ _
  refine own_go (fun _ k => XS.iinc X45.here hx rfl (hb hby d1_38) rfl (l' := #[.val (.ref p0), .val (.ref p1), .val (.ref b3), .val (.int (2 : Int32))]) rfl k) ?_
  show own_G _ _ _ (T45.setTop (mkF m 41 #[.val (.ref p0), .val (.ref p1), .val (.ref b3), .val (.int (2 : Int32))] [])) _ _ _ _
  refine own_go (fun _ k => XS.goto X45.here hx rfl (pc0 := 41) (pc' := 20) rfl (hb hby d1_41) (by decide) (by decide) k) ?_
  show own_G _ _ _ (T45.setTop (mkF m 20 #[.val (.ref p0), .val (.ref p1), .val (.ref b3), .val (.int (2 : Int32))] [])) _ _ _ _
  refine own_go (fun _ k => XS.iloadN X45.here hx rfl (hb hby d1_20) rfl k) ?_
  show own_G _ _ _ (T45.setTop (mkF m 21 #[.val (.ref p0), .val (.ref p1), .val (.ref b3), .val (.int (2 : Int32))] [(.int (2 : Int32))])) _ _ _ _
  refine own_go (fun _ k => XS.aloadN X45.here hx rfl (hb hby d1_21) rfl rfl k) ?_
  show own_G _ _ _ (T45.setTop (mkF m 22 #[.val (.ref p0), .val (.ref p1), .val (.ref b3), .val (.int (2 : Int32))] [(.ref p0), (.int (2 : Int32))])) _ _ _ _
  have fT56 : own_Str Z h45 p0 ([x0, x1] : List Int32) := ⟨u, kb, f47, f48, f49, f50, (by intro c hc; simp only [List.mem_cons, List.not_mem_nil, or_false] at hc; rcases hc with hc | hc <;> rw [hc] <;> first | exact rg0.byte | exact rg1.byte), by simp⟩
  obtain ⟨t57, kb57, Es57, Cs57, Vs57, Ks57, hp57, hl57⟩ := id fT56
  obtain ⟨cq57, kq57, q57a, q57b, q57c⟩ := isOf hZ e45 Es57
  obtain ⟨_, _, ⟨T57, L57, k57, n57⟩, -, X57, ⟨Lc57, hQ57, l57, y57, z57⟩, st57⟩ := X45.virtualBack hx (y := (⟨"java/lang/String", "length", "()I"⟩ : MethodName)) (z := (⟨"java/lang/String", "length", "()I"⟩ : MethodName)) hown (mvT hZ (hw _ (List.mem_of_getElem? (i := 26) rfl))) (mvT hZ (hw _ (List.mem_of_getElem? (i := 27) rfl))) (notFace_of_selects (args := #[]) (mvT hZ (hw _ (List.mem_of_getElem? (i := 29) rfl)))) (mvT hZ (hw _ (List.mem_of_getElem? (i := 29) rfl))) (mvT hZ (hw _ (List.mem_of_getElem? (i := 28) rfl))) (by decide) (StrChars.Road.lenW (W := 1) hZ (own_wLen hw) (kI := 4) (hw _ (List.mem_of_getElem? (i := 3) rfl)) Es57 Vs57 Cs57 Ks57 (StrChars.Road.codOf rfl (fun x hx => (hp57 x hx).2)) (own_up _ hp57) (P_ZS_java_lang_String_COMPACT_STRINGS.ext f46.2) hcs hl57 (by decide) (by decide)) q57a q57c (g := (mkF m 22 #[.val (.ref p0), .val (.ref p1), .val (.ref b3), .val (.int (2 : Int32))] [(.ref p0), (.int (2 : Int32))])) rfl (by rw [hml]; rfl) (Steps.refl _) (argsL := []) (rest := [(.int (2 : Int32))]) (lenOf pd_4 rfl) rfl (by show 2 * 0 + _ ≤ _; exact Nat.le_of_eq rfl) (hb hby d1_22) (fun _ _ => ⟨rfl, e45, (by decide : 1 + 0 ≤ _), (by decide : 128 + 0 ≤ _)⟩)
  dsimp only [Pt.U, Pt.locs, Pt.cells, Pt.slots] at X57 l57 y57 z57 st57 hQ57
  rw [l57] at X57
  subst y57 z57
  obtain ⟨rfl, rfl, eh57⟩ := hQ57
  have N57 := Fr.app N45 (Fr.nil n0)
  refine own_tr st57 ?_
  show own_G _ _ _ (T57.setTop (mkF m 25 #[.val (.ref p0), .val (.ref p1), .val (.ref b3), .val (.int (2 : Int32))] [(.int (Int32.ofNat ([x0, x1] : List Int32).length)), (.int (2 : Int32))])) _ _ _ _
  have hc58 : ¬ ((2 : Int32) < (Int32.ofNat ([x0, x1] : List Int32).length)) := (by show ¬ ((2 : Int32) < (2 : Int32)); decide)
  refine own_go (fun _ k => XS.icmpYes X57.here hx rfl (pc0 := 25) (pc' := 44) rfl (hb hby d1_25) rfl (flt hc58).2.1 (by decide) (by decide) k) ?_
  show own_G _ _ _ (T57.setTop (mkF m 44 #[.val (.ref p0), .val (.ref p1), .val (.ref b3), .val (.int (2 : Int32))] [])) _ _ _ _
  refine own_go (fun _ k => XS.aloadN X57.here hx rfl (hb hby d1_44) rfl rfl k) ?_
  show own_G _ _ _ (T57.setTop (mkF m 45 #[.val (.ref p0), .val (.ref p1), .val (.ref b3), .val (.int (2 : Int32))] [(.ref b3)])) _ _ _ _
  exact own_endR X57 hx hlk Bd.returns rfl rfl rfl (hb hby d1_45) (by decide) (by decide) (Q := (Q1c Z p0 p1 zc fm u kb kr sA sB sC x0 x1 h0 n0)) (by rw [eh57]; exact ⟨b3, k3, rfl, N57, K45_0, f55⟩)
def Q1d (Z : State) (p0 : Addr) (p1 : Addr) (zc : Int32) (fm : Value) (u : Addr) (kb : ClassId) (kr : ClassId) (sA : Addr) (sB : Addr) (sC : Addr) (x0 : Int32) (x1 : Int32) (x2 : Int32) (h0 : Heap) (n0 : Nat) (v : Option Value) (h : Heap) (L : List Loc) : Prop := ∃ (na : Addr) (kn : ClassId), v = some (.ref na) ∧ Fr n0 L ∧ Keep h0 h [] ∧ Arv Z h na kn (.object "java/lang/String") (128 : Int32) (own_set (own_set (own_set own_t0 x0 (.ref sA)) x1 (.ref sB)) x2 (.ref sC)) .null
set_option maxRecDepth 65536 in
set_option maxHeartbeats 40000000 in
theorem rm1d (l : Launch) (Z : State) (a0 : Array Value) (hw : ∀ d ∈ tables_1, d.before a0 Z = true) (ws : List Jvm.Cond) (p0 : Addr) (p1 : Addr) (zc : Int32) (fm : Value) (u : Addr) (kb : ClassId) (kr : ClassId) (sA : Addr) (sB : Addr) (sC : Addr) (x0 : Int32) (x1 : Int32) (x2 : Int32) (h0 : Heap) (n0 : Nat) (Z0 : n0 ≤ h0.size) (P_Old : Old Z n0 h0) (P_ZS_java_lang_String_COMPACT_STRINGS : Sta Z Z.heap "java/lang/String" "COMPACT_STRINGS" "Z" (.int zc)) (hcs : ¬ zc = 0) (P_ZS_jdk_internal_util_Preconditions_SIOOBE_FORMATTER : Sta Z Z.heap "jdk/internal/util/Preconditions" "SIOOBE_FORMATTER" "Ljava/util/function/BiFunction;" fm) (hfm : fm.isRef = true) (P_E_p0 : Exa Z h0 p0 "java/lang/String") (P_F_p0_coder : Fld Z h0 p0 "java/lang/String" "coder" "B" (.int (0 : Int32))) (P_F_p0_value : Fld Z h0 p0 "java/lang/String" "value" "[B" (.ref u)) (P_V_u : Arv Z h0 u kb .byte (3 : Int32) [(.int x0.toInt8.toInt32), (.int x1.toInt8.toInt32), (.int x2.toInt8.toInt32)] (.int (0 : Int32))) (P_V_p1 : Arv Z h0 p1 kr (.object "java/lang/String") (3 : Int32) [(.ref sA), (.ref sB), (.ref sC)] .null) (P_E_sA : Exa Z h0 sA "java/lang/String") (P_E_sB : Exa Z h0 sB "java/lang/String") (P_E_sC : Exa Z h0 sC "java/lang/String") (rg0 : own_rg x0) (rg1 : own_rg x1) (rg2 : own_rg x2) :
    MetFree l (⟨"com/example/issuerd/issuerd/xml/Dom", "references", "(Ljava/lang/String;[Ljava/lang/String;)[Ljava/lang/String;"⟩ : MethodName) (head1 (Jvm.Cond.code (⟨"com/example/issuerd/issuerd/xml/Dom", "references", "(Ljava/lang/String;[Ljava/lang/String;)[Ljava/lang/String;"⟩ : MethodName) prog_48_method_10_code 4 (some (.array (.object "java/lang/String"))) :: ws) ({ frames := 4, cells := 1, slots := 128, locals := 54 } : Room)) (fun a U => a = #[(.ref p0), (.ref p1)] ∧ Z.Warmed39 U.vm ∧ U.heap = h0) (fun _ _ _ _ _ => True) (fun _ U o U' => ∃ v L, o = .returned v ∧ (Q1d Z p0 p1 zc fm u kb kr sA sB sC x0 x1 x2 h0 n0) v U'.heap L ∧ FrameEnd U o U' L ({ frames := 4, cells := 1, slots := 128, locals := 54 } : Room).cells ({ frames := 4, cells := 1, slots := 128, locals := 54 } : Room).slots) := by
  refine MetFree.of_bodySF (plainFor_of_name pn_2) hisR ?_
  intro p e s m args below meth c s₁ Bd hml0 hP hK
  obtain ⟨rfl, hZ, hh⟩ := hP
  have hx := Bd.exec
  have hby := Bd.bytes
  have hml : c.maxLocals = 4 := hml0
  have hown : s.vm.findClass "com/example/issuerd/issuerd/xml/Dom" = some m.cls := findClass_of_methodNamed Bd.named
  have hnm := (name_of_methodNamed Bd.named Bd.method).1
  have hlk : meth.locks = false := BodyLoose.notSynchronized Bd
  have X0 : Stand p l e ({ frames := 4, cells := 1, slots := 128, locals := 54 } : Room) s m #[(.ref p0), (.ref p1)] below meth c s₁ [] 0 0 := Stand.of_body Bd
  have e0 : s₁.heap = h0 := by rw [← hh, Bd.state]; rfl
  have N0 := Fr.nil n0
  have K0 : Keep h0 h0 [] := Keep.refl h0 []
  show own_G p.tables e below (s₁.setTop (entryFrame m #[(.ref p0), (.ref p1)] 4)) s ({ frames := 4, cells := 1, slots := 128, locals := 54 } : Room).cells ({ frames := 4, cells := 1, slots := 128, locals := 54 } : Room).slots (Q1d Z p0 p1 zc fm u kb kr sA sB sC x0 x1 x2 h0 n0)
  refine own_go (fun _ k => castTop (ef_1a m p0 p1) k) ?_
  show own_G _ _ _ (s₁.setTop (mkF m 0 #[.val (.ref p0), .val (.ref p1), .unset, .unset] [])) _ _ _ _
  refine own_go (fun _ k => XS.aloadN X0.here hx rfl (hb hby d1_0) rfl rfl k) ?_
  show own_G _ _ _ (s₁.setTop (mkF m 1 #[.val (.ref p0), .val (.ref p1), .unset, .unset] [(.ref p0)])) _ _ _ _
  obtain ⟨cq1, kq1, q1a, q1b, q1c⟩ := isOf hZ e0 P_E_p0
  obtain ⟨_, _, ⟨T1, L1, k1, n1⟩, -, X1, ⟨Lc1, hQ1, l1, y1, z1⟩, st1⟩ := X0.virtualBack hx (y := (⟨"java/lang/String", "isEmpty", "()Z"⟩ : MethodName)) (z := (⟨"java/lang/String", "isEmpty", "()Z"⟩ : MethodName)) hown (mvT hZ (hw _ (List.mem_of_getElem? (i := 19) rfl))) (mvT hZ (hw _ (List.mem_of_getElem? (i := 20) rfl))) (notFace_of_selects (args := #[]) (mvT hZ (hw _ (List.mem_of_getElem? (i := 22) rfl)))) (mvT hZ (hw _ (List.mem_of_getElem? (i := 22) rfl))) (mvT hZ (hw _ (List.mem_of_getElem? (i := 21) rfl))) (by decide) (backOf (W := 0) (rm2d l Z a0 hw [] p0 u kb x0.toInt8.toInt32 x1.toInt8.toInt32 x2.toInt8.toInt32 h0 n0 Z0 P_F_p0_value P_V_u) hZ (hw _ (List.mem_of_getElem? (i := 23) rfl)) (hw _ (List.mem_of_getElem? (i := 2) rfl)) (by decide) (by decide)) q1a q1c (g := (mkF m 1 #[.val (.ref p0), .val (.ref p1), .unset, .unset] [(.ref p0)])) rfl (by rw [hml]; rfl) (Steps.refl _) (argsL := []) (rest := []) (lenOf pd_3 rfl) rfl (by show 2 * 0 + _ ≤ _; exact Nat.le_of_eq rfl) (hb hby d1_1) (fun _ _ => ⟨rfl, e0, (by decide : 0 + 0 ≤ _), (by decide : 0 + 0 ≤ _)⟩)
  dsimp only [Pt.U, Pt.locs, Pt.cells, Pt.slots] at X1 l1 y1 z1 st1 hQ1
  rw [l1] at X1
  subst y1 z1
  obtain ⟨rfl, Nq1, eh1⟩ := hQ1
  have N1 := Fr.app N0 Nq1
  refine own_tr st1 ?_
  show own_G _ _ _ (T1.setTop (mkF m 4 #[.val (.ref p0), .val (.ref p1), .unset, .unset] [(.int (0 : Int32))])) _ _ _ _
  have hc2 : (0 : Int32) = (0 : Int32) := (by decide)
  refine own_go (fun _ k => XS.ifYes X1.here hx rfl (pc0 := 4) (pc' := 11) rfl (hb hby d1_4) rfl ((if0 _ _).trans (teq hc2).1) (by decide) (by decide) k) ?_
  show own_G _ _ _ (T1.setTop (mkF m 11 #[.val (.ref p0), .val (.ref p1), .unset, .unset] [])) _ _ _ _
  refine own_go (fun _ k => XS.sipush X1.here hx rfl (hb hby d1_11) k) ?_
  show own_G _ _ _ (T1.setTop (mkF m 14 #[.val (.ref p0), .val (.ref p1), .unset, .unset] [(.int (128 : Int32))])) _ _ _ _
  obtain ⟨T3, h3, k3, X3, e3, E3, A3, O3, st3⟩ := newR X1 hx hZ hown (hw _ (List.mem_of_getElem? (i := 25) rfl)) (hw _ (List.mem_of_getElem? (i := 10) rfl)) eh1 (g := (mkF m 14 #[.val (.ref p0), .val (.ref p1), .unset, .unset] [(.int (128 : Int32))])) rfl (hb hby d1_14) rfl (by decide) (cap := 128) (by decide) (by decide) (by decide) (by decide)
  obtain ⟨b3, g3⟩ : ∃ z, z = h0.size := ⟨_, rfl⟩
  rw [← g3] at A3 st3
  have ne4 : p0 ≠ b3 := Nat.ne_of_lt (Nat.lt_of_lt_of_le P_E_p0.lt (Nat.le_of_eq g3.symm))
  have ne5 : u ≠ b3 := Nat.ne_of_lt (Nat.lt_of_lt_of_le P_V_u.lt (Nat.le_of_eq g3.symm))
  have ne6 : p1 ≠ b3 := Nat.ne_of_lt (Nat.lt_of_lt_of_le P_V_p1.lt (Nat.le_of_eq g3.symm))
  have ne7 : sA ≠ b3 := Nat.ne_of_lt (Nat.lt_of_lt_of_le P_E_sA.lt (Nat.le_of_eq g3.symm))
  have ne8 : sB ≠ b3 := Nat.ne_of_lt (Nat.lt_of_lt_of_le P_E_sB.lt (Nat.le_of_eq g3.symm))
  have ne9 : sC ≠ b3 := Nat.ne_of_lt (Nat.lt_of_lt_of_le P_E_sC.lt (Nat.le_of_eq g3.symm))
  have gg3 : n0 ≤ b3 := Nat.le_trans Z0 (Nat.le_of_eq g3.symm)
  have sz3_0 : h0.size ≤ b3 := Nat.le_trans K0.1 (Nat.le_of_eq g3.symm)
  have Zs3 : n0 ≤ h3.size := Nat.le_trans Z0 E3.1
  have K3_0 : Keep h0 h3 [] := K0.ext E3
  have f10 : Old Z n0 h3 := P_Old.ext E3
  have f11 : Exa Z h3 p0 "java/lang/String" := P_E_p0.ext E3
  have f12 : Fld Z h3 p0 "java/lang/String" "coder" "B" (.int (0 : Int32)) := P_F_p0_coder.ext E3
  have f13 : Fld Z h3 p0 "java/lang/String" "value" "[B" (.ref u) := P_F_p0_value.ext E3
  have f14 : Arv Z h3 u kb .byte (3 : Int32) [(.int x0.toInt8.toInt32), (.int x1.toInt8.toInt32), (.int x2.toInt8.toInt32)] (.int (0 : Int32)) := P_V_u.ext E3
  have f15 : Arv Z h3 p1 kr (.object "java/lang/String") (3 : Int32) [(.ref sA), (.ref sB), (.ref sC)] .null := P_V_p1.ext E3
  have f16 : Exa Z h3 sA "java/lang/String" := P_E_sA.ext E3
  have f17 : Exa Z h3 sB "java/lang/String" := P_E_sB.ext E3
  have f18 : Exa Z h3 sC "java/lang/String" := P_E_sC.ext E3
  have f19 : Ovr Z k3 "java/lang/String" := O3
  have f20 : Arv Z h3 b3 k3 (.object "java/lang/String") (128 : Int32) [] .null := Arv.new A3 (by decide)
  refine own_go (fun _ k => st3 _ k) ?_
  show own_G _ _ _ (T3.setTop (mkF m 17 #[.val (.ref p0), .val (.ref p1), .unset, .unset] [(.ref b3)])) _ _ _ _
  have f21 : Arv Z h3 b3 k3 (.object "java/lang/String") (128 : Int32) own_t0 .null := (f20).pad (fun i => pad_rep [] .null 128 i)
  refine own_go (fun _ k => XS.astoreN X3.here hx rfl (hb hby d1_17) rfl rfl (l' := #[.val (.ref p0), .val (.ref p1), .val (.ref b3), .unset]) rfl k) ?_
  show own_G _ _ _ (T3.setTop (mkF m 18 #[.val (.ref p0), .val (.ref p1), .val (.ref b3), .unset] [])) _ _ _ _
  refine own_go (fun _ k => XS.iconst X3.here hx rfl (hb hby d1_18) k) ?_
  show own_G _ _ _ (T3.setTop (mkF m 19 #[.val (.ref p0), .val (.ref p1), .val (.ref b3), .unset] [(.int (0 : Int32))])) _ _ _ _
  refine own_go (fun _ k => XS.istoreN X3.here hx rfl (hb hby d1_19) rfl (l' := #[.val (.ref p0), .val (.ref p1), .val (.ref b3), .val (.int (0 : Int32))]) rfl k) ?_
  show own_G _ _ _ (T3.setTop (mkF m 20 #[.val (.ref p0), .val (.ref p1), .val (.ref b3), .val (.int (0 : Int32))] [])) _ _ _ _
  refine own_go (fun _ k => XS.iloadN X3.here hx rfl (hb hby d1_20) rfl k) ?_
  show own_G _ _ _ (T3.setTop (mkF m 21 #[.val (.ref p0), .val (.ref p1), .val (.ref b3), .val (.int (0 : Int32))] [(.int (0 : Int32))])) _ _ _ _
  refine own_go (fun _ k => XS.aloadN X3.here hx rfl (hb hby d1_21) rfl rfl k) ?_
  show own_G _ _ _ (T3.setTop (mkF m 22 #[.val (.ref p0), .val (.ref p1), .val (.ref b3), .val (.int (0 : Int32))] [(.ref p0), (.int (0 : Int32))])) _ _ _ _
  have fT22 : own_Str Z h3 p0 ([x0, x1, x2] : List Int32) := ⟨u, kb, f11, f12, f13, f14, (by intro c hc; simp only [List.mem_cons, List.not_mem_nil, or_false] at hc; rcases hc with hc | hc | hc <;> rw [hc] <;> first | exact rg0.byte | exact rg1.byte | exact rg2.byte), by simp⟩
  obtain ⟨t23, kb23, Es23, Cs23, Vs23, Ks23, hp23, hl23⟩ := id fT22
  obtain ⟨cq23, kq23, q23a, q23b, q23c⟩ := isOf hZ e3 Es23
  obtain ⟨_, _, ⟨T23, L23, k23, n23⟩, -, X23, ⟨Lc23, hQ23, l23, y23, z23⟩, st23⟩ := X3.virtualBack hx (y := (⟨"java/lang/String", "length", "()I"⟩ : MethodName)) (z := (⟨"java/lang/String", "length", "()I"⟩ : MethodName)) hown (mvT hZ (hw _ (List.mem_of_getElem? (i := 26) rfl))) (mvT hZ (hw _ (List.mem_of_getElem? (i := 27) rfl))) (notFace_of_selects (args := #[]) (mvT hZ (hw _ (List.mem_of_getElem? (i := 29) rfl)))) (mvT hZ (hw _ (List.mem_of_getElem? (i := 29) rfl))) (mvT hZ (hw _ (List.mem_of_getElem? (i := 28) rfl))) (by decide) (StrChars.Road.lenW (W := 1) hZ (own_wLen hw) (kI := 4) (hw _ (List.mem_of_getElem? (i := 3) rfl)) Es23 Vs23 Cs23 Ks23 (StrChars.Road.codOf rfl (fun x hx => (hp23 x hx).2)) (own_up _ hp23) (P_ZS_java_lang_String_COMPACT_STRINGS.ext f10.2) hcs hl23 (by decide) (by decide)) q23a q23c (g := (mkF m 22 #[.val (.ref p0), .val (.ref p1), .val (.ref b3), .val (.int (0 : Int32))] [(.ref p0), (.int (0 : Int32))])) rfl (by rw [hml]; rfl) (Steps.refl _) (argsL := []) (rest := [(.int (0 : Int32))]) (lenOf pd_4 rfl) rfl (by show 2 * 0 + _ ≤ _; exact Nat.le_of_eq rfl) (hb hby d1_22) (fun _ _ => ⟨rfl, e3, (by decide : 1 + 0 ≤ _), (by decide : 128 + 0 ≤ _)⟩)
  dsimp only [Pt.U, Pt.locs, Pt.cells, Pt.slots] at X23 l23 y23 z23 st23 hQ23
  rw [l23] at X23
  subst y23 z23
  obtain ⟨rfl, rfl, eh23⟩ := hQ23
  have N23 := Fr.app N1 (Fr.nil n0)
  refine own_tr st23 ?_
  show own_G _ _ _ (T23.setTop (mkF m 25 #[.val (.ref p0), .val (.ref p1), .val (.ref b3), .val (.int (0 : Int32))] [(.int (Int32.ofNat ([x0, x1, x2] : List Int32).length)), (.int (0 : Int32))])) _ _ _ _
  have hc24 : (0 : Int32) < (Int32.ofNat ([x0, x1, x2] : List Int32).length) := (by show (0 : Int32) < (3 : Int32); decide)
  refine own_go (fun _ k => XS.icmpNo X23.here hx rfl (hb hby d1_25) rfl (tlt hc24).2.1 k) ?_
  show own_G _ _ _ (T23.setTop (mkF m 28 #[.val (.ref p0), .val (.ref p1), .val (.ref b3), .val (.int (0 : Int32))] [])) _ _ _ _
  refine own_go (fun _ k => XS.aloadN X23.here hx rfl (hb hby d1_28) rfl rfl k) ?_
  show own_G _ _ _ (T23.setTop (mkF m 29 #[.val (.ref p0), .val (.ref p1), .val (.ref b3), .val (.int (0 : Int32))] [(.ref b3)])) _ _ _ _
  refine own_go (fun _ k => XS.aloadN X23.here hx rfl (hb hby d1_29) rfl rfl k) ?_
  show own_G _ _ _ (T23.setTop (mkF m 30 #[.val (.ref p0), .val (.ref p1), .val (.ref b3), .val (.int (0 : Int32))] [(.ref p0), (.ref b3)])) _ _ _ _
  refine own_go (fun _ k => XS.iloadN X23.here hx rfl (hb hby d1_30) rfl k) ?_
  show own_G _ _ _ (T23.setTop (mkF m 31 #[.val (.ref p0), .val (.ref p1), .val (.ref b3), .val (.int (0 : Int32))] [(.int (0 : Int32)), (.ref p0), (.ref b3)])) _ _ _ _
  have fT25 : own_Str Z h3 p0 ([x0, x1, x2] : List Int32) := ⟨u, kb, f11, f12, f13, f14, (by intro c hc; simp only [List.mem_cons, List.not_mem_nil, or_false] at hc; rcases hc with hc | hc | hc <;> rw [hc] <;> first | exact rg0.byte | exact rg1.byte | exact rg2.byte), by simp⟩
  obtain ⟨t26, kb26, Es26, Cs26, Vs26, Ks26, hp26, hl26⟩ := id fT25
  obtain ⟨cq26, kq26, q26a, q26b, q26c⟩ := isOf hZ eh23 Es26
  obtain ⟨_, _, ⟨T26, L26, k26, n26⟩, -, X26, ⟨Lc26, hQ26, l26, y26, z26⟩, st26⟩ := X23.virtualBack hx (y := (⟨"java/lang/String", "charAt", "(I)C"⟩ : MethodName)) (z := (⟨"java/lang/String", "charAt", "(I)C"⟩ : MethodName)) hown (mvT hZ (hw _ (List.mem_of_getElem? (i := 57) rfl))) (mvT hZ (hw _ (List.mem_of_getElem? (i := 58) rfl))) (notFace_of_selects (args := #[]) (mvT hZ (hw _ (List.mem_of_getElem? (i := 60) rfl)))) (mvT hZ (hw _ (List.mem_of_getElem? (i := 60) rfl))) (mvT hZ (hw _ (List.mem_of_getElem? (i := 59) rfl))) (by decide) (StrChars.Road.chN (W := 1) hZ (own_wCh hw) (kI := 4) (hw _ (List.mem_of_getElem? (i := 3) rfl)) Es26 Vs26 Cs26 Ks26 (StrChars.Road.codOf rfl (fun x hx => (hp26 x hx).2)) (own_up _ hp26) (P_ZS_java_lang_String_COMPACT_STRINGS.ext f10.2) hcs (P_ZS_jdk_internal_util_Preconditions_SIOOBE_FORMATTER.ext f10.2) hfm hl26 (i := 0) (by simp) (j := (0 : Int32)) rfl (by decide) (by decide)) q26a q26c (g := (mkF m 31 #[.val (.ref p0), .val (.ref p1), .val (.ref b3), .val (.int (0 : Int32))] [(.int (0 : Int32)), (.ref p0), (.ref b3)])) rfl (by rw [hml]; rfl) (Steps.refl _) (argsL := [(.int (0 : Int32))]) (rest := [(.ref b3)]) (lenOf pd_5 rfl) rfl (by show 2 * 0 + _ ≤ _; exact Nat.le_of_eq rfl) (hb hby d1_31) (fun _ _ => ⟨rfl, eh23, (by decide : 1 + 0 ≤ _), (by decide : 128 + 0 ≤ _)⟩)
  dsimp only [Pt.U, Pt.locs, Pt.cells, Pt.slots] at X26 l26 y26 z26 st26 hQ26
  rw [l26] at X26
  subst y26 z26
  obtain ⟨rfl, rfl, eh26⟩ := hQ26
  have N26 := Fr.app N23 (Fr.nil n0)
  refine own_tr st26 ?_
  show own_G _ _ _ (T26.setTop (mkF m 34 #[.val (.ref p0), .val (.ref p1), .val (.ref b3), .val (.int (0 : Int32))] [(.int (([x0, x1, x2] : List Int32).getD 0 0)), (.ref b3)])) _ _ _ _
  show own_G _ _ _ (T26.setTop (mkF m 34 #[.val (.ref p0), .val (.ref p1), .val (.ref b3), .val (.int (0 : Int32))] [(.int x0), (.ref b3)])) _ _ _ _
  refine own_go (fun _ k => XS.aloadN X26.here hx rfl (hb hby d1_34) rfl rfl k) ?_
  show own_G _ _ _ (T26.setTop (mkF m 35 #[.val (.ref p0), .val (.ref p1), .val (.ref b3), .val (.int (0 : Int32))] [(.ref p1), (.int x0), (.ref b3)])) _ _ _ _
  refine own_go (fun _ k => XS.iloadN X26.here hx rfl (hb hby d1_35) rfl k) ?_
  show own_G _ _ _ (T26.setTop (mkF m 36 #[.val (.ref p0), .val (.ref p1), .val (.ref b3), .val (.int (0 : Int32))] [(.int (0 : Int32)), (.ref p1), (.int x0), (.ref b3)])) _ _ _ _
  obtain ⟨cl27, Ar27, q27, S27, Ng27, H27, G27⟩ := id f15
  have in27 : ¬ ((0 : Int32) < 0 ∨ cl27.slots.size ≤ ((0 : Int32)).toNatClampNeg) := inb_of S27 ⟨by decide, by decide⟩
  have at27 : cl27.slots[((0 : Int32)).toNatClampNeg]? = some (.ref sA) := H27.at in27 rfl
  refine own_go (fun _ k => X26.aaload hx (j := (0 : Int32)) (v := (.ref sA)) (by rw [eh26]; exact Ar27.1) (State.isArrayOf_alike hZ.alike Ar27.2.1) rfl Ar27.2.2 in27 at27 (g := (mkF m 36 #[.val (.ref p0), .val (.ref p1), .val (.ref b3), .val (.int (0 : Int32))] [(.int (0 : Int32)), (.ref p1), (.int x0), (.ref b3)])) rfl rfl (hb hby d1_36) _ k) ?_
  show own_G _ _ _ (T26.setTop (mkF m 37 #[.val (.ref p0), .val (.ref p1), .val (.ref b3), .val (.int (0 : Int32))] [(.ref sA), (.int x0), (.ref b3)])) _ _ _ _
  obtain ⟨cl28, Ar28, q28, S28, Ng28, H28, G28⟩ := id f21
  have in28 : ¬ (x0 < 0 ∨ cl28.slots.size ≤ (x0).toNatClampNeg) := inb_of S28 rg0.inb
  obtain ⟨T28, h28, X28, e28, W28, st28⟩ := stR X26 hx hZ eh26 Ar28 (j := x0) in28 rfl (Sto.ofV Ar28 q28 f19 (Ins.self f16)) (g := (mkF m 37 #[.val (.ref p0), .val (.ref p1), .val (.ref b3), .val (.int (0 : Int32))] [(.ref sA), (.int x0), (.ref b3)])) rfl rfl (hb hby d1_37)
  have N28 := Fr.snoc X28 N26 gg3
  have Zs28 : n0 ≤ h28.size := Nat.le_trans Zs3 (Keep.of_wr W28).1
  have K28_0 : Keep h0 h28 [] := K3_0.wr W28 (Or.inr sz3_0)
  have f29 : Old Z n0 h28 := f10.wr W28 gg3
  have f30 : Exa Z h28 p0 "java/lang/String" := f11.wr W28
  have f31 : Fld Z h28 p0 "java/lang/String" "coder" "B" (.int (0 : Int32)) := f12.other W28 (Or.inl ne4)
  have f32 : Fld Z h28 p0 "java/lang/String" "value" "[B" (.ref u) := f13.other W28 (Or.inl ne4)
  have f33 : Arv Z h28 u kb .byte (3 : Int32) [(.int x0.toInt8.toInt32), (.int x1.toInt8.toInt32), (.int x2.toInt8.toInt32)] (.int (0 : Int32)) := f14.other W28 ne5
  have f34 : Arv Z h28 p1 kr (.object "java/lang/String") (3 : Int32) [(.ref sA), (.ref sB), (.ref sC)] .null := f15.other W28 ne6
  have f35 : Exa Z h28 sA "java/lang/String" := f16.wr W28
  have f36 : Exa Z h28 sB "java/lang/String" := f17.wr W28
  have f37 : Exa Z h28 sC "java/lang/String" := f18.wr W28
  have f38 : Arv Z h28 b3 k3 (.object "java/lang/String") (128 : Int32) (own_set own_t0 x0 (.ref sA)) .null := Arv.set Ar28 q28 S28 Ng28 H28 G28 rfl W28 x0.toNatClampNeg rfl (by simp only [own_set_len, own_t0_len]; exact rg0.nat)
  refine own_go (fun _ k => st28 _ k) ?_
  show own_G _ _ _ (T28.setTop (mkF m 38 #[.val (.ref p0), .val (.ref p1), .val (.ref b3), .val (.int (0 : Int32))] [])) _ _ _ _
  refine own_go (fun _ k => XS.iinc X28.here hx rfl (hb hby d1_38) rfl (l' := #[.val (.ref p0), .val (.ref p1), .val (.ref b3), .val (.int (1 : Int32))]) rfl k) ?_
  show own_G _ _ _ (T28.setTop (mkF m 41 #[.val (.ref p0), .val (.ref p1), .val (.ref b3), .val (.int (1 : Int32))] [])) _ _ _ _
  refine own_go (fun _ k => XS.goto X28.here hx rfl (pc0 := 41) (pc' := 20) rfl (hb hby d1_41) (by decide) (by decide) k) ?_
  show own_G _ _ _ (T28.setTop (mkF m 20 #[.val (.ref p0), .val (.ref p1), .val (.ref b3), .val (.int (1 : Int32))] [])) _ _ _ _
  refine own_go (fun _ k => XS.iloadN X28.here hx rfl (hb hby d1_20) rfl k) ?_
  show own_G _ _ _ (T28.setTop (mkF m 21 #[.val (.ref p0), .val (.ref p1), .val (.ref b3), .val (.int (1 : Int32))] [(.int (1 : Int32))])) _ _ _ _
  refine own_go (fun _ k => XS.aloadN X28.here hx rfl (hb hby d1_21) rfl rfl k) ?_
  show own_G _ _ _ (T28.setTop (mkF m 22 #[.val (.ref p0), .val (.ref p1), .val (.ref b3), .val (.int (1 : Int32))] [(.ref p0), (.int (1 : Int32))])) _ _ _ _
  have fT39 : own_Str Z h28 p0 ([x0, x1, x2] : List Int32) := ⟨u, kb, f30, f31, f32, f33, (by intro c hc; simp only [List.mem_cons, List.not_mem_nil, or_false] at hc; rcases hc with hc | hc | hc <;> rw [hc] <;> first | exact rg0.byte | exact rg1.byte | exact rg2.byte), by simp⟩
  obtain ⟨t40, kb40, Es40, Cs40, Vs40, Ks40, hp40, hl40⟩ := id fT39
  obtain ⟨cq40, kq40, q40a, q40b, q40c⟩ := isOf hZ e28 Es40
  obtain ⟨_, _, ⟨T40, L40, k40, n40⟩, -, X40, ⟨Lc40, hQ40, l40, y40, z40⟩, st40⟩ := X28.virtualBack hx (y := (⟨"java/lang/String", "length", "()I"⟩ : MethodName)) (z := (⟨"java/lang/String", "length", "()I"⟩ : MethodName)) hown (mvT hZ (hw _ (List.mem_of_getElem? (i := 26) rfl))) (mvT hZ (hw _ (List.mem_of_getElem? (i := 27) rfl))) (notFace_of_selects (args := #[]) (mvT hZ (hw _ (List.mem_of_getElem? (i := 29) rfl)))) (mvT hZ (hw _ (List.mem_of_getElem? (i := 29) rfl))) (mvT hZ (hw _ (List.mem_of_getElem? (i := 28) rfl))) (by decide) (StrChars.Road.lenW (W := 1) hZ (own_wLen hw) (kI := 4) (hw _ (List.mem_of_getElem? (i := 3) rfl)) Es40 Vs40 Cs40 Ks40 (StrChars.Road.codOf rfl (fun x hx => (hp40 x hx).2)) (own_up _ hp40) (P_ZS_java_lang_String_COMPACT_STRINGS.ext f29.2) hcs hl40 (by decide) (by decide)) q40a q40c (g := (mkF m 22 #[.val (.ref p0), .val (.ref p1), .val (.ref b3), .val (.int (1 : Int32))] [(.ref p0), (.int (1 : Int32))])) rfl (by rw [hml]; rfl) (Steps.refl _) (argsL := []) (rest := [(.int (1 : Int32))]) (lenOf pd_4 rfl) rfl (by show 2 * 0 + _ ≤ _; exact Nat.le_of_eq rfl) (hb hby d1_22) (fun _ _ => ⟨rfl, e28, (by decide : 1 + 0 ≤ _), (by decide : 128 + 0 ≤ _)⟩)
  dsimp only [Pt.U, Pt.locs, Pt.cells, Pt.slots] at X40 l40 y40 z40 st40 hQ40
  rw [l40] at X40
  subst y40 z40
  obtain ⟨rfl, rfl, eh40⟩ := hQ40
  have N40 := Fr.app N28 (Fr.nil n0)
  refine own_tr st40 ?_
  show own_G _ _ _ (T40.setTop (mkF m 25 #[.val (.ref p0), .val (.ref p1), .val (.ref b3), .val (.int (1 : Int32))] [(.int (Int32.ofNat ([x0, x1, x2] : List Int32).length)), (.int (1 : Int32))])) _ _ _ _
  have hc41 : (1 : Int32) < (Int32.ofNat ([x0, x1, x2] : List Int32).length) := (by show (1 : Int32) < (3 : Int32); decide)
  refine own_go (fun _ k => XS.icmpNo X40.here hx rfl (hb hby d1_25) rfl (tlt hc41).2.1 k) ?_
  show own_G _ _ _ (T40.setTop (mkF m 28 #[.val (.ref p0), .val (.ref p1), .val (.ref b3), .val (.int (1 : Int32))] [])) _ _ _ _
  refine own_go (fun _ k => XS.aloadN X40.here hx rfl (hb hby d1_28) rfl rfl k) ?_
  show own_G _ _ _ (T40.setTop (mkF m 29 #[.val (.ref p0), .val (.ref p1), .val (.ref b3), .val (.int (1 : Int32))] [(.ref b3)])) _ _ _ _
  refine own_go (fun _ k => XS.aloadN X40.here hx rfl (hb hby d1_29) rfl rfl k) ?_
  show own_G _ _ _ (T40.setTop (mkF m 30 #[.val (.ref p0), .val (.ref p1), .val (.ref b3), .val (.int (1 : Int32))] [(.ref p0), (.ref b3)])) _ _ _ _
  refine own_go (fun _ k => XS.iloadN X40.here hx rfl (hb hby d1_30) rfl k) ?_
  show own_G _ _ _ (T40.setTop (mkF m 31 #[.val (.ref p0), .val (.ref p1), .val (.ref b3), .val (.int (1 : Int32))] [(.int (1 : Int32)), (.ref p0), (.ref b3)])) _ _ _ _
  have fT42 : own_Str Z h28 p0 ([x0, x1, x2] : List Int32) := ⟨u, kb, f30, f31, f32, f33, (by intro c hc; simp only [List.mem_cons, List.not_mem_nil, or_false] at hc; rcases hc with hc | hc | hc <;> rw [hc] <;> first | exact rg0.byte | exact rg1.byte | exact rg2.byte), by simp⟩
  obtain ⟨t43, kb43, Es43, Cs43, Vs43, Ks43, hp43, hl43⟩ := id fT42
  obtain ⟨cq43, kq43, q43a, q43b, q43c⟩ := isOf hZ eh40 Es43
  obtain ⟨_, _, ⟨T43, L43, k43, n43⟩, -, X43, ⟨Lc43, hQ43, l43, y43, z43⟩, st43⟩ := X40.virtualBack hx (y := (⟨"java/lang/String", "charAt", "(I)C"⟩ : MethodName)) (z := (⟨"java/lang/String", "charAt", "(I)C"⟩ : MethodName)) hown (mvT hZ (hw _ (List.mem_of_getElem? (i := 57) rfl))) (mvT hZ (hw _ (List.mem_of_getElem? (i := 58) rfl))) (notFace_of_selects (args := #[]) (mvT hZ (hw _ (List.mem_of_getElem? (i := 60) rfl)))) (mvT hZ (hw _ (List.mem_of_getElem? (i := 60) rfl))) (mvT hZ (hw _ (List.mem_of_getElem? (i := 59) rfl))) (by decide) (StrChars.Road.chN (W := 1) hZ (own_wCh hw) (kI := 4) (hw _ (List.mem_of_getElem? (i := 3) rfl)) Es43 Vs43 Cs43 Ks43 (StrChars.Road.codOf rfl (fun x hx => (hp43 x hx).2)) (own_up _ hp43) (P_ZS_java_lang_String_COMPACT_STRINGS.ext f29.2) hcs (P_ZS_jdk_internal_util_Preconditions_SIOOBE_FORMATTER.ext f29.2) hfm hl43 (i := 1) (by simp) (j := (1 : Int32)) rfl (by decide) (by decide)) q43a q43c (g := (mkF m 31 #[.val (.ref p0), .val (.ref p1), .val (.ref b3), .val (.int (1 : Int32))] [(.int (1 : Int32)), (.ref p0), (.ref b3)])) rfl (by rw [hml]; rfl) (Steps.refl _) (argsL := [(.int (1 : Int32))]) (rest := [(.ref b3)]) (lenOf pd_5 rfl) rfl (by show 2 * 0 + _ ≤ _; exact Nat.le_of_eq rfl) (hb hby d1_31) (fun _ _ => ⟨rfl, eh40, (by decide : 1 + 0 ≤ _), (by decide : 128 + 0 ≤ _)⟩)
  dsimp only [Pt.U, Pt.locs, Pt.cells, Pt.slots] at X43 l43 y43 z43 st43 hQ43
  rw [l43] at X43
  subst y43 z43
  obtain ⟨rfl, rfl, eh43⟩ := hQ43
  have N43 := Fr.app N40 (Fr.nil n0)
  refine own_tr st43 ?_
  show own_G _ _ _ (T43.setTop (mkF m 34 #[.val (.ref p0), .val (.ref p1), .val (.ref b3), .val (.int (1 : Int32))] [(.int (([x0, x1, x2] : List Int32).getD 1 0)), (.ref b3)])) _ _ _ _
  show own_G _ _ _ (T43.setTop (mkF m 34 #[.val (.ref p0), .val (.ref p1), .val (.ref b3), .val (.int (1 : Int32))] [(.int x1), (.ref b3)])) _ _ _ _
  refine own_go (fun _ k => XS.aloadN X43.here hx rfl (hb hby d1_34) rfl rfl k) ?_
  show own_G _ _ _ (T43.setTop (mkF m 35 #[.val (.ref p0), .val (.ref p1), .val (.ref b3), .val (.int (1 : Int32))] [(.ref p1), (.int x1), (.ref b3)])) _ _ _ _
  refine own_go (fun _ k => XS.iloadN X43.here hx rfl (hb hby d1_35) rfl k) ?_
  show own_G _ _ _ (T43.setTop (mkF m 36 #[.val (.ref p0), .val (.ref p1), .val (.ref b3), .val (.int (1 : Int32))] [(.int (1 : Int32)), (.ref p1), (.int x1), (.ref b3)])) _ _ _ _
  obtain ⟨cl44, Ar44, q44, S44, Ng44, H44, G44⟩ := id f34
  have in44 : ¬ ((1 : Int32) < 0 ∨ cl44.slots.size ≤ ((1 : Int32)).toNatClampNeg) := inb_of S44 ⟨by decide, by decide⟩
  have at44 : cl44.slots[((1 : Int32)).toNatClampNeg]? = some (.ref sB) := H44.at in44 rfl
  refine own_go (fun _ k => X43.aaload hx (j := (1 : Int32)) (v := (.ref sB)) (by rw [eh43]; exact Ar44.1) (State.isArrayOf_alike hZ.alike Ar44.2.1) rfl Ar44.2.2 in44 at44 (g := (mkF m 36 #[.val (.ref p0), .val (.ref p1), .val (.ref b3), .val (.int (1 : Int32))] [(.int (1 : Int32)), (.ref p1), (.int x1), (.ref b3)])) rfl rfl (hb hby d1_36) _ k) ?_
  show own_G _ _ _ (T43.setTop (mkF m 37 #[.val (.ref p0), .val (.ref p1), .val (.ref b3), .val (.int (1 : Int32))] [(.ref sB), (.int x1), (.ref b3)])) _ _ _ _
  obtain ⟨cl45, Ar45, q45, S45, Ng45, H45, G45⟩ := id f38
  have in45 : ¬ (x1 < 0 ∨ cl45.slots.size ≤ (x1).toNatClampNeg) := inb_of S45 rg1.inb
  obtain ⟨T45, h45, X45, e45, W45, st45⟩ := stR X43 hx hZ eh43 Ar45 (j := x1) in45 rfl (Sto.ofV Ar45 q45 f19 (Ins.self f36)) (g := (mkF m 37 #[.val (.ref p0), .val (.ref p1), .val (.ref b3), .val (.int (1 : Int32))] [(.ref sB), (.int x1), (.ref b3)])) rfl rfl (hb hby d1_37)
  have N45 := Fr.snoc X45 N43 gg3
  have Zs45 : n0 ≤ h45.size := Nat.le_trans Zs28 (Keep.of_wr W45).1
  have K45_0 : Keep h0 h45 [] := K28_0.wr W45 (Or.inr sz3_0)
  have f46 : Old Z n0 h45 := f29.wr W45 gg3
  have f47 : Exa Z h45 p0 "java/lang/String" := f30.wr W45
  have f48 : Fld Z h45 p0 "java/lang/String" "coder" "B" (.int (0 : Int32)) := f31.other W45 (Or.inl ne4)
  have f49 : Fld Z h45 p0 "java/lang/String" "value" "[B" (.ref u) := f32.other W45 (Or.inl ne4)
  have f50 : Arv Z h45 u kb .byte (3 : Int32) [(.int x0.toInt8.toInt32), (.int x1.toInt8.toInt32), (.int x2.toInt8.toInt32)] (.int (0 : Int32)) := f33.other W45 ne5
  have f51 : Arv Z h45 p1 kr (.object "java/lang/String") (3 : Int32) [(.ref sA), (.ref sB), (.ref sC)] .null := f34.other W45 ne6
  have f52 : Exa Z h45 sA "java/lang/String" := f35.wr W45
  have f53 : Exa Z h45 sB "java/lang/String" := f36.wr W45
  have f54 : Exa Z h45 sC "java/lang/String" := f37.wr W45
  have f55 : Arv Z h45 b3 k3 (.object "java/lang/String") (128 : Int32) (own_set (own_set own_t0 x0 (.ref sA)) x1 (.ref sB)) .null := Arv.set Ar45 q45 S45 Ng45 H45 G45 rfl W45 x1.toNatClampNeg rfl (by simp only [own_set_len, own_t0_len]; exact rg1.nat)
  refine own_go (fun _ k => st45 _ k) ?_
  show own_G _ _ _ (T45.setTop (mkF m 38 #[.val (.ref p0), .val (.ref p1), .val (.ref b3), .val (.int (1 : Int32))] [])) _ _ _ _
  refine own_go (fun _ k => XS.iinc X45.here hx rfl (hb hby d1_38) rfl (l' := #[.val (.ref p0), .val (.ref p1), .val (.ref b3), .val (.int (2 : Int32))]) rfl k) ?_
  show own_G _ _ _ (T45.setTop (mkF m 41 #[.val (.ref p0), .val (.ref p1), .val (.ref b3), .val (.int (2 : Int32))] [])) _ _ _ _
  refine own_go (fun _ k => XS.goto X45.here hx rfl (pc0 := 41) (pc' := 20) rfl (hb hby d1_41) (by decide) (by decide) k) ?_
  show own_G _ _ _ (T45.setTop (mkF m 20 #[.val (.ref p0), .val (.ref p1), .val (.ref b3), .val (.int (2 : Int32))] [])) _ _ _ _
  refine own_go (fun _ k => XS.iloadN X45.here hx rfl (hb hby d1_20) rfl k) ?_
  show own_G _ _ _ (T45.setTop (mkF m 21 #[.val (.ref p0), .val (.ref p1), .val (.ref b3), .val (.int (2 : Int32))] [(.int (2 : Int32))])) _ _ _ _
  refine own_go (fun _ k => XS.aloadN X45.here hx rfl (hb hby d1_21) rfl rfl k) ?_
  show own_G _ _ _ (T45.setTop (mkF m 22 #[.val (.ref p0), .val (.ref p1), .val (.ref b3), .val (.int (2 : Int32))] [(.ref p0), (.int (2 : Int32))])) _ _ _ _
  have fT56 : own_Str Z h45 p0 ([x0, x1, x2] : List Int32) := ⟨u, kb, f47, f48, f49, f50, (by intro c hc; simp only [List.mem_cons, List.not_mem_nil, or_false] at hc; rcases hc with hc | hc | hc <;> rw [hc] <;> first | exact rg0.byte | exact rg1.byte | exact rg2.byte), by simp⟩
  obtain ⟨t57, kb57, Es57, Cs57, Vs57, Ks57, hp57, hl57⟩ := id fT56
  obtain ⟨cq57, kq57, q57a, q57b, q57c⟩ := isOf hZ e45 Es57
  obtain ⟨_, _, ⟨T57, L57, k57, n57⟩, -, X57, ⟨Lc57, hQ57, l57, y57, z57⟩, st57⟩ := X45.virtualBack hx (y := (⟨"java/lang/String", "length", "()I"⟩ : MethodName)) (z := (⟨"java/lang/String", "length", "()I"⟩ : MethodName)) hown (mvT hZ (hw _ (List.mem_of_getElem? (i := 26) rfl))) (mvT hZ (hw _ (List.mem_of_getElem? (i := 27) rfl))) (notFace_of_selects (args := #[]) (mvT hZ (hw _ (List.mem_of_getElem? (i := 29) rfl)))) (mvT hZ (hw _ (List.mem_of_getElem? (i := 29) rfl))) (mvT hZ (hw _ (List.mem_of_getElem? (i := 28) rfl))) (by decide) (StrChars.Road.lenW (W := 1) hZ (own_wLen hw) (kI := 4) (hw _ (List.mem_of_getElem? (i := 3) rfl)) Es57 Vs57 Cs57 Ks57 (StrChars.Road.codOf rfl (fun x hx => (hp57 x hx).2)) (own_up _ hp57) (P_ZS_java_lang_String_COMPACT_STRINGS.ext f46.2) hcs hl57 (by decide) (by decide)) q57a q57c (g := (mkF m 22 #[.val (.ref p0), .val (.ref p1), .val (.ref b3), .val (.int (2 : Int32))] [(.ref p0), (.int (2 : Int32))])) rfl (by rw [hml]; rfl) (Steps.refl _) (argsL := []) (rest := [(.int (2 : Int32))]) (lenOf pd_4 rfl) rfl (by show 2 * 0 + _ ≤ _; exact Nat.le_of_eq rfl) (hb hby d1_22) (fun _ _ => ⟨rfl, e45, (by decide : 1 + 0 ≤ _), (by decide : 128 + 0 ≤ _)⟩)
  dsimp only [Pt.U, Pt.locs, Pt.cells, Pt.slots] at X57 l57 y57 z57 st57 hQ57
  rw [l57] at X57
  subst y57 z57
  obtain ⟨rfl, rfl, eh57⟩ := hQ57
  have N57 := Fr.app N45 (Fr.nil n0)
  refine own_tr st57 ?_
  show own_G _ _ _ (T57.setTop (mkF m 25 #[.val (.ref p0), .val (.ref p1), .val (.ref b3), .val (.int (2 : Int32))] [(.int (Int32.ofNat ([x0, x1, x2] : List Int32).length)), (.int (2 : Int32))])) _ _ _ _
  have hc58 : (2 : Int32) < (Int32.ofNat ([x0, x1, x2] : List Int32).length) := (by show (2 : Int32) < (3 : Int32); decide)
  refine own_go (fun _ k => XS.icmpNo X57.here hx rfl (hb hby d1_25) rfl (tlt hc58).2.1 k) ?_
  show own_G _ _ _ (T57.setTop (mkF m 28 #[.val (.ref p0), .val (.ref p1), .val (.ref b3), .val (.int (2 : Int32))] [])) _ _ _ _
  refine own_go (fun _ k => XS.aloadN X57.here hx rfl (hb hby d1_28) rfl rfl k) ?_
  show own_G _ _ _ (T57.setTop (mkF m 29 #[.val (.ref p0), .val (.ref p1), .val (.ref b3), .val (.int (2 : Int32))] [(.ref b3)])) _ _ _ _
  refine own_go (fun _ k => XS.aloadN X57.here hx rfl (hb hby d1_29) rfl rfl k) ?_
  show own_G _ _ _ (T57.setTop (mkF m 30 #[.val (.ref p0), .val (.ref p1), .val (.ref b3), .val (.int (2 : Int32))] [(.ref p0), (.ref b3)])) _ _ _ _
  refine own_go (fun _ k => XS.iloadN X57.here hx rfl (hb hby d1_30) rfl k) ?_
  show own_G _ _ _ (T57.setTop (mkF m 31 #[.val (.ref p0), .val (.ref p1), .val (.ref b3), .val (.int (2 : Int32))] [(.int (2 : Int32)), (.ref p0), (.ref b3)])) _ _ _ _
  have fT59 : own_Str Z h45 p0 ([x0, x1, x2] : List Int32) := ⟨u, kb, f47, f48, f49, f50, (by intro c hc; simp only [List.mem_cons, List.not_mem_nil, or_false] at hc; rcases hc with hc | hc | hc <;> rw [hc] <;> first | exact rg0.byte | exact rg1.byte | exact rg2.byte), by simp⟩
  obtain ⟨t60, kb60, Es60, Cs60, Vs60, Ks60, hp60, hl60⟩ := id fT59
  obtain ⟨cq60, kq60, q60a, q60b, q60c⟩ := isOf hZ eh57 Es60
  obtain ⟨_, _, ⟨T60, L60, k60, n60⟩, -, X60, ⟨Lc60, hQ60, l60, y60, z60⟩, st60⟩ := X57.virtualBack hx (y := (⟨"java/lang/String", "charAt", "(I)C"⟩ : MethodName)) (z := (⟨"java/lang/String", "charAt", "(I)C"⟩ : MethodName)) hown (mvT hZ (hw _ (List.mem_of_getElem? (i := 57) rfl))) (mvT hZ (hw _ (List.mem_of_getElem? (i := 58) rfl))) (notFace_of_selects (args := #[]) (mvT hZ (hw _ (List.mem_of_getElem? (i := 60) rfl)))) (mvT hZ (hw _ (List.mem_of_getElem? (i := 60) rfl))) (mvT hZ (hw _ (List.mem_of_getElem? (i := 59) rfl))) (by decide) (StrChars.Road.chN (W := 1) hZ (own_wCh hw) (kI := 4) (hw _ (List.mem_of_getElem? (i := 3) rfl)) Es60 Vs60 Cs60 Ks60 (StrChars.Road.codOf rfl (fun x hx => (hp60 x hx).2)) (own_up _ hp60) (P_ZS_java_lang_String_COMPACT_STRINGS.ext f46.2) hcs (P_ZS_jdk_internal_util_Preconditions_SIOOBE_FORMATTER.ext f46.2) hfm hl60 (i := 2) (by simp) (j := (2 : Int32)) rfl (by decide) (by decide)) q60a q60c (g := (mkF m 31 #[.val (.ref p0), .val (.ref p1), .val (.ref b3), .val (.int (2 : Int32))] [(.int (2 : Int32)), (.ref p0), (.ref b3)])) rfl (by rw [hml]; rfl) (Steps.refl _) (argsL := [(.int (2 : Int32))]) (rest := [(.ref b3)]) (lenOf pd_5 rfl) rfl (by show 2 * 0 + _ ≤ _; exact Nat.le_of_eq rfl) (hb hby d1_31) (fun _ _ => ⟨rfl, eh57, (by decide : 1 + 0 ≤ _), (by decide : 128 + 0 ≤ _)⟩)
  dsimp only [Pt.U, Pt.locs, Pt.cells, Pt.slots] at X60 l60 y60 z60 st60 hQ60
  rw [l60] at X60
  subst y60 z60
  obtain ⟨rfl, rfl, eh60⟩ := hQ60
  have N60 := Fr.app N57 (Fr.nil n0)
  refine own_tr st60 ?_
  show own_G _ _ _ (T60.setTop (mkF m 34 #[.val (.ref p0), .val (.ref p1), .val (.ref b3), .val (.int (2 : Int32))] [(.int (([x0, x1, x2] : List Int32).getD 2 0)), (.ref b3)])) _ _ _ _
  show own_G _ _ _ (T60.setTop (mkF m 34 #[.val (.ref p0), .val (.ref p1), .val (.ref b3), .val (.int (2 : Int32))] [(.int x2), (.ref b3)])) _ _ _ _
  refine own_go (fun _ k => XS.aloadN X60.here hx rfl (hb hby d1_34) rfl rfl k) ?_
  show own_G _ _ _ (T60.setTop (mkF m 35 #[.val (.ref p0), .val (.ref p1), .val (.ref b3), .val (.int (2 : Int32))] [(.ref p1), (.int x2), (.ref b3)])) _ _ _ _
  refine own_go (fun _ k => XS.iloadN X60.here hx rfl (hb hby d1_35) rfl k) ?_
  show own_G _ _ _ (T60.setTop (mkF m 36 #[.val (.ref p0), .val (.ref p1), .val (.ref b3), .val (.int (2 : Int32))] [(.int (2 : Int32)), (.ref p1), (.int x2), (.ref b3)])) _ _ _ _
  obtain ⟨cl61, Ar61, q61, S61, Ng61, H61, G61⟩ := id f51
  have in61 : ¬ ((2 : Int32) < 0 ∨ cl61.slots.size ≤ ((2 : Int32)).toNatClampNeg) := inb_of S61 ⟨by decide, by decide⟩
  have at61 : cl61.slots[((2 : Int32)).toNatClampNeg]? = some (.ref sC) := H61.at in61 rfl
  refine own_go (fun _ k => X60.aaload hx (j := (2 : Int32)) (v := (.ref sC)) (by rw [eh60]; exact Ar61.1) (State.isArrayOf_alike hZ.alike Ar61.2.1) rfl Ar61.2.2 in61 at61 (g := (mkF m 36 #[.val (.ref p0), .val (.ref p1), .val (.ref b3), .val (.int (2 : Int32))] [(.int (2 : Int32)), (.ref p1), (.int x2), (.ref b3)])) rfl rfl (hb hby d1_36) _ k) ?_
  show own_G _ _ _ (T60.setTop (mkF m 37 #[.val (.ref p0), .val (.ref p1), .val (.ref b3), .val (.int (2 : Int32))] [(.ref sC), (.int x2), (.ref b3)])) _ _ _ _
  obtain ⟨cl62, Ar62, q62, S62, Ng62, H62, G62⟩ := id f55
  have in62 : ¬ (x2 < 0 ∨ cl62.slots.size ≤ (x2).toNatClampNeg) := inb_of S62 rg2.inb
  obtain ⟨T62, h62, X62, e62, W62, st62⟩ := stR X60 hx hZ eh60 Ar62 (j := x2) in62 rfl (Sto.ofV Ar62 q62 f19 (Ins.self f54)) (g := (mkF m 37 #[.val (.ref p0), .val (.ref p1), .val (.ref b3), .val (.int (2 : Int32))] [(.ref sC), (.int x2), (.ref b3)])) rfl rfl (hb hby d1_37)
  have N62 := Fr.snoc X62 N60 gg3
  have Zs62 : n0 ≤ h62.size := Nat.le_trans Zs45 (Keep.of_wr W62).1
  have K62_0 : Keep h0 h62 [] := K45_0.wr W62 (Or.inr sz3_0)
  have f63 : Old Z n0 h62 := f46.wr W62 gg3
  have f64 : Exa Z h62 p0 "java/lang/String" := f47.wr W62
  have f65 : Fld Z h62 p0 "java/lang/String" "coder" "B" (.int (0 : Int32)) := f48.other W62 (Or.inl ne4)
  have f66 : Fld Z h62 p0 "java/lang/String" "value" "[B" (.ref u) := f49.other W62 (Or.inl ne4)
  have f67 : Arv Z h62 u kb .byte (3 : Int32) [(.int x0.toInt8.toInt32), (.int x1.toInt8.toInt32), (.int x2.toInt8.toInt32)] (.int (0 : Int32)) := f50.other W62 ne5
  have f68 : Arv Z h62 p1 kr (.object "java/lang/String") (3 : Int32) [(.ref sA), (.ref sB), (.ref sC)] .null := f51.other W62 ne6
  have f69 : Exa Z h62 sA "java/lang/String" := f52.wr W62
  have f70 : Exa Z h62 sB "java/lang/String" := f53.wr W62
  have f71 : Exa Z h62 sC "java/lang/String" := f54.wr W62
  have f72 : Arv Z h62 b3 k3 (.object "java/lang/String") (128 : Int32) (own_set (own_set (own_set own_t0 x0 (.ref sA)) x1 (.ref sB)) x2 (.ref sC)) .null := Arv.set Ar62 q62 S62 Ng62 H62 G62 rfl W62 x2.toNatClampNeg rfl (by simp only [own_set_len, own_t0_len]; exact rg2.nat)
  refine own_go (fun _ k => st62 _ k) ?_
  show own_G _ _ _ (T62.setTop (mkF m 38 #[.val (.ref p0), .val (.ref p1), .val (.ref b3), .val (.int (2 : Int32))] [])) _ _ _ _
  refine own_go (fun _ k => XS.iinc X62.here hx rfl (hb hby d1_38) rfl (l' := #[.val (.ref p0), .val (.ref p1), .val (.ref b3), .val (.int (3 : Int32))]) rfl k) ?_
  show own_G _ _ _ (T62.setTop (mkF m 41 #[.val (.ref p0), .val (.ref p1), .val (.ref b3), .val (.int (3 : Int32))] [])) _ _ _ _
  refine own_go (fun _ k => XS.goto X62.here hx rfl (pc0 := 41) (pc' := 20) rfl (hb hby d1_41) (by decide) (by decide) k) ?_
  show own_G _ _ _ (T62.setTop (mkF m 20 #[.val (.ref p0), .val (.ref p1), .val (.ref b3), .val (.int (3 : Int32))] [])) _ _ _ _
  refine own_go (fun _ k => XS.iloadN X62.here hx rfl (hb hby d1_20) rfl k) ?_
  show own_G _ _ _ (T62.setTop (mkF m 21 #[.val (.ref p0), .val (.ref p1), .val (.ref b3), .val (.int (3 : Int32))] [(.int (3 : Int32))])) _ _ _ _
  refine own_go (fun _ k => XS.aloadN X62.here hx rfl (hb hby d1_21) rfl rfl k) ?_
  show own_G _ _ _ (T62.setTop (mkF m 22 #[.val (.ref p0), .val (.ref p1), .val (.ref b3), .val (.int (3 : Int32))] [(.ref p0), (.int (3 : Int32))])) _ _ _ _
  have fT73 : own_Str Z h62 p0 ([x0, x1, x2] : List Int32) := ⟨u, kb, f64, f65, f66, f67, (by intro c hc; simp only [List.mem_cons, List.not_mem_nil, or_false] at hc; rcases hc with hc | hc | hc <;> rw [hc] <;> first | exact rg0.byte | exact rg1.byte | exact rg2.byte), by simp⟩
  obtain ⟨t74, kb74, Es74, Cs74, Vs74, Ks74, hp74, hl74⟩ := id fT73
  obtain ⟨cq74, kq74, q74a, q74b, q74c⟩ := isOf hZ e62 Es74
  obtain ⟨_, _, ⟨T74, L74, k74, n74⟩, -, X74, ⟨Lc74, hQ74, l74, y74, z74⟩, st74⟩ := X62.virtualBack hx (y := (⟨"java/lang/String", "length", "()I"⟩ : MethodName)) (z := (⟨"java/lang/String", "length", "()I"⟩ : MethodName)) hown (mvT hZ (hw _ (List.mem_of_getElem? (i := 26) rfl))) (mvT hZ (hw _ (List.mem_of_getElem? (i := 27) rfl))) (notFace_of_selects (args := #[]) (mvT hZ (hw _ (List.mem_of_getElem? (i := 29) rfl)))) (mvT hZ (hw _ (List.mem_of_getElem? (i := 29) rfl))) (mvT hZ (hw _ (List.mem_of_getElem? (i := 28) rfl))) (by decide) (StrChars.Road.lenW (W := 1) hZ (own_wLen hw) (kI := 4) (hw _ (List.mem_of_getElem? (i := 3) rfl)) Es74 Vs74 Cs74 Ks74 (StrChars.Road.codOf rfl (fun x hx => (hp74 x hx).2)) (own_up _ hp74) (P_ZS_java_lang_String_COMPACT_STRINGS.ext f63.2) hcs hl74 (by decide) (by decide)) q74a q74c (g := (mkF m 22 #[.val (.ref p0), .val (.ref p1), .val (.ref b3), .val (.int (3 : Int32))] [(.ref p0), (.int (3 : Int32))])) rfl (by rw [hml]; rfl) (Steps.refl _) (argsL := []) (rest := [(.int (3 : Int32))]) (lenOf pd_4 rfl) rfl (by show 2 * 0 + _ ≤ _; exact Nat.le_of_eq rfl) (hb hby d1_22) (fun _ _ => ⟨rfl, e62, (by decide : 1 + 0 ≤ _), (by decide : 128 + 0 ≤ _)⟩)
  dsimp only [Pt.U, Pt.locs, Pt.cells, Pt.slots] at X74 l74 y74 z74 st74 hQ74
  rw [l74] at X74
  subst y74 z74
  obtain ⟨rfl, rfl, eh74⟩ := hQ74
  have N74 := Fr.app N62 (Fr.nil n0)
  refine own_tr st74 ?_
  show own_G _ _ _ (T74.setTop (mkF m 25 #[.val (.ref p0), .val (.ref p1), .val (.ref b3), .val (.int (3 : Int32))] [(.int (Int32.ofNat ([x0, x1, x2] : List Int32).length)), (.int (3 : Int32))])) _ _ _ _
  have hc75 : ¬ ((3 : Int32) < (Int32.ofNat ([x0, x1, x2] : List Int32).length)) := (by show ¬ ((3 : Int32) < (3 : Int32)); decide)
  refine own_go (fun _ k => XS.icmpYes X74.here hx rfl (pc0 := 25) (pc' := 44) rfl (hb hby d1_25) rfl (flt hc75).2.1 (by decide) (by decide) k) ?_
  show own_G _ _ _ (T74.setTop (mkF m 44 #[.val (.ref p0), .val (.ref p1), .val (.ref b3), .val (.int (3 : Int32))] [])) _ _ _ _
  refine own_go (fun _ k => XS.aloadN X74.here hx rfl (hb hby d1_44) rfl rfl k) ?_
  show own_G _ _ _ (T74.setTop (mkF m 45 #[.val (.ref p0), .val (.ref p1), .val (.ref b3), .val (.int (3 : Int32))] [(.ref b3)])) _ _ _ _
  exact own_endR X74 hx hlk Bd.returns rfl rfl rfl (hb hby d1_45) (by decide) (by decide) (Q := (Q1d Z p0 p1 zc fm u kb kr sA sB sC x0 x1 x2 h0 n0)) (by rw [eh74]; exact ⟨b3, k3, rfl, N74, K62_0, f72⟩)
theorem d16_0 : decode method_3_code 0 = .ok (.aconst_null, 1) := by decide +kernel
theorem d16_1 : decode method_3_code 1 = .ok (.astore 5, 2) := by decide +kernel
theorem d16_3 : decode method_3_code 3 = .ok (.iload_n 1, 1) := by decide +kernel
theorem d16_4 : decode method_3_code 4 = .ok (.ifCond .le 12, 3) := by decide +kernel
theorem d16_7 : decode method_3_code 7 = .ok (.iload_n 2, 1) := by decide +kernel
theorem d16_8 : decode method_3_code 8 = .ok (.iload_n 0, 1) := by decide +kernel
theorem d16_9 : decode method_3_code 9 = .ok (.if_icmp .ne 7, 3) := by decide +kernel
theorem d16_12 : decode method_3_code 12 = .ok (.ldc 18, 2) := by decide +kernel
theorem d16_14 : decode method_3_code 14 = .ok (.astore 5, 2) := by decide +kernel
theorem d16_16 : decode method_3_code 16 = .ok (.iload_n 1, 1) := by decide +kernel
theorem d16_17 : decode method_3_code 17 = .ok (.iconst 1, 1) := by decide +kernel
theorem d16_18 : decode method_3_code 18 = .ok (.if_icmp .le 12, 3) := by decide +kernel
theorem d16_21 : decode method_3_code 21 = .ok (.iload_n 3, 1) := by decide +kernel
theorem d16_22 : decode method_3_code 22 = .ok (.iload_n 0, 1) := by decide +kernel
theorem d16_23 : decode method_3_code 23 = .ok (.if_icmp .ne 7, 3) := by decide +kernel
theorem d16_26 : decode method_3_code 26 = .ok (.ldc 20, 2) := by decide +kernel
theorem d16_28 : decode method_3_code 28 = .ok (.astore 5, 2) := by decide +kernel
theorem d16_30 : decode method_3_code 30 = .ok (.iload_n 1, 1) := by decide +kernel
theorem d16_31 : decode method_3_code 31 = .ok (.iconst 2, 1) := by decide +kernel
theorem d16_32 : decode method_3_code 32 = .ok (.if_icmp .le 13, 3) := by decide +kernel
theorem d16_35 : decode method_3_code 35 = .ok (.iload 4, 2) := by decide +kernel
theorem d16_37 : decode method_3_code 37 = .ok (.iload_n 0, 1) := by decide +kernel
theorem d16_38 : decode method_3_code 38 = .ok (.if_icmp .ne 7, 3) := by decide +kernel
theorem d16_41 : decode method_3_code 41 = .ok (.ldc 22, 2) := by decide +kernel
theorem d16_43 : decode method_3_code 43 = .ok (.astore 5, 2) := by decide +kernel
theorem d16_45 : decode method_3_code 45 = .ok (.aload 5, 2) := by decide +kernel
theorem d16_47 : decode method_3_code 47 = .ok (.areturn, 1) := by decide +kernel
theorem pn_3 : plainName "com/example/issuerd/issuerd/xml/DomReferencesPinLaw" = true := by first | (simp [plainName, overriddenIn]; done) | decide +kernel
theorem ef_16a (m : MethodId) (p0 : Int32) (p2 : Int32) (p3 : Int32) (p4 : Int32) : entryFrame m #[(.int p0), (.int (1 : Int32)), (.int p2), (.int p3), (.int p4)] 6 = mkF m 0 #[.val (.int p0), .val (.int (1 : Int32)), .val (.int p2), .val (.int p3), .val (.int p4), .unset] [] := by first | (simp [entryFrame, mkF, argsToLocals, Value.category]; done) | rfl
def Q16a (Z : State) (p0 : Int32) (p2 : Int32) (p3 : Int32) (p4 : Int32) (sA : Addr) (sB : Addr) (sC : Addr) (h0 : Heap) (n0 : Nat) (v : Option Value) (h : Heap) (L : List Loc) : Prop := v = some (.ref sA) ∧ Fr n0 L ∧ h = h0
set_option maxRecDepth 65536 in
set_option maxHeartbeats 40000000 in
theorem rm16a (l : Launch) (Z : State) (a0 : Array Value) (ws : List Jvm.Cond) (p0 : Int32) (p2 : Int32) (p3 : Int32) (p4 : Int32) (sA : Addr) (sB : Addr) (sC : Addr) (h0 : Heap) (n0 : Nat) (Z0 : n0 ≤ h0.size) (w18 : (Jvm.Cond.stringLink "com/example/issuerd/issuerd/xml/DomReferencesPinLaw" 18 "A").before a0 Z = true) (w20 : (Jvm.Cond.stringLink "com/example/issuerd/issuerd/xml/DomReferencesPinLaw" 20 "B").before a0 Z = true) (w22 : (Jvm.Cond.stringLink "com/example/issuerd/issuerd/xml/DomReferencesPinLaw" 22 "C").before a0 Z = true) (L18 : Lit Z "com/example/issuerd/issuerd/xml/DomReferencesPinLaw" 18 sA) (L20 : Lit Z "com/example/issuerd/issuerd/xml/DomReferencesPinLaw" 20 sB) (L22 : Lit Z "com/example/issuerd/issuerd/xml/DomReferencesPinLaw" 22 sC) (hA : p2 = p0) :
    MetFree l (⟨"com/example/issuerd/issuerd/xml/DomReferencesPinLaw", "expected", "(IICCC)Ljava/lang/String;"⟩ : MethodName) (head1 (Jvm.Cond.code (⟨"com/example/issuerd/issuerd/xml/DomReferencesPinLaw", "expected", "(IICCC)Ljava/lang/String;"⟩ : MethodName) method_3_code 6 (some (.object "java/lang/String")) :: ws) ({ frames := 0, cells := 0, slots := 0, locals := 0 } : Room)) (fun a U => a = #[(.int p0), (.int (1 : Int32)), (.int p2), (.int p3), (.int p4)] ∧ Z.Warmed39 U.vm ∧ U.heap = h0) (fun _ _ _ _ _ => True) (fun _ U o U' => ∃ v L, o = .returned v ∧ (Q16a Z p0 p2 p3 p4 sA sB sC h0 n0) v U'.heap L ∧ FrameEnd U o U' L ({ frames := 0, cells := 0, slots := 0, locals := 0 } : Room).cells ({ frames := 0, cells := 0, slots := 0, locals := 0 } : Room).slots) := by
  refine MetFree.of_bodySF (plainFor_of_name pn_3) hisR ?_
  intro p e s m args below meth c s₁ Bd hml0 hP hK
  obtain ⟨rfl, hZ, hh⟩ := hP
  have hx := Bd.exec
  have hby := Bd.bytes
  have hml : c.maxLocals = 6 := hml0
  have hown : s.vm.findClass "com/example/issuerd/issuerd/xml/DomReferencesPinLaw" = some m.cls := findClass_of_methodNamed Bd.named
  have hnm := (name_of_methodNamed Bd.named Bd.method).1
  have hlk : meth.locks = false := BodyLoose.notSynchronized Bd
  have X0 : Stand p l e ({ frames := 0, cells := 0, slots := 0, locals := 0 } : Room) s m #[(.int p0), (.int (1 : Int32)), (.int p2), (.int p3), (.int p4)] below meth c s₁ [] 0 0 := Stand.of_body Bd
  have e0 : s₁.heap = h0 := by rw [← hh, Bd.state]; rfl
  have N0 := Fr.nil n0
  show own_G p.tables e below (s₁.setTop (entryFrame m #[(.int p0), (.int (1 : Int32)), (.int p2), (.int p3), (.int p4)] 6)) s ({ frames := 0, cells := 0, slots := 0, locals := 0 } : Room).cells ({ frames := 0, cells := 0, slots := 0, locals := 0 } : Room).slots (Q16a Z p0 p2 p3 p4 sA sB sC h0 n0)
  refine own_go (fun _ k => castTop (ef_16a m p0 p2 p3 p4) k) ?_
  show own_G _ _ _ (s₁.setTop (mkF m 0 #[.val (.int p0), .val (.int (1 : Int32)), .val (.int p2), .val (.int p3), .val (.int p4), .unset] [])) _ _ _ _
  refine own_go (fun _ k => XS.aconstNull X0.here hx rfl (hb hby d16_0) k) ?_
  show own_G _ _ _ (s₁.setTop (mkF m 1 #[.val (.int p0), .val (.int (1 : Int32)), .val (.int p2), .val (.int p3), .val (.int p4), .unset] [.null])) _ _ _ _
  refine own_go (fun _ k => XS.astore X0.here hx rfl (hb hby d16_1) rfl rfl (l' := #[.val (.int p0), .val (.int (1 : Int32)), .val (.int p2), .val (.int p3), .val (.int p4), .val .null]) rfl k) ?_
  show own_G _ _ _ (s₁.setTop (mkF m 3 #[.val (.int p0), .val (.int (1 : Int32)), .val (.int p2), .val (.int p3), .val (.int p4), .val .null] [])) _ _ _ _
  refine own_go (fun _ k => XS.iloadN X0.here hx rfl (hb hby d16_3) rfl k) ?_
  show own_G _ _ _ (s₁.setTop (mkF m 4 #[.val (.int p0), .val (.int (1 : Int32)), .val (.int p2), .val (.int p3), .val (.int p4), .val .null] [(.int (1 : Int32))])) _ _ _ _
  have hc1 : (0 : Int32) < (1 : Int32) := (by decide)
  refine own_go (fun _ k => XS.ifNo X0.here hx rfl (hb hby d16_4) rfl ((if0 _ _).trans (tlt hc1).2.2.2) k) ?_
  show own_G _ _ _ (s₁.setTop (mkF m 7 #[.val (.int p0), .val (.int (1 : Int32)), .val (.int p2), .val (.int p3), .val (.int p4), .val .null] [])) _ _ _ _
  refine own_go (fun _ k => XS.iloadN X0.here hx rfl (hb hby d16_7) rfl k) ?_
  show own_G _ _ _ (s₁.setTop (mkF m 8 #[.val (.int p0), .val (.int (1 : Int32)), .val (.int p2), .val (.int p3), .val (.int p4), .val .null] [(.int p2)])) _ _ _ _
  refine own_go (fun _ k => XS.iloadN X0.here hx rfl (hb hby d16_8) rfl k) ?_
  show own_G _ _ _ (s₁.setTop (mkF m 9 #[.val (.int p0), .val (.int (1 : Int32)), .val (.int p2), .val (.int p3), .val (.int p4), .val .null] [(.int p0), (.int p2)])) _ _ _ _
  have hc2 : p2 = p0 := hA
  refine own_go (fun _ k => XS.icmpNo X0.here hx rfl (hb hby d16_9) rfl (teq hc2).2 k) ?_
  show own_G _ _ _ (s₁.setTop (mkF m 12 #[.val (.int p0), .val (.int (1 : Int32)), .val (.int p2), .val (.int p3), .val (.int p4), .val .null] [])) _ _ _ _
  refine own_go (fun _ k => ldcR X0 hx hZ hown (refOfLit w18 L18) L18 (g := (mkF m 12 #[.val (.int p0), .val (.int (1 : Int32)), .val (.int p2), .val (.int p3), .val (.int p4), .val .null] [])) rfl (hb hby d16_12) _ k) ?_
  show own_G _ _ _ (s₁.setTop (mkF m 14 #[.val (.int p0), .val (.int (1 : Int32)), .val (.int p2), .val (.int p3), .val (.int p4), .val .null] [(.ref sA)])) _ _ _ _
  refine own_go (fun _ k => XS.astore X0.here hx rfl (hb hby d16_14) rfl rfl (l' := #[.val (.int p0), .val (.int (1 : Int32)), .val (.int p2), .val (.int p3), .val (.int p4), .val (.ref sA)]) rfl k) ?_
  show own_G _ _ _ (s₁.setTop (mkF m 16 #[.val (.int p0), .val (.int (1 : Int32)), .val (.int p2), .val (.int p3), .val (.int p4), .val (.ref sA)] [])) _ _ _ _
  refine own_go (fun _ k => XS.iloadN X0.here hx rfl (hb hby d16_16) rfl k) ?_
  show own_G _ _ _ (s₁.setTop (mkF m 17 #[.val (.int p0), .val (.int (1 : Int32)), .val (.int p2), .val (.int p3), .val (.int p4), .val (.ref sA)] [(.int (1 : Int32))])) _ _ _ _
  refine own_go (fun _ k => XS.iconst X0.here hx rfl (hb hby d16_17) k) ?_
  show own_G _ _ _ (s₁.setTop (mkF m 18 #[.val (.int p0), .val (.int (1 : Int32)), .val (.int p2), .val (.int p3), .val (.int p4), .val (.ref sA)] [(.int (1 : Int32)), (.int (1 : Int32))])) _ _ _ _
  have hc3 : ¬ ((1 : Int32) < (1 : Int32)) := (by decide)
  refine own_go (fun _ k => XS.icmpYes X0.here hx rfl (pc0 := 18) (pc' := 30) rfl (hb hby d16_18) rfl (flt hc3).2.2.2 (by decide) (by decide) k) ?_
  show own_G _ _ _ (s₁.setTop (mkF m 30 #[.val (.int p0), .val (.int (1 : Int32)), .val (.int p2), .val (.int p3), .val (.int p4), .val (.ref sA)] [])) _ _ _ _
  refine own_go (fun _ k => XS.iloadN X0.here hx rfl (hb hby d16_30) rfl k) ?_
  show own_G _ _ _ (s₁.setTop (mkF m 31 #[.val (.int p0), .val (.int (1 : Int32)), .val (.int p2), .val (.int p3), .val (.int p4), .val (.ref sA)] [(.int (1 : Int32))])) _ _ _ _
  refine own_go (fun _ k => XS.iconst X0.here hx rfl (hb hby d16_31) k) ?_
  show own_G _ _ _ (s₁.setTop (mkF m 32 #[.val (.int p0), .val (.int (1 : Int32)), .val (.int p2), .val (.int p3), .val (.int p4), .val (.ref sA)] [(.int (2 : Int32)), (.int (1 : Int32))])) _ _ _ _
  have hc4 : ¬ ((2 : Int32) < (1 : Int32)) := (by decide)
  refine own_go (fun _ k => XS.icmpYes X0.here hx rfl (pc0 := 32) (pc' := 45) rfl (hb hby d16_32) rfl (flt hc4).2.2.2 (by decide) (by decide) k) ?_
  show own_G _ _ _ (s₁.setTop (mkF m 45 #[.val (.int p0), .val (.int (1 : Int32)), .val (.int p2), .val (.int p3), .val (.int p4), .val (.ref sA)] [])) _ _ _ _
  refine own_go (fun _ k => XS.aload X0.here hx rfl (hb hby d16_45) rfl rfl k) ?_
  show own_G _ _ _ (s₁.setTop (mkF m 47 #[.val (.int p0), .val (.int (1 : Int32)), .val (.int p2), .val (.int p3), .val (.int p4), .val (.ref sA)] [(.ref sA)])) _ _ _ _
  exact own_endR X0 hx hlk Bd.returns rfl rfl rfl (hb hby d16_47) (by decide) (by decide) (Q := (Q16a Z p0 p2 p3 p4 sA sB sC h0 n0)) (by rw [e0]; exact ⟨rfl, N0, rfl⟩)
def Q16b (Z : State) (p0 : Int32) (p2 : Int32) (p3 : Int32) (p4 : Int32) (sA : Addr) (sB : Addr) (sC : Addr) (h0 : Heap) (n0 : Nat) (v : Option Value) (h : Heap) (L : List Loc) : Prop := v = some .null ∧ Fr n0 L ∧ h = h0
set_option maxRecDepth 65536 in
set_option maxHeartbeats 40000000 in
theorem rm16b (l : Launch) (Z : State) (a0 : Array Value) (ws : List Jvm.Cond) (p0 : Int32) (p2 : Int32) (p3 : Int32) (p4 : Int32) (sA : Addr) (sB : Addr) (sC : Addr) (h0 : Heap) (n0 : Nat) (Z0 : n0 ≤ h0.size) (w18 : (Jvm.Cond.stringLink "com/example/issuerd/issuerd/xml/DomReferencesPinLaw" 18 "A").before a0 Z = true) (w20 : (Jvm.Cond.stringLink "com/example/issuerd/issuerd/xml/DomReferencesPinLaw" 20 "B").before a0 Z = true) (w22 : (Jvm.Cond.stringLink "com/example/issuerd/issuerd/xml/DomReferencesPinLaw" 22 "C").before a0 Z = true) (L18 : Lit Z "com/example/issuerd/issuerd/xml/DomReferencesPinLaw" 18 sA) (L20 : Lit Z "com/example/issuerd/issuerd/xml/DomReferencesPinLaw" 20 sB) (L22 : Lit Z "com/example/issuerd/issuerd/xml/DomReferencesPinLaw" 22 sC) (nA : ¬ p2 = p0) :
    MetFree l (⟨"com/example/issuerd/issuerd/xml/DomReferencesPinLaw", "expected", "(IICCC)Ljava/lang/String;"⟩ : MethodName) (head1 (Jvm.Cond.code (⟨"com/example/issuerd/issuerd/xml/DomReferencesPinLaw", "expected", "(IICCC)Ljava/lang/String;"⟩ : MethodName) method_3_code 6 (some (.object "java/lang/String")) :: ws) ({ frames := 0, cells := 0, slots := 0, locals := 0 } : Room)) (fun a U => a = #[(.int p0), (.int (1 : Int32)), (.int p2), (.int p3), (.int p4)] ∧ Z.Warmed39 U.vm ∧ U.heap = h0) (fun _ _ _ _ _ => True) (fun _ U o U' => ∃ v L, o = .returned v ∧ (Q16b Z p0 p2 p3 p4 sA sB sC h0 n0) v U'.heap L ∧ FrameEnd U o U' L ({ frames := 0, cells := 0, slots := 0, locals := 0 } : Room).cells ({ frames := 0, cells := 0, slots := 0, locals := 0 } : Room).slots) := by
  refine MetFree.of_bodySF (plainFor_of_name pn_3) hisR ?_
  intro p e s m args below meth c s₁ Bd hml0 hP hK
  obtain ⟨rfl, hZ, hh⟩ := hP
  have hx := Bd.exec
  have hby := Bd.bytes
  have hml : c.maxLocals = 6 := hml0
  have hown : s.vm.findClass "com/example/issuerd/issuerd/xml/DomReferencesPinLaw" = some m.cls := findClass_of_methodNamed Bd.named
  have hnm := (name_of_methodNamed Bd.named Bd.method).1
  have hlk : meth.locks = false := BodyLoose.notSynchronized Bd
  have X0 : Stand p l e ({ frames := 0, cells := 0, slots := 0, locals := 0 } : Room) s m #[(.int p0), (.int (1 : Int32)), (.int p2), (.int p3), (.int p4)] below meth c s₁ [] 0 0 := Stand.of_body Bd
  have e0 : s₁.heap = h0 := by rw [← hh, Bd.state]; rfl
  have N0 := Fr.nil n0
  show own_G p.tables e below (s₁.setTop (entryFrame m #[(.int p0), (.int (1 : Int32)), (.int p2), (.int p3), (.int p4)] 6)) s ({ frames := 0, cells := 0, slots := 0, locals := 0 } : Room).cells ({ frames := 0, cells := 0, slots := 0, locals := 0 } : Room).slots (Q16b Z p0 p2 p3 p4 sA sB sC h0 n0)
  refine own_go (fun _ k => castTop (ef_16a m p0 p2 p3 p4) k) ?_
  show own_G _ _ _ (s₁.setTop (mkF m 0 #[.val (.int p0), .val (.int (1 : Int32)), .val (.int p2), .val (.int p3), .val (.int p4), .unset] [])) _ _ _ _
  refine own_go (fun _ k => XS.aconstNull X0.here hx rfl (hb hby d16_0) k) ?_
  show own_G _ _ _ (s₁.setTop (mkF m 1 #[.val (.int p0), .val (.int (1 : Int32)), .val (.int p2), .val (.int p3), .val (.int p4), .unset] [.null])) _ _ _ _
  refine own_go (fun _ k => XS.astore X0.here hx rfl (hb hby d16_1) rfl rfl (l' := #[.val (.int p0), .val (.int (1 : Int32)), .val (.int p2), .val (.int p3), .val (.int p4), .val .null]) rfl k) ?_
  show own_G _ _ _ (s₁.setTop (mkF m 3 #[.val (.int p0), .val (.int (1 : Int32)), .val (.int p2), .val (.int p3), .val (.int p4), .val .null] [])) _ _ _ _
  refine own_go (fun _ k => XS.iloadN X0.here hx rfl (hb hby d16_3) rfl k) ?_
  show own_G _ _ _ (s₁.setTop (mkF m 4 #[.val (.int p0), .val (.int (1 : Int32)), .val (.int p2), .val (.int p3), .val (.int p4), .val .null] [(.int (1 : Int32))])) _ _ _ _
  have hc1 : (0 : Int32) < (1 : Int32) := (by decide)
  refine own_go (fun _ k => XS.ifNo X0.here hx rfl (hb hby d16_4) rfl ((if0 _ _).trans (tlt hc1).2.2.2) k) ?_
  show own_G _ _ _ (s₁.setTop (mkF m 7 #[.val (.int p0), .val (.int (1 : Int32)), .val (.int p2), .val (.int p3), .val (.int p4), .val .null] [])) _ _ _ _
  refine own_go (fun _ k => XS.iloadN X0.here hx rfl (hb hby d16_7) rfl k) ?_
  show own_G _ _ _ (s₁.setTop (mkF m 8 #[.val (.int p0), .val (.int (1 : Int32)), .val (.int p2), .val (.int p3), .val (.int p4), .val .null] [(.int p2)])) _ _ _ _
  refine own_go (fun _ k => XS.iloadN X0.here hx rfl (hb hby d16_8) rfl k) ?_
  show own_G _ _ _ (s₁.setTop (mkF m 9 #[.val (.int p0), .val (.int (1 : Int32)), .val (.int p2), .val (.int p3), .val (.int p4), .val .null] [(.int p0), (.int p2)])) _ _ _ _
  have hc2 : ¬ (p2 = p0) := nA
  refine own_go (fun _ k => XS.icmpYes X0.here hx rfl (pc0 := 9) (pc' := 16) rfl (hb hby d16_9) rfl (feq hc2).2 (by decide) (by decide) k) ?_
  show own_G _ _ _ (s₁.setTop (mkF m 16 #[.val (.int p0), .val (.int (1 : Int32)), .val (.int p2), .val (.int p3), .val (.int p4), .val .null] [])) _ _ _ _
  refine own_go (fun _ k => XS.iloadN X0.here hx rfl (hb hby d16_16) rfl k) ?_
  show own_G _ _ _ (s₁.setTop (mkF m 17 #[.val (.int p0), .val (.int (1 : Int32)), .val (.int p2), .val (.int p3), .val (.int p4), .val .null] [(.int (1 : Int32))])) _ _ _ _
  refine own_go (fun _ k => XS.iconst X0.here hx rfl (hb hby d16_17) k) ?_
  show own_G _ _ _ (s₁.setTop (mkF m 18 #[.val (.int p0), .val (.int (1 : Int32)), .val (.int p2), .val (.int p3), .val (.int p4), .val .null] [(.int (1 : Int32)), (.int (1 : Int32))])) _ _ _ _
  have hc3 : ¬ ((1 : Int32) < (1 : Int32)) := (by decide)
  refine own_go (fun _ k => XS.icmpYes X0.here hx rfl (pc0 := 18) (pc' := 30) rfl (hb hby d16_18) rfl (flt hc3).2.2.2 (by decide) (by decide) k) ?_
  show own_G _ _ _ (s₁.setTop (mkF m 30 #[.val (.int p0), .val (.int (1 : Int32)), .val (.int p2), .val (.int p3), .val (.int p4), .val .null] [])) _ _ _ _
  refine own_go (fun _ k => XS.iloadN X0.here hx rfl (hb hby d16_30) rfl k) ?_
  show own_G _ _ _ (s₁.setTop (mkF m 31 #[.val (.int p0), .val (.int (1 : Int32)), .val (.int p2), .val (.int p3), .val (.int p4), .val .null] [(.int (1 : Int32))])) _ _ _ _
  refine own_go (fun _ k => XS.iconst X0.here hx rfl (hb hby d16_31) k) ?_
  show own_G _ _ _ (s₁.setTop (mkF m 32 #[.val (.int p0), .val (.int (1 : Int32)), .val (.int p2), .val (.int p3), .val (.int p4), .val .null] [(.int (2 : Int32)), (.int (1 : Int32))])) _ _ _ _
  have hc4 : ¬ ((2 : Int32) < (1 : Int32)) := (by decide)
  refine own_go (fun _ k => XS.icmpYes X0.here hx rfl (pc0 := 32) (pc' := 45) rfl (hb hby d16_32) rfl (flt hc4).2.2.2 (by decide) (by decide) k) ?_
  show own_G _ _ _ (s₁.setTop (mkF m 45 #[.val (.int p0), .val (.int (1 : Int32)), .val (.int p2), .val (.int p3), .val (.int p4), .val .null] [])) _ _ _ _
  refine own_go (fun _ k => XS.aload X0.here hx rfl (hb hby d16_45) rfl rfl k) ?_
  show own_G _ _ _ (s₁.setTop (mkF m 47 #[.val (.int p0), .val (.int (1 : Int32)), .val (.int p2), .val (.int p3), .val (.int p4), .val .null] [.null])) _ _ _ _
  exact own_endR X0 hx hlk Bd.returns rfl rfl rfl (hb hby d16_47) (by decide) (by decide) (Q := (Q16b Z p0 p2 p3 p4 sA sB sC h0 n0)) (by rw [e0]; exact ⟨rfl, N0, rfl⟩)
theorem ef_16c (m : MethodId) (p0 : Int32) (p2 : Int32) (p3 : Int32) (p4 : Int32) : entryFrame m #[(.int p0), (.int (2 : Int32)), (.int p2), (.int p3), (.int p4)] 6 = mkF m 0 #[.val (.int p0), .val (.int (2 : Int32)), .val (.int p2), .val (.int p3), .val (.int p4), .unset] [] := by first | (simp [entryFrame, mkF, argsToLocals, Value.category]; done) | rfl
def Q16c (Z : State) (p0 : Int32) (p2 : Int32) (p3 : Int32) (p4 : Int32) (sA : Addr) (sB : Addr) (sC : Addr) (h0 : Heap) (n0 : Nat) (v : Option Value) (h : Heap) (L : List Loc) : Prop := v = some (.ref sB) ∧ Fr n0 L ∧ h = h0
set_option maxRecDepth 65536 in
set_option maxHeartbeats 40000000 in
theorem rm16c (l : Launch) (Z : State) (a0 : Array Value) (ws : List Jvm.Cond) (p0 : Int32) (p2 : Int32) (p3 : Int32) (p4 : Int32) (sA : Addr) (sB : Addr) (sC : Addr) (h0 : Heap) (n0 : Nat) (Z0 : n0 ≤ h0.size) (w18 : (Jvm.Cond.stringLink "com/example/issuerd/issuerd/xml/DomReferencesPinLaw" 18 "A").before a0 Z = true) (w20 : (Jvm.Cond.stringLink "com/example/issuerd/issuerd/xml/DomReferencesPinLaw" 20 "B").before a0 Z = true) (w22 : (Jvm.Cond.stringLink "com/example/issuerd/issuerd/xml/DomReferencesPinLaw" 22 "C").before a0 Z = true) (L18 : Lit Z "com/example/issuerd/issuerd/xml/DomReferencesPinLaw" 18 sA) (L20 : Lit Z "com/example/issuerd/issuerd/xml/DomReferencesPinLaw" 20 sB) (L22 : Lit Z "com/example/issuerd/issuerd/xml/DomReferencesPinLaw" 22 sC) (hB : p3 = p0) :
    MetFree l (⟨"com/example/issuerd/issuerd/xml/DomReferencesPinLaw", "expected", "(IICCC)Ljava/lang/String;"⟩ : MethodName) (head1 (Jvm.Cond.code (⟨"com/example/issuerd/issuerd/xml/DomReferencesPinLaw", "expected", "(IICCC)Ljava/lang/String;"⟩ : MethodName) method_3_code 6 (some (.object "java/lang/String")) :: ws) ({ frames := 0, cells := 0, slots := 0, locals := 0 } : Room)) (fun a U => a = #[(.int p0), (.int (2 : Int32)), (.int p2), (.int p3), (.int p4)] ∧ Z.Warmed39 U.vm ∧ U.heap = h0) (fun _ _ _ _ _ => True) (fun _ U o U' => ∃ v L, o = .returned v ∧ (Q16c Z p0 p2 p3 p4 sA sB sC h0 n0) v U'.heap L ∧ FrameEnd U o U' L ({ frames := 0, cells := 0, slots := 0, locals := 0 } : Room).cells ({ frames := 0, cells := 0, slots := 0, locals := 0 } : Room).slots) := by
  refine MetFree.of_bodySF (plainFor_of_name pn_3) hisR ?_
  intro p e s m args below meth c s₁ Bd hml0 hP hK
  obtain ⟨rfl, hZ, hh⟩ := hP
  have hx := Bd.exec
  have hby := Bd.bytes
  have hml : c.maxLocals = 6 := hml0
  have hown : s.vm.findClass "com/example/issuerd/issuerd/xml/DomReferencesPinLaw" = some m.cls := findClass_of_methodNamed Bd.named
  have hnm := (name_of_methodNamed Bd.named Bd.method).1
  have hlk : meth.locks = false := BodyLoose.notSynchronized Bd
  have X0 : Stand p l e ({ frames := 0, cells := 0, slots := 0, locals := 0 } : Room) s m #[(.int p0), (.int (2 : Int32)), (.int p2), (.int p3), (.int p4)] below meth c s₁ [] 0 0 := Stand.of_body Bd
  have e0 : s₁.heap = h0 := by rw [← hh, Bd.state]; rfl
  have N0 := Fr.nil n0
  show own_G p.tables e below (s₁.setTop (entryFrame m #[(.int p0), (.int (2 : Int32)), (.int p2), (.int p3), (.int p4)] 6)) s ({ frames := 0, cells := 0, slots := 0, locals := 0 } : Room).cells ({ frames := 0, cells := 0, slots := 0, locals := 0 } : Room).slots (Q16c Z p0 p2 p3 p4 sA sB sC h0 n0)
  refine own_go (fun _ k => castTop (ef_16c m p0 p2 p3 p4) k) ?_
  show own_G _ _ _ (s₁.setTop (mkF m 0 #[.val (.int p0), .val (.int (2 : Int32)), .val (.int p2), .val (.int p3), .val (.int p4), .unset] [])) _ _ _ _
  refine own_go (fun _ k => XS.aconstNull X0.here hx rfl (hb hby d16_0) k) ?_
  show own_G _ _ _ (s₁.setTop (mkF m 1 #[.val (.int p0), .val (.int (2 : Int32)), .val (.int p2), .val (.int p3), .val (.int p4), .unset] [.null])) _ _ _ _
  refine own_go (fun _ k => XS.astore X0.here hx rfl (hb hby d16_1) rfl rfl (l' := #[.val (.int p0), .val (.int (2 : Int32)), .val (.int p2), .val (.int p3), .val (.int p4), .val .null]) rfl k) ?_
  show own_G _ _ _ (s₁.setTop (mkF m 3 #[.val (.int p0), .val (.int (2 : Int32)), .val (.int p2), .val (.int p3), .val (.int p4), .val .null] [])) _ _ _ _
  refine own_go (fun _ k => XS.iloadN X0.here hx rfl (hb hby d16_3) rfl k) ?_
  show own_G _ _ _ (s₁.setTop (mkF m 4 #[.val (.int p0), .val (.int (2 : Int32)), .val (.int p2), .val (.int p3), .val (.int p4), .val .null] [(.int (2 : Int32))])) _ _ _ _
  have hc1 : (0 : Int32) < (2 : Int32) := (by decide)
  refine own_go (fun _ k => XS.ifNo X0.here hx rfl (hb hby d16_4) rfl ((if0 _ _).trans (tlt hc1).2.2.2) k) ?_
  show own_G _ _ _ (s₁.setTop (mkF m 7 #[.val (.int p0), .val (.int (2 : Int32)), .val (.int p2), .val (.int p3), .val (.int p4), .val .null] [])) _ _ _ _
  refine own_go (fun _ k => XS.iloadN X0.here hx rfl (hb hby d16_7) rfl k) ?_
  show own_G _ _ _ (s₁.setTop (mkF m 8 #[.val (.int p0), .val (.int (2 : Int32)), .val (.int p2), .val (.int p3), .val (.int p4), .val .null] [(.int p2)])) _ _ _ _
  refine own_go (fun _ k => XS.iloadN X0.here hx rfl (hb hby d16_8) rfl k) ?_
  show own_G _ _ _ (s₁.setTop (mkF m 9 #[.val (.int p0), .val (.int (2 : Int32)), .val (.int p2), .val (.int p3), .val (.int p4), .val .null] [(.int p0), (.int p2)])) _ _ _ _
  by_cases hc2 : p2 = p0
  · refine own_go (fun _ k => XS.icmpNo X0.here hx rfl (hb hby d16_9) rfl (teq hc2).2 k) ?_
    show own_G _ _ _ (s₁.setTop (mkF m 12 #[.val (.int p0), .val (.int (2 : Int32)), .val (.int p2), .val (.int p3), .val (.int p4), .val .null] [])) _ _ _ _
    refine own_go (fun _ k => ldcR X0 hx hZ hown (refOfLit w18 L18) L18 (g := (mkF m 12 #[.val (.int p0), .val (.int (2 : Int32)), .val (.int p2), .val (.int p3), .val (.int p4), .val .null] [])) rfl (hb hby d16_12) _ k) ?_
    show own_G _ _ _ (s₁.setTop (mkF m 14 #[.val (.int p0), .val (.int (2 : Int32)), .val (.int p2), .val (.int p3), .val (.int p4), .val .null] [(.ref sA)])) _ _ _ _
    refine own_go (fun _ k => XS.astore X0.here hx rfl (hb hby d16_14) rfl rfl (l' := #[.val (.int p0), .val (.int (2 : Int32)), .val (.int p2), .val (.int p3), .val (.int p4), .val (.ref sA)]) rfl k) ?_
    show own_G _ _ _ (s₁.setTop (mkF m 16 #[.val (.int p0), .val (.int (2 : Int32)), .val (.int p2), .val (.int p3), .val (.int p4), .val (.ref sA)] [])) _ _ _ _
    refine own_go (fun _ k => XS.iloadN X0.here hx rfl (hb hby d16_16) rfl k) ?_
    show own_G _ _ _ (s₁.setTop (mkF m 17 #[.val (.int p0), .val (.int (2 : Int32)), .val (.int p2), .val (.int p3), .val (.int p4), .val (.ref sA)] [(.int (2 : Int32))])) _ _ _ _
    refine own_go (fun _ k => XS.iconst X0.here hx rfl (hb hby d16_17) k) ?_
    show own_G _ _ _ (s₁.setTop (mkF m 18 #[.val (.int p0), .val (.int (2 : Int32)), .val (.int p2), .val (.int p3), .val (.int p4), .val (.ref sA)] [(.int (1 : Int32)), (.int (2 : Int32))])) _ _ _ _
    have hc3 : (1 : Int32) < (2 : Int32) := (by decide)
    refine own_go (fun _ k => XS.icmpNo X0.here hx rfl (hb hby d16_18) rfl (tlt hc3).2.2.2 k) ?_
    show own_G _ _ _ (s₁.setTop (mkF m 21 #[.val (.int p0), .val (.int (2 : Int32)), .val (.int p2), .val (.int p3), .val (.int p4), .val (.ref sA)] [])) _ _ _ _
    refine own_go (fun _ k => XS.iloadN X0.here hx rfl (hb hby d16_21) rfl k) ?_
    show own_G _ _ _ (s₁.setTop (mkF m 22 #[.val (.int p0), .val (.int (2 : Int32)), .val (.int p2), .val (.int p3), .val (.int p4), .val (.ref sA)] [(.int p3)])) _ _ _ _
    refine own_go (fun _ k => XS.iloadN X0.here hx rfl (hb hby d16_22) rfl k) ?_
    show own_G _ _ _ (s₁.setTop (mkF m 23 #[.val (.int p0), .val (.int (2 : Int32)), .val (.int p2), .val (.int p3), .val (.int p4), .val (.ref sA)] [(.int p0), (.int p3)])) _ _ _ _
    have hc4 : p3 = p0 := hB
    refine own_go (fun _ k => XS.icmpNo X0.here hx rfl (hb hby d16_23) rfl (teq hc4).2 k) ?_
    show own_G _ _ _ (s₁.setTop (mkF m 26 #[.val (.int p0), .val (.int (2 : Int32)), .val (.int p2), .val (.int p3), .val (.int p4), .val (.ref sA)] [])) _ _ _ _
    refine own_go (fun _ k => ldcR X0 hx hZ hown (refOfLit w20 L20) L20 (g := (mkF m 26 #[.val (.int p0), .val (.int (2 : Int32)), .val (.int p2), .val (.int p3), .val (.int p4), .val (.ref sA)] [])) rfl (hb hby d16_26) _ k) ?_
    show own_G _ _ _ (s₁.setTop (mkF m 28 #[.val (.int p0), .val (.int (2 : Int32)), .val (.int p2), .val (.int p3), .val (.int p4), .val (.ref sA)] [(.ref sB)])) _ _ _ _
    refine own_go (fun _ k => XS.astore X0.here hx rfl (hb hby d16_28) rfl rfl (l' := #[.val (.int p0), .val (.int (2 : Int32)), .val (.int p2), .val (.int p3), .val (.int p4), .val (.ref sB)]) rfl k) ?_
    show own_G _ _ _ (s₁.setTop (mkF m 30 #[.val (.int p0), .val (.int (2 : Int32)), .val (.int p2), .val (.int p3), .val (.int p4), .val (.ref sB)] [])) _ _ _ _
    refine own_go (fun _ k => XS.iloadN X0.here hx rfl (hb hby d16_30) rfl k) ?_
    show own_G _ _ _ (s₁.setTop (mkF m 31 #[.val (.int p0), .val (.int (2 : Int32)), .val (.int p2), .val (.int p3), .val (.int p4), .val (.ref sB)] [(.int (2 : Int32))])) _ _ _ _
    refine own_go (fun _ k => XS.iconst X0.here hx rfl (hb hby d16_31) k) ?_
    show own_G _ _ _ (s₁.setTop (mkF m 32 #[.val (.int p0), .val (.int (2 : Int32)), .val (.int p2), .val (.int p3), .val (.int p4), .val (.ref sB)] [(.int (2 : Int32)), (.int (2 : Int32))])) _ _ _ _
    have hc5 : ¬ ((2 : Int32) < (2 : Int32)) := (by decide)
    refine own_go (fun _ k => XS.icmpYes X0.here hx rfl (pc0 := 32) (pc' := 45) rfl (hb hby d16_32) rfl (flt hc5).2.2.2 (by decide) (by decide) k) ?_
    show own_G _ _ _ (s₁.setTop (mkF m 45 #[.val (.int p0), .val (.int (2 : Int32)), .val (.int p2), .val (.int p3), .val (.int p4), .val (.ref sB)] [])) _ _ _ _
    refine own_go (fun _ k => XS.aload X0.here hx rfl (hb hby d16_45) rfl rfl k) ?_
    show own_G _ _ _ (s₁.setTop (mkF m 47 #[.val (.int p0), .val (.int (2 : Int32)), .val (.int p2), .val (.int p3), .val (.int p4), .val (.ref sB)] [(.ref sB)])) _ _ _ _
    exact own_endR X0 hx hlk Bd.returns rfl rfl rfl (hb hby d16_47) (by decide) (by decide) (Q := (Q16c Z p0 p2 p3 p4 sA sB sC h0 n0)) (by rw [e0]; exact ⟨rfl, N0, rfl⟩)
  · refine own_go (fun _ k => XS.icmpYes X0.here hx rfl (pc0 := 9) (pc' := 16) rfl (hb hby d16_9) rfl (feq hc2).2 (by decide) (by decide) k) ?_
    show own_G _ _ _ (s₁.setTop (mkF m 16 #[.val (.int p0), .val (.int (2 : Int32)), .val (.int p2), .val (.int p3), .val (.int p4), .val .null] [])) _ _ _ _
    refine own_go (fun _ k => XS.iloadN X0.here hx rfl (hb hby d16_16) rfl k) ?_
    show own_G _ _ _ (s₁.setTop (mkF m 17 #[.val (.int p0), .val (.int (2 : Int32)), .val (.int p2), .val (.int p3), .val (.int p4), .val .null] [(.int (2 : Int32))])) _ _ _ _
    refine own_go (fun _ k => XS.iconst X0.here hx rfl (hb hby d16_17) k) ?_
    show own_G _ _ _ (s₁.setTop (mkF m 18 #[.val (.int p0), .val (.int (2 : Int32)), .val (.int p2), .val (.int p3), .val (.int p4), .val .null] [(.int (1 : Int32)), (.int (2 : Int32))])) _ _ _ _
    have hc6 : (1 : Int32) < (2 : Int32) := (by decide)
    refine own_go (fun _ k => XS.icmpNo X0.here hx rfl (hb hby d16_18) rfl (tlt hc6).2.2.2 k) ?_
    show own_G _ _ _ (s₁.setTop (mkF m 21 #[.val (.int p0), .val (.int (2 : Int32)), .val (.int p2), .val (.int p3), .val (.int p4), .val .null] [])) _ _ _ _
    refine own_go (fun _ k => XS.iloadN X0.here hx rfl (hb hby d16_21) rfl k) ?_
    show own_G _ _ _ (s₁.setTop (mkF m 22 #[.val (.int p0), .val (.int (2 : Int32)), .val (.int p2), .val (.int p3), .val (.int p4), .val .null] [(.int p3)])) _ _ _ _
    refine own_go (fun _ k => XS.iloadN X0.here hx rfl (hb hby d16_22) rfl k) ?_
    show own_G _ _ _ (s₁.setTop (mkF m 23 #[.val (.int p0), .val (.int (2 : Int32)), .val (.int p2), .val (.int p3), .val (.int p4), .val .null] [(.int p0), (.int p3)])) _ _ _ _
    have hc7 : p3 = p0 := hB
    refine own_go (fun _ k => XS.icmpNo X0.here hx rfl (hb hby d16_23) rfl (teq hc7).2 k) ?_
    show own_G _ _ _ (s₁.setTop (mkF m 26 #[.val (.int p0), .val (.int (2 : Int32)), .val (.int p2), .val (.int p3), .val (.int p4), .val .null] [])) _ _ _ _
    refine own_go (fun _ k => ldcR X0 hx hZ hown (refOfLit w20 L20) L20 (g := (mkF m 26 #[.val (.int p0), .val (.int (2 : Int32)), .val (.int p2), .val (.int p3), .val (.int p4), .val .null] [])) rfl (hb hby d16_26) _ k) ?_
    show own_G _ _ _ (s₁.setTop (mkF m 28 #[.val (.int p0), .val (.int (2 : Int32)), .val (.int p2), .val (.int p3), .val (.int p4), .val .null] [(.ref sB)])) _ _ _ _
    refine own_go (fun _ k => XS.astore X0.here hx rfl (hb hby d16_28) rfl rfl (l' := #[.val (.int p0), .val (.int (2 : Int32)), .val (.int p2), .val (.int p3), .val (.int p4), .val (.ref sB)]) rfl k) ?_
    show own_G _ _ _ (s₁.setTop (mkF m 30 #[.val (.int p0), .val (.int (2 : Int32)), .val (.int p2), .val (.int p3), .val (.int p4), .val (.ref sB)] [])) _ _ _ _
    refine own_go (fun _ k => XS.iloadN X0.here hx rfl (hb hby d16_30) rfl k) ?_
    show own_G _ _ _ (s₁.setTop (mkF m 31 #[.val (.int p0), .val (.int (2 : Int32)), .val (.int p2), .val (.int p3), .val (.int p4), .val (.ref sB)] [(.int (2 : Int32))])) _ _ _ _
    refine own_go (fun _ k => XS.iconst X0.here hx rfl (hb hby d16_31) k) ?_
    show own_G _ _ _ (s₁.setTop (mkF m 32 #[.val (.int p0), .val (.int (2 : Int32)), .val (.int p2), .val (.int p3), .val (.int p4), .val (.ref sB)] [(.int (2 : Int32)), (.int (2 : Int32))])) _ _ _ _
    have hc8 : ¬ ((2 : Int32) < (2 : Int32)) := (by decide)
    refine own_go (fun _ k => XS.icmpYes X0.here hx rfl (pc0 := 32) (pc' := 45) rfl (hb hby d16_32) rfl (flt hc8).2.2.2 (by decide) (by decide) k) ?_
    show own_G _ _ _ (s₁.setTop (mkF m 45 #[.val (.int p0), .val (.int (2 : Int32)), .val (.int p2), .val (.int p3), .val (.int p4), .val (.ref sB)] [])) _ _ _ _
    refine own_go (fun _ k => XS.aload X0.here hx rfl (hb hby d16_45) rfl rfl k) ?_
    show own_G _ _ _ (s₁.setTop (mkF m 47 #[.val (.int p0), .val (.int (2 : Int32)), .val (.int p2), .val (.int p3), .val (.int p4), .val (.ref sB)] [(.ref sB)])) _ _ _ _
    exact own_endR X0 hx hlk Bd.returns rfl rfl rfl (hb hby d16_47) (by decide) (by decide) (Q := (Q16c Z p0 p2 p3 p4 sA sB sC h0 n0)) (by rw [e0]; exact ⟨rfl, N0, rfl⟩)
def Q16d (Z : State) (p0 : Int32) (p2 : Int32) (p3 : Int32) (p4 : Int32) (sA : Addr) (sB : Addr) (sC : Addr) (h0 : Heap) (n0 : Nat) (v : Option Value) (h : Heap) (L : List Loc) : Prop := v = some (.ref sA) ∧ Fr n0 L ∧ h = h0
set_option maxRecDepth 65536 in
set_option maxHeartbeats 40000000 in
theorem rm16d (l : Launch) (Z : State) (a0 : Array Value) (ws : List Jvm.Cond) (p0 : Int32) (p2 : Int32) (p3 : Int32) (p4 : Int32) (sA : Addr) (sB : Addr) (sC : Addr) (h0 : Heap) (n0 : Nat) (Z0 : n0 ≤ h0.size) (w18 : (Jvm.Cond.stringLink "com/example/issuerd/issuerd/xml/DomReferencesPinLaw" 18 "A").before a0 Z = true) (w20 : (Jvm.Cond.stringLink "com/example/issuerd/issuerd/xml/DomReferencesPinLaw" 20 "B").before a0 Z = true) (w22 : (Jvm.Cond.stringLink "com/example/issuerd/issuerd/xml/DomReferencesPinLaw" 22 "C").before a0 Z = true) (L18 : Lit Z "com/example/issuerd/issuerd/xml/DomReferencesPinLaw" 18 sA) (L20 : Lit Z "com/example/issuerd/issuerd/xml/DomReferencesPinLaw" 20 sB) (L22 : Lit Z "com/example/issuerd/issuerd/xml/DomReferencesPinLaw" 22 sC) (nB : ¬ p3 = p0) (hA : p2 = p0) :
    MetFree l (⟨"com/example/issuerd/issuerd/xml/DomReferencesPinLaw", "expected", "(IICCC)Ljava/lang/String;"⟩ : MethodName) (head1 (Jvm.Cond.code (⟨"com/example/issuerd/issuerd/xml/DomReferencesPinLaw", "expected", "(IICCC)Ljava/lang/String;"⟩ : MethodName) method_3_code 6 (some (.object "java/lang/String")) :: ws) ({ frames := 0, cells := 0, slots := 0, locals := 0 } : Room)) (fun a U => a = #[(.int p0), (.int (2 : Int32)), (.int p2), (.int p3), (.int p4)] ∧ Z.Warmed39 U.vm ∧ U.heap = h0) (fun _ _ _ _ _ => True) (fun _ U o U' => ∃ v L, o = .returned v ∧ (Q16d Z p0 p2 p3 p4 sA sB sC h0 n0) v U'.heap L ∧ FrameEnd U o U' L ({ frames := 0, cells := 0, slots := 0, locals := 0 } : Room).cells ({ frames := 0, cells := 0, slots := 0, locals := 0 } : Room).slots) := by
  refine MetFree.of_bodySF (plainFor_of_name pn_3) hisR ?_
  intro p e s m args below meth c s₁ Bd hml0 hP hK
  obtain ⟨rfl, hZ, hh⟩ := hP
  have hx := Bd.exec
  have hby := Bd.bytes
  have hml : c.maxLocals = 6 := hml0
  have hown : s.vm.findClass "com/example/issuerd/issuerd/xml/DomReferencesPinLaw" = some m.cls := findClass_of_methodNamed Bd.named
  have hnm := (name_of_methodNamed Bd.named Bd.method).1
  have hlk : meth.locks = false := BodyLoose.notSynchronized Bd
  have X0 : Stand p l e ({ frames := 0, cells := 0, slots := 0, locals := 0 } : Room) s m #[(.int p0), (.int (2 : Int32)), (.int p2), (.int p3), (.int p4)] below meth c s₁ [] 0 0 := Stand.of_body Bd
  have e0 : s₁.heap = h0 := by rw [← hh, Bd.state]; rfl
  have N0 := Fr.nil n0
  show own_G p.tables e below (s₁.setTop (entryFrame m #[(.int p0), (.int (2 : Int32)), (.int p2), (.int p3), (.int p4)] 6)) s ({ frames := 0, cells := 0, slots := 0, locals := 0 } : Room).cells ({ frames := 0, cells := 0, slots := 0, locals := 0 } : Room).slots (Q16d Z p0 p2 p3 p4 sA sB sC h0 n0)
  refine own_go (fun _ k => castTop (ef_16c m p0 p2 p3 p4) k) ?_
  show own_G _ _ _ (s₁.setTop (mkF m 0 #[.val (.int p0), .val (.int (2 : Int32)), .val (.int p2), .val (.int p3), .val (.int p4), .unset] [])) _ _ _ _
  refine own_go (fun _ k => XS.aconstNull X0.here hx rfl (hb hby d16_0) k) ?_
  show own_G _ _ _ (s₁.setTop (mkF m 1 #[.val (.int p0), .val (.int (2 : Int32)), .val (.int p2), .val (.int p3), .val (.int p4), .unset] [.null])) _ _ _ _
  refine own_go (fun _ k => XS.astore X0.here hx rfl (hb hby d16_1) rfl rfl (l' := #[.val (.int p0), .val (.int (2 : Int32)), .val (.int p2), .val (.int p3), .val (.int p4), .val .null]) rfl k) ?_
  show own_G _ _ _ (s₁.setTop (mkF m 3 #[.val (.int p0), .val (.int (2 : Int32)), .val (.int p2), .val (.int p3), .val (.int p4), .val .null] [])) _ _ _ _
  refine own_go (fun _ k => XS.iloadN X0.here hx rfl (hb hby d16_3) rfl k) ?_
  show own_G _ _ _ (s₁.setTop (mkF m 4 #[.val (.int p0), .val (.int (2 : Int32)), .val (.int p2), .val (.int p3), .val (.int p4), .val .null] [(.int (2 : Int32))])) _ _ _ _
  have hc1 : (0 : Int32) < (2 : Int32) := (by decide)
  refine own_go (fun _ k => XS.ifNo X0.here hx rfl (hb hby d16_4) rfl ((if0 _ _).trans (tlt hc1).2.2.2) k) ?_
  show own_G _ _ _ (s₁.setTop (mkF m 7 #[.val (.int p0), .val (.int (2 : Int32)), .val (.int p2), .val (.int p3), .val (.int p4), .val .null] [])) _ _ _ _
  refine own_go (fun _ k => XS.iloadN X0.here hx rfl (hb hby d16_7) rfl k) ?_
  show own_G _ _ _ (s₁.setTop (mkF m 8 #[.val (.int p0), .val (.int (2 : Int32)), .val (.int p2), .val (.int p3), .val (.int p4), .val .null] [(.int p2)])) _ _ _ _
  refine own_go (fun _ k => XS.iloadN X0.here hx rfl (hb hby d16_8) rfl k) ?_
  show own_G _ _ _ (s₁.setTop (mkF m 9 #[.val (.int p0), .val (.int (2 : Int32)), .val (.int p2), .val (.int p3), .val (.int p4), .val .null] [(.int p0), (.int p2)])) _ _ _ _
  have hc2 : p2 = p0 := hA
  refine own_go (fun _ k => XS.icmpNo X0.here hx rfl (hb hby d16_9) rfl (teq hc2).2 k) ?_
  show own_G _ _ _ (s₁.setTop (mkF m 12 #[.val (.int p0), .val (.int (2 : Int32)), .val (.int p2), .val (.int p3), .val (.int p4), .val .null] [])) _ _ _ _
  refine own_go (fun _ k => ldcR X0 hx hZ hown (refOfLit w18 L18) L18 (g := (mkF m 12 #[.val (.int p0), .val (.int (2 : Int32)), .val (.int p2), .val (.int p3), .val (.int p4), .val .null] [])) rfl (hb hby d16_12) _ k) ?_
  show own_G _ _ _ (s₁.setTop (mkF m 14 #[.val (.int p0), .val (.int (2 : Int32)), .val (.int p2), .val (.int p3), .val (.int p4), .val .null] [(.ref sA)])) _ _ _ _
  refine own_go (fun _ k => XS.astore X0.here hx rfl (hb hby d16_14) rfl rfl (l' := #[.val (.int p0), .val (.int (2 : Int32)), .val (.int p2), .val (.int p3), .val (.int p4), .val (.ref sA)]) rfl k) ?_
  show own_G _ _ _ (s₁.setTop (mkF m 16 #[.val (.int p0), .val (.int (2 : Int32)), .val (.int p2), .val (.int p3), .val (.int p4), .val (.ref sA)] [])) _ _ _ _
  refine own_go (fun _ k => XS.iloadN X0.here hx rfl (hb hby d16_16) rfl k) ?_
  show own_G _ _ _ (s₁.setTop (mkF m 17 #[.val (.int p0), .val (.int (2 : Int32)), .val (.int p2), .val (.int p3), .val (.int p4), .val (.ref sA)] [(.int (2 : Int32))])) _ _ _ _
  refine own_go (fun _ k => XS.iconst X0.here hx rfl (hb hby d16_17) k) ?_
  show own_G _ _ _ (s₁.setTop (mkF m 18 #[.val (.int p0), .val (.int (2 : Int32)), .val (.int p2), .val (.int p3), .val (.int p4), .val (.ref sA)] [(.int (1 : Int32)), (.int (2 : Int32))])) _ _ _ _
  have hc3 : (1 : Int32) < (2 : Int32) := (by decide)
  refine own_go (fun _ k => XS.icmpNo X0.here hx rfl (hb hby d16_18) rfl (tlt hc3).2.2.2 k) ?_
  show own_G _ _ _ (s₁.setTop (mkF m 21 #[.val (.int p0), .val (.int (2 : Int32)), .val (.int p2), .val (.int p3), .val (.int p4), .val (.ref sA)] [])) _ _ _ _
  refine own_go (fun _ k => XS.iloadN X0.here hx rfl (hb hby d16_21) rfl k) ?_
  show own_G _ _ _ (s₁.setTop (mkF m 22 #[.val (.int p0), .val (.int (2 : Int32)), .val (.int p2), .val (.int p3), .val (.int p4), .val (.ref sA)] [(.int p3)])) _ _ _ _
  refine own_go (fun _ k => XS.iloadN X0.here hx rfl (hb hby d16_22) rfl k) ?_
  show own_G _ _ _ (s₁.setTop (mkF m 23 #[.val (.int p0), .val (.int (2 : Int32)), .val (.int p2), .val (.int p3), .val (.int p4), .val (.ref sA)] [(.int p0), (.int p3)])) _ _ _ _
  have hc4 : ¬ (p3 = p0) := nB
  refine own_go (fun _ k => XS.icmpYes X0.here hx rfl (pc0 := 23) (pc' := 30) rfl (hb hby d16_23) rfl (feq hc4).2 (by decide) (by decide) k) ?_
  show own_G _ _ _ (s₁.setTop (mkF m 30 #[.val (.int p0), .val (.int (2 : Int32)), .val (.int p2), .val (.int p3), .val (.int p4), .val (.ref sA)] [])) _ _ _ _
  refine own_go (fun _ k => XS.iloadN X0.here hx rfl (hb hby d16_30) rfl k) ?_
  show own_G _ _ _ (s₁.setTop (mkF m 31 #[.val (.int p0), .val (.int (2 : Int32)), .val (.int p2), .val (.int p3), .val (.int p4), .val (.ref sA)] [(.int (2 : Int32))])) _ _ _ _
  refine own_go (fun _ k => XS.iconst X0.here hx rfl (hb hby d16_31) k) ?_
  show own_G _ _ _ (s₁.setTop (mkF m 32 #[.val (.int p0), .val (.int (2 : Int32)), .val (.int p2), .val (.int p3), .val (.int p4), .val (.ref sA)] [(.int (2 : Int32)), (.int (2 : Int32))])) _ _ _ _
  have hc5 : ¬ ((2 : Int32) < (2 : Int32)) := (by decide)
  refine own_go (fun _ k => XS.icmpYes X0.here hx rfl (pc0 := 32) (pc' := 45) rfl (hb hby d16_32) rfl (flt hc5).2.2.2 (by decide) (by decide) k) ?_
  show own_G _ _ _ (s₁.setTop (mkF m 45 #[.val (.int p0), .val (.int (2 : Int32)), .val (.int p2), .val (.int p3), .val (.int p4), .val (.ref sA)] [])) _ _ _ _
  refine own_go (fun _ k => XS.aload X0.here hx rfl (hb hby d16_45) rfl rfl k) ?_
  show own_G _ _ _ (s₁.setTop (mkF m 47 #[.val (.int p0), .val (.int (2 : Int32)), .val (.int p2), .val (.int p3), .val (.int p4), .val (.ref sA)] [(.ref sA)])) _ _ _ _
  exact own_endR X0 hx hlk Bd.returns rfl rfl rfl (hb hby d16_47) (by decide) (by decide) (Q := (Q16d Z p0 p2 p3 p4 sA sB sC h0 n0)) (by rw [e0]; exact ⟨rfl, N0, rfl⟩)
def Q16e (Z : State) (p0 : Int32) (p2 : Int32) (p3 : Int32) (p4 : Int32) (sA : Addr) (sB : Addr) (sC : Addr) (h0 : Heap) (n0 : Nat) (v : Option Value) (h : Heap) (L : List Loc) : Prop := v = some .null ∧ Fr n0 L ∧ h = h0
set_option maxRecDepth 65536 in
set_option maxHeartbeats 40000000 in
theorem rm16e (l : Launch) (Z : State) (a0 : Array Value) (ws : List Jvm.Cond) (p0 : Int32) (p2 : Int32) (p3 : Int32) (p4 : Int32) (sA : Addr) (sB : Addr) (sC : Addr) (h0 : Heap) (n0 : Nat) (Z0 : n0 ≤ h0.size) (w18 : (Jvm.Cond.stringLink "com/example/issuerd/issuerd/xml/DomReferencesPinLaw" 18 "A").before a0 Z = true) (w20 : (Jvm.Cond.stringLink "com/example/issuerd/issuerd/xml/DomReferencesPinLaw" 20 "B").before a0 Z = true) (w22 : (Jvm.Cond.stringLink "com/example/issuerd/issuerd/xml/DomReferencesPinLaw" 22 "C").before a0 Z = true) (L18 : Lit Z "com/example/issuerd/issuerd/xml/DomReferencesPinLaw" 18 sA) (L20 : Lit Z "com/example/issuerd/issuerd/xml/DomReferencesPinLaw" 20 sB) (L22 : Lit Z "com/example/issuerd/issuerd/xml/DomReferencesPinLaw" 22 sC) (nB : ¬ p3 = p0) (nA : ¬ p2 = p0) :
    MetFree l (⟨"com/example/issuerd/issuerd/xml/DomReferencesPinLaw", "expected", "(IICCC)Ljava/lang/String;"⟩ : MethodName) (head1 (Jvm.Cond.code (⟨"com/example/issuerd/issuerd/xml/DomReferencesPinLaw", "expected", "(IICCC)Ljava/lang/String;"⟩ : MethodName) method_3_code 6 (some (.object "java/lang/String")) :: ws) ({ frames := 0, cells := 0, slots := 0, locals := 0 } : Room)) (fun a U => a = #[(.int p0), (.int (2 : Int32)), (.int p2), (.int p3), (.int p4)] ∧ Z.Warmed39 U.vm ∧ U.heap = h0) (fun _ _ _ _ _ => True) (fun _ U o U' => ∃ v L, o = .returned v ∧ (Q16e Z p0 p2 p3 p4 sA sB sC h0 n0) v U'.heap L ∧ FrameEnd U o U' L ({ frames := 0, cells := 0, slots := 0, locals := 0 } : Room).cells ({ frames := 0, cells := 0, slots := 0, locals := 0 } : Room).slots) := by
  refine MetFree.of_bodySF (plainFor_of_name pn_3) hisR ?_
  intro p e s m args below meth c s₁ Bd hml0 hP hK
  obtain ⟨rfl, hZ, hh⟩ := hP
  have hx := Bd.exec
  have hby := Bd.bytes
  have hml : c.maxLocals = 6 := hml0
  have hown : s.vm.findClass "com/example/issuerd/issuerd/xml/DomReferencesPinLaw" = some m.cls := findClass_of_methodNamed Bd.named
  have hnm := (name_of_methodNamed Bd.named Bd.method).1
  have hlk : meth.locks = false := BodyLoose.notSynchronized Bd
  have X0 : Stand p l e ({ frames := 0, cells := 0, slots := 0, locals := 0 } : Room) s m #[(.int p0), (.int (2 : Int32)), (.int p2), (.int p3), (.int p4)] below meth c s₁ [] 0 0 := Stand.of_body Bd
  have e0 : s₁.heap = h0 := by rw [← hh, Bd.state]; rfl
  have N0 := Fr.nil n0
  show own_G p.tables e below (s₁.setTop (entryFrame m #[(.int p0), (.int (2 : Int32)), (.int p2), (.int p3), (.int p4)] 6)) s ({ frames := 0, cells := 0, slots := 0, locals := 0 } : Room).cells ({ frames := 0, cells := 0, slots := 0, locals := 0 } : Room).slots (Q16e Z p0 p2 p3 p4 sA sB sC h0 n0)
  refine own_go (fun _ k => castTop (ef_16c m p0 p2 p3 p4) k) ?_
  show own_G _ _ _ (s₁.setTop (mkF m 0 #[.val (.int p0), .val (.int (2 : Int32)), .val (.int p2), .val (.int p3), .val (.int p4), .unset] [])) _ _ _ _
  refine own_go (fun _ k => XS.aconstNull X0.here hx rfl (hb hby d16_0) k) ?_
  show own_G _ _ _ (s₁.setTop (mkF m 1 #[.val (.int p0), .val (.int (2 : Int32)), .val (.int p2), .val (.int p3), .val (.int p4), .unset] [.null])) _ _ _ _
  refine own_go (fun _ k => XS.astore X0.here hx rfl (hb hby d16_1) rfl rfl (l' := #[.val (.int p0), .val (.int (2 : Int32)), .val (.int p2), .val (.int p3), .val (.int p4), .val .null]) rfl k) ?_
  show own_G _ _ _ (s₁.setTop (mkF m 3 #[.val (.int p0), .val (.int (2 : Int32)), .val (.int p2), .val (.int p3), .val (.int p4), .val .null] [])) _ _ _ _
  refine own_go (fun _ k => XS.iloadN X0.here hx rfl (hb hby d16_3) rfl k) ?_
  show own_G _ _ _ (s₁.setTop (mkF m 4 #[.val (.int p0), .val (.int (2 : Int32)), .val (.int p2), .val (.int p3), .val (.int p4), .val .null] [(.int (2 : Int32))])) _ _ _ _
  have hc1 : (0 : Int32) < (2 : Int32) := (by decide)
  refine own_go (fun _ k => XS.ifNo X0.here hx rfl (hb hby d16_4) rfl ((if0 _ _).trans (tlt hc1).2.2.2) k) ?_
  show own_G _ _ _ (s₁.setTop (mkF m 7 #[.val (.int p0), .val (.int (2 : Int32)), .val (.int p2), .val (.int p3), .val (.int p4), .val .null] [])) _ _ _ _
  refine own_go (fun _ k => XS.iloadN X0.here hx rfl (hb hby d16_7) rfl k) ?_
  show own_G _ _ _ (s₁.setTop (mkF m 8 #[.val (.int p0), .val (.int (2 : Int32)), .val (.int p2), .val (.int p3), .val (.int p4), .val .null] [(.int p2)])) _ _ _ _
  refine own_go (fun _ k => XS.iloadN X0.here hx rfl (hb hby d16_8) rfl k) ?_
  show own_G _ _ _ (s₁.setTop (mkF m 9 #[.val (.int p0), .val (.int (2 : Int32)), .val (.int p2), .val (.int p3), .val (.int p4), .val .null] [(.int p0), (.int p2)])) _ _ _ _
  have hc2 : ¬ (p2 = p0) := nA
  refine own_go (fun _ k => XS.icmpYes X0.here hx rfl (pc0 := 9) (pc' := 16) rfl (hb hby d16_9) rfl (feq hc2).2 (by decide) (by decide) k) ?_
  show own_G _ _ _ (s₁.setTop (mkF m 16 #[.val (.int p0), .val (.int (2 : Int32)), .val (.int p2), .val (.int p3), .val (.int p4), .val .null] [])) _ _ _ _
  refine own_go (fun _ k => XS.iloadN X0.here hx rfl (hb hby d16_16) rfl k) ?_
  show own_G _ _ _ (s₁.setTop (mkF m 17 #[.val (.int p0), .val (.int (2 : Int32)), .val (.int p2), .val (.int p3), .val (.int p4), .val .null] [(.int (2 : Int32))])) _ _ _ _
  refine own_go (fun _ k => XS.iconst X0.here hx rfl (hb hby d16_17) k) ?_
  show own_G _ _ _ (s₁.setTop (mkF m 18 #[.val (.int p0), .val (.int (2 : Int32)), .val (.int p2), .val (.int p3), .val (.int p4), .val .null] [(.int (1 : Int32)), (.int (2 : Int32))])) _ _ _ _
  have hc3 : (1 : Int32) < (2 : Int32) := (by decide)
  refine own_go (fun _ k => XS.icmpNo X0.here hx rfl (hb hby d16_18) rfl (tlt hc3).2.2.2 k) ?_
  show own_G _ _ _ (s₁.setTop (mkF m 21 #[.val (.int p0), .val (.int (2 : Int32)), .val (.int p2), .val (.int p3), .val (.int p4), .val .null] [])) _ _ _ _
  refine own_go (fun _ k => XS.iloadN X0.here hx rfl (hb hby d16_21) rfl k) ?_
  show own_G _ _ _ (s₁.setTop (mkF m 22 #[.val (.int p0), .val (.int (2 : Int32)), .val (.int p2), .val (.int p3), .val (.int p4), .val .null] [(.int p3)])) _ _ _ _
  refine own_go (fun _ k => XS.iloadN X0.here hx rfl (hb hby d16_22) rfl k) ?_
  show own_G _ _ _ (s₁.setTop (mkF m 23 #[.val (.int p0), .val (.int (2 : Int32)), .val (.int p2), .val (.int p3), .val (.int p4), .val .null] [(.int p0), (.int p3)])) _ _ _ _
  have hc4 : ¬ (p3 = p0) := nB
  refine own_go (fun _ k => XS.icmpYes X0.here hx rfl (pc0 := 23) (pc' := 30) rfl (hb hby d16_23) rfl (feq hc4).2 (by decide) (by decide) k) ?_
  show own_G _ _ _ (s₁.setTop (mkF m 30 #[.val (.int p0), .val (.int (2 : Int32)), .val (.int p2), .val (.int p3), .val (.int p4), .val .null] [])) _ _ _ _
  refine own_go (fun _ k => XS.iloadN X0.here hx rfl (hb hby d16_30) rfl k) ?_
  show own_G _ _ _ (s₁.setTop (mkF m 31 #[.val (.int p0), .val (.int (2 : Int32)), .val (.int p2), .val (.int p3), .val (.int p4), .val .null] [(.int (2 : Int32))])) _ _ _ _
  refine own_go (fun _ k => XS.iconst X0.here hx rfl (hb hby d16_31) k) ?_
  show own_G _ _ _ (s₁.setTop (mkF m 32 #[.val (.int p0), .val (.int (2 : Int32)), .val (.int p2), .val (.int p3), .val (.int p4), .val .null] [(.int (2 : Int32)), (.int (2 : Int32))])) _ _ _ _
  have hc5 : ¬ ((2 : Int32) < (2 : Int32)) := (by decide)
  refine own_go (fun _ k => XS.icmpYes X0.here hx rfl (pc0 := 32) (pc' := 45) rfl (hb hby d16_32) rfl (flt hc5).2.2.2 (by decide) (by decide) k) ?_
  show own_G _ _ _ (s₁.setTop (mkF m 45 #[.val (.int p0), .val (.int (2 : Int32)), .val (.int p2), .val (.int p3), .val (.int p4), .val .null] [])) _ _ _ _
  refine own_go (fun _ k => XS.aload X0.here hx rfl (hb hby d16_45) rfl rfl k) ?_
  show own_G _ _ _ (s₁.setTop (mkF m 47 #[.val (.int p0), .val (.int (2 : Int32)), .val (.int p2), .val (.int p3), .val (.int p4), .val .null] [.null])) _ _ _ _
  exact own_endR X0 hx hlk Bd.returns rfl rfl rfl (hb hby d16_47) (by decide) (by decide) (Q := (Q16e Z p0 p2 p3 p4 sA sB sC h0 n0)) (by rw [e0]; exact ⟨rfl, N0, rfl⟩)
theorem ef_16f (m : MethodId) (p0 : Int32) (p2 : Int32) (p3 : Int32) (p4 : Int32) : entryFrame m #[(.int p0), (.int (3 : Int32)), (.int p2), (.int p3), (.int p4)] 6 = mkF m 0 #[.val (.int p0), .val (.int (3 : Int32)), .val (.int p2), .val (.int p3), .val (.int p4), .unset] [] := by first | (simp [entryFrame, mkF, argsToLocals, Value.category]; done) | rfl
def Q16f (Z : State) (p0 : Int32) (p2 : Int32) (p3 : Int32) (p4 : Int32) (sA : Addr) (sB : Addr) (sC : Addr) (h0 : Heap) (n0 : Nat) (v : Option Value) (h : Heap) (L : List Loc) : Prop := v = some (.ref sC) ∧ Fr n0 L ∧ h = h0
set_option maxRecDepth 65536 in
set_option maxHeartbeats 40000000 in
theorem rm16f (l : Launch) (Z : State) (a0 : Array Value) (ws : List Jvm.Cond) (p0 : Int32) (p2 : Int32) (p3 : Int32) (p4 : Int32) (sA : Addr) (sB : Addr) (sC : Addr) (h0 : Heap) (n0 : Nat) (Z0 : n0 ≤ h0.size) (w18 : (Jvm.Cond.stringLink "com/example/issuerd/issuerd/xml/DomReferencesPinLaw" 18 "A").before a0 Z = true) (w20 : (Jvm.Cond.stringLink "com/example/issuerd/issuerd/xml/DomReferencesPinLaw" 20 "B").before a0 Z = true) (w22 : (Jvm.Cond.stringLink "com/example/issuerd/issuerd/xml/DomReferencesPinLaw" 22 "C").before a0 Z = true) (L18 : Lit Z "com/example/issuerd/issuerd/xml/DomReferencesPinLaw" 18 sA) (L20 : Lit Z "com/example/issuerd/issuerd/xml/DomReferencesPinLaw" 20 sB) (L22 : Lit Z "com/example/issuerd/issuerd/xml/DomReferencesPinLaw" 22 sC) (hC : p4 = p0) :
    MetFree l (⟨"com/example/issuerd/issuerd/xml/DomReferencesPinLaw", "expected", "(IICCC)Ljava/lang/String;"⟩ : MethodName) (head1 (Jvm.Cond.code (⟨"com/example/issuerd/issuerd/xml/DomReferencesPinLaw", "expected", "(IICCC)Ljava/lang/String;"⟩ : MethodName) method_3_code 6 (some (.object "java/lang/String")) :: ws) ({ frames := 0, cells := 0, slots := 0, locals := 0 } : Room)) (fun a U => a = #[(.int p0), (.int (3 : Int32)), (.int p2), (.int p3), (.int p4)] ∧ Z.Warmed39 U.vm ∧ U.heap = h0) (fun _ _ _ _ _ => True) (fun _ U o U' => ∃ v L, o = .returned v ∧ (Q16f Z p0 p2 p3 p4 sA sB sC h0 n0) v U'.heap L ∧ FrameEnd U o U' L ({ frames := 0, cells := 0, slots := 0, locals := 0 } : Room).cells ({ frames := 0, cells := 0, slots := 0, locals := 0 } : Room).slots) := by
  refine MetFree.of_bodySF (plainFor_of_name pn_3) hisR ?_
  intro p e s m args below meth c s₁ Bd hml0 hP hK
  obtain ⟨rfl, hZ, hh⟩ := hP
  have hx := Bd.exec
  have hby := Bd.bytes
  have hml : c.maxLocals = 6 := hml0
  have hown : s.vm.findClass "com/example/issuerd/issuerd/xml/DomReferencesPinLaw" = some m.cls := findClass_of_methodNamed Bd.named
  have hnm := (name_of_methodNamed Bd.named Bd.method).1
  have hlk : meth.locks = false := BodyLoose.notSynchronized Bd
  have X0 : Stand p l e ({ frames := 0, cells := 0, slots := 0, locals := 0 } : Room) s m #[(.int p0), (.int (3 : Int32)), (.int p2), (.int p3), (.int p4)] below meth c s₁ [] 0 0 := Stand.of_body Bd
  have e0 : s₁.heap = h0 := by rw [← hh, Bd.state]; rfl
  have N0 := Fr.nil n0
  show own_G p.tables e below (s₁.setTop (entryFrame m #[(.int p0), (.int (3 : Int32)), (.int p2), (.int p3), (.int p4)] 6)) s ({ frames := 0, cells := 0, slots := 0, locals := 0 } : Room).cells ({ frames := 0, cells := 0, slots := 0, locals := 0 } : Room).slots (Q16f Z p0 p2 p3 p4 sA sB sC h0 n0)
  refine own_go (fun _ k => castTop (ef_16f m p0 p2 p3 p4) k) ?_
  show own_G _ _ _ (s₁.setTop (mkF m 0 #[.val (.int p0), .val (.int (3 : Int32)), .val (.int p2), .val (.int p3), .val (.int p4), .unset] [])) _ _ _ _
  refine own_go (fun _ k => XS.aconstNull X0.here hx rfl (hb hby d16_0) k) ?_
  show own_G _ _ _ (s₁.setTop (mkF m 1 #[.val (.int p0), .val (.int (3 : Int32)), .val (.int p2), .val (.int p3), .val (.int p4), .unset] [.null])) _ _ _ _
  refine own_go (fun _ k => XS.astore X0.here hx rfl (hb hby d16_1) rfl rfl (l' := #[.val (.int p0), .val (.int (3 : Int32)), .val (.int p2), .val (.int p3), .val (.int p4), .val .null]) rfl k) ?_
  show own_G _ _ _ (s₁.setTop (mkF m 3 #[.val (.int p0), .val (.int (3 : Int32)), .val (.int p2), .val (.int p3), .val (.int p4), .val .null] [])) _ _ _ _
  refine own_go (fun _ k => XS.iloadN X0.here hx rfl (hb hby d16_3) rfl k) ?_
  show own_G _ _ _ (s₁.setTop (mkF m 4 #[.val (.int p0), .val (.int (3 : Int32)), .val (.int p2), .val (.int p3), .val (.int p4), .val .null] [(.int (3 : Int32))])) _ _ _ _
  have hc1 : (0 : Int32) < (3 : Int32) := (by decide)
  refine own_go (fun _ k => XS.ifNo X0.here hx rfl (hb hby d16_4) rfl ((if0 _ _).trans (tlt hc1).2.2.2) k) ?_
  show own_G _ _ _ (s₁.setTop (mkF m 7 #[.val (.int p0), .val (.int (3 : Int32)), .val (.int p2), .val (.int p3), .val (.int p4), .val .null] [])) _ _ _ _
  refine own_go (fun _ k => XS.iloadN X0.here hx rfl (hb hby d16_7) rfl k) ?_
  show own_G _ _ _ (s₁.setTop (mkF m 8 #[.val (.int p0), .val (.int (3 : Int32)), .val (.int p2), .val (.int p3), .val (.int p4), .val .null] [(.int p2)])) _ _ _ _
  refine own_go (fun _ k => XS.iloadN X0.here hx rfl (hb hby d16_8) rfl k) ?_
  show own_G _ _ _ (s₁.setTop (mkF m 9 #[.val (.int p0), .val (.int (3 : Int32)), .val (.int p2), .val (.int p3), .val (.int p4), .val .null] [(.int p0), (.int p2)])) _ _ _ _
  by_cases hc2 : p2 = p0
  · refine own_go (fun _ k => XS.icmpNo X0.here hx rfl (hb hby d16_9) rfl (teq hc2).2 k) ?_
    show own_G _ _ _ (s₁.setTop (mkF m 12 #[.val (.int p0), .val (.int (3 : Int32)), .val (.int p2), .val (.int p3), .val (.int p4), .val .null] [])) _ _ _ _
    refine own_go (fun _ k => ldcR X0 hx hZ hown (refOfLit w18 L18) L18 (g := (mkF m 12 #[.val (.int p0), .val (.int (3 : Int32)), .val (.int p2), .val (.int p3), .val (.int p4), .val .null] [])) rfl (hb hby d16_12) _ k) ?_
    show own_G _ _ _ (s₁.setTop (mkF m 14 #[.val (.int p0), .val (.int (3 : Int32)), .val (.int p2), .val (.int p3), .val (.int p4), .val .null] [(.ref sA)])) _ _ _ _
    refine own_go (fun _ k => XS.astore X0.here hx rfl (hb hby d16_14) rfl rfl (l' := #[.val (.int p0), .val (.int (3 : Int32)), .val (.int p2), .val (.int p3), .val (.int p4), .val (.ref sA)]) rfl k) ?_
    show own_G _ _ _ (s₁.setTop (mkF m 16 #[.val (.int p0), .val (.int (3 : Int32)), .val (.int p2), .val (.int p3), .val (.int p4), .val (.ref sA)] [])) _ _ _ _
    refine own_go (fun _ k => XS.iloadN X0.here hx rfl (hb hby d16_16) rfl k) ?_
    show own_G _ _ _ (s₁.setTop (mkF m 17 #[.val (.int p0), .val (.int (3 : Int32)), .val (.int p2), .val (.int p3), .val (.int p4), .val (.ref sA)] [(.int (3 : Int32))])) _ _ _ _
    refine own_go (fun _ k => XS.iconst X0.here hx rfl (hb hby d16_17) k) ?_
    show own_G _ _ _ (s₁.setTop (mkF m 18 #[.val (.int p0), .val (.int (3 : Int32)), .val (.int p2), .val (.int p3), .val (.int p4), .val (.ref sA)] [(.int (1 : Int32)), (.int (3 : Int32))])) _ _ _ _
    have hc3 : (1 : Int32) < (3 : Int32) := (by decide)
    refine own_go (fun _ k => XS.icmpNo X0.here hx rfl (hb hby d16_18) rfl (tlt hc3).2.2.2 k) ?_
    show own_G _ _ _ (s₁.setTop (mkF m 21 #[.val (.int p0), .val (.int (3 : Int32)), .val (.int p2), .val (.int p3), .val (.int p4), .val (.ref sA)] [])) _ _ _ _
    refine own_go (fun _ k => XS.iloadN X0.here hx rfl (hb hby d16_21) rfl k) ?_
    show own_G _ _ _ (s₁.setTop (mkF m 22 #[.val (.int p0), .val (.int (3 : Int32)), .val (.int p2), .val (.int p3), .val (.int p4), .val (.ref sA)] [(.int p3)])) _ _ _ _
    refine own_go (fun _ k => XS.iloadN X0.here hx rfl (hb hby d16_22) rfl k) ?_
    show own_G _ _ _ (s₁.setTop (mkF m 23 #[.val (.int p0), .val (.int (3 : Int32)), .val (.int p2), .val (.int p3), .val (.int p4), .val (.ref sA)] [(.int p0), (.int p3)])) _ _ _ _
    by_cases hc4 : p3 = p0
    · refine own_go (fun _ k => XS.icmpNo X0.here hx rfl (hb hby d16_23) rfl (teq hc4).2 k) ?_
      show own_G _ _ _ (s₁.setTop (mkF m 26 #[.val (.int p0), .val (.int (3 : Int32)), .val (.int p2), .val (.int p3), .val (.int p4), .val (.ref sA)] [])) _ _ _ _
      refine own_go (fun _ k => ldcR X0 hx hZ hown (refOfLit w20 L20) L20 (g := (mkF m 26 #[.val (.int p0), .val (.int (3 : Int32)), .val (.int p2), .val (.int p3), .val (.int p4), .val (.ref sA)] [])) rfl (hb hby d16_26) _ k) ?_
      show own_G _ _ _ (s₁.setTop (mkF m 28 #[.val (.int p0), .val (.int (3 : Int32)), .val (.int p2), .val (.int p3), .val (.int p4), .val (.ref sA)] [(.ref sB)])) _ _ _ _
      refine own_go (fun _ k => XS.astore X0.here hx rfl (hb hby d16_28) rfl rfl (l' := #[.val (.int p0), .val (.int (3 : Int32)), .val (.int p2), .val (.int p3), .val (.int p4), .val (.ref sB)]) rfl k) ?_
      show own_G _ _ _ (s₁.setTop (mkF m 30 #[.val (.int p0), .val (.int (3 : Int32)), .val (.int p2), .val (.int p3), .val (.int p4), .val (.ref sB)] [])) _ _ _ _
      refine own_go (fun _ k => XS.iloadN X0.here hx rfl (hb hby d16_30) rfl k) ?_
      show own_G _ _ _ (s₁.setTop (mkF m 31 #[.val (.int p0), .val (.int (3 : Int32)), .val (.int p2), .val (.int p3), .val (.int p4), .val (.ref sB)] [(.int (3 : Int32))])) _ _ _ _
      refine own_go (fun _ k => XS.iconst X0.here hx rfl (hb hby d16_31) k) ?_
      show own_G _ _ _ (s₁.setTop (mkF m 32 #[.val (.int p0), .val (.int (3 : Int32)), .val (.int p2), .val (.int p3), .val (.int p4), .val (.ref sB)] [(.int (2 : Int32)), (.int (3 : Int32))])) _ _ _ _
      have hc5 : (2 : Int32) < (3 : Int32) := (by decide)
      refine own_go (fun _ k => XS.icmpNo X0.here hx rfl (hb hby d16_32) rfl (tlt hc5).2.2.2 k) ?_
      show own_G _ _ _ (s₁.setTop (mkF m 35 #[.val (.int p0), .val (.int (3 : Int32)), .val (.int p2), .val (.int p3), .val (.int p4), .val (.ref sB)] [])) _ _ _ _
      refine own_go (fun _ k => XS.iload X0.here hx rfl (hb hby d16_35) rfl k) ?_
      show own_G _ _ _ (s₁.setTop (mkF m 37 #[.val (.int p0), .val (.int (3 : Int32)), .val (.int p2), .val (.int p3), .val (.int p4), .val (.ref sB)] [(.int p4)])) _ _ _ _
      refine own_go (fun _ k => XS.iloadN X0.here hx rfl (hb hby d16_37) rfl k) ?_
      show own_G _ _ _ (s₁.setTop (mkF m 38 #[.val (.int p0), .val (.int (3 : Int32)), .val (.int p2), .val (.int p3), .val (.int p4), .val (.ref sB)] [(.int p0), (.int p4)])) _ _ _ _
      have hc6 : p4 = p0 := hC
      refine own_go (fun _ k => XS.icmpNo X0.here hx rfl (hb hby d16_38) rfl (teq hc6).2 k) ?_
      show own_G _ _ _ (s₁.setTop (mkF m 41 #[.val (.int p0), .val (.int (3 : Int32)), .val (.int p2), .val (.int p3), .val (.int p4), .val (.ref sB)] [])) _ _ _ _
      refine own_go (fun _ k => ldcR X0 hx hZ hown (refOfLit w22 L22) L22 (g := (mkF m 41 #[.val (.int p0), .val (.int (3 : Int32)), .val (.int p2), .val (.int p3), .val (.int p4), .val (.ref sB)] [])) rfl (hb hby d16_41) _ k) ?_
      show own_G _ _ _ (s₁.setTop (mkF m 43 #[.val (.int p0), .val (.int (3 : Int32)), .val (.int p2), .val (.int p3), .val (.int p4), .val (.ref sB)] [(.ref sC)])) _ _ _ _
      refine own_go (fun _ k => XS.astore X0.here hx rfl (hb hby d16_43) rfl rfl (l' := #[.val (.int p0), .val (.int (3 : Int32)), .val (.int p2), .val (.int p3), .val (.int p4), .val (.ref sC)]) rfl k) ?_
      show own_G _ _ _ (s₁.setTop (mkF m 45 #[.val (.int p0), .val (.int (3 : Int32)), .val (.int p2), .val (.int p3), .val (.int p4), .val (.ref sC)] [])) _ _ _ _
      refine own_go (fun _ k => XS.aload X0.here hx rfl (hb hby d16_45) rfl rfl k) ?_
      show own_G _ _ _ (s₁.setTop (mkF m 47 #[.val (.int p0), .val (.int (3 : Int32)), .val (.int p2), .val (.int p3), .val (.int p4), .val (.ref sC)] [(.ref sC)])) _ _ _ _
      exact own_endR X0 hx hlk Bd.returns rfl rfl rfl (hb hby d16_47) (by decide) (by decide) (Q := (Q16f Z p0 p2 p3 p4 sA sB sC h0 n0)) (by rw [e0]; exact ⟨rfl, N0, rfl⟩)
    · refine own_go (fun _ k => XS.icmpYes X0.here hx rfl (pc0 := 23) (pc' := 30) rfl (hb hby d16_23) rfl (feq hc4).2 (by decide) (by decide) k) ?_
      show own_G _ _ _ (s₁.setTop (mkF m 30 #[.val (.int p0), .val (.int (3 : Int32)), .val (.int p2), .val (.int p3), .val (.int p4), .val (.ref sA)] [])) _ _ _ _
      refine own_go (fun _ k => XS.iloadN X0.here hx rfl (hb hby d16_30) rfl k) ?_
      show own_G _ _ _ (s₁.setTop (mkF m 31 #[.val (.int p0), .val (.int (3 : Int32)), .val (.int p2), .val (.int p3), .val (.int p4), .val (.ref sA)] [(.int (3 : Int32))])) _ _ _ _
      refine own_go (fun _ k => XS.iconst X0.here hx rfl (hb hby d16_31) k) ?_
      show own_G _ _ _ (s₁.setTop (mkF m 32 #[.val (.int p0), .val (.int (3 : Int32)), .val (.int p2), .val (.int p3), .val (.int p4), .val (.ref sA)] [(.int (2 : Int32)), (.int (3 : Int32))])) _ _ _ _
      have hc7 : (2 : Int32) < (3 : Int32) := (by decide)
      refine own_go (fun _ k => XS.icmpNo X0.here hx rfl (hb hby d16_32) rfl (tlt hc7).2.2.2 k) ?_
      show own_G _ _ _ (s₁.setTop (mkF m 35 #[.val (.int p0), .val (.int (3 : Int32)), .val (.int p2), .val (.int p3), .val (.int p4), .val (.ref sA)] [])) _ _ _ _
      refine own_go (fun _ k => XS.iload X0.here hx rfl (hb hby d16_35) rfl k) ?_
      show own_G _ _ _ (s₁.setTop (mkF m 37 #[.val (.int p0), .val (.int (3 : Int32)), .val (.int p2), .val (.int p3), .val (.int p4), .val (.ref sA)] [(.int p4)])) _ _ _ _
      refine own_go (fun _ k => XS.iloadN X0.here hx rfl (hb hby d16_37) rfl k) ?_
      show own_G _ _ _ (s₁.setTop (mkF m 38 #[.val (.int p0), .val (.int (3 : Int32)), .val (.int p2), .val (.int p3), .val (.int p4), .val (.ref sA)] [(.int p0), (.int p4)])) _ _ _ _
      have hc8 : p4 = p0 := hC
      refine own_go (fun _ k => XS.icmpNo X0.here hx rfl (hb hby d16_38) rfl (teq hc8).2 k) ?_
      show own_G _ _ _ (s₁.setTop (mkF m 41 #[.val (.int p0), .val (.int (3 : Int32)), .val (.int p2), .val (.int p3), .val (.int p4), .val (.ref sA)] [])) _ _ _ _
      refine own_go (fun _ k => ldcR X0 hx hZ hown (refOfLit w22 L22) L22 (g := (mkF m 41 #[.val (.int p0), .val (.int (3 : Int32)), .val (.int p2), .val (.int p3), .val (.int p4), .val (.ref sA)] [])) rfl (hb hby d16_41) _ k) ?_
      show own_G _ _ _ (s₁.setTop (mkF m 43 #[.val (.int p0), .val (.int (3 : Int32)), .val (.int p2), .val (.int p3), .val (.int p4), .val (.ref sA)] [(.ref sC)])) _ _ _ _
      refine own_go (fun _ k => XS.astore X0.here hx rfl (hb hby d16_43) rfl rfl (l' := #[.val (.int p0), .val (.int (3 : Int32)), .val (.int p2), .val (.int p3), .val (.int p4), .val (.ref sC)]) rfl k) ?_
      show own_G _ _ _ (s₁.setTop (mkF m 45 #[.val (.int p0), .val (.int (3 : Int32)), .val (.int p2), .val (.int p3), .val (.int p4), .val (.ref sC)] [])) _ _ _ _
      refine own_go (fun _ k => XS.aload X0.here hx rfl (hb hby d16_45) rfl rfl k) ?_
      show own_G _ _ _ (s₁.setTop (mkF m 47 #[.val (.int p0), .val (.int (3 : Int32)), .val (.int p2), .val (.int p3), .val (.int p4), .val (.ref sC)] [(.ref sC)])) _ _ _ _
      exact own_endR X0 hx hlk Bd.returns rfl rfl rfl (hb hby d16_47) (by decide) (by decide) (Q := (Q16f Z p0 p2 p3 p4 sA sB sC h0 n0)) (by rw [e0]; exact ⟨rfl, N0, rfl⟩)
  · refine own_go (fun _ k => XS.icmpYes X0.here hx rfl (pc0 := 9) (pc' := 16) rfl (hb hby d16_9) rfl (feq hc2).2 (by decide) (by decide) k) ?_
    show own_G _ _ _ (s₁.setTop (mkF m 16 #[.val (.int p0), .val (.int (3 : Int32)), .val (.int p2), .val (.int p3), .val (.int p4), .val .null] [])) _ _ _ _
    refine own_go (fun _ k => XS.iloadN X0.here hx rfl (hb hby d16_16) rfl k) ?_
    show own_G _ _ _ (s₁.setTop (mkF m 17 #[.val (.int p0), .val (.int (3 : Int32)), .val (.int p2), .val (.int p3), .val (.int p4), .val .null] [(.int (3 : Int32))])) _ _ _ _
    refine own_go (fun _ k => XS.iconst X0.here hx rfl (hb hby d16_17) k) ?_
    show own_G _ _ _ (s₁.setTop (mkF m 18 #[.val (.int p0), .val (.int (3 : Int32)), .val (.int p2), .val (.int p3), .val (.int p4), .val .null] [(.int (1 : Int32)), (.int (3 : Int32))])) _ _ _ _
    have hc9 : (1 : Int32) < (3 : Int32) := (by decide)
    refine own_go (fun _ k => XS.icmpNo X0.here hx rfl (hb hby d16_18) rfl (tlt hc9).2.2.2 k) ?_
    show own_G _ _ _ (s₁.setTop (mkF m 21 #[.val (.int p0), .val (.int (3 : Int32)), .val (.int p2), .val (.int p3), .val (.int p4), .val .null] [])) _ _ _ _
    refine own_go (fun _ k => XS.iloadN X0.here hx rfl (hb hby d16_21) rfl k) ?_
    show own_G _ _ _ (s₁.setTop (mkF m 22 #[.val (.int p0), .val (.int (3 : Int32)), .val (.int p2), .val (.int p3), .val (.int p4), .val .null] [(.int p3)])) _ _ _ _
    refine own_go (fun _ k => XS.iloadN X0.here hx rfl (hb hby d16_22) rfl k) ?_
    show own_G _ _ _ (s₁.setTop (mkF m 23 #[.val (.int p0), .val (.int (3 : Int32)), .val (.int p2), .val (.int p3), .val (.int p4), .val .null] [(.int p0), (.int p3)])) _ _ _ _
    by_cases hc10 : p3 = p0
    · refine own_go (fun _ k => XS.icmpNo X0.here hx rfl (hb hby d16_23) rfl (teq hc10).2 k) ?_
      show own_G _ _ _ (s₁.setTop (mkF m 26 #[.val (.int p0), .val (.int (3 : Int32)), .val (.int p2), .val (.int p3), .val (.int p4), .val .null] [])) _ _ _ _
      refine own_go (fun _ k => ldcR X0 hx hZ hown (refOfLit w20 L20) L20 (g := (mkF m 26 #[.val (.int p0), .val (.int (3 : Int32)), .val (.int p2), .val (.int p3), .val (.int p4), .val .null] [])) rfl (hb hby d16_26) _ k) ?_
      show own_G _ _ _ (s₁.setTop (mkF m 28 #[.val (.int p0), .val (.int (3 : Int32)), .val (.int p2), .val (.int p3), .val (.int p4), .val .null] [(.ref sB)])) _ _ _ _
      refine own_go (fun _ k => XS.astore X0.here hx rfl (hb hby d16_28) rfl rfl (l' := #[.val (.int p0), .val (.int (3 : Int32)), .val (.int p2), .val (.int p3), .val (.int p4), .val (.ref sB)]) rfl k) ?_
      show own_G _ _ _ (s₁.setTop (mkF m 30 #[.val (.int p0), .val (.int (3 : Int32)), .val (.int p2), .val (.int p3), .val (.int p4), .val (.ref sB)] [])) _ _ _ _
      refine own_go (fun _ k => XS.iloadN X0.here hx rfl (hb hby d16_30) rfl k) ?_
      show own_G _ _ _ (s₁.setTop (mkF m 31 #[.val (.int p0), .val (.int (3 : Int32)), .val (.int p2), .val (.int p3), .val (.int p4), .val (.ref sB)] [(.int (3 : Int32))])) _ _ _ _
      refine own_go (fun _ k => XS.iconst X0.here hx rfl (hb hby d16_31) k) ?_
      show own_G _ _ _ (s₁.setTop (mkF m 32 #[.val (.int p0), .val (.int (3 : Int32)), .val (.int p2), .val (.int p3), .val (.int p4), .val (.ref sB)] [(.int (2 : Int32)), (.int (3 : Int32))])) _ _ _ _
      have hc11 : (2 : Int32) < (3 : Int32) := (by decide)
      refine own_go (fun _ k => XS.icmpNo X0.here hx rfl (hb hby d16_32) rfl (tlt hc11).2.2.2 k) ?_
      show own_G _ _ _ (s₁.setTop (mkF m 35 #[.val (.int p0), .val (.int (3 : Int32)), .val (.int p2), .val (.int p3), .val (.int p4), .val (.ref sB)] [])) _ _ _ _
      refine own_go (fun _ k => XS.iload X0.here hx rfl (hb hby d16_35) rfl k) ?_
      show own_G _ _ _ (s₁.setTop (mkF m 37 #[.val (.int p0), .val (.int (3 : Int32)), .val (.int p2), .val (.int p3), .val (.int p4), .val (.ref sB)] [(.int p4)])) _ _ _ _
      refine own_go (fun _ k => XS.iloadN X0.here hx rfl (hb hby d16_37) rfl k) ?_
      show own_G _ _ _ (s₁.setTop (mkF m 38 #[.val (.int p0), .val (.int (3 : Int32)), .val (.int p2), .val (.int p3), .val (.int p4), .val (.ref sB)] [(.int p0), (.int p4)])) _ _ _ _
      have hc12 : p4 = p0 := hC
      refine own_go (fun _ k => XS.icmpNo X0.here hx rfl (hb hby d16_38) rfl (teq hc12).2 k) ?_
      show own_G _ _ _ (s₁.setTop (mkF m 41 #[.val (.int p0), .val (.int (3 : Int32)), .val (.int p2), .val (.int p3), .val (.int p4), .val (.ref sB)] [])) _ _ _ _
      refine own_go (fun _ k => ldcR X0 hx hZ hown (refOfLit w22 L22) L22 (g := (mkF m 41 #[.val (.int p0), .val (.int (3 : Int32)), .val (.int p2), .val (.int p3), .val (.int p4), .val (.ref sB)] [])) rfl (hb hby d16_41) _ k) ?_
      show own_G _ _ _ (s₁.setTop (mkF m 43 #[.val (.int p0), .val (.int (3 : Int32)), .val (.int p2), .val (.int p3), .val (.int p4), .val (.ref sB)] [(.ref sC)])) _ _ _ _
      refine own_go (fun _ k => XS.astore X0.here hx rfl (hb hby d16_43) rfl rfl (l' := #[.val (.int p0), .val (.int (3 : Int32)), .val (.int p2), .val (.int p3), .val (.int p4), .val (.ref sC)]) rfl k) ?_
      show own_G _ _ _ (s₁.setTop (mkF m 45 #[.val (.int p0), .val (.int (3 : Int32)), .val (.int p2), .val (.int p3), .val (.int p4), .val (.ref sC)] [])) _ _ _ _
      refine own_go (fun _ k => XS.aload X0.here hx rfl (hb hby d16_45) rfl rfl k) ?_
      show own_G _ _ _ (s₁.setTop (mkF m 47 #[.val (.int p0), .val (.int (3 : Int32)), .val (.int p2), .val (.int p3), .val (.int p4), .val (.ref sC)] [(.ref sC)])) _ _ _ _
      exact own_endR X0 hx hlk Bd.returns rfl rfl rfl (hb hby d16_47) (by decide) (by decide) (Q := (Q16f Z p0 p2 p3 p4 sA sB sC h0 n0)) (by rw [e0]; exact ⟨rfl, N0, rfl⟩)
    · refine own_go (fun _ k => XS.icmpYes X0.here hx rfl (pc0 := 23) (pc' := 30) rfl (hb hby d16_23) rfl (feq hc10).2 (by decide) (by decide) k) ?_
      show own_G _ _ _ (s₁.setTop (mkF m 30 #[.val (.int p0), .val (.int (3 : Int32)), .val (.int p2), .val (.int p3), .val (.int p4), .val .null] [])) _ _ _ _
      refine own_go (fun _ k => XS.iloadN X0.here hx rfl (hb hby d16_30) rfl k) ?_
      show own_G _ _ _ (s₁.setTop (mkF m 31 #[.val (.int p0), .val (.int (3 : Int32)), .val (.int p2), .val (.int p3), .val (.int p4), .val .null] [(.int (3 : Int32))])) _ _ _ _
      refine own_go (fun _ k => XS.iconst X0.here hx rfl (hb hby d16_31) k) ?_
      show own_G _ _ _ (s₁.setTop (mkF m 32 #[.val (.int p0), .val (.int (3 : Int32)), .val (.int p2), .val (.int p3), .val (.int p4), .val .null] [(.int (2 : Int32)), (.int (3 : Int32))])) _ _ _ _
      have hc13 : (2 : Int32) < (3 : Int32) := (by decide)
      refine own_go (fun _ k => XS.icmpNo X0.here hx rfl (hb hby d16_32) rfl (tlt hc13).2.2.2 k) ?_
      show own_G _ _ _ (s₁.setTop (mkF m 35 #[.val (.int p0), .val (.int (3 : Int32)), .val (.int p2), .val (.int p3), .val (.int p4), .val .null] [])) _ _ _ _
      refine own_go (fun _ k => XS.iload X0.here hx rfl (hb hby d16_35) rfl k) ?_
      show own_G _ _ _ (s₁.setTop (mkF m 37 #[.val (.int p0), .val (.int (3 : Int32)), .val (.int p2), .val (.int p3), .val (.int p4), .val .null] [(.int p4)])) _ _ _ _
      refine own_go (fun _ k => XS.iloadN X0.here hx rfl (hb hby d16_37) rfl k) ?_
      show own_G _ _ _ (s₁.setTop (mkF m 38 #[.val (.int p0), .val (.int (3 : Int32)), .val (.int p2), .val (.int p3), .val (.int p4), .val .null] [(.int p0), (.int p4)])) _ _ _ _
      have hc14 : p4 = p0 := hC
      refine own_go (fun _ k => XS.icmpNo X0.here hx rfl (hb hby d16_38) rfl (teq hc14).2 k) ?_
      show own_G _ _ _ (s₁.setTop (mkF m 41 #[.val (.int p0), .val (.int (3 : Int32)), .val (.int p2), .val (.int p3), .val (.int p4), .val .null] [])) _ _ _ _
      refine own_go (fun _ k => ldcR X0 hx hZ hown (refOfLit w22 L22) L22 (g := (mkF m 41 #[.val (.int p0), .val (.int (3 : Int32)), .val (.int p2), .val (.int p3), .val (.int p4), .val .null] [])) rfl (hb hby d16_41) _ k) ?_
      show own_G _ _ _ (s₁.setTop (mkF m 43 #[.val (.int p0), .val (.int (3 : Int32)), .val (.int p2), .val (.int p3), .val (.int p4), .val .null] [(.ref sC)])) _ _ _ _
      refine own_go (fun _ k => XS.astore X0.here hx rfl (hb hby d16_43) rfl rfl (l' := #[.val (.int p0), .val (.int (3 : Int32)), .val (.int p2), .val (.int p3), .val (.int p4), .val (.ref sC)]) rfl k) ?_
      show own_G _ _ _ (s₁.setTop (mkF m 45 #[.val (.int p0), .val (.int (3 : Int32)), .val (.int p2), .val (.int p3), .val (.int p4), .val (.ref sC)] [])) _ _ _ _
      refine own_go (fun _ k => XS.aload X0.here hx rfl (hb hby d16_45) rfl rfl k) ?_
      show own_G _ _ _ (s₁.setTop (mkF m 47 #[.val (.int p0), .val (.int (3 : Int32)), .val (.int p2), .val (.int p3), .val (.int p4), .val (.ref sC)] [(.ref sC)])) _ _ _ _
      exact own_endR X0 hx hlk Bd.returns rfl rfl rfl (hb hby d16_47) (by decide) (by decide) (Q := (Q16f Z p0 p2 p3 p4 sA sB sC h0 n0)) (by rw [e0]; exact ⟨rfl, N0, rfl⟩)
def Q16g (Z : State) (p0 : Int32) (p2 : Int32) (p3 : Int32) (p4 : Int32) (sA : Addr) (sB : Addr) (sC : Addr) (h0 : Heap) (n0 : Nat) (v : Option Value) (h : Heap) (L : List Loc) : Prop := v = some (.ref sB) ∧ Fr n0 L ∧ h = h0
set_option maxRecDepth 65536 in
set_option maxHeartbeats 40000000 in
theorem rm16g (l : Launch) (Z : State) (a0 : Array Value) (ws : List Jvm.Cond) (p0 : Int32) (p2 : Int32) (p3 : Int32) (p4 : Int32) (sA : Addr) (sB : Addr) (sC : Addr) (h0 : Heap) (n0 : Nat) (Z0 : n0 ≤ h0.size) (w18 : (Jvm.Cond.stringLink "com/example/issuerd/issuerd/xml/DomReferencesPinLaw" 18 "A").before a0 Z = true) (w20 : (Jvm.Cond.stringLink "com/example/issuerd/issuerd/xml/DomReferencesPinLaw" 20 "B").before a0 Z = true) (w22 : (Jvm.Cond.stringLink "com/example/issuerd/issuerd/xml/DomReferencesPinLaw" 22 "C").before a0 Z = true) (L18 : Lit Z "com/example/issuerd/issuerd/xml/DomReferencesPinLaw" 18 sA) (L20 : Lit Z "com/example/issuerd/issuerd/xml/DomReferencesPinLaw" 20 sB) (L22 : Lit Z "com/example/issuerd/issuerd/xml/DomReferencesPinLaw" 22 sC) (nC : ¬ p4 = p0) (hB : p3 = p0) :
    MetFree l (⟨"com/example/issuerd/issuerd/xml/DomReferencesPinLaw", "expected", "(IICCC)Ljava/lang/String;"⟩ : MethodName) (head1 (Jvm.Cond.code (⟨"com/example/issuerd/issuerd/xml/DomReferencesPinLaw", "expected", "(IICCC)Ljava/lang/String;"⟩ : MethodName) method_3_code 6 (some (.object "java/lang/String")) :: ws) ({ frames := 0, cells := 0, slots := 0, locals := 0 } : Room)) (fun a U => a = #[(.int p0), (.int (3 : Int32)), (.int p2), (.int p3), (.int p4)] ∧ Z.Warmed39 U.vm ∧ U.heap = h0) (fun _ _ _ _ _ => True) (fun _ U o U' => ∃ v L, o = .returned v ∧ (Q16g Z p0 p2 p3 p4 sA sB sC h0 n0) v U'.heap L ∧ FrameEnd U o U' L ({ frames := 0, cells := 0, slots := 0, locals := 0 } : Room).cells ({ frames := 0, cells := 0, slots := 0, locals := 0 } : Room).slots) := by
  refine MetFree.of_bodySF (plainFor_of_name pn_3) hisR ?_
  intro p e s m args below meth c s₁ Bd hml0 hP hK
  obtain ⟨rfl, hZ, hh⟩ := hP
  have hx := Bd.exec
  have hby := Bd.bytes
  have hml : c.maxLocals = 6 := hml0
  have hown : s.vm.findClass "com/example/issuerd/issuerd/xml/DomReferencesPinLaw" = some m.cls := findClass_of_methodNamed Bd.named
  have hnm := (name_of_methodNamed Bd.named Bd.method).1
  have hlk : meth.locks = false := BodyLoose.notSynchronized Bd
  have X0 : Stand p l e ({ frames := 0, cells := 0, slots := 0, locals := 0 } : Room) s m #[(.int p0), (.int (3 : Int32)), (.int p2), (.int p3), (.int p4)] below meth c s₁ [] 0 0 := Stand.of_body Bd
  have e0 : s₁.heap = h0 := by rw [← hh, Bd.state]; rfl
  have N0 := Fr.nil n0
  show own_G p.tables e below (s₁.setTop (entryFrame m #[(.int p0), (.int (3 : Int32)), (.int p2), (.int p3), (.int p4)] 6)) s ({ frames := 0, cells := 0, slots := 0, locals := 0 } : Room).cells ({ frames := 0, cells := 0, slots := 0, locals := 0 } : Room).slots (Q16g Z p0 p2 p3 p4 sA sB sC h0 n0)
  refine own_go (fun _ k => castTop (ef_16f m p0 p2 p3 p4) k) ?_
  show own_G _ _ _ (s₁.setTop (mkF m 0 #[.val (.int p0), .val (.int (3 : Int32)), .val (.int p2), .val (.int p3), .val (.int p4), .unset] [])) _ _ _ _
  refine own_go (fun _ k => XS.aconstNull X0.here hx rfl (hb hby d16_0) k) ?_
  show own_G _ _ _ (s₁.setTop (mkF m 1 #[.val (.int p0), .val (.int (3 : Int32)), .val (.int p2), .val (.int p3), .val (.int p4), .unset] [.null])) _ _ _ _
  refine own_go (fun _ k => XS.astore X0.here hx rfl (hb hby d16_1) rfl rfl (l' := #[.val (.int p0), .val (.int (3 : Int32)), .val (.int p2), .val (.int p3), .val (.int p4), .val .null]) rfl k) ?_
  show own_G _ _ _ (s₁.setTop (mkF m 3 #[.val (.int p0), .val (.int (3 : Int32)), .val (.int p2), .val (.int p3), .val (.int p4), .val .null] [])) _ _ _ _
  refine own_go (fun _ k => XS.iloadN X0.here hx rfl (hb hby d16_3) rfl k) ?_
  show own_G _ _ _ (s₁.setTop (mkF m 4 #[.val (.int p0), .val (.int (3 : Int32)), .val (.int p2), .val (.int p3), .val (.int p4), .val .null] [(.int (3 : Int32))])) _ _ _ _
  have hc1 : (0 : Int32) < (3 : Int32) := (by decide)
  refine own_go (fun _ k => XS.ifNo X0.here hx rfl (hb hby d16_4) rfl ((if0 _ _).trans (tlt hc1).2.2.2) k) ?_
  show own_G _ _ _ (s₁.setTop (mkF m 7 #[.val (.int p0), .val (.int (3 : Int32)), .val (.int p2), .val (.int p3), .val (.int p4), .val .null] [])) _ _ _ _
  refine own_go (fun _ k => XS.iloadN X0.here hx rfl (hb hby d16_7) rfl k) ?_
  show own_G _ _ _ (s₁.setTop (mkF m 8 #[.val (.int p0), .val (.int (3 : Int32)), .val (.int p2), .val (.int p3), .val (.int p4), .val .null] [(.int p2)])) _ _ _ _
  refine own_go (fun _ k => XS.iloadN X0.here hx rfl (hb hby d16_8) rfl k) ?_
  show own_G _ _ _ (s₁.setTop (mkF m 9 #[.val (.int p0), .val (.int (3 : Int32)), .val (.int p2), .val (.int p3), .val (.int p4), .val .null] [(.int p0), (.int p2)])) _ _ _ _
  by_cases hc2 : p2 = p0
  · refine own_go (fun _ k => XS.icmpNo X0.here hx rfl (hb hby d16_9) rfl (teq hc2).2 k) ?_
    show own_G _ _ _ (s₁.setTop (mkF m 12 #[.val (.int p0), .val (.int (3 : Int32)), .val (.int p2), .val (.int p3), .val (.int p4), .val .null] [])) _ _ _ _
    refine own_go (fun _ k => ldcR X0 hx hZ hown (refOfLit w18 L18) L18 (g := (mkF m 12 #[.val (.int p0), .val (.int (3 : Int32)), .val (.int p2), .val (.int p3), .val (.int p4), .val .null] [])) rfl (hb hby d16_12) _ k) ?_
    show own_G _ _ _ (s₁.setTop (mkF m 14 #[.val (.int p0), .val (.int (3 : Int32)), .val (.int p2), .val (.int p3), .val (.int p4), .val .null] [(.ref sA)])) _ _ _ _
    refine own_go (fun _ k => XS.astore X0.here hx rfl (hb hby d16_14) rfl rfl (l' := #[.val (.int p0), .val (.int (3 : Int32)), .val (.int p2), .val (.int p3), .val (.int p4), .val (.ref sA)]) rfl k) ?_
    show own_G _ _ _ (s₁.setTop (mkF m 16 #[.val (.int p0), .val (.int (3 : Int32)), .val (.int p2), .val (.int p3), .val (.int p4), .val (.ref sA)] [])) _ _ _ _
    refine own_go (fun _ k => XS.iloadN X0.here hx rfl (hb hby d16_16) rfl k) ?_
    show own_G _ _ _ (s₁.setTop (mkF m 17 #[.val (.int p0), .val (.int (3 : Int32)), .val (.int p2), .val (.int p3), .val (.int p4), .val (.ref sA)] [(.int (3 : Int32))])) _ _ _ _
    refine own_go (fun _ k => XS.iconst X0.here hx rfl (hb hby d16_17) k) ?_
    show own_G _ _ _ (s₁.setTop (mkF m 18 #[.val (.int p0), .val (.int (3 : Int32)), .val (.int p2), .val (.int p3), .val (.int p4), .val (.ref sA)] [(.int (1 : Int32)), (.int (3 : Int32))])) _ _ _ _
    have hc3 : (1 : Int32) < (3 : Int32) := (by decide)
    refine own_go (fun _ k => XS.icmpNo X0.here hx rfl (hb hby d16_18) rfl (tlt hc3).2.2.2 k) ?_
    show own_G _ _ _ (s₁.setTop (mkF m 21 #[.val (.int p0), .val (.int (3 : Int32)), .val (.int p2), .val (.int p3), .val (.int p4), .val (.ref sA)] [])) _ _ _ _
    refine own_go (fun _ k => XS.iloadN X0.here hx rfl (hb hby d16_21) rfl k) ?_
    show own_G _ _ _ (s₁.setTop (mkF m 22 #[.val (.int p0), .val (.int (3 : Int32)), .val (.int p2), .val (.int p3), .val (.int p4), .val (.ref sA)] [(.int p3)])) _ _ _ _
    refine own_go (fun _ k => XS.iloadN X0.here hx rfl (hb hby d16_22) rfl k) ?_
    show own_G _ _ _ (s₁.setTop (mkF m 23 #[.val (.int p0), .val (.int (3 : Int32)), .val (.int p2), .val (.int p3), .val (.int p4), .val (.ref sA)] [(.int p0), (.int p3)])) _ _ _ _
    have hc4 : p3 = p0 := hB
    refine own_go (fun _ k => XS.icmpNo X0.here hx rfl (hb hby d16_23) rfl (teq hc4).2 k) ?_
    show own_G _ _ _ (s₁.setTop (mkF m 26 #[.val (.int p0), .val (.int (3 : Int32)), .val (.int p2), .val (.int p3), .val (.int p4), .val (.ref sA)] [])) _ _ _ _
    refine own_go (fun _ k => ldcR X0 hx hZ hown (refOfLit w20 L20) L20 (g := (mkF m 26 #[.val (.int p0), .val (.int (3 : Int32)), .val (.int p2), .val (.int p3), .val (.int p4), .val (.ref sA)] [])) rfl (hb hby d16_26) _ k) ?_
    show own_G _ _ _ (s₁.setTop (mkF m 28 #[.val (.int p0), .val (.int (3 : Int32)), .val (.int p2), .val (.int p3), .val (.int p4), .val (.ref sA)] [(.ref sB)])) _ _ _ _
    refine own_go (fun _ k => XS.astore X0.here hx rfl (hb hby d16_28) rfl rfl (l' := #[.val (.int p0), .val (.int (3 : Int32)), .val (.int p2), .val (.int p3), .val (.int p4), .val (.ref sB)]) rfl k) ?_
    show own_G _ _ _ (s₁.setTop (mkF m 30 #[.val (.int p0), .val (.int (3 : Int32)), .val (.int p2), .val (.int p3), .val (.int p4), .val (.ref sB)] [])) _ _ _ _
    refine own_go (fun _ k => XS.iloadN X0.here hx rfl (hb hby d16_30) rfl k) ?_
    show own_G _ _ _ (s₁.setTop (mkF m 31 #[.val (.int p0), .val (.int (3 : Int32)), .val (.int p2), .val (.int p3), .val (.int p4), .val (.ref sB)] [(.int (3 : Int32))])) _ _ _ _
    refine own_go (fun _ k => XS.iconst X0.here hx rfl (hb hby d16_31) k) ?_
    show own_G _ _ _ (s₁.setTop (mkF m 32 #[.val (.int p0), .val (.int (3 : Int32)), .val (.int p2), .val (.int p3), .val (.int p4), .val (.ref sB)] [(.int (2 : Int32)), (.int (3 : Int32))])) _ _ _ _
    have hc5 : (2 : Int32) < (3 : Int32) := (by decide)
    refine own_go (fun _ k => XS.icmpNo X0.here hx rfl (hb hby d16_32) rfl (tlt hc5).2.2.2 k) ?_
    show own_G _ _ _ (s₁.setTop (mkF m 35 #[.val (.int p0), .val (.int (3 : Int32)), .val (.int p2), .val (.int p3), .val (.int p4), .val (.ref sB)] [])) _ _ _ _
    refine own_go (fun _ k => XS.iload X0.here hx rfl (hb hby d16_35) rfl k) ?_
    show own_G _ _ _ (s₁.setTop (mkF m 37 #[.val (.int p0), .val (.int (3 : Int32)), .val (.int p2), .val (.int p3), .val (.int p4), .val (.ref sB)] [(.int p4)])) _ _ _ _
    refine own_go (fun _ k => XS.iloadN X0.here hx rfl (hb hby d16_37) rfl k) ?_
    show own_G _ _ _ (s₁.setTop (mkF m 38 #[.val (.int p0), .val (.int (3 : Int32)), .val (.int p2), .val (.int p3), .val (.int p4), .val (.ref sB)] [(.int p0), (.int p4)])) _ _ _ _
    have hc6 : ¬ (p4 = p0) := nC
    refine own_go (fun _ k => XS.icmpYes X0.here hx rfl (pc0 := 38) (pc' := 45) rfl (hb hby d16_38) rfl (feq hc6).2 (by decide) (by decide) k) ?_
    show own_G _ _ _ (s₁.setTop (mkF m 45 #[.val (.int p0), .val (.int (3 : Int32)), .val (.int p2), .val (.int p3), .val (.int p4), .val (.ref sB)] [])) _ _ _ _
    refine own_go (fun _ k => XS.aload X0.here hx rfl (hb hby d16_45) rfl rfl k) ?_
    show own_G _ _ _ (s₁.setTop (mkF m 47 #[.val (.int p0), .val (.int (3 : Int32)), .val (.int p2), .val (.int p3), .val (.int p4), .val (.ref sB)] [(.ref sB)])) _ _ _ _
    exact own_endR X0 hx hlk Bd.returns rfl rfl rfl (hb hby d16_47) (by decide) (by decide) (Q := (Q16g Z p0 p2 p3 p4 sA sB sC h0 n0)) (by rw [e0]; exact ⟨rfl, N0, rfl⟩)
  · refine own_go (fun _ k => XS.icmpYes X0.here hx rfl (pc0 := 9) (pc' := 16) rfl (hb hby d16_9) rfl (feq hc2).2 (by decide) (by decide) k) ?_
    show own_G _ _ _ (s₁.setTop (mkF m 16 #[.val (.int p0), .val (.int (3 : Int32)), .val (.int p2), .val (.int p3), .val (.int p4), .val .null] [])) _ _ _ _
    refine own_go (fun _ k => XS.iloadN X0.here hx rfl (hb hby d16_16) rfl k) ?_
    show own_G _ _ _ (s₁.setTop (mkF m 17 #[.val (.int p0), .val (.int (3 : Int32)), .val (.int p2), .val (.int p3), .val (.int p4), .val .null] [(.int (3 : Int32))])) _ _ _ _
    refine own_go (fun _ k => XS.iconst X0.here hx rfl (hb hby d16_17) k) ?_
    show own_G _ _ _ (s₁.setTop (mkF m 18 #[.val (.int p0), .val (.int (3 : Int32)), .val (.int p2), .val (.int p3), .val (.int p4), .val .null] [(.int (1 : Int32)), (.int (3 : Int32))])) _ _ _ _
    have hc7 : (1 : Int32) < (3 : Int32) := (by decide)
    refine own_go (fun _ k => XS.icmpNo X0.here hx rfl (hb hby d16_18) rfl (tlt hc7).2.2.2 k) ?_
    show own_G _ _ _ (s₁.setTop (mkF m 21 #[.val (.int p0), .val (.int (3 : Int32)), .val (.int p2), .val (.int p3), .val (.int p4), .val .null] [])) _ _ _ _
    refine own_go (fun _ k => XS.iloadN X0.here hx rfl (hb hby d16_21) rfl k) ?_
    show own_G _ _ _ (s₁.setTop (mkF m 22 #[.val (.int p0), .val (.int (3 : Int32)), .val (.int p2), .val (.int p3), .val (.int p4), .val .null] [(.int p3)])) _ _ _ _
    refine own_go (fun _ k => XS.iloadN X0.here hx rfl (hb hby d16_22) rfl k) ?_
    show own_G _ _ _ (s₁.setTop (mkF m 23 #[.val (.int p0), .val (.int (3 : Int32)), .val (.int p2), .val (.int p3), .val (.int p4), .val .null] [(.int p0), (.int p3)])) _ _ _ _
    have hc8 : p3 = p0 := hB
    refine own_go (fun _ k => XS.icmpNo X0.here hx rfl (hb hby d16_23) rfl (teq hc8).2 k) ?_
    show own_G _ _ _ (s₁.setTop (mkF m 26 #[.val (.int p0), .val (.int (3 : Int32)), .val (.int p2), .val (.int p3), .val (.int p4), .val .null] [])) _ _ _ _
    refine own_go (fun _ k => ldcR X0 hx hZ hown (refOfLit w20 L20) L20 (g := (mkF m 26 #[.val (.int p0), .val (.int (3 : Int32)), .val (.int p2), .val (.int p3), .val (.int p4), .val .null] [])) rfl (hb hby d16_26) _ k) ?_
    show own_G _ _ _ (s₁.setTop (mkF m 28 #[.val (.int p0), .val (.int (3 : Int32)), .val (.int p2), .val (.int p3), .val (.int p4), .val .null] [(.ref sB)])) _ _ _ _
    refine own_go (fun _ k => XS.astore X0.here hx rfl (hb hby d16_28) rfl rfl (l' := #[.val (.int p0), .val (.int (3 : Int32)), .val (.int p2), .val (.int p3), .val (.int p4), .val (.ref sB)]) rfl k) ?_
    show own_G _ _ _ (s₁.setTop (mkF m 30 #[.val (.int p0), .val (.int (3 : Int32)), .val (.int p2), .val (.int p3), .val (.int p4), .val (.ref sB)] [])) _ _ _ _
    refine own_go (fun _ k => XS.iloadN X0.here hx rfl (hb hby d16_30) rfl k) ?_
    show own_G _ _ _ (s₁.setTop (mkF m 31 #[.val (.int p0), .val (.int (3 : Int32)), .val (.int p2), .val (.int p3), .val (.int p4), .val (.ref sB)] [(.int (3 : Int32))])) _ _ _ _
    refine own_go (fun _ k => XS.iconst X0.here hx rfl (hb hby d16_31) k) ?_
    show own_G _ _ _ (s₁.setTop (mkF m 32 #[.val (.int p0), .val (.int (3 : Int32)), .val (.int p2), .val (.int p3), .val (.int p4), .val (.ref sB)] [(.int (2 : Int32)), (.int (3 : Int32))])) _ _ _ _
    have hc9 : (2 : Int32) < (3 : Int32) := (by decide)
    refine own_go (fun _ k => XS.icmpNo X0.here hx rfl (hb hby d16_32) rfl (tlt hc9).2.2.2 k) ?_
    show own_G _ _ _ (s₁.setTop (mkF m 35 #[.val (.int p0), .val (.int (3 : Int32)), .val (.int p2), .val (.int p3), .val (.int p4), .val (.ref sB)] [])) _ _ _ _
    refine own_go (fun _ k => XS.iload X0.here hx rfl (hb hby d16_35) rfl k) ?_
    show own_G _ _ _ (s₁.setTop (mkF m 37 #[.val (.int p0), .val (.int (3 : Int32)), .val (.int p2), .val (.int p3), .val (.int p4), .val (.ref sB)] [(.int p4)])) _ _ _ _
    refine own_go (fun _ k => XS.iloadN X0.here hx rfl (hb hby d16_37) rfl k) ?_
    show own_G _ _ _ (s₁.setTop (mkF m 38 #[.val (.int p0), .val (.int (3 : Int32)), .val (.int p2), .val (.int p3), .val (.int p4), .val (.ref sB)] [(.int p0), (.int p4)])) _ _ _ _
    have hc10 : ¬ (p4 = p0) := nC
    refine own_go (fun _ k => XS.icmpYes X0.here hx rfl (pc0 := 38) (pc' := 45) rfl (hb hby d16_38) rfl (feq hc10).2 (by decide) (by decide) k) ?_
    show own_G _ _ _ (s₁.setTop (mkF m 45 #[.val (.int p0), .val (.int (3 : Int32)), .val (.int p2), .val (.int p3), .val (.int p4), .val (.ref sB)] [])) _ _ _ _
    refine own_go (fun _ k => XS.aload X0.here hx rfl (hb hby d16_45) rfl rfl k) ?_
    show own_G _ _ _ (s₁.setTop (mkF m 47 #[.val (.int p0), .val (.int (3 : Int32)), .val (.int p2), .val (.int p3), .val (.int p4), .val (.ref sB)] [(.ref sB)])) _ _ _ _
    exact own_endR X0 hx hlk Bd.returns rfl rfl rfl (hb hby d16_47) (by decide) (by decide) (Q := (Q16g Z p0 p2 p3 p4 sA sB sC h0 n0)) (by rw [e0]; exact ⟨rfl, N0, rfl⟩)
def Q16h (Z : State) (p0 : Int32) (p2 : Int32) (p3 : Int32) (p4 : Int32) (sA : Addr) (sB : Addr) (sC : Addr) (h0 : Heap) (n0 : Nat) (v : Option Value) (h : Heap) (L : List Loc) : Prop := v = some (.ref sA) ∧ Fr n0 L ∧ h = h0
set_option maxRecDepth 65536 in
set_option maxHeartbeats 40000000 in
theorem rm16h (l : Launch) (Z : State) (a0 : Array Value) (ws : List Jvm.Cond) (p0 : Int32) (p2 : Int32) (p3 : Int32) (p4 : Int32) (sA : Addr) (sB : Addr) (sC : Addr) (h0 : Heap) (n0 : Nat) (Z0 : n0 ≤ h0.size) (w18 : (Jvm.Cond.stringLink "com/example/issuerd/issuerd/xml/DomReferencesPinLaw" 18 "A").before a0 Z = true) (w20 : (Jvm.Cond.stringLink "com/example/issuerd/issuerd/xml/DomReferencesPinLaw" 20 "B").before a0 Z = true) (w22 : (Jvm.Cond.stringLink "com/example/issuerd/issuerd/xml/DomReferencesPinLaw" 22 "C").before a0 Z = true) (L18 : Lit Z "com/example/issuerd/issuerd/xml/DomReferencesPinLaw" 18 sA) (L20 : Lit Z "com/example/issuerd/issuerd/xml/DomReferencesPinLaw" 20 sB) (L22 : Lit Z "com/example/issuerd/issuerd/xml/DomReferencesPinLaw" 22 sC) (nC : ¬ p4 = p0) (nB : ¬ p3 = p0) (hA : p2 = p0) :
    MetFree l (⟨"com/example/issuerd/issuerd/xml/DomReferencesPinLaw", "expected", "(IICCC)Ljava/lang/String;"⟩ : MethodName) (head1 (Jvm.Cond.code (⟨"com/example/issuerd/issuerd/xml/DomReferencesPinLaw", "expected", "(IICCC)Ljava/lang/String;"⟩ : MethodName) method_3_code 6 (some (.object "java/lang/String")) :: ws) ({ frames := 0, cells := 0, slots := 0, locals := 0 } : Room)) (fun a U => a = #[(.int p0), (.int (3 : Int32)), (.int p2), (.int p3), (.int p4)] ∧ Z.Warmed39 U.vm ∧ U.heap = h0) (fun _ _ _ _ _ => True) (fun _ U o U' => ∃ v L, o = .returned v ∧ (Q16h Z p0 p2 p3 p4 sA sB sC h0 n0) v U'.heap L ∧ FrameEnd U o U' L ({ frames := 0, cells := 0, slots := 0, locals := 0 } : Room).cells ({ frames := 0, cells := 0, slots := 0, locals := 0 } : Room).slots) := by
  refine MetFree.of_bodySF (plainFor_of_name pn_3) hisR ?_
  intro p e s m args below meth c s₁ Bd hml0 hP hK
  obtain ⟨rfl, hZ, hh⟩ := hP
  have hx := Bd.exec
  have hby := Bd.bytes
  have hml : c.maxLocals = 6 := hml0
  have hown : s.vm.findClass "com/example/issuerd/issuerd/xml/DomReferencesPinLaw" = some m.cls := findClass_of_methodNamed Bd.named
  have hnm := (name_of_methodNamed Bd.named Bd.method).1
  have hlk : meth.locks = false := BodyLoose.notSynchronized Bd
  have X0 : Stand p l e ({ frames := 0, cells := 0, slots := 0, locals := 0 } : Room) s m #[(.int p0), (.int (3 : Int32)), (.int p2), (.int p3), (.int p4)] below meth c s₁ [] 0 0 := Stand.of_body Bd
  have e0 : s₁.heap = h0 := by rw [← hh, Bd.state]; rfl
  have N0 := Fr.nil n0
  show own_G p.tables e below (s₁.setTop (entryFrame m #[(.int p0), (.int (3 : Int32)), (.int p2), (.int p3), (.int p4)] 6)) s ({ frames := 0, cells := 0, slots := 0, locals := 0 } : Room).cells ({ frames := 0, cells := 0, slots := 0, locals := 0 } : Room).slots (Q16h Z p0 p2 p3 p4 sA sB sC h0 n0)
  refine own_go (fun _ k => castTop (ef_16f m p0 p2 p3 p4) k) ?_
  show own_G _ _ _ (s₁.setTop (mkF m 0 #[.val (.int p0), .val (.int (3 : Int32)), .val (.int p2), .val (.int p3), .val (.int p4), .unset] [])) _ _ _ _
  refine own_go (fun _ k => XS.aconstNull X0.here hx rfl (hb hby d16_0) k) ?_
  show own_G _ _ _ (s₁.setTop (mkF m 1 #[.val (.int p0), .val (.int (3 : Int32)), .val (.int p2), .val (.int p3), .val (.int p4), .unset] [.null])) _ _ _ _
  refine own_go (fun _ k => XS.astore X0.here hx rfl (hb hby d16_1) rfl rfl (l' := #[.val (.int p0), .val (.int (3 : Int32)), .val (.int p2), .val (.int p3), .val (.int p4), .val .null]) rfl k) ?_
  show own_G _ _ _ (s₁.setTop (mkF m 3 #[.val (.int p0), .val (.int (3 : Int32)), .val (.int p2), .val (.int p3), .val (.int p4), .val .null] [])) _ _ _ _
  refine own_go (fun _ k => XS.iloadN X0.here hx rfl (hb hby d16_3) rfl k) ?_
  show own_G _ _ _ (s₁.setTop (mkF m 4 #[.val (.int p0), .val (.int (3 : Int32)), .val (.int p2), .val (.int p3), .val (.int p4), .val .null] [(.int (3 : Int32))])) _ _ _ _
  have hc1 : (0 : Int32) < (3 : Int32) := (by decide)
  refine own_go (fun _ k => XS.ifNo X0.here hx rfl (hb hby d16_4) rfl ((if0 _ _).trans (tlt hc1).2.2.2) k) ?_
  show own_G _ _ _ (s₁.setTop (mkF m 7 #[.val (.int p0), .val (.int (3 : Int32)), .val (.int p2), .val (.int p3), .val (.int p4), .val .null] [])) _ _ _ _
  refine own_go (fun _ k => XS.iloadN X0.here hx rfl (hb hby d16_7) rfl k) ?_
  show own_G _ _ _ (s₁.setTop (mkF m 8 #[.val (.int p0), .val (.int (3 : Int32)), .val (.int p2), .val (.int p3), .val (.int p4), .val .null] [(.int p2)])) _ _ _ _
  refine own_go (fun _ k => XS.iloadN X0.here hx rfl (hb hby d16_8) rfl k) ?_
  show own_G _ _ _ (s₁.setTop (mkF m 9 #[.val (.int p0), .val (.int (3 : Int32)), .val (.int p2), .val (.int p3), .val (.int p4), .val .null] [(.int p0), (.int p2)])) _ _ _ _
  have hc2 : p2 = p0 := hA
  refine own_go (fun _ k => XS.icmpNo X0.here hx rfl (hb hby d16_9) rfl (teq hc2).2 k) ?_
  show own_G _ _ _ (s₁.setTop (mkF m 12 #[.val (.int p0), .val (.int (3 : Int32)), .val (.int p2), .val (.int p3), .val (.int p4), .val .null] [])) _ _ _ _
  refine own_go (fun _ k => ldcR X0 hx hZ hown (refOfLit w18 L18) L18 (g := (mkF m 12 #[.val (.int p0), .val (.int (3 : Int32)), .val (.int p2), .val (.int p3), .val (.int p4), .val .null] [])) rfl (hb hby d16_12) _ k) ?_
  show own_G _ _ _ (s₁.setTop (mkF m 14 #[.val (.int p0), .val (.int (3 : Int32)), .val (.int p2), .val (.int p3), .val (.int p4), .val .null] [(.ref sA)])) _ _ _ _
  refine own_go (fun _ k => XS.astore X0.here hx rfl (hb hby d16_14) rfl rfl (l' := #[.val (.int p0), .val (.int (3 : Int32)), .val (.int p2), .val (.int p3), .val (.int p4), .val (.ref sA)]) rfl k) ?_
  show own_G _ _ _ (s₁.setTop (mkF m 16 #[.val (.int p0), .val (.int (3 : Int32)), .val (.int p2), .val (.int p3), .val (.int p4), .val (.ref sA)] [])) _ _ _ _
  refine own_go (fun _ k => XS.iloadN X0.here hx rfl (hb hby d16_16) rfl k) ?_
  show own_G _ _ _ (s₁.setTop (mkF m 17 #[.val (.int p0), .val (.int (3 : Int32)), .val (.int p2), .val (.int p3), .val (.int p4), .val (.ref sA)] [(.int (3 : Int32))])) _ _ _ _
  refine own_go (fun _ k => XS.iconst X0.here hx rfl (hb hby d16_17) k) ?_
  show own_G _ _ _ (s₁.setTop (mkF m 18 #[.val (.int p0), .val (.int (3 : Int32)), .val (.int p2), .val (.int p3), .val (.int p4), .val (.ref sA)] [(.int (1 : Int32)), (.int (3 : Int32))])) _ _ _ _
  have hc3 : (1 : Int32) < (3 : Int32) := (by decide)
  refine own_go (fun _ k => XS.icmpNo X0.here hx rfl (hb hby d16_18) rfl (tlt hc3).2.2.2 k) ?_
  show own_G _ _ _ (s₁.setTop (mkF m 21 #[.val (.int p0), .val (.int (3 : Int32)), .val (.int p2), .val (.int p3), .val (.int p4), .val (.ref sA)] [])) _ _ _ _
  refine own_go (fun _ k => XS.iloadN X0.here hx rfl (hb hby d16_21) rfl k) ?_
  show own_G _ _ _ (s₁.setTop (mkF m 22 #[.val (.int p0), .val (.int (3 : Int32)), .val (.int p2), .val (.int p3), .val (.int p4), .val (.ref sA)] [(.int p3)])) _ _ _ _
  refine own_go (fun _ k => XS.iloadN X0.here hx rfl (hb hby d16_22) rfl k) ?_
  show own_G _ _ _ (s₁.setTop (mkF m 23 #[.val (.int p0), .val (.int (3 : Int32)), .val (.int p2), .val (.int p3), .val (.int p4), .val (.ref sA)] [(.int p0), (.int p3)])) _ _ _ _
  have hc4 : ¬ (p3 = p0) := nB
  refine own_go (fun _ k => XS.icmpYes X0.here hx rfl (pc0 := 23) (pc' := 30) rfl (hb hby d16_23) rfl (feq hc4).2 (by decide) (by decide) k) ?_
  show own_G _ _ _ (s₁.setTop (mkF m 30 #[.val (.int p0), .val (.int (3 : Int32)), .val (.int p2), .val (.int p3), .val (.int p4), .val (.ref sA)] [])) _ _ _ _
  refine own_go (fun _ k => XS.iloadN X0.here hx rfl (hb hby d16_30) rfl k) ?_
  show own_G _ _ _ (s₁.setTop (mkF m 31 #[.val (.int p0), .val (.int (3 : Int32)), .val (.int p2), .val (.int p3), .val (.int p4), .val (.ref sA)] [(.int (3 : Int32))])) _ _ _ _
  refine own_go (fun _ k => XS.iconst X0.here hx rfl (hb hby d16_31) k) ?_
  show own_G _ _ _ (s₁.setTop (mkF m 32 #[.val (.int p0), .val (.int (3 : Int32)), .val (.int p2), .val (.int p3), .val (.int p4), .val (.ref sA)] [(.int (2 : Int32)), (.int (3 : Int32))])) _ _ _ _
  have hc5 : (2 : Int32) < (3 : Int32) := (by decide)
  refine own_go (fun _ k => XS.icmpNo X0.here hx rfl (hb hby d16_32) rfl (tlt hc5).2.2.2 k) ?_
  show own_G _ _ _ (s₁.setTop (mkF m 35 #[.val (.int p0), .val (.int (3 : Int32)), .val (.int p2), .val (.int p3), .val (.int p4), .val (.ref sA)] [])) _ _ _ _
  refine own_go (fun _ k => XS.iload X0.here hx rfl (hb hby d16_35) rfl k) ?_
  show own_G _ _ _ (s₁.setTop (mkF m 37 #[.val (.int p0), .val (.int (3 : Int32)), .val (.int p2), .val (.int p3), .val (.int p4), .val (.ref sA)] [(.int p4)])) _ _ _ _
  refine own_go (fun _ k => XS.iloadN X0.here hx rfl (hb hby d16_37) rfl k) ?_
  show own_G _ _ _ (s₁.setTop (mkF m 38 #[.val (.int p0), .val (.int (3 : Int32)), .val (.int p2), .val (.int p3), .val (.int p4), .val (.ref sA)] [(.int p0), (.int p4)])) _ _ _ _
  have hc6 : ¬ (p4 = p0) := nC
  refine own_go (fun _ k => XS.icmpYes X0.here hx rfl (pc0 := 38) (pc' := 45) rfl (hb hby d16_38) rfl (feq hc6).2 (by decide) (by decide) k) ?_
  show own_G _ _ _ (s₁.setTop (mkF m 45 #[.val (.int p0), .val (.int (3 : Int32)), .val (.int p2), .val (.int p3), .val (.int p4), .val (.ref sA)] [])) _ _ _ _
  refine own_go (fun _ k => XS.aload X0.here hx rfl (hb hby d16_45) rfl rfl k) ?_
  show own_G _ _ _ (s₁.setTop (mkF m 47 #[.val (.int p0), .val (.int (3 : Int32)), .val (.int p2), .val (.int p3), .val (.int p4), .val (.ref sA)] [(.ref sA)])) _ _ _ _
  exact own_endR X0 hx hlk Bd.returns rfl rfl rfl (hb hby d16_47) (by decide) (by decide) (Q := (Q16h Z p0 p2 p3 p4 sA sB sC h0 n0)) (by rw [e0]; exact ⟨rfl, N0, rfl⟩)
def Q16i (Z : State) (p0 : Int32) (p2 : Int32) (p3 : Int32) (p4 : Int32) (sA : Addr) (sB : Addr) (sC : Addr) (h0 : Heap) (n0 : Nat) (v : Option Value) (h : Heap) (L : List Loc) : Prop := v = some .null ∧ Fr n0 L ∧ h = h0
set_option maxRecDepth 65536 in
set_option maxHeartbeats 40000000 in
theorem rm16i (l : Launch) (Z : State) (a0 : Array Value) (ws : List Jvm.Cond) (p0 : Int32) (p2 : Int32) (p3 : Int32) (p4 : Int32) (sA : Addr) (sB : Addr) (sC : Addr) (h0 : Heap) (n0 : Nat) (Z0 : n0 ≤ h0.size) (w18 : (Jvm.Cond.stringLink "com/example/issuerd/issuerd/xml/DomReferencesPinLaw" 18 "A").before a0 Z = true) (w20 : (Jvm.Cond.stringLink "com/example/issuerd/issuerd/xml/DomReferencesPinLaw" 20 "B").before a0 Z = true) (w22 : (Jvm.Cond.stringLink "com/example/issuerd/issuerd/xml/DomReferencesPinLaw" 22 "C").before a0 Z = true) (L18 : Lit Z "com/example/issuerd/issuerd/xml/DomReferencesPinLaw" 18 sA) (L20 : Lit Z "com/example/issuerd/issuerd/xml/DomReferencesPinLaw" 20 sB) (L22 : Lit Z "com/example/issuerd/issuerd/xml/DomReferencesPinLaw" 22 sC) (nC : ¬ p4 = p0) (nB : ¬ p3 = p0) (nA : ¬ p2 = p0) :
    MetFree l (⟨"com/example/issuerd/issuerd/xml/DomReferencesPinLaw", "expected", "(IICCC)Ljava/lang/String;"⟩ : MethodName) (head1 (Jvm.Cond.code (⟨"com/example/issuerd/issuerd/xml/DomReferencesPinLaw", "expected", "(IICCC)Ljava/lang/String;"⟩ : MethodName) method_3_code 6 (some (.object "java/lang/String")) :: ws) ({ frames := 0, cells := 0, slots := 0, locals := 0 } : Room)) (fun a U => a = #[(.int p0), (.int (3 : Int32)), (.int p2), (.int p3), (.int p4)] ∧ Z.Warmed39 U.vm ∧ U.heap = h0) (fun _ _ _ _ _ => True) (fun _ U o U' => ∃ v L, o = .returned v ∧ (Q16i Z p0 p2 p3 p4 sA sB sC h0 n0) v U'.heap L ∧ FrameEnd U o U' L ({ frames := 0, cells := 0, slots := 0, locals := 0 } : Room).cells ({ frames := 0, cells := 0, slots := 0, locals := 0 } : Room).slots) := by
  refine MetFree.of_bodySF (plainFor_of_name pn_3) hisR ?_
  intro p e s m args below meth c s₁ Bd hml0 hP hK
  obtain ⟨rfl, hZ, hh⟩ := hP
  have hx := Bd.exec
  have hby := Bd.bytes
  have hml : c.maxLocals = 6 := hml0
  have hown : s.vm.findClass "com/example/issuerd/issuerd/xml/DomReferencesPinLaw" = some m.cls := findClass_of_methodNamed Bd.named
  have hnm := (name_of_methodNamed Bd.named Bd.method).1
  have hlk : meth.locks = false := BodyLoose.notSynchronized Bd
  have X0 : Stand p l e ({ frames := 0, cells := 0, slots := 0, locals := 0 } : Room) s m #[(.int p0), (.int (3 : Int32)), (.int p2), (.int p3), (.int p4)] below meth c s₁ [] 0 0 := Stand.of_body Bd
  have e0 : s₁.heap = h0 := by rw [← hh, Bd.state]; rfl
  have N0 := Fr.nil n0
  show own_G p.tables e below (s₁.setTop (entryFrame m #[(.int p0), (.int (3 : Int32)), (.int p2), (.int p3), (.int p4)] 6)) s ({ frames := 0, cells := 0, slots := 0, locals := 0 } : Room).cells ({ frames := 0, cells := 0, slots := 0, locals := 0 } : Room).slots (Q16i Z p0 p2 p3 p4 sA sB sC h0 n0)
  refine own_go (fun _ k => castTop (ef_16f m p0 p2 p3 p4) k) ?_
  show own_G _ _ _ (s₁.setTop (mkF m 0 #[.val (.int p0), .val (.int (3 : Int32)), .val (.int p2), .val (.int p3), .val (.int p4), .unset] [])) _ _ _ _
  refine own_go (fun _ k => XS.aconstNull X0.here hx rfl (hb hby d16_0) k) ?_
  show own_G _ _ _ (s₁.setTop (mkF m 1 #[.val (.int p0), .val (.int (3 : Int32)), .val (.int p2), .val (.int p3), .val (.int p4), .unset] [.null])) _ _ _ _
  refine own_go (fun _ k => XS.astore X0.here hx rfl (hb hby d16_1) rfl rfl (l' := #[.val (.int p0), .val (.int (3 : Int32)), .val (.int p2), .val (.int p3), .val (.int p4), .val .null]) rfl k) ?_
  show own_G _ _ _ (s₁.setTop (mkF m 3 #[.val (.int p0), .val (.int (3 : Int32)), .val (.int p2), .val (.int p3), .val (.int p4), .val .null] [])) _ _ _ _
  refine own_go (fun _ k => XS.iloadN X0.here hx rfl (hb hby d16_3) rfl k) ?_
  show own_G _ _ _ (s₁.setTop (mkF m 4 #[.val (.int p0), .val (.int (3 : Int32)), .val (.int p2), .val (.int p3), .val (.int p4), .val .null] [(.int (3 : Int32))])) _ _ _ _
  have hc1 : (0 : Int32) < (3 : Int32) := (by decide)
  refine own_go (fun _ k => XS.ifNo X0.here hx rfl (hb hby d16_4) rfl ((if0 _ _).trans (tlt hc1).2.2.2) k) ?_
  show own_G _ _ _ (s₁.setTop (mkF m 7 #[.val (.int p0), .val (.int (3 : Int32)), .val (.int p2), .val (.int p3), .val (.int p4), .val .null] [])) _ _ _ _
  refine own_go (fun _ k => XS.iloadN X0.here hx rfl (hb hby d16_7) rfl k) ?_
  show own_G _ _ _ (s₁.setTop (mkF m 8 #[.val (.int p0), .val (.int (3 : Int32)), .val (.int p2), .val (.int p3), .val (.int p4), .val .null] [(.int p2)])) _ _ _ _
  refine own_go (fun _ k => XS.iloadN X0.here hx rfl (hb hby d16_8) rfl k) ?_
  show own_G _ _ _ (s₁.setTop (mkF m 9 #[.val (.int p0), .val (.int (3 : Int32)), .val (.int p2), .val (.int p3), .val (.int p4), .val .null] [(.int p0), (.int p2)])) _ _ _ _
  have hc2 : ¬ (p2 = p0) := nA
  refine own_go (fun _ k => XS.icmpYes X0.here hx rfl (pc0 := 9) (pc' := 16) rfl (hb hby d16_9) rfl (feq hc2).2 (by decide) (by decide) k) ?_
  show own_G _ _ _ (s₁.setTop (mkF m 16 #[.val (.int p0), .val (.int (3 : Int32)), .val (.int p2), .val (.int p3), .val (.int p4), .val .null] [])) _ _ _ _
  refine own_go (fun _ k => XS.iloadN X0.here hx rfl (hb hby d16_16) rfl k) ?_
  show own_G _ _ _ (s₁.setTop (mkF m 17 #[.val (.int p0), .val (.int (3 : Int32)), .val (.int p2), .val (.int p3), .val (.int p4), .val .null] [(.int (3 : Int32))])) _ _ _ _
  refine own_go (fun _ k => XS.iconst X0.here hx rfl (hb hby d16_17) k) ?_
  show own_G _ _ _ (s₁.setTop (mkF m 18 #[.val (.int p0), .val (.int (3 : Int32)), .val (.int p2), .val (.int p3), .val (.int p4), .val .null] [(.int (1 : Int32)), (.int (3 : Int32))])) _ _ _ _
  have hc3 : (1 : Int32) < (3 : Int32) := (by decide)
  refine own_go (fun _ k => XS.icmpNo X0.here hx rfl (hb hby d16_18) rfl (tlt hc3).2.2.2 k) ?_
  show own_G _ _ _ (s₁.setTop (mkF m 21 #[.val (.int p0), .val (.int (3 : Int32)), .val (.int p2), .val (.int p3), .val (.int p4), .val .null] [])) _ _ _ _
  refine own_go (fun _ k => XS.iloadN X0.here hx rfl (hb hby d16_21) rfl k) ?_
  show own_G _ _ _ (s₁.setTop (mkF m 22 #[.val (.int p0), .val (.int (3 : Int32)), .val (.int p2), .val (.int p3), .val (.int p4), .val .null] [(.int p3)])) _ _ _ _
  refine own_go (fun _ k => XS.iloadN X0.here hx rfl (hb hby d16_22) rfl k) ?_
  show own_G _ _ _ (s₁.setTop (mkF m 23 #[.val (.int p0), .val (.int (3 : Int32)), .val (.int p2), .val (.int p3), .val (.int p4), .val .null] [(.int p0), (.int p3)])) _ _ _ _
  have hc4 : ¬ (p3 = p0) := nB
  refine own_go (fun _ k => XS.icmpYes X0.here hx rfl (pc0 := 23) (pc' := 30) rfl (hb hby d16_23) rfl (feq hc4).2 (by decide) (by decide) k) ?_
  show own_G _ _ _ (s₁.setTop (mkF m 30 #[.val (.int p0), .val (.int (3 : Int32)), .val (.int p2), .val (.int p3), .val (.int p4), .val .null] [])) _ _ _ _
  refine own_go (fun _ k => XS.iloadN X0.here hx rfl (hb hby d16_30) rfl k) ?_
  show own_G _ _ _ (s₁.setTop (mkF m 31 #[.val (.int p0), .val (.int (3 : Int32)), .val (.int p2), .val (.int p3), .val (.int p4), .val .null] [(.int (3 : Int32))])) _ _ _ _
  refine own_go (fun _ k => XS.iconst X0.here hx rfl (hb hby d16_31) k) ?_
  show own_G _ _ _ (s₁.setTop (mkF m 32 #[.val (.int p0), .val (.int (3 : Int32)), .val (.int p2), .val (.int p3), .val (.int p4), .val .null] [(.int (2 : Int32)), (.int (3 : Int32))])) _ _ _ _
  have hc5 : (2 : Int32) < (3 : Int32) := (by decide)
  refine own_go (fun _ k => XS.icmpNo X0.here hx rfl (hb hby d16_32) rfl (tlt hc5).2.2.2 k) ?_
  show own_G _ _ _ (s₁.setTop (mkF m 35 #[.val (.int p0), .val (.int (3 : Int32)), .val (.int p2), .val (.int p3), .val (.int p4), .val .null] [])) _ _ _ _
  refine own_go (fun _ k => XS.iload X0.here hx rfl (hb hby d16_35) rfl k) ?_
  show own_G _ _ _ (s₁.setTop (mkF m 37 #[.val (.int p0), .val (.int (3 : Int32)), .val (.int p2), .val (.int p3), .val (.int p4), .val .null] [(.int p4)])) _ _ _ _
  refine own_go (fun _ k => XS.iloadN X0.here hx rfl (hb hby d16_37) rfl k) ?_
  show own_G _ _ _ (s₁.setTop (mkF m 38 #[.val (.int p0), .val (.int (3 : Int32)), .val (.int p2), .val (.int p3), .val (.int p4), .val .null] [(.int p0), (.int p4)])) _ _ _ _
  have hc6 : ¬ (p4 = p0) := nC
  refine own_go (fun _ k => XS.icmpYes X0.here hx rfl (pc0 := 38) (pc' := 45) rfl (hb hby d16_38) rfl (feq hc6).2 (by decide) (by decide) k) ?_
  show own_G _ _ _ (s₁.setTop (mkF m 45 #[.val (.int p0), .val (.int (3 : Int32)), .val (.int p2), .val (.int p3), .val (.int p4), .val .null] [])) _ _ _ _
  refine own_go (fun _ k => XS.aload X0.here hx rfl (hb hby d16_45) rfl rfl k) ?_
  show own_G _ _ _ (s₁.setTop (mkF m 47 #[.val (.int p0), .val (.int (3 : Int32)), .val (.int p2), .val (.int p3), .val (.int p4), .val .null] [.null])) _ _ _ _
  exact own_endR X0 hx hlk Bd.returns rfl rfl rfl (hb hby d16_47) (by decide) (by decide) (Q := (Q16i Z p0 p2 p3 p4 sA sB sC h0 n0)) (by rw [e0]; exact ⟨rfl, N0, rfl⟩)
theorem own_c1 (x0 q : Int32) : x0 = q ∨ ¬ x0 = q := Classical.em _
theorem own_c2 (x0 x1 q : Int32) : x1 = q ∨ (¬ x1 = q ∧ x0 = q) ∨ (¬ x1 = q ∧ ¬ x0 = q) := by
  by_cases h : x1 = q
  · exact Or.inl h
  · by_cases h2 : x0 = q
    · exact Or.inr (Or.inl ⟨h, h2⟩)
    · exact Or.inr (Or.inr ⟨h, h2⟩)
theorem own_c3 (x0 x1 x2 q : Int32) : x2 = q ∨ (¬ x2 = q ∧ x1 = q) ∨ (¬ x2 = q ∧ ¬ x1 = q ∧ x0 = q) ∨ (¬ x2 = q ∧ ¬ x1 = q ∧ ¬ x0 = q) := by
  by_cases h : x2 = q
  · exact Or.inl h
  · by_cases h2 : x1 = q
    · exact Or.inr (Or.inl ⟨h, h2⟩)
    · by_cases h3 : x0 = q
      · exact Or.inr (Or.inr (Or.inl ⟨h, h2, h3⟩))
      · exact Or.inr (Or.inr (Or.inr ⟨h, h2, h3⟩))
theorem pd_6 : parseMethodDescriptor "(Ljava/lang/String;[Ljava/lang/String;)[Ljava/lang/String;" = some ⟨[(.object "java/lang/String"), (.array (.object "java/lang/String"))], some (.array (.object "java/lang/String"))⟩ := by decide +kernel
theorem pd_7 : parseMethodDescriptor "(C)Ljava/lang/String;" = some ⟨[.char], some (.object "java/lang/String")⟩ := by decide +kernel
theorem pd_8 : parseMethodDescriptor "(IICCC)Ljava/lang/String;" = some ⟨[.int, .int, .char, .char, .char], some (.object "java/lang/String")⟩ := by decide +kernel
theorem pd_9 : parseMethodDescriptor "([C)V" = some ⟨[(.array .char)], none⟩ := by decide +kernel
theorem ef_0 (m : MethodId) (p0 : Int32) (p1 : Int32) (p2 : Int32) (p3 : Int32) (p4 : Int32) : entryFrame m #[(.int p0), (.int p1), (.int p2), (.int p3), (.int p4)] maxLocals = mkF m 0 #[.val (.int p0), .val (.int p1), .val (.int p2), .val (.int p3), .val (.int p4), .unset, .unset, .unset, .unset, .unset, .unset, .unset, .unset, .unset, .unset] [] := by first | (simp [entryFrame, mkF, argsToLocals, Value.category, maxLocals]; done) | rfl
def Q0 (Z : State) (p0 : Int32) (p1 : Int32) (p2 : Int32) (p3 : Int32) (p4 : Int32) (zc : Int32) (fm : Value) (h0 : Heap) (n0 : Nat) (v : Option Value) (h : Heap) (L : List Loc) : Prop := v = some (.int (1 : Int32)) ∧ Fr n0 L ∧ Keep h0 h []
set_option maxRecDepth 65536 in
set_option maxHeartbeats 40000000 in
theorem rm0 (l : Launch) (Z : State) (a0 : Array Value) (hw : ∀ d ∈ tables_1, d.before a0 Z = true) (ws : List Jvm.Cond) (p0 : Int32) (p1 : Int32) (p2 : Int32) (p3 : Int32) (p4 : Int32) (zc : Int32) (fm : Value) (h0 : Heap) (n0 : Nat) (Z0 : n0 ≤ h0.size) (P_Old : Old Z n0 h0) (P_ZS_java_lang_String_COMPACT_STRINGS : Sta Z Z.heap "java/lang/String" "COMPACT_STRINGS" "Z" (.int zc)) (hcs : ¬ zc = 0) (P_ZS_jdk_internal_util_Preconditions_SIOOBE_FORMATTER : Sta Z Z.heap "jdk/internal/util/Preconditions" "SIOOBE_FORMATTER" "Ljava/util/function/BiFunction;" fm) (hfm : fm.isRef = true) :
    MetFree l x (head1 (Jvm.Cond.code x code maxLocals ret :: ws) room_1) (fun a U => a = #[(.int p0), (.int p1), (.int p2), (.int p3), (.int p4)] ∧ Z.Warmed39 U.vm ∧ U.heap = h0 ∧ CHv Z own_EL U.vm h0) (fun _ _ _ _ _ => True) (fun _ U o U' => ∃ v L, o = .returned v ∧ (Q0 Z p0 p1 p2 p3 p4 zc fm h0 n0) v U'.heap L ∧ CHr Z own_EL U.vm U.heap U'.vm U'.heap ∧ ReturnedEndW U o U' L room_1.cells room_1.slots) := by
  refine MetFree.of_bodySF (plainFor_of_name pn_3) hisR ?_
  intro p e s m args below meth c s₁ Bd hml0 hP hK
  obtain ⟨rfl, hZ, hh, H0⟩ := hP
  have hx := Bd.exec
  have hby := Bd.bytes
  have hml : c.maxLocals = 15 := hml0
  have hown : s.vm.findClass "com/example/issuerd/issuerd/xml/DomReferencesPinLaw" = some m.cls := findClass_of_methodNamed Bd.named
  have hnm := (name_of_methodNamed Bd.named Bd.method).1
  have hlk : meth.locks = false := BodyLoose.notSynchronized Bd
  have X0 : Stand p l e room_1 (s.setVm s.vm) m #[(.int p0), (.int p1), (.int p2), (.int p3), (.int p4)] below meth c s₁ [] 0 0 := Stand.of_body Bd
  have e0 : s₁.heap = h0 := by rw [← hh, Bd.state]; rfl
  have N0 := Fr.nil n0
  have hS0 := (State.WarmedH.refl s).since s.heap.size
  have hk0 : s.heap.size ≤ h0.size := by rw [hh]; exact Nat.le_refl _
  have CR0 : CHr Z own_EL s.vm h0 s.vm h0 := CHr.refl H0
  have KS0 : Keep h0 h0 [] := Keep.refl _ _
  have K0 : Keep h0 h0 [] := Keep.refl h0 []
  show own_GW p.tables e below (s₁.setTop (entryFrame m #[(.int p0), (.int p1), (.int p2), (.int p3), (.int p4)] maxLocals)) s room_1.cells room_1.slots Z own_EL (Q0 Z p0 p1 p2 p3 p4 zc fm h0 n0)
  refine own_goW (fun _ k => castTop (ef_0 m p0 p1 p2 p3 p4) k) ?_
  show own_GW _ _ _ (s₁.setTop (mkF m 0 #[.val (.int p0), .val (.int p1), .val (.int p2), .val (.int p3), .val (.int p4), .unset, .unset, .unset, .unset, .unset, .unset, .unset, .unset, .unset, .unset] [])) _ _ _ _ _ _
  refine own_goW (fun _ k => XS.iloadN X0.here hx rfl (hb hby at_0) rfl k) ?_
  show own_GW _ _ _ (s₁.setTop (mkF m 1 #[.val (.int p0), .val (.int p1), .val (.int p2), .val (.int p3), .val (.int p4), .unset, .unset, .unset, .unset, .unset, .unset, .unset, .unset, .unset, .unset] [(.int p0)])) _ _ _ _ _ _
  refine own_goW (fun _ k => XS.iconst X0.here hx rfl (hb hby at_1) k) ?_
  show own_GW _ _ _ (s₁.setTop (mkF m 2 #[.val (.int p0), .val (.int p1), .val (.int p2), .val (.int p3), .val (.int p4), .unset, .unset, .unset, .unset, .unset, .unset, .unset, .unset, .unset, .unset] [(.int (3 : Int32)), (.int p0)])) _ _ _ _ _ _
  refine own_goW (fun _ k => XS.iand X0.here hx rfl (hb hby at_2) rfl k) ?_
  show own_GW _ _ _ (s₁.setTop (mkF m 3 #[.val (.int p0), .val (.int p1), .val (.int p2), .val (.int p3), .val (.int p4), .unset, .unset, .unset, .unset, .unset, .unset, .unset, .unset, .unset, .unset] [(.int (p0 &&& (3 : Int32)))])) _ _ _ _ _ _
  rcases own_n p0 with hn | hn | hn | hn
  · rw [hn]
    show own_GW _ _ _ (s₁.setTop (mkF m 3 #[.val (.int p0), .val (.int p1), .val (.int p2), .val (.int p3), .val (.int p4), .unset, .unset, .unset, .unset, .unset, .unset, .unset, .unset, .unset, .unset] [(.int (0 : Int32))])) _ _ _ _ _ _
    refine own_goW (fun _ k => XS.istore X0.here hx rfl (hb hby at_3) rfl (l' := #[.val (.int p0), .val (.int p1), .val (.int p2), .val (.int p3), .val (.int p4), .val (.int (0 : Int32)), .unset, .unset, .unset, .unset, .unset, .unset, .unset, .unset, .unset]) rfl k) ?_
    show own_GW _ _ _ (s₁.setTop (mkF m 5 #[.val (.int p0), .val (.int p1), .val (.int p2), .val (.int p3), .val (.int p4), .val (.int (0 : Int32)), .unset, .unset, .unset, .unset, .unset, .unset, .unset, .unset, .unset] [])) _ _ _ _ _ _
    refine own_goW (fun _ k => XS.iloadN X0.here hx rfl (hb hby at_5) rfl k) ?_
    show own_GW _ _ _ (s₁.setTop (mkF m 6 #[.val (.int p0), .val (.int p1), .val (.int p2), .val (.int p3), .val (.int p4), .val (.int (0 : Int32)), .unset, .unset, .unset, .unset, .unset, .unset, .unset, .unset, .unset] [(.int p1)])) _ _ _ _ _ _
    refine own_goW (fun _ k => XS.bipush X0.here hx rfl (hb hby at_6) k) ?_
    show own_GW _ _ _ (s₁.setTop (mkF m 8 #[.val (.int p0), .val (.int p1), .val (.int p2), .val (.int p3), .val (.int p4), .val (.int (0 : Int32)), .unset, .unset, .unset, .unset, .unset, .unset, .unset, .unset, .unset] [(.int (127 : Int32)), (.int p1)])) _ _ _ _ _ _
    refine own_goW (fun _ k => XS.iand X0.here hx rfl (hb hby at_8) rfl k) ?_
    show own_GW _ _ _ (s₁.setTop (mkF m 9 #[.val (.int p0), .val (.int p1), .val (.int p2), .val (.int p3), .val (.int p4), .val (.int (0 : Int32)), .unset, .unset, .unset, .unset, .unset, .unset, .unset, .unset, .unset] [(.int (p1 &&& (127 : Int32)))])) _ _ _ _ _ _
    refine own_goW (fun _ k => XS.i2c X0.here hx rfl (hb hby at_9) rfl k) ?_
    show own_GW _ _ _ (s₁.setTop (mkF m 10 #[.val (.int p0), .val (.int p1), .val (.int p2), .val (.int p3), .val (.int p4), .val (.int (0 : Int32)), .unset, .unset, .unset, .unset, .unset, .unset, .unset, .unset, .unset] [(.int (p1 &&& (127 : Int32)).toUInt32.toUInt16.toUInt32.toInt32)])) _ _ _ _ _ _
    obtain ⟨x0, h_x0⟩ : ∃ z : Int32, z = (p1 &&& (127 : Int32)).toUInt32.toUInt16.toUInt32.toInt32 := ⟨_, rfl⟩
    · rw [← h_x0]
      have rg0 : own_rg x0 := by rw [h_x0]; exact own_rgc _
      show own_GW _ _ _ (s₁.setTop (mkF m 10 #[.val (.int p0), .val (.int p1), .val (.int p2), .val (.int p3), .val (.int p4), .val (.int (0 : Int32)), .unset, .unset, .unset, .unset, .unset, .unset, .unset, .unset, .unset] [(.int x0)])) _ _ _ _ _ _
      refine own_goW (fun _ k => XS.istore X0.here hx rfl (hb hby at_10) rfl (l' := #[.val (.int p0), .val (.int p1), .val (.int p2), .val (.int p3), .val (.int p4), .val (.int (0 : Int32)), .val (.int x0), .unset, .unset, .unset, .unset, .unset, .unset, .unset, .unset]) rfl k) ?_
      show own_GW _ _ _ (s₁.setTop (mkF m 12 #[.val (.int p0), .val (.int p1), .val (.int p2), .val (.int p3), .val (.int p4), .val (.int (0 : Int32)), .val (.int x0), .unset, .unset, .unset, .unset, .unset, .unset, .unset, .unset] [])) _ _ _ _ _ _
      refine own_goW (fun _ k => XS.iloadN X0.here hx rfl (hb hby at_12) rfl k) ?_
      show own_GW _ _ _ (s₁.setTop (mkF m 13 #[.val (.int p0), .val (.int p1), .val (.int p2), .val (.int p3), .val (.int p4), .val (.int (0 : Int32)), .val (.int x0), .unset, .unset, .unset, .unset, .unset, .unset, .unset, .unset] [(.int p2)])) _ _ _ _ _ _
      refine own_goW (fun _ k => XS.bipush X0.here hx rfl (hb hby at_13) k) ?_
      show own_GW _ _ _ (s₁.setTop (mkF m 15 #[.val (.int p0), .val (.int p1), .val (.int p2), .val (.int p3), .val (.int p4), .val (.int (0 : Int32)), .val (.int x0), .unset, .unset, .unset, .unset, .unset, .unset, .unset, .unset] [(.int (127 : Int32)), (.int p2)])) _ _ _ _ _ _
      refine own_goW (fun _ k => XS.iand X0.here hx rfl (hb hby at_15) rfl k) ?_
      show own_GW _ _ _ (s₁.setTop (mkF m 16 #[.val (.int p0), .val (.int p1), .val (.int p2), .val (.int p3), .val (.int p4), .val (.int (0 : Int32)), .val (.int x0), .unset, .unset, .unset, .unset, .unset, .unset, .unset, .unset] [(.int (p2 &&& (127 : Int32)))])) _ _ _ _ _ _
      refine own_goW (fun _ k => XS.i2c X0.here hx rfl (hb hby at_16) rfl k) ?_
      show own_GW _ _ _ (s₁.setTop (mkF m 17 #[.val (.int p0), .val (.int p1), .val (.int p2), .val (.int p3), .val (.int p4), .val (.int (0 : Int32)), .val (.int x0), .unset, .unset, .unset, .unset, .unset, .unset, .unset, .unset] [(.int (p2 &&& (127 : Int32)).toUInt32.toUInt16.toUInt32.toInt32)])) _ _ _ _ _ _
      obtain ⟨x1, h_x1⟩ : ∃ z : Int32, z = (p2 &&& (127 : Int32)).toUInt32.toUInt16.toUInt32.toInt32 := ⟨_, rfl⟩
      · rw [← h_x1]
        have rg1 : own_rg x1 := by rw [h_x1]; exact own_rgc _
        show own_GW _ _ _ (s₁.setTop (mkF m 17 #[.val (.int p0), .val (.int p1), .val (.int p2), .val (.int p3), .val (.int p4), .val (.int (0 : Int32)), .val (.int x0), .unset, .unset, .unset, .unset, .unset, .unset, .unset, .unset] [(.int x1)])) _ _ _ _ _ _
        refine own_goW (fun _ k => XS.istore X0.here hx rfl (hb hby at_17) rfl (l' := #[.val (.int p0), .val (.int p1), .val (.int p2), .val (.int p3), .val (.int p4), .val (.int (0 : Int32)), .val (.int x0), .val (.int x1), .unset, .unset, .unset, .unset, .unset, .unset, .unset]) rfl k) ?_
        show own_GW _ _ _ (s₁.setTop (mkF m 19 #[.val (.int p0), .val (.int p1), .val (.int p2), .val (.int p3), .val (.int p4), .val (.int (0 : Int32)), .val (.int x0), .val (.int x1), .unset, .unset, .unset, .unset, .unset, .unset, .unset] [])) _ _ _ _ _ _
        refine own_goW (fun _ k => XS.iloadN X0.here hx rfl (hb hby at_19) rfl k) ?_
        show own_GW _ _ _ (s₁.setTop (mkF m 20 #[.val (.int p0), .val (.int p1), .val (.int p2), .val (.int p3), .val (.int p4), .val (.int (0 : Int32)), .val (.int x0), .val (.int x1), .unset, .unset, .unset, .unset, .unset, .unset, .unset] [(.int p3)])) _ _ _ _ _ _
        refine own_goW (fun _ k => XS.bipush X0.here hx rfl (hb hby at_20) k) ?_
        show own_GW _ _ _ (s₁.setTop (mkF m 22 #[.val (.int p0), .val (.int p1), .val (.int p2), .val (.int p3), .val (.int p4), .val (.int (0 : Int32)), .val (.int x0), .val (.int x1), .unset, .unset, .unset, .unset, .unset, .unset, .unset] [(.int (127 : Int32)), (.int p3)])) _ _ _ _ _ _
        refine own_goW (fun _ k => XS.iand X0.here hx rfl (hb hby at_22) rfl k) ?_
        show own_GW _ _ _ (s₁.setTop (mkF m 23 #[.val (.int p0), .val (.int p1), .val (.int p2), .val (.int p3), .val (.int p4), .val (.int (0 : Int32)), .val (.int x0), .val (.int x1), .unset, .unset, .unset, .unset, .unset, .unset, .unset] [(.int (p3 &&& (127 : Int32)))])) _ _ _ _ _ _
        refine own_goW (fun _ k => XS.i2c X0.here hx rfl (hb hby at_23) rfl k) ?_
        show own_GW _ _ _ (s₁.setTop (mkF m 24 #[.val (.int p0), .val (.int p1), .val (.int p2), .val (.int p3), .val (.int p4), .val (.int (0 : Int32)), .val (.int x0), .val (.int x1), .unset, .unset, .unset, .unset, .unset, .unset, .unset] [(.int (p3 &&& (127 : Int32)).toUInt32.toUInt16.toUInt32.toInt32)])) _ _ _ _ _ _
        obtain ⟨x2, h_x2⟩ : ∃ z : Int32, z = (p3 &&& (127 : Int32)).toUInt32.toUInt16.toUInt32.toInt32 := ⟨_, rfl⟩
        · rw [← h_x2]
          have rg2 : own_rg x2 := by rw [h_x2]; exact own_rgc _
          show own_GW _ _ _ (s₁.setTop (mkF m 24 #[.val (.int p0), .val (.int p1), .val (.int p2), .val (.int p3), .val (.int p4), .val (.int (0 : Int32)), .val (.int x0), .val (.int x1), .unset, .unset, .unset, .unset, .unset, .unset, .unset] [(.int x2)])) _ _ _ _ _ _
          refine own_goW (fun _ k => XS.istore X0.here hx rfl (hb hby at_24) rfl (l' := #[.val (.int p0), .val (.int p1), .val (.int p2), .val (.int p3), .val (.int p4), .val (.int (0 : Int32)), .val (.int x0), .val (.int x1), .val (.int x2), .unset, .unset, .unset, .unset, .unset, .unset]) rfl k) ?_
          show own_GW _ _ _ (s₁.setTop (mkF m 26 #[.val (.int p0), .val (.int p1), .val (.int p2), .val (.int p3), .val (.int p4), .val (.int (0 : Int32)), .val (.int x0), .val (.int x1), .val (.int x2), .unset, .unset, .unset, .unset, .unset, .unset] [])) _ _ _ _ _ _
          refine own_goW (fun _ k => XS.iload X0.here hx rfl (hb hby at_26) rfl k) ?_
          show own_GW _ _ _ (s₁.setTop (mkF m 28 #[.val (.int p0), .val (.int p1), .val (.int p2), .val (.int p3), .val (.int p4), .val (.int (0 : Int32)), .val (.int x0), .val (.int x1), .val (.int x2), .unset, .unset, .unset, .unset, .unset, .unset] [(.int p4)])) _ _ _ _ _ _
          refine own_goW (fun _ k => XS.bipush X0.here hx rfl (hb hby at_28) k) ?_
          show own_GW _ _ _ (s₁.setTop (mkF m 30 #[.val (.int p0), .val (.int p1), .val (.int p2), .val (.int p3), .val (.int p4), .val (.int (0 : Int32)), .val (.int x0), .val (.int x1), .val (.int x2), .unset, .unset, .unset, .unset, .unset, .unset] [(.int (127 : Int32)), (.int p4)])) _ _ _ _ _ _
          refine own_goW (fun _ k => XS.iand X0.here hx rfl (hb hby at_30) rfl k) ?_
          show own_GW _ _ _ (s₁.setTop (mkF m 31 #[.val (.int p0), .val (.int p1), .val (.int p2), .val (.int p3), .val (.int p4), .val (.int (0 : Int32)), .val (.int x0), .val (.int x1), .val (.int x2), .unset, .unset, .unset, .unset, .unset, .unset] [(.int (p4 &&& (127 : Int32)))])) _ _ _ _ _ _
          obtain ⟨xq, h_xq⟩ : ∃ z : Int32, z = (p4 &&& (127 : Int32)) := ⟨_, rfl⟩
          · rw [← h_xq]
            have rgq : own_rg xq := by rw [h_xq]; exact own_rgm _
            show own_GW _ _ _ (s₁.setTop (mkF m 31 #[.val (.int p0), .val (.int p1), .val (.int p2), .val (.int p3), .val (.int p4), .val (.int (0 : Int32)), .val (.int x0), .val (.int x1), .val (.int x2), .unset, .unset, .unset, .unset, .unset, .unset] [(.int xq)])) _ _ _ _ _ _
            refine own_goW (fun _ k => XS.istore X0.here hx rfl (hb hby at_31) rfl (l' := #[.val (.int p0), .val (.int p1), .val (.int p2), .val (.int p3), .val (.int p4), .val (.int (0 : Int32)), .val (.int x0), .val (.int x1), .val (.int x2), .val (.int xq), .unset, .unset, .unset, .unset, .unset]) rfl k) ?_
            show own_GW _ _ _ (s₁.setTop (mkF m 33 #[.val (.int p0), .val (.int p1), .val (.int p2), .val (.int p3), .val (.int p4), .val (.int (0 : Int32)), .val (.int x0), .val (.int x1), .val (.int x2), .val (.int xq), .unset, .unset, .unset, .unset, .unset] [])) _ _ _ _ _ _
            refine own_goW (fun _ k => XS.iconst X0.here hx rfl (hb hby at_33) k) ?_
            show own_GW _ _ _ (s₁.setTop (mkF m 34 #[.val (.int p0), .val (.int p1), .val (.int p2), .val (.int p3), .val (.int p4), .val (.int (0 : Int32)), .val (.int x0), .val (.int x1), .val (.int x2), .val (.int xq), .unset, .unset, .unset, .unset, .unset] [(.int (2 : Int32))])) _ _ _ _ _ _
            obtain ⟨T1, h1, k1, X1, e1, E1, A1, st1⟩ := newP X0 hx hZ (hw _ (List.mem_of_getElem? (i := 0) rfl)) e0 (g := (mkF m 34 #[.val (.int p0), .val (.int p1), .val (.int p2), .val (.int p3), .val (.int p4), .val (.int (0 : Int32)), .val (.int x0), .val (.int x1), .val (.int x2), .val (.int xq), .unset, .unset, .unset, .unset, .unset] [(.int (2 : Int32))])) rfl (hb hby at_34) rfl (by decide) (cap := 2) (by decide) (by decide) (by decide) (by decide)
            obtain ⟨b1, g1⟩ : ∃ z, z = h0.size := ⟨_, rfl⟩
            rw [← g1] at A1 st1
            have gg1 : n0 ≤ b1 := Nat.le_trans Z0 (Nat.le_of_eq g1.symm)
            have sz1_0 : h0.size ≤ b1 := Nat.le_trans K0.1 (Nat.le_of_eq g1.symm)
            have sz1_1 : h0.size ≤ b1 := Nat.le_trans KS0.1 (Nat.le_of_eq g1.symm)
            have Zs1 : n0 ≤ h1.size := Nat.le_trans Z0 E1.1
            have K1_0 : Keep h0 h1 [] := K0.ext E1
            have K1_1 : Keep h0 h1 [] := KS0.ext E1
            have f2 : Old Z n0 h1 := P_Old.ext E1
            have f3 : Arv Z h1 b1 k1 .char (2 : Int32) [(.int (0 : Int32)), (.int (0 : Int32))] (.int (0 : Int32)) := (Arv.new A1 (by decide)).pad (pad_rep [] (.int (0 : Int32)) 2)
            refine own_goW (fun _ k => st1 _ k) ?_
            show own_GW _ _ _ (T1.setTop (mkF m 36 #[.val (.int p0), .val (.int p1), .val (.int p2), .val (.int p3), .val (.int p4), .val (.int (0 : Int32)), .val (.int x0), .val (.int x1), .val (.int x2), .val (.int xq), .unset, .unset, .unset, .unset, .unset] [(.ref b1)])) _ _ _ _ _ _
            refine own_goW (fun _ k => XS.dup X1.here hx rfl (hb hby at_36) rfl rfl k) ?_
            show own_GW _ _ _ (T1.setTop (mkF m 37 #[.val (.int p0), .val (.int p1), .val (.int p2), .val (.int p3), .val (.int p4), .val (.int (0 : Int32)), .val (.int x0), .val (.int x1), .val (.int x2), .val (.int xq), .unset, .unset, .unset, .unset, .unset] [(.ref b1), (.ref b1)])) _ _ _ _ _ _
            refine own_goW (fun _ k => XS.iconst X1.here hx rfl (hb hby at_37) k) ?_
            show own_GW _ _ _ (T1.setTop (mkF m 38 #[.val (.int p0), .val (.int p1), .val (.int p2), .val (.int p3), .val (.int p4), .val (.int (0 : Int32)), .val (.int x0), .val (.int x1), .val (.int x2), .val (.int xq), .unset, .unset, .unset, .unset, .unset] [(.int (0 : Int32)), (.ref b1), (.ref b1)])) _ _ _ _ _ _
            refine own_goW (fun _ k => XS.iload X1.here hx rfl (hb hby at_38) rfl k) ?_
            show own_GW _ _ _ (T1.setTop (mkF m 40 #[.val (.int p0), .val (.int p1), .val (.int p2), .val (.int p3), .val (.int p4), .val (.int (0 : Int32)), .val (.int x0), .val (.int x1), .val (.int x2), .val (.int xq), .unset, .unset, .unset, .unset, .unset] [(.int x0), (.int (0 : Int32)), (.ref b1), (.ref b1)])) _ _ _ _ _ _
            obtain ⟨cl4, Ar4, q4, S4, Ng4, H4, G4⟩ := id f3
            have in4 : ¬ ((0 : Int32) < 0 ∨ cl4.slots.size ≤ ((0 : Int32)).toNatClampNeg) := inb_of S4 ⟨by decide, by decide⟩
            obtain ⟨T4, h4, X4, e4, W4, st4⟩ := stC X1 hx hZ e1 Ar4 (j := (0 : Int32)) in4 (g := (mkF m 40 #[.val (.int p0), .val (.int p1), .val (.int p2), .val (.int p3), .val (.int p4), .val (.int (0 : Int32)), .val (.int x0), .val (.int x1), .val (.int x2), .val (.int xq), .unset, .unset, .unset, .unset, .unset] [(.int x0), (.int (0 : Int32)), (.ref b1), (.ref b1)])) rfl rfl (hb hby at_40)
            have N4 := Fr.snoc X4 N0 gg1
            have Zs4 : n0 ≤ h4.size := Nat.le_trans Zs1 (Keep.of_wr W4).1
            have K4_0 : Keep h0 h4 [] := K1_0.wr W4 (Or.inr sz1_0)
            have K4_1 : Keep h0 h4 [] := K1_1.wr W4 (Or.inr sz1_1)
            have f5 : Old Z n0 h4 := f2.wr W4 gg1
            have f6 : Arv Z h4 b1 k1 .char (2 : Int32) [(.int x0), (.int (0 : Int32))] (.int (0 : Int32)) := (by have q := Arv.set Ar4 q4 S4 Ng4 H4 G4 (fits_nar_char _) W4 0 rfl (Nat.le_of_ble_eq_true rfl); rw [rg0.nar] at q; exact q)
            refine own_goW (fun _ k => st4 _ k) ?_
            show own_GW _ _ _ (T4.setTop (mkF m 41 #[.val (.int p0), .val (.int p1), .val (.int p2), .val (.int p3), .val (.int p4), .val (.int (0 : Int32)), .val (.int x0), .val (.int x1), .val (.int x2), .val (.int xq), .unset, .unset, .unset, .unset, .unset] [(.ref b1)])) _ _ _ _ _ _
            refine own_goW (fun _ k => XS.dup X4.here hx rfl (hb hby at_41) rfl rfl k) ?_
            show own_GW _ _ _ (T4.setTop (mkF m 42 #[.val (.int p0), .val (.int p1), .val (.int p2), .val (.int p3), .val (.int p4), .val (.int (0 : Int32)), .val (.int x0), .val (.int x1), .val (.int x2), .val (.int xq), .unset, .unset, .unset, .unset, .unset] [(.ref b1), (.ref b1)])) _ _ _ _ _ _
            refine own_goW (fun _ k => XS.iconst X4.here hx rfl (hb hby at_42) k) ?_
            show own_GW _ _ _ (T4.setTop (mkF m 43 #[.val (.int p0), .val (.int p1), .val (.int p2), .val (.int p3), .val (.int p4), .val (.int (0 : Int32)), .val (.int x0), .val (.int x1), .val (.int x2), .val (.int xq), .unset, .unset, .unset, .unset, .unset] [(.int (1 : Int32)), (.ref b1), (.ref b1)])) _ _ _ _ _ _
            refine own_goW (fun _ k => XS.iload X4.here hx rfl (hb hby at_43) rfl k) ?_
            show own_GW _ _ _ (T4.setTop (mkF m 45 #[.val (.int p0), .val (.int p1), .val (.int p2), .val (.int p3), .val (.int p4), .val (.int (0 : Int32)), .val (.int x0), .val (.int x1), .val (.int x2), .val (.int xq), .unset, .unset, .unset, .unset, .unset] [(.int x1), (.int (1 : Int32)), (.ref b1), (.ref b1)])) _ _ _ _ _ _
            obtain ⟨cl7, Ar7, q7, S7, Ng7, H7, G7⟩ := id f6
            have in7 : ¬ ((1 : Int32) < 0 ∨ cl7.slots.size ≤ ((1 : Int32)).toNatClampNeg) := inb_of S7 ⟨by decide, by decide⟩
            obtain ⟨T7, h7, X7, e7, W7, st7⟩ := stC X4 hx hZ e4 Ar7 (j := (1 : Int32)) in7 (g := (mkF m 45 #[.val (.int p0), .val (.int p1), .val (.int p2), .val (.int p3), .val (.int p4), .val (.int (0 : Int32)), .val (.int x0), .val (.int x1), .val (.int x2), .val (.int xq), .unset, .unset, .unset, .unset, .unset] [(.int x1), (.int (1 : Int32)), (.ref b1), (.ref b1)])) rfl rfl (hb hby at_45)
            have N7 := Fr.snoc X7 N4 gg1
            have Zs7 : n0 ≤ h7.size := Nat.le_trans Zs4 (Keep.of_wr W7).1
            have K7_0 : Keep h0 h7 [] := K4_0.wr W7 (Or.inr sz1_0)
            have K7_1 : Keep h0 h7 [] := K4_1.wr W7 (Or.inr sz1_1)
            have f8 : Old Z n0 h7 := f5.wr W7 gg1
            have f9 : Arv Z h7 b1 k1 .char (2 : Int32) [(.int x0), (.int x1)] (.int (0 : Int32)) := (by have q := Arv.set Ar7 q7 S7 Ng7 H7 G7 (fits_nar_char _) W7 1 rfl (Nat.le_of_ble_eq_true rfl); rw [rg1.nar] at q; exact q)
            refine own_goW (fun _ k => st7 _ k) ?_
            show own_GW _ _ _ (T7.setTop (mkF m 46 #[.val (.int p0), .val (.int p1), .val (.int p2), .val (.int p3), .val (.int p4), .val (.int (0 : Int32)), .val (.int x0), .val (.int x1), .val (.int x2), .val (.int xq), .unset, .unset, .unset, .unset, .unset] [(.ref b1)])) _ _ _ _ _ _
            refine own_goW (fun _ k => XS.astore X7.here hx rfl (hb hby at_46) rfl rfl (l' := #[.val (.int p0), .val (.int p1), .val (.int p2), .val (.int p3), .val (.int p4), .val (.int (0 : Int32)), .val (.int x0), .val (.int x1), .val (.int x2), .val (.int xq), .val (.ref b1), .unset, .unset, .unset, .unset]) rfl k) ?_
            show own_GW _ _ _ (T7.setTop (mkF m 48 #[.val (.int p0), .val (.int p1), .val (.int p2), .val (.int p3), .val (.int p4), .val (.int (0 : Int32)), .val (.int x0), .val (.int x1), .val (.int x2), .val (.int xq), .val (.ref b1), .unset, .unset, .unset, .unset] [])) _ _ _ _ _ _
            refine own_goW (fun _ k => XS.iconst X7.here hx rfl (hb hby at_48) k) ?_
            show own_GW _ _ _ (T7.setTop (mkF m 49 #[.val (.int p0), .val (.int p1), .val (.int p2), .val (.int p3), .val (.int p4), .val (.int (0 : Int32)), .val (.int x0), .val (.int x1), .val (.int x2), .val (.int xq), .val (.ref b1), .unset, .unset, .unset, .unset] [(.int (3 : Int32))])) _ _ _ _ _ _
            obtain ⟨T10, h10, k10, X10, e10, E10, A10, st10⟩ := newP X7 hx hZ (hw _ (List.mem_of_getElem? (i := 0) rfl)) e7 (g := (mkF m 49 #[.val (.int p0), .val (.int p1), .val (.int p2), .val (.int p3), .val (.int p4), .val (.int (0 : Int32)), .val (.int x0), .val (.int x1), .val (.int x2), .val (.int xq), .val (.ref b1), .unset, .unset, .unset, .unset] [(.int (3 : Int32))])) rfl (hb hby at_49) rfl (by decide) (cap := 3) (by decide) (by decide) (by decide) (by decide)
            obtain ⟨b10, g10⟩ : ∃ z, z = h7.size := ⟨_, rfl⟩
            rw [← g10] at A10 st10
            have ne11 : b1 ≠ b10 := Nat.ne_of_lt (Nat.lt_of_lt_of_le f9.lt (Nat.le_of_eq g10.symm))
            have gg10 : n0 ≤ b10 := Nat.le_trans Zs7 (Nat.le_of_eq g10.symm)
            have sz10_0 : h0.size ≤ b10 := Nat.le_trans K7_0.1 (Nat.le_of_eq g10.symm)
            have sz10_1 : h0.size ≤ b10 := Nat.le_trans K7_1.1 (Nat.le_of_eq g10.symm)
            have Zs10 : n0 ≤ h10.size := Nat.le_trans Zs7 E10.1
            have K10_0 : Keep h0 h10 [] := K7_0.ext E10
            have K10_1 : Keep h0 h10 [] := K7_1.ext E10
            have f12 : Old Z n0 h10 := f8.ext E10
            have f13 : Arv Z h10 b1 k1 .char (2 : Int32) [(.int x0), (.int x1)] (.int (0 : Int32)) := f9.ext E10
            have f14 : Arv Z h10 b10 k10 .char (3 : Int32) [(.int (0 : Int32)), (.int (0 : Int32)), (.int (0 : Int32))] (.int (0 : Int32)) := (Arv.new A10 (by decide)).pad (pad_rep [] (.int (0 : Int32)) 3)
            refine own_goW (fun _ k => st10 _ k) ?_
            show own_GW _ _ _ (T10.setTop (mkF m 51 #[.val (.int p0), .val (.int p1), .val (.int p2), .val (.int p3), .val (.int p4), .val (.int (0 : Int32)), .val (.int x0), .val (.int x1), .val (.int x2), .val (.int xq), .val (.ref b1), .unset, .unset, .unset, .unset] [(.ref b10)])) _ _ _ _ _ _
            refine own_goW (fun _ k => XS.dup X10.here hx rfl (hb hby at_51) rfl rfl k) ?_
            show own_GW _ _ _ (T10.setTop (mkF m 52 #[.val (.int p0), .val (.int p1), .val (.int p2), .val (.int p3), .val (.int p4), .val (.int (0 : Int32)), .val (.int x0), .val (.int x1), .val (.int x2), .val (.int xq), .val (.ref b1), .unset, .unset, .unset, .unset] [(.ref b10), (.ref b10)])) _ _ _ _ _ _
            refine own_goW (fun _ k => XS.iconst X10.here hx rfl (hb hby at_52) k) ?_
            show own_GW _ _ _ (T10.setTop (mkF m 53 #[.val (.int p0), .val (.int p1), .val (.int p2), .val (.int p3), .val (.int p4), .val (.int (0 : Int32)), .val (.int x0), .val (.int x1), .val (.int x2), .val (.int xq), .val (.ref b1), .unset, .unset, .unset, .unset] [(.int (0 : Int32)), (.ref b10), (.ref b10)])) _ _ _ _ _ _
            refine own_goW (fun _ k => XS.iload X10.here hx rfl (hb hby at_53) rfl k) ?_
            show own_GW _ _ _ (T10.setTop (mkF m 55 #[.val (.int p0), .val (.int p1), .val (.int p2), .val (.int p3), .val (.int p4), .val (.int (0 : Int32)), .val (.int x0), .val (.int x1), .val (.int x2), .val (.int xq), .val (.ref b1), .unset, .unset, .unset, .unset] [(.int x0), (.int (0 : Int32)), (.ref b10), (.ref b10)])) _ _ _ _ _ _
            obtain ⟨cl15, Ar15, q15, S15, Ng15, H15, G15⟩ := id f14
            have in15 : ¬ ((0 : Int32) < 0 ∨ cl15.slots.size ≤ ((0 : Int32)).toNatClampNeg) := inb_of S15 ⟨by decide, by decide⟩
            obtain ⟨T15, h15, X15, e15, W15, st15⟩ := stC X10 hx hZ e10 Ar15 (j := (0 : Int32)) in15 (g := (mkF m 55 #[.val (.int p0), .val (.int p1), .val (.int p2), .val (.int p3), .val (.int p4), .val (.int (0 : Int32)), .val (.int x0), .val (.int x1), .val (.int x2), .val (.int xq), .val (.ref b1), .unset, .unset, .unset, .unset] [(.int x0), (.int (0 : Int32)), (.ref b10), (.ref b10)])) rfl rfl (hb hby at_55)
            have N15 := Fr.snoc X15 N7 gg10
            have Zs15 : n0 ≤ h15.size := Nat.le_trans Zs10 (Keep.of_wr W15).1
            have K15_0 : Keep h0 h15 [] := K10_0.wr W15 (Or.inr sz10_0)
            have K15_1 : Keep h0 h15 [] := K10_1.wr W15 (Or.inr sz10_1)
            have f16 : Old Z n0 h15 := f12.wr W15 gg10
            have f17 : Arv Z h15 b1 k1 .char (2 : Int32) [(.int x0), (.int x1)] (.int (0 : Int32)) := f13.other W15 ne11
            have f18 : Arv Z h15 b10 k10 .char (3 : Int32) [(.int x0), (.int (0 : Int32)), (.int (0 : Int32))] (.int (0 : Int32)) := (by have q := Arv.set Ar15 q15 S15 Ng15 H15 G15 (fits_nar_char _) W15 0 rfl (Nat.le_of_ble_eq_true rfl); rw [rg0.nar] at q; exact q)
            refine own_goW (fun _ k => st15 _ k) ?_
            show own_GW _ _ _ (T15.setTop (mkF m 56 #[.val (.int p0), .val (.int p1), .val (.int p2), .val (.int p3), .val (.int p4), .val (.int (0 : Int32)), .val (.int x0), .val (.int x1), .val (.int x2), .val (.int xq), .val (.ref b1), .unset, .unset, .unset, .unset] [(.ref b10)])) _ _ _ _ _ _
            refine own_goW (fun _ k => XS.dup X15.here hx rfl (hb hby at_56) rfl rfl k) ?_
            show own_GW _ _ _ (T15.setTop (mkF m 57 #[.val (.int p0), .val (.int p1), .val (.int p2), .val (.int p3), .val (.int p4), .val (.int (0 : Int32)), .val (.int x0), .val (.int x1), .val (.int x2), .val (.int xq), .val (.ref b1), .unset, .unset, .unset, .unset] [(.ref b10), (.ref b10)])) _ _ _ _ _ _
            refine own_goW (fun _ k => XS.iconst X15.here hx rfl (hb hby at_57) k) ?_
            show own_GW _ _ _ (T15.setTop (mkF m 58 #[.val (.int p0), .val (.int p1), .val (.int p2), .val (.int p3), .val (.int p4), .val (.int (0 : Int32)), .val (.int x0), .val (.int x1), .val (.int x2), .val (.int xq), .val (.ref b1), .unset, .unset, .unset, .unset] [(.int (1 : Int32)), (.ref b10), (.ref b10)])) _ _ _ _ _ _
            refine own_goW (fun _ k => XS.iload X15.here hx rfl (hb hby at_58) rfl k) ?_
            show own_GW _ _ _ (T15.setTop (mkF m 60 #[.val (.int p0), .val (.int p1), .val (.int p2), .val (.int p3), .val (.int p4), .val (.int (0 : Int32)), .val (.int x0), .val (.int x1), .val (.int x2), .val (.int xq), .val (.ref b1), .unset, .unset, .unset, .unset] [(.int x1), (.int (1 : Int32)), (.ref b10), (.ref b10)])) _ _ _ _ _ _
            obtain ⟨cl19, Ar19, q19, S19, Ng19, H19, G19⟩ := id f18
            have in19 : ¬ ((1 : Int32) < 0 ∨ cl19.slots.size ≤ ((1 : Int32)).toNatClampNeg) := inb_of S19 ⟨by decide, by decide⟩
            obtain ⟨T19, h19, X19, e19, W19, st19⟩ := stC X15 hx hZ e15 Ar19 (j := (1 : Int32)) in19 (g := (mkF m 60 #[.val (.int p0), .val (.int p1), .val (.int p2), .val (.int p3), .val (.int p4), .val (.int (0 : Int32)), .val (.int x0), .val (.int x1), .val (.int x2), .val (.int xq), .val (.ref b1), .unset, .unset, .unset, .unset] [(.int x1), (.int (1 : Int32)), (.ref b10), (.ref b10)])) rfl rfl (hb hby at_60)
            have N19 := Fr.snoc X19 N15 gg10
            have Zs19 : n0 ≤ h19.size := Nat.le_trans Zs15 (Keep.of_wr W19).1
            have K19_0 : Keep h0 h19 [] := K15_0.wr W19 (Or.inr sz10_0)
            have K19_1 : Keep h0 h19 [] := K15_1.wr W19 (Or.inr sz10_1)
            have f20 : Old Z n0 h19 := f16.wr W19 gg10
            have f21 : Arv Z h19 b1 k1 .char (2 : Int32) [(.int x0), (.int x1)] (.int (0 : Int32)) := f17.other W19 ne11
            have f22 : Arv Z h19 b10 k10 .char (3 : Int32) [(.int x0), (.int x1), (.int (0 : Int32))] (.int (0 : Int32)) := (by have q := Arv.set Ar19 q19 S19 Ng19 H19 G19 (fits_nar_char _) W19 1 rfl (Nat.le_of_ble_eq_true rfl); rw [rg1.nar] at q; exact q)
            refine own_goW (fun _ k => st19 _ k) ?_
            show own_GW _ _ _ (T19.setTop (mkF m 61 #[.val (.int p0), .val (.int p1), .val (.int p2), .val (.int p3), .val (.int p4), .val (.int (0 : Int32)), .val (.int x0), .val (.int x1), .val (.int x2), .val (.int xq), .val (.ref b1), .unset, .unset, .unset, .unset] [(.ref b10)])) _ _ _ _ _ _
            refine own_goW (fun _ k => XS.dup X19.here hx rfl (hb hby at_61) rfl rfl k) ?_
            show own_GW _ _ _ (T19.setTop (mkF m 62 #[.val (.int p0), .val (.int p1), .val (.int p2), .val (.int p3), .val (.int p4), .val (.int (0 : Int32)), .val (.int x0), .val (.int x1), .val (.int x2), .val (.int xq), .val (.ref b1), .unset, .unset, .unset, .unset] [(.ref b10), (.ref b10)])) _ _ _ _ _ _
            refine own_goW (fun _ k => XS.iconst X19.here hx rfl (hb hby at_62) k) ?_
            show own_GW _ _ _ (T19.setTop (mkF m 63 #[.val (.int p0), .val (.int p1), .val (.int p2), .val (.int p3), .val (.int p4), .val (.int (0 : Int32)), .val (.int x0), .val (.int x1), .val (.int x2), .val (.int xq), .val (.ref b1), .unset, .unset, .unset, .unset] [(.int (2 : Int32)), (.ref b10), (.ref b10)])) _ _ _ _ _ _
            refine own_goW (fun _ k => XS.iload X19.here hx rfl (hb hby at_63) rfl k) ?_
            show own_GW _ _ _ (T19.setTop (mkF m 65 #[.val (.int p0), .val (.int p1), .val (.int p2), .val (.int p3), .val (.int p4), .val (.int (0 : Int32)), .val (.int x0), .val (.int x1), .val (.int x2), .val (.int xq), .val (.ref b1), .unset, .unset, .unset, .unset] [(.int x2), (.int (2 : Int32)), (.ref b10), (.ref b10)])) _ _ _ _ _ _
            obtain ⟨cl23, Ar23, q23, S23, Ng23, H23, G23⟩ := id f22
            have in23 : ¬ ((2 : Int32) < 0 ∨ cl23.slots.size ≤ ((2 : Int32)).toNatClampNeg) := inb_of S23 ⟨by decide, by decide⟩
            obtain ⟨T23, h23, X23, e23, W23, st23⟩ := stC X19 hx hZ e19 Ar23 (j := (2 : Int32)) in23 (g := (mkF m 65 #[.val (.int p0), .val (.int p1), .val (.int p2), .val (.int p3), .val (.int p4), .val (.int (0 : Int32)), .val (.int x0), .val (.int x1), .val (.int x2), .val (.int xq), .val (.ref b1), .unset, .unset, .unset, .unset] [(.int x2), (.int (2 : Int32)), (.ref b10), (.ref b10)])) rfl rfl (hb hby at_65)
            have N23 := Fr.snoc X23 N19 gg10
            have Zs23 : n0 ≤ h23.size := Nat.le_trans Zs19 (Keep.of_wr W23).1
            have K23_0 : Keep h0 h23 [] := K19_0.wr W23 (Or.inr sz10_0)
            have K23_1 : Keep h0 h23 [] := K19_1.wr W23 (Or.inr sz10_1)
            have f24 : Old Z n0 h23 := f20.wr W23 gg10
            have f25 : Arv Z h23 b1 k1 .char (2 : Int32) [(.int x0), (.int x1)] (.int (0 : Int32)) := f21.other W23 ne11
            have f26 : Arv Z h23 b10 k10 .char (3 : Int32) [(.int x0), (.int x1), (.int x2)] (.int (0 : Int32)) := (by have q := Arv.set Ar23 q23 S23 Ng23 H23 G23 (fits_nar_char _) W23 2 rfl (Nat.le_of_ble_eq_true rfl); rw [rg2.nar] at q; exact q)
            refine own_goW (fun _ k => st23 _ k) ?_
            show own_GW _ _ _ (T23.setTop (mkF m 66 #[.val (.int p0), .val (.int p1), .val (.int p2), .val (.int p3), .val (.int p4), .val (.int (0 : Int32)), .val (.int x0), .val (.int x1), .val (.int x2), .val (.int xq), .val (.ref b1), .unset, .unset, .unset, .unset] [(.ref b10)])) _ _ _ _ _ _
            refine own_goW (fun _ k => XS.astore X23.here hx rfl (hb hby at_66) rfl rfl (l' := #[.val (.int p0), .val (.int p1), .val (.int p2), .val (.int p3), .val (.int p4), .val (.int (0 : Int32)), .val (.int x0), .val (.int x1), .val (.int x2), .val (.int xq), .val (.ref b1), .val (.ref b10), .unset, .unset, .unset]) rfl k) ?_
            show own_GW _ _ _ (T23.setTop (mkF m 68 #[.val (.int p0), .val (.int p1), .val (.int p2), .val (.int p3), .val (.int p4), .val (.int (0 : Int32)), .val (.int x0), .val (.int x1), .val (.int x2), .val (.int xq), .val (.ref b1), .val (.ref b10), .unset, .unset, .unset] [])) _ _ _ _ _ _
            refine own_goW (fun _ k => XS.iload X23.here hx rfl (hb hby at_68) rfl k) ?_
            show own_GW _ _ _ (T23.setTop (mkF m 70 #[.val (.int p0), .val (.int p1), .val (.int p2), .val (.int p3), .val (.int p4), .val (.int (0 : Int32)), .val (.int x0), .val (.int x1), .val (.int x2), .val (.int xq), .val (.ref b1), .val (.ref b10), .unset, .unset, .unset] [(.int (0 : Int32))])) _ _ _ _ _ _
            have hc27 : (0 : Int32) = (0 : Int32) := (by decide)
            refine own_goW (fun _ k => XS.ifNo X23.here hx rfl (hb hby at_70) rfl ((if0 _ _).trans (teq hc27).2) k) ?_
            show own_GW _ _ _ (T23.setTop (mkF m 73 #[.val (.int p0), .val (.int p1), .val (.int p2), .val (.int p3), .val (.int p4), .val (.int (0 : Int32)), .val (.int x0), .val (.int x1), .val (.int x2), .val (.int xq), .val (.ref b1), .val (.ref b10), .unset, .unset, .unset] [])) _ _ _ _ _ _
            have CQ28 := CR0.trans (CHr.keep K23_1 all0 CR0.1)
            obtain ⟨a28, T28, h28, k128, b28, kb28, X28, e28, E28, hS28, hk28, -, -, xa28, cd28, vl28, vb28, la28, lb28, CC28, Lt28, nea28, st28⟩ := ldcCH (s := s.setVm s.vm) (vm0 := s.vm) X23 hx hZ hown (hw _ (List.mem_of_getElem? (i := 1) rfl)) (own_wS hw) e23 ((State.WarmedH.refl (s.setVm s.vm)).since h23.size) (Nat.le_refl _) (own_EW hw) (by simp [own_EL]) CQ28.1 (vs := []) (z := (0 : Int32)) ⟨by decide, rfl⟩ (by decide) rfl (g := (mkF m 73 #[.val (.int p0), .val (.int p1), .val (.int p2), .val (.int p3), .val (.int p4), .val (.int (0 : Int32)), .val (.int x0), .val (.int x1), .val (.int x2), .val (.int xq), .val (.ref b1), .val (.ref b10), .unset, .unset, .unset] [])) rfl (hb hby at_73) (n := 0) (by decide) (by decide) (by decide) (by decide)
            have CR28 := CQ28.trans CC28
            have hW28 : (s.setVm s.vm).Warmed39 T28.vm := hS28.1
            have hR28 : (s.setVm s.vm).Since T28.vm h28.size := ⟨hS28.1, hS28.2.mono hk28⟩
            obtain ⟨X28, hS28, hZ, hown⟩ := rebS hS0 (Nat.le_trans hk0 K23_1.1) X28 hR28 E28.1 hZ hown
            have Lt28 : Lit (s.setVm T28.vm) "com/example/issuerd/issuerd/xml/DomReferencesPinLaw" 7 a28 := Lt28
            have Zs28 : n0 ≤ h28.size := Nat.le_trans Zs23 E28.1
            have K28_0 : Keep h0 h28 [] := K23_0.ext E28
            have f29 : Old Z n0 h28 := f24.ext E28
            have f30 : Arv Z h28 b1 k1 .char (2 : Int32) [(.int x0), (.int x1)] (.int (0 : Int32)) := f25.ext E28
            have f31 : Arv Z h28 b10 k10 .char (3 : Int32) [(.int x0), (.int x1), (.int x2)] (.int (0 : Int32)) := f26.ext E28
            have KS28 : Keep h28 h28 [] := Keep.refl _ _
            refine own_goW (fun _ k => st28 _ k) ?_
            show own_GW _ _ _ (T28.setTop (mkF m 75 #[.val (.int p0), .val (.int p1), .val (.int p2), .val (.int p3), .val (.int p4), .val (.int (0 : Int32)), .val (.int x0), .val (.int x1), .val (.int x2), .val (.int xq), .val (.ref b1), .val (.ref b10), .unset, .unset, .unset] [(.ref a28)])) _ _ _ _ _ _
            refine own_goW (fun _ k => XS.astore X28.here hx rfl (hb hby at_75) rfl rfl (l' := #[.val (.int p0), .val (.int p1), .val (.int p2), .val (.int p3), .val (.int p4), .val (.int (0 : Int32)), .val (.int x0), .val (.int x1), .val (.int x2), .val (.int xq), .val (.ref b1), .val (.ref b10), .val (.ref a28), .unset, .unset]) rfl k) ?_
            show own_GW _ _ _ (T28.setTop (mkF m 77 #[.val (.int p0), .val (.int p1), .val (.int p2), .val (.int p3), .val (.int p4), .val (.int (0 : Int32)), .val (.int x0), .val (.int x1), .val (.int x2), .val (.int xq), .val (.ref b1), .val (.ref b10), .val (.ref a28), .unset, .unset] [])) _ _ _ _ _ _
            refine own_goW (fun _ k => XS.goto X28.here hx rfl (pc0 := 77) (pc' := 127) rfl (hb hby at_77) (by decide) (by decide) k) ?_
            show own_GW _ _ _ (T28.setTop (mkF m 127 #[.val (.int p0), .val (.int p1), .val (.int p2), .val (.int p3), .val (.int p4), .val (.int (0 : Int32)), .val (.int x0), .val (.int x1), .val (.int x2), .val (.int xq), .val (.ref b1), .val (.ref b10), .val (.ref a28), .unset, .unset] [])) _ _ _ _ _ _
            refine own_goW (fun _ k => XS.iconst X28.here hx rfl (hb hby at_127) k) ?_
            show own_GW _ _ _ (T28.setTop (mkF m 128 #[.val (.int p0), .val (.int p1), .val (.int p2), .val (.int p3), .val (.int p4), .val (.int (0 : Int32)), .val (.int x0), .val (.int x1), .val (.int x2), .val (.int xq), .val (.ref b1), .val (.ref b10), .val (.ref a28), .unset, .unset] [(.int (3 : Int32))])) _ _ _ _ _ _
            obtain ⟨T32, h32, k32, X32, e32, E32, A32, O32, st32⟩ := newR X28 hx hZ hown (hw _ (List.mem_of_getElem? (i := 9) rfl)) (hw _ (List.mem_of_getElem? (i := 10) rfl)) e28 (g := (mkF m 128 #[.val (.int p0), .val (.int p1), .val (.int p2), .val (.int p3), .val (.int p4), .val (.int (0 : Int32)), .val (.int x0), .val (.int x1), .val (.int x2), .val (.int xq), .val (.ref b1), .val (.ref b10), .val (.ref a28), .unset, .unset] [(.int (3 : Int32))])) rfl (hb hby at_128) rfl (by decide) (cap := 3) (by decide) (by decide) (by decide) (by decide)
            obtain ⟨b32, g32⟩ : ∃ z, z = h28.size := ⟨_, rfl⟩
            rw [← g32] at A32 st32
            have ne33 : b1 ≠ b32 := Nat.ne_of_lt (Nat.lt_of_lt_of_le f30.lt (Nat.le_of_eq g32.symm))
            have ne34 : b10 ≠ b32 := Nat.ne_of_lt (Nat.lt_of_lt_of_le f31.lt (Nat.le_of_eq g32.symm))
            have ne35 : a28 ≠ b32 := Nat.ne_of_lt (Nat.lt_of_lt_of_le xa28.lt (Nat.le_of_eq g32.symm))
            have ne36 : b28 ≠ b32 := Nat.ne_of_lt (Nat.lt_of_lt_of_le vb28.lt (Nat.le_of_eq g32.symm))
            have gg32 : n0 ≤ b32 := Nat.le_trans Zs28 (Nat.le_of_eq g32.symm)
            have sz32_0 : h0.size ≤ b32 := Nat.le_trans K28_0.1 (Nat.le_of_eq g32.symm)
            have sz32_1 : h28.size ≤ b32 := Nat.le_trans KS28.1 (Nat.le_of_eq g32.symm)
            have Zs32 : n0 ≤ h32.size := Nat.le_trans Zs28 E32.1
            have K32_0 : Keep h0 h32 [] := K28_0.ext E32
            have K32_1 : Keep h28 h32 [] := KS28.ext E32
            have f37 : Old Z n0 h32 := f29.ext E32
            have f38 : Arv Z h32 b1 k1 .char (2 : Int32) [(.int x0), (.int x1)] (.int (0 : Int32)) := f30.ext E32
            have f39 : Arv Z h32 b10 k10 .char (3 : Int32) [(.int x0), (.int x1), (.int x2)] (.int (0 : Int32)) := f31.ext E32
            have f40 : Exa Z h32 a28 "java/lang/String" := xa28.ext E32
            have f41 : Fld Z h32 a28 "java/lang/String" "coder" "B" (.int 0) := cd28.ext E32
            have f42 : Fld Z h32 a28 "java/lang/String" "value" "[B" (.ref b28) := vl28.ext E32
            have f43 : Arv Z h32 b28 kb28 .byte (0 : Int32) [] (.int (0 : Int32)) := vb28.ext E32
            have f44 : Ovr Z k32 "java/lang/String" := O32
            have f45 : Arv Z h32 b32 k32 (.object "java/lang/String") (3 : Int32) [.null, .null, .null] .null := (Arv.new A32 (by decide)).pad (pad_rep [] .null 3)
            refine own_goW (fun _ k => st32 _ k) ?_
            show own_GW _ _ _ (T32.setTop (mkF m 131 #[.val (.int p0), .val (.int p1), .val (.int p2), .val (.int p3), .val (.int p4), .val (.int (0 : Int32)), .val (.int x0), .val (.int x1), .val (.int x2), .val (.int xq), .val (.ref b1), .val (.ref b10), .val (.ref a28), .unset, .unset] [(.ref b32)])) _ _ _ _ _ _
            refine own_goW (fun _ k => XS.dup X32.here hx rfl (hb hby at_131) rfl rfl k) ?_
            show own_GW _ _ _ (T32.setTop (mkF m 132 #[.val (.int p0), .val (.int p1), .val (.int p2), .val (.int p3), .val (.int p4), .val (.int (0 : Int32)), .val (.int x0), .val (.int x1), .val (.int x2), .val (.int xq), .val (.ref b1), .val (.ref b10), .val (.ref a28), .unset, .unset] [(.ref b32), (.ref b32)])) _ _ _ _ _ _
            refine own_goW (fun _ k => XS.iconst X32.here hx rfl (hb hby at_132) k) ?_
            show own_GW _ _ _ (T32.setTop (mkF m 133 #[.val (.int p0), .val (.int p1), .val (.int p2), .val (.int p3), .val (.int p4), .val (.int (0 : Int32)), .val (.int x0), .val (.int x1), .val (.int x2), .val (.int xq), .val (.ref b1), .val (.ref b10), .val (.ref a28), .unset, .unset] [(.int (0 : Int32)), (.ref b32), (.ref b32)])) _ _ _ _ _ _
            have CQ46 := CR28.trans (CHr.keep K32_1 all0 CR28.1)
            obtain ⟨a46, T46, h46, k146, b46, kb46, X46, e46, E46, hS46, hk46, -, -, xa46, cd46, vl46, vb46, la46, lb46, CC46, Lt46, nea46, st46⟩ := ldcCH (s := s.setVm T28.vm) (vm0 := T28.vm) X32 hx hZ hown (hw _ (List.mem_of_getElem? (i := 11) rfl)) (own_wS hw) e32 ((State.WarmedH.refl (s.setVm T28.vm)).since h32.size) (Nat.le_refl _) (own_EW hw) (by simp [own_EL]) CQ46.1 (vs := [(.int (65 : Int32))]) (z := (1 : Int32)) ⟨by decide, rfl⟩ (by decide) rfl (g := (mkF m 133 #[.val (.int p0), .val (.int p1), .val (.int p2), .val (.int p3), .val (.int p4), .val (.int (0 : Int32)), .val (.int x0), .val (.int x1), .val (.int x2), .val (.int xq), .val (.ref b1), .val (.ref b10), .val (.ref a28), .unset, .unset] [(.int (0 : Int32)), (.ref b32), (.ref b32)])) rfl (hb hby at_133) (n := 4) (by decide) (by decide) (by decide) (by decide)
            have CR46 := CQ46.trans CC46
            have hW46 : (s.setVm T28.vm).Warmed39 T46.vm := hS46.1
            have hR46 : (s.setVm T28.vm).Since T46.vm h46.size := ⟨hS46.1, hS46.2.mono hk46⟩
            obtain ⟨X46, hS46, hZ, hown⟩ := rebS hS28 (Nat.le_trans (Nat.le_refl _) K32_1.1) X46 hR46 E46.1 hZ hown
            have Lt46 : Lit (s.setVm T46.vm) "com/example/issuerd/issuerd/xml/DomReferencesPinLaw" 18 a46 := Lt46
            have Lt28_46 := Lit.stays Lt28 hW46
            have Zs46 : n0 ≤ h46.size := Nat.le_trans Zs32 E46.1
            have K46_0 : Keep h0 h46 [] := K32_0.ext E46
            have f47 : Old Z n0 h46 := f37.ext E46
            have f48 : Arv Z h46 b1 k1 .char (2 : Int32) [(.int x0), (.int x1)] (.int (0 : Int32)) := f38.ext E46
            have f49 : Arv Z h46 b10 k10 .char (3 : Int32) [(.int x0), (.int x1), (.int x2)] (.int (0 : Int32)) := f39.ext E46
            have f50 : Exa Z h46 a28 "java/lang/String" := f40.ext E46
            have f51 : Fld Z h46 a28 "java/lang/String" "coder" "B" (.int 0) := f41.ext E46
            have f52 : Fld Z h46 a28 "java/lang/String" "value" "[B" (.ref b28) := f42.ext E46
            have f53 : Arv Z h46 b28 kb28 .byte (0 : Int32) [] (.int (0 : Int32)) := f43.ext E46
            have f54 : Arv Z h46 b32 k32 (.object "java/lang/String") (3 : Int32) [.null, .null, .null] .null := f45.ext E46
            have sf55 : Safe Z own_EL T46.vm h46 b32 := (by obtain ⟨c_, A_, -⟩ := f54; exact Safe.arr hZ.alike A_ (by decide))
            have KS46 : Keep h46 h46 [b32] := Keep.refl _ _
            refine own_goW (fun _ k => st46 _ k) ?_
            show own_GW _ _ _ (T46.setTop (mkF m 135 #[.val (.int p0), .val (.int p1), .val (.int p2), .val (.int p3), .val (.int p4), .val (.int (0 : Int32)), .val (.int x0), .val (.int x1), .val (.int x2), .val (.int xq), .val (.ref b1), .val (.ref b10), .val (.ref a28), .unset, .unset] [(.ref a46), (.int (0 : Int32)), (.ref b32), (.ref b32)])) _ _ _ _ _ _
            obtain ⟨cl56, Ar56, q56, S56, Ng56, H56, G56⟩ := id f54
            have in56 : ¬ ((0 : Int32) < 0 ∨ cl56.slots.size ≤ ((0 : Int32)).toNatClampNeg) := inb_of S56 ⟨by decide, by decide⟩
            obtain ⟨T56, h56, X56, e56, W56, st56⟩ := stR X46 hx hZ e46 Ar56 (j := (0 : Int32)) in56 rfl (Sto.ofV Ar56 q56 f44 (Ins.self xa46)) (g := (mkF m 135 #[.val (.int p0), .val (.int p1), .val (.int p2), .val (.int p3), .val (.int p4), .val (.int (0 : Int32)), .val (.int x0), .val (.int x1), .val (.int x2), .val (.int xq), .val (.ref b1), .val (.ref b10), .val (.ref a28), .unset, .unset] [(.ref a46), (.int (0 : Int32)), (.ref b32), (.ref b32)])) rfl rfl (hb hby at_135)
            have N56 := Fr.snoc X56 N23 gg32
            have Zs56 : n0 ≤ h56.size := Nat.le_trans Zs46 (Keep.of_wr W56).1
            have K56_0 : Keep h0 h56 [] := K46_0.wr W56 (Or.inr sz32_0)
            have K56_1 : Keep h46 h56 [b32] := KS46.wr W56 (Or.inl (List.mem_of_getElem? (i := 0) rfl))
            have f57 : Old Z n0 h56 := f47.wr W56 gg32
            have f58 : Arv Z h56 b1 k1 .char (2 : Int32) [(.int x0), (.int x1)] (.int (0 : Int32)) := f48.other W56 ne33
            have f59 : Arv Z h56 b10 k10 .char (3 : Int32) [(.int x0), (.int x1), (.int x2)] (.int (0 : Int32)) := f49.other W56 ne34
            have f60 : Exa Z h56 a28 "java/lang/String" := f50.wr W56
            have f61 : Fld Z h56 a28 "java/lang/String" "coder" "B" (.int 0) := f51.other W56 (Or.inl ne35)
            have f62 : Fld Z h56 a28 "java/lang/String" "value" "[B" (.ref b28) := f52.other W56 (Or.inl ne35)
            have f63 : Arv Z h56 b28 kb28 .byte (0 : Int32) [] (.int (0 : Int32)) := f53.other W56 ne36
            have f64 : Exa Z h56 a46 "java/lang/String" := xa46.wr W56
            have f65 : Arv Z h56 b32 k32 (.object "java/lang/String") (3 : Int32) [(.ref a46), .null, .null] .null := Arv.set Ar56 q56 S56 Ng56 H56 G56 rfl W56 0 rfl (Nat.le_of_ble_eq_true rfl)
            refine own_goW (fun _ k => st56 _ k) ?_
            show own_GW _ _ _ (T56.setTop (mkF m 136 #[.val (.int p0), .val (.int p1), .val (.int p2), .val (.int p3), .val (.int p4), .val (.int (0 : Int32)), .val (.int x0), .val (.int x1), .val (.int x2), .val (.int xq), .val (.ref b1), .val (.ref b10), .val (.ref a28), .unset, .unset] [(.ref b32)])) _ _ _ _ _ _
            refine own_goW (fun _ k => XS.dup X56.here hx rfl (hb hby at_136) rfl rfl k) ?_
            show own_GW _ _ _ (T56.setTop (mkF m 137 #[.val (.int p0), .val (.int p1), .val (.int p2), .val (.int p3), .val (.int p4), .val (.int (0 : Int32)), .val (.int x0), .val (.int x1), .val (.int x2), .val (.int xq), .val (.ref b1), .val (.ref b10), .val (.ref a28), .unset, .unset] [(.ref b32), (.ref b32)])) _ _ _ _ _ _
            refine own_goW (fun _ k => XS.iconst X56.here hx rfl (hb hby at_137) k) ?_
            show own_GW _ _ _ (T56.setTop (mkF m 138 #[.val (.int p0), .val (.int p1), .val (.int p2), .val (.int p3), .val (.int p4), .val (.int (0 : Int32)), .val (.int x0), .val (.int x1), .val (.int x2), .val (.int xq), .val (.ref b1), .val (.ref b10), .val (.ref a28), .unset, .unset] [(.int (1 : Int32)), (.ref b32), (.ref b32)])) _ _ _ _ _ _
            have CQ66 := CR46.trans (CHr.keep K56_1 (allS sf55 all0) CR46.1)
            obtain ⟨a66, T66, h66, k166, b66, kb66, X66, e66, E66, hS66, hk66, -, -, xa66, cd66, vl66, vb66, la66, lb66, CC66, Lt66, nea66, st66⟩ := ldcCH (s := s.setVm T46.vm) (vm0 := T46.vm) X56 hx hZ hown (hw _ (List.mem_of_getElem? (i := 13) rfl)) (own_wS hw) e56 ((State.WarmedH.refl (s.setVm T46.vm)).since h56.size) (Nat.le_refl _) (own_EW hw) (by simp [own_EL]) CQ66.1 (vs := [(.int (66 : Int32))]) (z := (1 : Int32)) ⟨by decide, rfl⟩ (by decide) rfl (g := (mkF m 138 #[.val (.int p0), .val (.int p1), .val (.int p2), .val (.int p3), .val (.int p4), .val (.int (0 : Int32)), .val (.int x0), .val (.int x1), .val (.int x2), .val (.int xq), .val (.ref b1), .val (.ref b10), .val (.ref a28), .unset, .unset] [(.int (1 : Int32)), (.ref b32), (.ref b32)])) rfl (hb hby at_138) (n := 4) (by decide) (by decide) (by decide) (by decide)
            have CR66 := CQ66.trans CC66
            have hW66 : (s.setVm T46.vm).Warmed39 T66.vm := hS66.1
            have hR66 : (s.setVm T46.vm).Since T66.vm h66.size := ⟨hS66.1, hS66.2.mono hk66⟩
            obtain ⟨X66, hS66, hZ, hown⟩ := rebS hS46 (Nat.le_trans (Nat.le_refl _) K56_1.1) X66 hR66 E66.1 hZ hown
            have Lt66 : Lit (s.setVm T66.vm) "com/example/issuerd/issuerd/xml/DomReferencesPinLaw" 20 a66 := Lt66
            have Lt28_46_66 := Lit.stays Lt28_46 hW66
            have Lt46_66 := Lit.stays Lt46 hW66
            have Zs66 : n0 ≤ h66.size := Nat.le_trans Zs56 E66.1
            have K66_0 : Keep h0 h66 [] := K56_0.ext E66
            have f67 : Old Z n0 h66 := f57.ext E66
            have f68 : Arv Z h66 b1 k1 .char (2 : Int32) [(.int x0), (.int x1)] (.int (0 : Int32)) := f58.ext E66
            have f69 : Arv Z h66 b10 k10 .char (3 : Int32) [(.int x0), (.int x1), (.int x2)] (.int (0 : Int32)) := f59.ext E66
            have f70 : Exa Z h66 a28 "java/lang/String" := f60.ext E66
            have f71 : Fld Z h66 a28 "java/lang/String" "coder" "B" (.int 0) := f61.ext E66
            have f72 : Fld Z h66 a28 "java/lang/String" "value" "[B" (.ref b28) := f62.ext E66
            have f73 : Arv Z h66 b28 kb28 .byte (0 : Int32) [] (.int (0 : Int32)) := f63.ext E66
            have f74 : Exa Z h66 a46 "java/lang/String" := f64.ext E66
            have f75 : Arv Z h66 b32 k32 (.object "java/lang/String") (3 : Int32) [(.ref a46), .null, .null] .null := f65.ext E66
            have sf76 : Safe Z own_EL T66.vm h66 b32 := (by obtain ⟨c_, A_, -⟩ := f75; exact Safe.arr hZ.alike A_ (by decide))
            have KS66 : Keep h66 h66 [b32] := Keep.refl _ _
            refine own_goW (fun _ k => st66 _ k) ?_
            show own_GW _ _ _ (T66.setTop (mkF m 140 #[.val (.int p0), .val (.int p1), .val (.int p2), .val (.int p3), .val (.int p4), .val (.int (0 : Int32)), .val (.int x0), .val (.int x1), .val (.int x2), .val (.int xq), .val (.ref b1), .val (.ref b10), .val (.ref a28), .unset, .unset] [(.ref a66), (.int (1 : Int32)), (.ref b32), (.ref b32)])) _ _ _ _ _ _
            obtain ⟨cl77, Ar77, q77, S77, Ng77, H77, G77⟩ := id f75
            have in77 : ¬ ((1 : Int32) < 0 ∨ cl77.slots.size ≤ ((1 : Int32)).toNatClampNeg) := inb_of S77 ⟨by decide, by decide⟩
            obtain ⟨T77, h77, X77, e77, W77, st77⟩ := stR X66 hx hZ e66 Ar77 (j := (1 : Int32)) in77 rfl (Sto.ofV Ar77 q77 f44 (Ins.self xa66)) (g := (mkF m 140 #[.val (.int p0), .val (.int p1), .val (.int p2), .val (.int p3), .val (.int p4), .val (.int (0 : Int32)), .val (.int x0), .val (.int x1), .val (.int x2), .val (.int xq), .val (.ref b1), .val (.ref b10), .val (.ref a28), .unset, .unset] [(.ref a66), (.int (1 : Int32)), (.ref b32), (.ref b32)])) rfl rfl (hb hby at_140)
            have N77 := Fr.snoc X77 N56 gg32
            have Zs77 : n0 ≤ h77.size := Nat.le_trans Zs66 (Keep.of_wr W77).1
            have K77_0 : Keep h0 h77 [] := K66_0.wr W77 (Or.inr sz32_0)
            have K77_1 : Keep h66 h77 [b32] := KS66.wr W77 (Or.inl (List.mem_of_getElem? (i := 0) rfl))
            have f78 : Old Z n0 h77 := f67.wr W77 gg32
            have f79 : Arv Z h77 b1 k1 .char (2 : Int32) [(.int x0), (.int x1)] (.int (0 : Int32)) := f68.other W77 ne33
            have f80 : Arv Z h77 b10 k10 .char (3 : Int32) [(.int x0), (.int x1), (.int x2)] (.int (0 : Int32)) := f69.other W77 ne34
            have f81 : Exa Z h77 a28 "java/lang/String" := f70.wr W77
            have f82 : Fld Z h77 a28 "java/lang/String" "coder" "B" (.int 0) := f71.other W77 (Or.inl ne35)
            have f83 : Fld Z h77 a28 "java/lang/String" "value" "[B" (.ref b28) := f72.other W77 (Or.inl ne35)
            have f84 : Arv Z h77 b28 kb28 .byte (0 : Int32) [] (.int (0 : Int32)) := f73.other W77 ne36
            have f85 : Exa Z h77 a46 "java/lang/String" := f74.wr W77
            have f86 : Exa Z h77 a66 "java/lang/String" := xa66.wr W77
            have f87 : Arv Z h77 b32 k32 (.object "java/lang/String") (3 : Int32) [(.ref a46), (.ref a66), .null] .null := Arv.set Ar77 q77 S77 Ng77 H77 G77 rfl W77 1 rfl (Nat.le_of_ble_eq_true rfl)
            refine own_goW (fun _ k => st77 _ k) ?_
            show own_GW _ _ _ (T77.setTop (mkF m 141 #[.val (.int p0), .val (.int p1), .val (.int p2), .val (.int p3), .val (.int p4), .val (.int (0 : Int32)), .val (.int x0), .val (.int x1), .val (.int x2), .val (.int xq), .val (.ref b1), .val (.ref b10), .val (.ref a28), .unset, .unset] [(.ref b32)])) _ _ _ _ _ _
            refine own_goW (fun _ k => XS.dup X77.here hx rfl (hb hby at_141) rfl rfl k) ?_
            show own_GW _ _ _ (T77.setTop (mkF m 142 #[.val (.int p0), .val (.int p1), .val (.int p2), .val (.int p3), .val (.int p4), .val (.int (0 : Int32)), .val (.int x0), .val (.int x1), .val (.int x2), .val (.int xq), .val (.ref b1), .val (.ref b10), .val (.ref a28), .unset, .unset] [(.ref b32), (.ref b32)])) _ _ _ _ _ _
            refine own_goW (fun _ k => XS.iconst X77.here hx rfl (hb hby at_142) k) ?_
            show own_GW _ _ _ (T77.setTop (mkF m 143 #[.val (.int p0), .val (.int p1), .val (.int p2), .val (.int p3), .val (.int p4), .val (.int (0 : Int32)), .val (.int x0), .val (.int x1), .val (.int x2), .val (.int xq), .val (.ref b1), .val (.ref b10), .val (.ref a28), .unset, .unset] [(.int (2 : Int32)), (.ref b32), (.ref b32)])) _ _ _ _ _ _
            have CQ88 := CR66.trans (CHr.keep K77_1 (allS sf76 all0) CR66.1)
            obtain ⟨a88, T88, h88, k188, b88, kb88, X88, e88, E88, hS88, hk88, -, -, xa88, cd88, vl88, vb88, la88, lb88, CC88, Lt88, nea88, st88⟩ := ldcCH (s := s.setVm T66.vm) (vm0 := T66.vm) X77 hx hZ hown (hw _ (List.mem_of_getElem? (i := 14) rfl)) (own_wS hw) e77 ((State.WarmedH.refl (s.setVm T66.vm)).since h77.size) (Nat.le_refl _) (own_EW hw) (by simp [own_EL]) CQ88.1 (vs := [(.int (67 : Int32))]) (z := (1 : Int32)) ⟨by decide, rfl⟩ (by decide) rfl (g := (mkF m 143 #[.val (.int p0), .val (.int p1), .val (.int p2), .val (.int p3), .val (.int p4), .val (.int (0 : Int32)), .val (.int x0), .val (.int x1), .val (.int x2), .val (.int xq), .val (.ref b1), .val (.ref b10), .val (.ref a28), .unset, .unset] [(.int (2 : Int32)), (.ref b32), (.ref b32)])) rfl (hb hby at_143) (n := 4) (by decide) (by decide) (by decide) (by decide)
            have CR88 := CQ88.trans CC88
            have hW88 : (s.setVm T66.vm).Warmed39 T88.vm := hS88.1
            have hR88 : (s.setVm T66.vm).Since T88.vm h88.size := ⟨hS88.1, hS88.2.mono hk88⟩
            obtain ⟨X88, hS88, hZ, hown⟩ := rebS hS66 (Nat.le_trans (Nat.le_refl _) K77_1.1) X88 hR88 E88.1 hZ hown
            have Lt88 : Lit (s.setVm T88.vm) "com/example/issuerd/issuerd/xml/DomReferencesPinLaw" 22 a88 := Lt88
            have Lt28_46_66_88 := Lit.stays Lt28_46_66 hW88
            have Lt46_66_88 := Lit.stays Lt46_66 hW88
            have Lt66_88 := Lit.stays Lt66 hW88
            have Zs88 : n0 ≤ h88.size := Nat.le_trans Zs77 E88.1
            have K88_0 : Keep h0 h88 [] := K77_0.ext E88
            have f89 : Old Z n0 h88 := f78.ext E88
            have f90 : Arv Z h88 b1 k1 .char (2 : Int32) [(.int x0), (.int x1)] (.int (0 : Int32)) := f79.ext E88
            have f91 : Arv Z h88 b10 k10 .char (3 : Int32) [(.int x0), (.int x1), (.int x2)] (.int (0 : Int32)) := f80.ext E88
            have f92 : Exa Z h88 a28 "java/lang/String" := f81.ext E88
            have f93 : Fld Z h88 a28 "java/lang/String" "coder" "B" (.int 0) := f82.ext E88
            have f94 : Fld Z h88 a28 "java/lang/String" "value" "[B" (.ref b28) := f83.ext E88
            have f95 : Arv Z h88 b28 kb28 .byte (0 : Int32) [] (.int (0 : Int32)) := f84.ext E88
            have f96 : Exa Z h88 a46 "java/lang/String" := f85.ext E88
            have f97 : Exa Z h88 a66 "java/lang/String" := f86.ext E88
            have f98 : Arv Z h88 b32 k32 (.object "java/lang/String") (3 : Int32) [(.ref a46), (.ref a66), .null] .null := f87.ext E88
            have sf99 : Safe Z own_EL T88.vm h88 b32 := (by obtain ⟨c_, A_, -⟩ := f98; exact Safe.arr hZ.alike A_ (by decide))
            have KS88 : Keep h88 h88 [b32] := Keep.refl _ _
            refine own_goW (fun _ k => st88 _ k) ?_
            show own_GW _ _ _ (T88.setTop (mkF m 145 #[.val (.int p0), .val (.int p1), .val (.int p2), .val (.int p3), .val (.int p4), .val (.int (0 : Int32)), .val (.int x0), .val (.int x1), .val (.int x2), .val (.int xq), .val (.ref b1), .val (.ref b10), .val (.ref a28), .unset, .unset] [(.ref a88), (.int (2 : Int32)), (.ref b32), (.ref b32)])) _ _ _ _ _ _
            obtain ⟨cl100, Ar100, q100, S100, Ng100, H100, G100⟩ := id f98
            have in100 : ¬ ((2 : Int32) < 0 ∨ cl100.slots.size ≤ ((2 : Int32)).toNatClampNeg) := inb_of S100 ⟨by decide, by decide⟩
            obtain ⟨T100, h100, X100, e100, W100, st100⟩ := stR X88 hx hZ e88 Ar100 (j := (2 : Int32)) in100 rfl (Sto.ofV Ar100 q100 f44 (Ins.self xa88)) (g := (mkF m 145 #[.val (.int p0), .val (.int p1), .val (.int p2), .val (.int p3), .val (.int p4), .val (.int (0 : Int32)), .val (.int x0), .val (.int x1), .val (.int x2), .val (.int xq), .val (.ref b1), .val (.ref b10), .val (.ref a28), .unset, .unset] [(.ref a88), (.int (2 : Int32)), (.ref b32), (.ref b32)])) rfl rfl (hb hby at_145)
            have N100 := Fr.snoc X100 N77 gg32
            have Zs100 : n0 ≤ h100.size := Nat.le_trans Zs88 (Keep.of_wr W100).1
            have K100_0 : Keep h0 h100 [] := K88_0.wr W100 (Or.inr sz32_0)
            have K100_1 : Keep h88 h100 [b32] := KS88.wr W100 (Or.inl (List.mem_of_getElem? (i := 0) rfl))
            have f101 : Old Z n0 h100 := f89.wr W100 gg32
            have f102 : Arv Z h100 b1 k1 .char (2 : Int32) [(.int x0), (.int x1)] (.int (0 : Int32)) := f90.other W100 ne33
            have f103 : Arv Z h100 b10 k10 .char (3 : Int32) [(.int x0), (.int x1), (.int x2)] (.int (0 : Int32)) := f91.other W100 ne34
            have f104 : Exa Z h100 a28 "java/lang/String" := f92.wr W100
            have f105 : Fld Z h100 a28 "java/lang/String" "coder" "B" (.int 0) := f93.other W100 (Or.inl ne35)
            have f106 : Fld Z h100 a28 "java/lang/String" "value" "[B" (.ref b28) := f94.other W100 (Or.inl ne35)
            have f107 : Arv Z h100 b28 kb28 .byte (0 : Int32) [] (.int (0 : Int32)) := f95.other W100 ne36
            have f108 : Exa Z h100 a46 "java/lang/String" := f96.wr W100
            have f109 : Exa Z h100 a66 "java/lang/String" := f97.wr W100
            have f110 : Exa Z h100 a88 "java/lang/String" := xa88.wr W100
            have f111 : Arv Z h100 b32 k32 (.object "java/lang/String") (3 : Int32) [(.ref a46), (.ref a66), (.ref a88)] .null := Arv.set Ar100 q100 S100 Ng100 H100 G100 rfl W100 2 rfl (Nat.le_of_ble_eq_true rfl)
            refine own_goW (fun _ k => st100 _ k) ?_
            show own_GW _ _ _ (T100.setTop (mkF m 146 #[.val (.int p0), .val (.int p1), .val (.int p2), .val (.int p3), .val (.int p4), .val (.int (0 : Int32)), .val (.int x0), .val (.int x1), .val (.int x2), .val (.int xq), .val (.ref b1), .val (.ref b10), .val (.ref a28), .unset, .unset] [(.ref b32)])) _ _ _ _ _ _
            refine own_goW (fun _ k => XS.astore X100.here hx rfl (hb hby at_146) rfl rfl (l' := #[.val (.int p0), .val (.int p1), .val (.int p2), .val (.int p3), .val (.int p4), .val (.int (0 : Int32)), .val (.int x0), .val (.int x1), .val (.int x2), .val (.int xq), .val (.ref b1), .val (.ref b10), .val (.ref a28), .val (.ref b32), .unset]) rfl k) ?_
            show own_GW _ _ _ (T100.setTop (mkF m 148 #[.val (.int p0), .val (.int p1), .val (.int p2), .val (.int p3), .val (.int p4), .val (.int (0 : Int32)), .val (.int x0), .val (.int x1), .val (.int x2), .val (.int xq), .val (.ref b1), .val (.ref b10), .val (.ref a28), .val (.ref b32), .unset] [])) _ _ _ _ _ _
            refine own_goW (fun _ k => XS.aload X100.here hx rfl (hb hby at_148) rfl rfl k) ?_
            show own_GW _ _ _ (T100.setTop (mkF m 150 #[.val (.int p0), .val (.int p1), .val (.int p2), .val (.int p3), .val (.int p4), .val (.int (0 : Int32)), .val (.int x0), .val (.int x1), .val (.int x2), .val (.int xq), .val (.ref b1), .val (.ref b10), .val (.ref a28), .val (.ref b32), .unset] [(.ref a28)])) _ _ _ _ _ _
            refine own_goW (fun _ k => XS.aload X100.here hx rfl (hb hby at_150) rfl rfl k) ?_
            show own_GW _ _ _ (T100.setTop (mkF m 152 #[.val (.int p0), .val (.int p1), .val (.int p2), .val (.int p3), .val (.int p4), .val (.int (0 : Int32)), .val (.int x0), .val (.int x1), .val (.int x2), .val (.int xq), .val (.ref b1), .val (.ref b10), .val (.ref a28), .val (.ref b32), .unset] [(.ref b32), (.ref a28)])) _ _ _ _ _ _
            obtain ⟨_, _, ⟨T112, L112, k112, n112⟩, -, X112, ⟨Lc112, hQ112, l112, y112, z112⟩, st112⟩ := Jvm.LawKit.callS X100 hx (y := (⟨"com/example/issuerd/issuerd/xml/Dom", "references", "(Ljava/lang/String;[Ljava/lang/String;)[Ljava/lang/String;"⟩ : MethodName)) hown (mvT hZ (hw _ (List.mem_of_getElem? (i := 15) rfl))) (mvT hZ (hw _ (List.mem_of_getElem? (i := 16) rfl))) (mvT hZ (hw _ (List.mem_of_getElem? (i := 17) rfl))) (mvT hZ (hw _ (List.mem_of_getElem? (i := 18) rfl))) (by decide) (backOf (W := 0) (rm1a l Z a0 hw [] a28 b32 zc fm b28 kb28 k32 a46 a66 a88 h100 n0 Zs100 f101 P_ZS_java_lang_String_COMPACT_STRINGS hcs P_ZS_jdk_internal_util_Preconditions_SIOOBE_FORMATTER hfm f104 f105 f106 f107 f111 f108 f109 f110) hZ (hw _ (List.mem_of_getElem? (i := 18) rfl)) (hw _ (List.mem_of_getElem? (i := 17) rfl)) (by decide) (by decide)) (g := (mkF m 152 #[.val (.int p0), .val (.int p1), .val (.int p2), .val (.int p3), .val (.int p4), .val (.int (0 : Int32)), .val (.int x0), .val (.int x1), .val (.int x2), .val (.int xq), .val (.ref b1), .val (.ref b10), .val (.ref a28), .val (.ref b32), .unset] [(.ref b32), (.ref a28)])) rfl (by rw [hml]; rfl) (argsL := [(.ref a28), (.ref b32)]) (rest := []) (lenOf pd_6 rfl) rfl (by show 2 * 0 + _ ≤ _; exact Nat.le_of_eq rfl) (hb hby at_152) (fun _ _ => ⟨rfl, e100, (by decide : 11 + 1 ≤ _), (by decide : 36 + 0 ≤ _)⟩)
            dsimp only [Pt.U, Pt.locs, Pt.cells, Pt.slots] at X112 l112 y112 z112 st112 hQ112
            rw [l112] at X112
            subst y112 z112
            obtain ⟨na112, kn112, rfl, Nq112, Kq112, r112_0⟩ := hQ112
            have N112 := Fr.app N100 Nq112
            have f113 : Old Z n0 T112.heap := f101.keep Kq112 all0
            have f114 : Arv Z T112.heap b1 k1 .char (2 : Int32) [(.int x0), (.int x1)] (.int (0 : Int32)) := f102.keep Kq112 nin0
            have f115 : Arv Z T112.heap b10 k10 .char (3 : Int32) [(.int x0), (.int x1), (.int x2)] (.int (0 : Int32)) := f103.keep Kq112 nin0
            have f116 : Exa Z T112.heap a28 "java/lang/String" := f104.keep Kq112
            have f117 : Fld Z T112.heap a28 "java/lang/String" "coder" "B" (.int 0) := f105.keep Kq112 nin0
            have f118 : Fld Z T112.heap a28 "java/lang/String" "value" "[B" (.ref b28) := f106.keep Kq112 nin0
            have f119 : Arv Z T112.heap b28 kb28 .byte (0 : Int32) [] (.int (0 : Int32)) := f107.keep Kq112 nin0
            have f120 : Exa Z T112.heap a46 "java/lang/String" := f108.keep Kq112
            have f121 : Exa Z T112.heap a66 "java/lang/String" := f109.keep Kq112
            have f122 : Exa Z T112.heap a88 "java/lang/String" := f110.keep Kq112
            have f123 : Arv Z T112.heap b32 k32 (.object "java/lang/String") (3 : Int32) [(.ref a46), (.ref a66), (.ref a88)] .null := f111.keep Kq112 nin0
            have Zs112 : n0 ≤ T112.heap.size := Nat.le_trans Zs100 Kq112.1
            have K112_0 : Keep h0 T112.heap [] := K100_0.trans Kq112 all0
            have K112_1 : Keep h88 T112.heap [b32] := K100_1.trans Kq112 all0
            refine own_goW (fun _ k => st112 _ k) ?_
            show own_GW _ _ _ (T112.setTop (mkF m 155 #[.val (.int p0), .val (.int p1), .val (.int p2), .val (.int p3), .val (.int p4), .val (.int (0 : Int32)), .val (.int x0), .val (.int x1), .val (.int x2), .val (.int xq), .val (.ref b1), .val (.ref b10), .val (.ref a28), .val (.ref b32), .unset] [(.ref na112)])) _ _ _ _ _ _
            refine own_goW (fun _ k => XS.astore X112.here hx rfl (hb hby at_155) rfl rfl (l' := #[.val (.int p0), .val (.int p1), .val (.int p2), .val (.int p3), .val (.int p4), .val (.int (0 : Int32)), .val (.int x0), .val (.int x1), .val (.int x2), .val (.int xq), .val (.ref b1), .val (.ref b10), .val (.ref a28), .val (.ref b32), .val (.ref na112)]) rfl k) ?_
            show own_GW _ _ _ (T112.setTop (mkF m 157 #[.val (.int p0), .val (.int p1), .val (.int p2), .val (.int p3), .val (.int p4), .val (.int (0 : Int32)), .val (.int x0), .val (.int x1), .val (.int x2), .val (.int xq), .val (.ref b1), .val (.ref b10), .val (.ref a28), .val (.ref b32), .val (.ref na112)] [])) _ _ _ _ _ _
            refine own_goW (fun _ k => XS.iload X112.here hx rfl (hb hby at_157) rfl k) ?_
            show own_GW _ _ _ (T112.setTop (mkF m 159 #[.val (.int p0), .val (.int p1), .val (.int p2), .val (.int p3), .val (.int p4), .val (.int (0 : Int32)), .val (.int x0), .val (.int x1), .val (.int x2), .val (.int xq), .val (.ref b1), .val (.ref b10), .val (.ref a28), .val (.ref b32), .val (.ref na112)] [(.int (0 : Int32))])) _ _ _ _ _ _
            have hc124 : (0 : Int32) = (0 : Int32) := (by decide)
            refine own_goW (fun _ k => XS.ifNo X112.here hx rfl (hb hby at_159) rfl ((if0 _ _).trans (teq hc124).2) k) ?_
            show own_GW _ _ _ (T112.setTop (mkF m 162 #[.val (.int p0), .val (.int p1), .val (.int p2), .val (.int p3), .val (.int p4), .val (.int (0 : Int32)), .val (.int x0), .val (.int x1), .val (.int x2), .val (.int xq), .val (.ref b1), .val (.ref b10), .val (.ref a28), .val (.ref b32), .val (.ref na112)] [])) _ _ _ _ _ _
            refine own_goW (fun _ k => XS.aload X112.here hx rfl (hb hby at_162) rfl rfl k) ?_
            show own_GW _ _ _ (T112.setTop (mkF m 164 #[.val (.int p0), .val (.int p1), .val (.int p2), .val (.int p3), .val (.int p4), .val (.int (0 : Int32)), .val (.int x0), .val (.int x1), .val (.int x2), .val (.int xq), .val (.ref b1), .val (.ref b10), .val (.ref a28), .val (.ref b32), .val (.ref na112)] [(.ref na112)])) _ _ _ _ _ _
            obtain ⟨cl125, Ar125, -, S125, Ng125, -, -⟩ := id r112_0
            refine own_goW (fun _ k => X112.arraylength hx (by exact Ar125.1) (State.isArrayOf_alike hZ.alike Ar125.2.1) (g := (mkF m 164 #[.val (.int p0), .val (.int p1), .val (.int p2), .val (.int p3), .val (.int p4), .val (.int (0 : Int32)), .val (.int x0), .val (.int x1), .val (.int x2), .val (.int xq), .val (.ref b1), .val (.ref b10), .val (.ref a28), .val (.ref b32), .val (.ref na112)] [(.ref na112)])) rfl rfl (hb hby at_164) _ k) ?_
            rw [len_of S125 Ng125]
            show own_GW _ _ _ (T112.setTop (mkF m 165 #[.val (.int p0), .val (.int p1), .val (.int p2), .val (.int p3), .val (.int p4), .val (.int (0 : Int32)), .val (.int x0), .val (.int x1), .val (.int x2), .val (.int xq), .val (.ref b1), .val (.ref b10), .val (.ref a28), .val (.ref b32), .val (.ref na112)] [(.int (0 : Int32))])) _ _ _ _ _ _
            have hc126 : (0 : Int32) = (0 : Int32) := (by decide)
            refine own_goW (fun _ k => XS.ifNo X112.here hx rfl (hb hby at_165) rfl ((if0 _ _).trans (teq hc126).2) k) ?_
            show own_GW _ _ _ (T112.setTop (mkF m 168 #[.val (.int p0), .val (.int p1), .val (.int p2), .val (.int p3), .val (.int p4), .val (.int (0 : Int32)), .val (.int x0), .val (.int x1), .val (.int x2), .val (.int xq), .val (.ref b1), .val (.ref b10), .val (.ref a28), .val (.ref b32), .val (.ref na112)] [])) _ _ _ _ _ _
            refine own_goW (fun _ k => XS.iconst X112.here hx rfl (hb hby at_168) k) ?_
            show own_GW _ _ _ (T112.setTop (mkF m 169 #[.val (.int p0), .val (.int p1), .val (.int p2), .val (.int p3), .val (.int p4), .val (.int (0 : Int32)), .val (.int x0), .val (.int x1), .val (.int x2), .val (.int xq), .val (.ref b1), .val (.ref b10), .val (.ref a28), .val (.ref b32), .val (.ref na112)] [(.int (1 : Int32))])) _ _ _ _ _ _
            refine own_goW (fun _ k => XS.goto X112.here hx rfl (pc0 := 169) (pc' := 173) rfl (hb hby at_169) (by decide) (by decide) k) ?_
            show own_GW _ _ _ (T112.setTop (mkF m 173 #[.val (.int p0), .val (.int p1), .val (.int p2), .val (.int p3), .val (.int p4), .val (.int (0 : Int32)), .val (.int x0), .val (.int x1), .val (.int x2), .val (.int xq), .val (.ref b1), .val (.ref b10), .val (.ref a28), .val (.ref b32), .val (.ref na112)] [(.int (1 : Int32))])) _ _ _ _ _ _
            have CQ127 := CR88.trans (CHr.keep K112_1 (allS sf99 all0) CR88.1)
            have CE127 : CHr Z own_EL s.vm s.heap T112.vm T112.heap := by rw [hh, show T112.heap = T112.heap from rfl]; exact CQ127.trans (CHv.at X112 hZ (own_EW hw) CQ127.1)
            exact own_endWN X112 hx hlk (t := .boolean) Bd.returns (by simp) (hb hby at_173) hS88 (show _ ≤ T112.heap.size by rw [show T112.heap = T112.heap from rfl]; exact (Nat.le_trans (Nat.le_refl _) K112_1.1)) (by decide) (by decide) CE127 (Q := (Q0 Z p0 p1 p2 p3 p4 zc fm h0 n0)) ⟨rfl, N112, K112_0⟩
  · rw [hn]
    show own_GW _ _ _ (s₁.setTop (mkF m 3 #[.val (.int p0), .val (.int p1), .val (.int p2), .val (.int p3), .val (.int p4), .unset, .unset, .unset, .unset, .unset, .unset, .unset, .unset, .unset, .unset] [(.int (1 : Int32))])) _ _ _ _ _ _
    refine own_goW (fun _ k => XS.istore X0.here hx rfl (hb hby at_3) rfl (l' := #[.val (.int p0), .val (.int p1), .val (.int p2), .val (.int p3), .val (.int p4), .val (.int (1 : Int32)), .unset, .unset, .unset, .unset, .unset, .unset, .unset, .unset, .unset]) rfl k) ?_
    show own_GW _ _ _ (s₁.setTop (mkF m 5 #[.val (.int p0), .val (.int p1), .val (.int p2), .val (.int p3), .val (.int p4), .val (.int (1 : Int32)), .unset, .unset, .unset, .unset, .unset, .unset, .unset, .unset, .unset] [])) _ _ _ _ _ _
    refine own_goW (fun _ k => XS.iloadN X0.here hx rfl (hb hby at_5) rfl k) ?_
    show own_GW _ _ _ (s₁.setTop (mkF m 6 #[.val (.int p0), .val (.int p1), .val (.int p2), .val (.int p3), .val (.int p4), .val (.int (1 : Int32)), .unset, .unset, .unset, .unset, .unset, .unset, .unset, .unset, .unset] [(.int p1)])) _ _ _ _ _ _
    refine own_goW (fun _ k => XS.bipush X0.here hx rfl (hb hby at_6) k) ?_
    show own_GW _ _ _ (s₁.setTop (mkF m 8 #[.val (.int p0), .val (.int p1), .val (.int p2), .val (.int p3), .val (.int p4), .val (.int (1 : Int32)), .unset, .unset, .unset, .unset, .unset, .unset, .unset, .unset, .unset] [(.int (127 : Int32)), (.int p1)])) _ _ _ _ _ _
    refine own_goW (fun _ k => XS.iand X0.here hx rfl (hb hby at_8) rfl k) ?_
    show own_GW _ _ _ (s₁.setTop (mkF m 9 #[.val (.int p0), .val (.int p1), .val (.int p2), .val (.int p3), .val (.int p4), .val (.int (1 : Int32)), .unset, .unset, .unset, .unset, .unset, .unset, .unset, .unset, .unset] [(.int (p1 &&& (127 : Int32)))])) _ _ _ _ _ _
    refine own_goW (fun _ k => XS.i2c X0.here hx rfl (hb hby at_9) rfl k) ?_
    show own_GW _ _ _ (s₁.setTop (mkF m 10 #[.val (.int p0), .val (.int p1), .val (.int p2), .val (.int p3), .val (.int p4), .val (.int (1 : Int32)), .unset, .unset, .unset, .unset, .unset, .unset, .unset, .unset, .unset] [(.int (p1 &&& (127 : Int32)).toUInt32.toUInt16.toUInt32.toInt32)])) _ _ _ _ _ _
    obtain ⟨x0, h_x0⟩ : ∃ z : Int32, z = (p1 &&& (127 : Int32)).toUInt32.toUInt16.toUInt32.toInt32 := ⟨_, rfl⟩
    · rw [← h_x0]
      have rg0 : own_rg x0 := by rw [h_x0]; exact own_rgc _
      show own_GW _ _ _ (s₁.setTop (mkF m 10 #[.val (.int p0), .val (.int p1), .val (.int p2), .val (.int p3), .val (.int p4), .val (.int (1 : Int32)), .unset, .unset, .unset, .unset, .unset, .unset, .unset, .unset, .unset] [(.int x0)])) _ _ _ _ _ _
      refine own_goW (fun _ k => XS.istore X0.here hx rfl (hb hby at_10) rfl (l' := #[.val (.int p0), .val (.int p1), .val (.int p2), .val (.int p3), .val (.int p4), .val (.int (1 : Int32)), .val (.int x0), .unset, .unset, .unset, .unset, .unset, .unset, .unset, .unset]) rfl k) ?_
      show own_GW _ _ _ (s₁.setTop (mkF m 12 #[.val (.int p0), .val (.int p1), .val (.int p2), .val (.int p3), .val (.int p4), .val (.int (1 : Int32)), .val (.int x0), .unset, .unset, .unset, .unset, .unset, .unset, .unset, .unset] [])) _ _ _ _ _ _
      refine own_goW (fun _ k => XS.iloadN X0.here hx rfl (hb hby at_12) rfl k) ?_
      show own_GW _ _ _ (s₁.setTop (mkF m 13 #[.val (.int p0), .val (.int p1), .val (.int p2), .val (.int p3), .val (.int p4), .val (.int (1 : Int32)), .val (.int x0), .unset, .unset, .unset, .unset, .unset, .unset, .unset, .unset] [(.int p2)])) _ _ _ _ _ _
      refine own_goW (fun _ k => XS.bipush X0.here hx rfl (hb hby at_13) k) ?_
      show own_GW _ _ _ (s₁.setTop (mkF m 15 #[.val (.int p0), .val (.int p1), .val (.int p2), .val (.int p3), .val (.int p4), .val (.int (1 : Int32)), .val (.int x0), .unset, .unset, .unset, .unset, .unset, .unset, .unset, .unset] [(.int (127 : Int32)), (.int p2)])) _ _ _ _ _ _
      refine own_goW (fun _ k => XS.iand X0.here hx rfl (hb hby at_15) rfl k) ?_
      show own_GW _ _ _ (s₁.setTop (mkF m 16 #[.val (.int p0), .val (.int p1), .val (.int p2), .val (.int p3), .val (.int p4), .val (.int (1 : Int32)), .val (.int x0), .unset, .unset, .unset, .unset, .unset, .unset, .unset, .unset] [(.int (p2 &&& (127 : Int32)))])) _ _ _ _ _ _
      refine own_goW (fun _ k => XS.i2c X0.here hx rfl (hb hby at_16) rfl k) ?_
      show own_GW _ _ _ (s₁.setTop (mkF m 17 #[.val (.int p0), .val (.int p1), .val (.int p2), .val (.int p3), .val (.int p4), .val (.int (1 : Int32)), .val (.int x0), .unset, .unset, .unset, .unset, .unset, .unset, .unset, .unset] [(.int (p2 &&& (127 : Int32)).toUInt32.toUInt16.toUInt32.toInt32)])) _ _ _ _ _ _
      obtain ⟨x1, h_x1⟩ : ∃ z : Int32, z = (p2 &&& (127 : Int32)).toUInt32.toUInt16.toUInt32.toInt32 := ⟨_, rfl⟩
      · rw [← h_x1]
        have rg1 : own_rg x1 := by rw [h_x1]; exact own_rgc _
        show own_GW _ _ _ (s₁.setTop (mkF m 17 #[.val (.int p0), .val (.int p1), .val (.int p2), .val (.int p3), .val (.int p4), .val (.int (1 : Int32)), .val (.int x0), .unset, .unset, .unset, .unset, .unset, .unset, .unset, .unset] [(.int x1)])) _ _ _ _ _ _
        refine own_goW (fun _ k => XS.istore X0.here hx rfl (hb hby at_17) rfl (l' := #[.val (.int p0), .val (.int p1), .val (.int p2), .val (.int p3), .val (.int p4), .val (.int (1 : Int32)), .val (.int x0), .val (.int x1), .unset, .unset, .unset, .unset, .unset, .unset, .unset]) rfl k) ?_
        show own_GW _ _ _ (s₁.setTop (mkF m 19 #[.val (.int p0), .val (.int p1), .val (.int p2), .val (.int p3), .val (.int p4), .val (.int (1 : Int32)), .val (.int x0), .val (.int x1), .unset, .unset, .unset, .unset, .unset, .unset, .unset] [])) _ _ _ _ _ _
        refine own_goW (fun _ k => XS.iloadN X0.here hx rfl (hb hby at_19) rfl k) ?_
        show own_GW _ _ _ (s₁.setTop (mkF m 20 #[.val (.int p0), .val (.int p1), .val (.int p2), .val (.int p3), .val (.int p4), .val (.int (1 : Int32)), .val (.int x0), .val (.int x1), .unset, .unset, .unset, .unset, .unset, .unset, .unset] [(.int p3)])) _ _ _ _ _ _
        refine own_goW (fun _ k => XS.bipush X0.here hx rfl (hb hby at_20) k) ?_
        show own_GW _ _ _ (s₁.setTop (mkF m 22 #[.val (.int p0), .val (.int p1), .val (.int p2), .val (.int p3), .val (.int p4), .val (.int (1 : Int32)), .val (.int x0), .val (.int x1), .unset, .unset, .unset, .unset, .unset, .unset, .unset] [(.int (127 : Int32)), (.int p3)])) _ _ _ _ _ _
        refine own_goW (fun _ k => XS.iand X0.here hx rfl (hb hby at_22) rfl k) ?_
        show own_GW _ _ _ (s₁.setTop (mkF m 23 #[.val (.int p0), .val (.int p1), .val (.int p2), .val (.int p3), .val (.int p4), .val (.int (1 : Int32)), .val (.int x0), .val (.int x1), .unset, .unset, .unset, .unset, .unset, .unset, .unset] [(.int (p3 &&& (127 : Int32)))])) _ _ _ _ _ _
        refine own_goW (fun _ k => XS.i2c X0.here hx rfl (hb hby at_23) rfl k) ?_
        show own_GW _ _ _ (s₁.setTop (mkF m 24 #[.val (.int p0), .val (.int p1), .val (.int p2), .val (.int p3), .val (.int p4), .val (.int (1 : Int32)), .val (.int x0), .val (.int x1), .unset, .unset, .unset, .unset, .unset, .unset, .unset] [(.int (p3 &&& (127 : Int32)).toUInt32.toUInt16.toUInt32.toInt32)])) _ _ _ _ _ _
        obtain ⟨x2, h_x2⟩ : ∃ z : Int32, z = (p3 &&& (127 : Int32)).toUInt32.toUInt16.toUInt32.toInt32 := ⟨_, rfl⟩
        · rw [← h_x2]
          have rg2 : own_rg x2 := by rw [h_x2]; exact own_rgc _
          show own_GW _ _ _ (s₁.setTop (mkF m 24 #[.val (.int p0), .val (.int p1), .val (.int p2), .val (.int p3), .val (.int p4), .val (.int (1 : Int32)), .val (.int x0), .val (.int x1), .unset, .unset, .unset, .unset, .unset, .unset, .unset] [(.int x2)])) _ _ _ _ _ _
          refine own_goW (fun _ k => XS.istore X0.here hx rfl (hb hby at_24) rfl (l' := #[.val (.int p0), .val (.int p1), .val (.int p2), .val (.int p3), .val (.int p4), .val (.int (1 : Int32)), .val (.int x0), .val (.int x1), .val (.int x2), .unset, .unset, .unset, .unset, .unset, .unset]) rfl k) ?_
          show own_GW _ _ _ (s₁.setTop (mkF m 26 #[.val (.int p0), .val (.int p1), .val (.int p2), .val (.int p3), .val (.int p4), .val (.int (1 : Int32)), .val (.int x0), .val (.int x1), .val (.int x2), .unset, .unset, .unset, .unset, .unset, .unset] [])) _ _ _ _ _ _
          refine own_goW (fun _ k => XS.iload X0.here hx rfl (hb hby at_26) rfl k) ?_
          show own_GW _ _ _ (s₁.setTop (mkF m 28 #[.val (.int p0), .val (.int p1), .val (.int p2), .val (.int p3), .val (.int p4), .val (.int (1 : Int32)), .val (.int x0), .val (.int x1), .val (.int x2), .unset, .unset, .unset, .unset, .unset, .unset] [(.int p4)])) _ _ _ _ _ _
          refine own_goW (fun _ k => XS.bipush X0.here hx rfl (hb hby at_28) k) ?_
          show own_GW _ _ _ (s₁.setTop (mkF m 30 #[.val (.int p0), .val (.int p1), .val (.int p2), .val (.int p3), .val (.int p4), .val (.int (1 : Int32)), .val (.int x0), .val (.int x1), .val (.int x2), .unset, .unset, .unset, .unset, .unset, .unset] [(.int (127 : Int32)), (.int p4)])) _ _ _ _ _ _
          refine own_goW (fun _ k => XS.iand X0.here hx rfl (hb hby at_30) rfl k) ?_
          show own_GW _ _ _ (s₁.setTop (mkF m 31 #[.val (.int p0), .val (.int p1), .val (.int p2), .val (.int p3), .val (.int p4), .val (.int (1 : Int32)), .val (.int x0), .val (.int x1), .val (.int x2), .unset, .unset, .unset, .unset, .unset, .unset] [(.int (p4 &&& (127 : Int32)))])) _ _ _ _ _ _
          obtain ⟨xq, h_xq⟩ : ∃ z : Int32, z = (p4 &&& (127 : Int32)) := ⟨_, rfl⟩
          · rw [← h_xq]
            have rgq : own_rg xq := by rw [h_xq]; exact own_rgm _
            show own_GW _ _ _ (s₁.setTop (mkF m 31 #[.val (.int p0), .val (.int p1), .val (.int p2), .val (.int p3), .val (.int p4), .val (.int (1 : Int32)), .val (.int x0), .val (.int x1), .val (.int x2), .unset, .unset, .unset, .unset, .unset, .unset] [(.int xq)])) _ _ _ _ _ _
            refine own_goW (fun _ k => XS.istore X0.here hx rfl (hb hby at_31) rfl (l' := #[.val (.int p0), .val (.int p1), .val (.int p2), .val (.int p3), .val (.int p4), .val (.int (1 : Int32)), .val (.int x0), .val (.int x1), .val (.int x2), .val (.int xq), .unset, .unset, .unset, .unset, .unset]) rfl k) ?_
            show own_GW _ _ _ (s₁.setTop (mkF m 33 #[.val (.int p0), .val (.int p1), .val (.int p2), .val (.int p3), .val (.int p4), .val (.int (1 : Int32)), .val (.int x0), .val (.int x1), .val (.int x2), .val (.int xq), .unset, .unset, .unset, .unset, .unset] [])) _ _ _ _ _ _
            refine own_goW (fun _ k => XS.iconst X0.here hx rfl (hb hby at_33) k) ?_
            show own_GW _ _ _ (s₁.setTop (mkF m 34 #[.val (.int p0), .val (.int p1), .val (.int p2), .val (.int p3), .val (.int p4), .val (.int (1 : Int32)), .val (.int x0), .val (.int x1), .val (.int x2), .val (.int xq), .unset, .unset, .unset, .unset, .unset] [(.int (2 : Int32))])) _ _ _ _ _ _
            obtain ⟨T128, h128, k128, X128, e128, E128, A128, st128⟩ := newP X0 hx hZ (hw _ (List.mem_of_getElem? (i := 0) rfl)) e0 (g := (mkF m 34 #[.val (.int p0), .val (.int p1), .val (.int p2), .val (.int p3), .val (.int p4), .val (.int (1 : Int32)), .val (.int x0), .val (.int x1), .val (.int x2), .val (.int xq), .unset, .unset, .unset, .unset, .unset] [(.int (2 : Int32))])) rfl (hb hby at_34) rfl (by decide) (cap := 2) (by decide) (by decide) (by decide) (by decide)
            obtain ⟨b128, g128⟩ : ∃ z, z = h0.size := ⟨_, rfl⟩
            rw [← g128] at A128 st128
            have gg128 : n0 ≤ b128 := Nat.le_trans Z0 (Nat.le_of_eq g128.symm)
            have sz128_0 : h0.size ≤ b128 := Nat.le_trans K0.1 (Nat.le_of_eq g128.symm)
            have sz128_1 : h0.size ≤ b128 := Nat.le_trans KS0.1 (Nat.le_of_eq g128.symm)
            have Zs128 : n0 ≤ h128.size := Nat.le_trans Z0 E128.1
            have K128_0 : Keep h0 h128 [] := K0.ext E128
            have K128_1 : Keep h0 h128 [] := KS0.ext E128
            have f129 : Old Z n0 h128 := P_Old.ext E128
            have f130 : Arv Z h128 b128 k128 .char (2 : Int32) [(.int (0 : Int32)), (.int (0 : Int32))] (.int (0 : Int32)) := (Arv.new A128 (by decide)).pad (pad_rep [] (.int (0 : Int32)) 2)
            refine own_goW (fun _ k => st128 _ k) ?_
            show own_GW _ _ _ (T128.setTop (mkF m 36 #[.val (.int p0), .val (.int p1), .val (.int p2), .val (.int p3), .val (.int p4), .val (.int (1 : Int32)), .val (.int x0), .val (.int x1), .val (.int x2), .val (.int xq), .unset, .unset, .unset, .unset, .unset] [(.ref b128)])) _ _ _ _ _ _
            refine own_goW (fun _ k => XS.dup X128.here hx rfl (hb hby at_36) rfl rfl k) ?_
            show own_GW _ _ _ (T128.setTop (mkF m 37 #[.val (.int p0), .val (.int p1), .val (.int p2), .val (.int p3), .val (.int p4), .val (.int (1 : Int32)), .val (.int x0), .val (.int x1), .val (.int x2), .val (.int xq), .unset, .unset, .unset, .unset, .unset] [(.ref b128), (.ref b128)])) _ _ _ _ _ _
            refine own_goW (fun _ k => XS.iconst X128.here hx rfl (hb hby at_37) k) ?_
            show own_GW _ _ _ (T128.setTop (mkF m 38 #[.val (.int p0), .val (.int p1), .val (.int p2), .val (.int p3), .val (.int p4), .val (.int (1 : Int32)), .val (.int x0), .val (.int x1), .val (.int x2), .val (.int xq), .unset, .unset, .unset, .unset, .unset] [(.int (0 : Int32)), (.ref b128), (.ref b128)])) _ _ _ _ _ _
            refine own_goW (fun _ k => XS.iload X128.here hx rfl (hb hby at_38) rfl k) ?_
            show own_GW _ _ _ (T128.setTop (mkF m 40 #[.val (.int p0), .val (.int p1), .val (.int p2), .val (.int p3), .val (.int p4), .val (.int (1 : Int32)), .val (.int x0), .val (.int x1), .val (.int x2), .val (.int xq), .unset, .unset, .unset, .unset, .unset] [(.int x0), (.int (0 : Int32)), (.ref b128), (.ref b128)])) _ _ _ _ _ _
            obtain ⟨cl131, Ar131, q131, S131, Ng131, H131, G131⟩ := id f130
            have in131 : ¬ ((0 : Int32) < 0 ∨ cl131.slots.size ≤ ((0 : Int32)).toNatClampNeg) := inb_of S131 ⟨by decide, by decide⟩
            obtain ⟨T131, h131, X131, e131, W131, st131⟩ := stC X128 hx hZ e128 Ar131 (j := (0 : Int32)) in131 (g := (mkF m 40 #[.val (.int p0), .val (.int p1), .val (.int p2), .val (.int p3), .val (.int p4), .val (.int (1 : Int32)), .val (.int x0), .val (.int x1), .val (.int x2), .val (.int xq), .unset, .unset, .unset, .unset, .unset] [(.int x0), (.int (0 : Int32)), (.ref b128), (.ref b128)])) rfl rfl (hb hby at_40)
            have N131 := Fr.snoc X131 N0 gg128
            have Zs131 : n0 ≤ h131.size := Nat.le_trans Zs128 (Keep.of_wr W131).1
            have K131_0 : Keep h0 h131 [] := K128_0.wr W131 (Or.inr sz128_0)
            have K131_1 : Keep h0 h131 [] := K128_1.wr W131 (Or.inr sz128_1)
            have f132 : Old Z n0 h131 := f129.wr W131 gg128
            have f133 : Arv Z h131 b128 k128 .char (2 : Int32) [(.int x0), (.int (0 : Int32))] (.int (0 : Int32)) := (by have q := Arv.set Ar131 q131 S131 Ng131 H131 G131 (fits_nar_char _) W131 0 rfl (Nat.le_of_ble_eq_true rfl); rw [rg0.nar] at q; exact q)
            refine own_goW (fun _ k => st131 _ k) ?_
            show own_GW _ _ _ (T131.setTop (mkF m 41 #[.val (.int p0), .val (.int p1), .val (.int p2), .val (.int p3), .val (.int p4), .val (.int (1 : Int32)), .val (.int x0), .val (.int x1), .val (.int x2), .val (.int xq), .unset, .unset, .unset, .unset, .unset] [(.ref b128)])) _ _ _ _ _ _
            refine own_goW (fun _ k => XS.dup X131.here hx rfl (hb hby at_41) rfl rfl k) ?_
            show own_GW _ _ _ (T131.setTop (mkF m 42 #[.val (.int p0), .val (.int p1), .val (.int p2), .val (.int p3), .val (.int p4), .val (.int (1 : Int32)), .val (.int x0), .val (.int x1), .val (.int x2), .val (.int xq), .unset, .unset, .unset, .unset, .unset] [(.ref b128), (.ref b128)])) _ _ _ _ _ _
            refine own_goW (fun _ k => XS.iconst X131.here hx rfl (hb hby at_42) k) ?_
            show own_GW _ _ _ (T131.setTop (mkF m 43 #[.val (.int p0), .val (.int p1), .val (.int p2), .val (.int p3), .val (.int p4), .val (.int (1 : Int32)), .val (.int x0), .val (.int x1), .val (.int x2), .val (.int xq), .unset, .unset, .unset, .unset, .unset] [(.int (1 : Int32)), (.ref b128), (.ref b128)])) _ _ _ _ _ _
            refine own_goW (fun _ k => XS.iload X131.here hx rfl (hb hby at_43) rfl k) ?_
            show own_GW _ _ _ (T131.setTop (mkF m 45 #[.val (.int p0), .val (.int p1), .val (.int p2), .val (.int p3), .val (.int p4), .val (.int (1 : Int32)), .val (.int x0), .val (.int x1), .val (.int x2), .val (.int xq), .unset, .unset, .unset, .unset, .unset] [(.int x1), (.int (1 : Int32)), (.ref b128), (.ref b128)])) _ _ _ _ _ _
            obtain ⟨cl134, Ar134, q134, S134, Ng134, H134, G134⟩ := id f133
            have in134 : ¬ ((1 : Int32) < 0 ∨ cl134.slots.size ≤ ((1 : Int32)).toNatClampNeg) := inb_of S134 ⟨by decide, by decide⟩
            obtain ⟨T134, h134, X134, e134, W134, st134⟩ := stC X131 hx hZ e131 Ar134 (j := (1 : Int32)) in134 (g := (mkF m 45 #[.val (.int p0), .val (.int p1), .val (.int p2), .val (.int p3), .val (.int p4), .val (.int (1 : Int32)), .val (.int x0), .val (.int x1), .val (.int x2), .val (.int xq), .unset, .unset, .unset, .unset, .unset] [(.int x1), (.int (1 : Int32)), (.ref b128), (.ref b128)])) rfl rfl (hb hby at_45)
            have N134 := Fr.snoc X134 N131 gg128
            have Zs134 : n0 ≤ h134.size := Nat.le_trans Zs131 (Keep.of_wr W134).1
            have K134_0 : Keep h0 h134 [] := K131_0.wr W134 (Or.inr sz128_0)
            have K134_1 : Keep h0 h134 [] := K131_1.wr W134 (Or.inr sz128_1)
            have f135 : Old Z n0 h134 := f132.wr W134 gg128
            have f136 : Arv Z h134 b128 k128 .char (2 : Int32) [(.int x0), (.int x1)] (.int (0 : Int32)) := (by have q := Arv.set Ar134 q134 S134 Ng134 H134 G134 (fits_nar_char _) W134 1 rfl (Nat.le_of_ble_eq_true rfl); rw [rg1.nar] at q; exact q)
            refine own_goW (fun _ k => st134 _ k) ?_
            show own_GW _ _ _ (T134.setTop (mkF m 46 #[.val (.int p0), .val (.int p1), .val (.int p2), .val (.int p3), .val (.int p4), .val (.int (1 : Int32)), .val (.int x0), .val (.int x1), .val (.int x2), .val (.int xq), .unset, .unset, .unset, .unset, .unset] [(.ref b128)])) _ _ _ _ _ _
            refine own_goW (fun _ k => XS.astore X134.here hx rfl (hb hby at_46) rfl rfl (l' := #[.val (.int p0), .val (.int p1), .val (.int p2), .val (.int p3), .val (.int p4), .val (.int (1 : Int32)), .val (.int x0), .val (.int x1), .val (.int x2), .val (.int xq), .val (.ref b128), .unset, .unset, .unset, .unset]) rfl k) ?_
            show own_GW _ _ _ (T134.setTop (mkF m 48 #[.val (.int p0), .val (.int p1), .val (.int p2), .val (.int p3), .val (.int p4), .val (.int (1 : Int32)), .val (.int x0), .val (.int x1), .val (.int x2), .val (.int xq), .val (.ref b128), .unset, .unset, .unset, .unset] [])) _ _ _ _ _ _
            refine own_goW (fun _ k => XS.iconst X134.here hx rfl (hb hby at_48) k) ?_
            show own_GW _ _ _ (T134.setTop (mkF m 49 #[.val (.int p0), .val (.int p1), .val (.int p2), .val (.int p3), .val (.int p4), .val (.int (1 : Int32)), .val (.int x0), .val (.int x1), .val (.int x2), .val (.int xq), .val (.ref b128), .unset, .unset, .unset, .unset] [(.int (3 : Int32))])) _ _ _ _ _ _
            obtain ⟨T137, h137, k137, X137, e137, E137, A137, st137⟩ := newP X134 hx hZ (hw _ (List.mem_of_getElem? (i := 0) rfl)) e134 (g := (mkF m 49 #[.val (.int p0), .val (.int p1), .val (.int p2), .val (.int p3), .val (.int p4), .val (.int (1 : Int32)), .val (.int x0), .val (.int x1), .val (.int x2), .val (.int xq), .val (.ref b128), .unset, .unset, .unset, .unset] [(.int (3 : Int32))])) rfl (hb hby at_49) rfl (by decide) (cap := 3) (by decide) (by decide) (by decide) (by decide)
            obtain ⟨b137, g137⟩ : ∃ z, z = h134.size := ⟨_, rfl⟩
            rw [← g137] at A137 st137
            have ne138 : b128 ≠ b137 := Nat.ne_of_lt (Nat.lt_of_lt_of_le f136.lt (Nat.le_of_eq g137.symm))
            have gg137 : n0 ≤ b137 := Nat.le_trans Zs134 (Nat.le_of_eq g137.symm)
            have sz137_0 : h0.size ≤ b137 := Nat.le_trans K134_0.1 (Nat.le_of_eq g137.symm)
            have sz137_1 : h0.size ≤ b137 := Nat.le_trans K134_1.1 (Nat.le_of_eq g137.symm)
            have Zs137 : n0 ≤ h137.size := Nat.le_trans Zs134 E137.1
            have K137_0 : Keep h0 h137 [] := K134_0.ext E137
            have K137_1 : Keep h0 h137 [] := K134_1.ext E137
            have f139 : Old Z n0 h137 := f135.ext E137
            have f140 : Arv Z h137 b128 k128 .char (2 : Int32) [(.int x0), (.int x1)] (.int (0 : Int32)) := f136.ext E137
            have f141 : Arv Z h137 b137 k137 .char (3 : Int32) [(.int (0 : Int32)), (.int (0 : Int32)), (.int (0 : Int32))] (.int (0 : Int32)) := (Arv.new A137 (by decide)).pad (pad_rep [] (.int (0 : Int32)) 3)
            refine own_goW (fun _ k => st137 _ k) ?_
            show own_GW _ _ _ (T137.setTop (mkF m 51 #[.val (.int p0), .val (.int p1), .val (.int p2), .val (.int p3), .val (.int p4), .val (.int (1 : Int32)), .val (.int x0), .val (.int x1), .val (.int x2), .val (.int xq), .val (.ref b128), .unset, .unset, .unset, .unset] [(.ref b137)])) _ _ _ _ _ _
            refine own_goW (fun _ k => XS.dup X137.here hx rfl (hb hby at_51) rfl rfl k) ?_
            show own_GW _ _ _ (T137.setTop (mkF m 52 #[.val (.int p0), .val (.int p1), .val (.int p2), .val (.int p3), .val (.int p4), .val (.int (1 : Int32)), .val (.int x0), .val (.int x1), .val (.int x2), .val (.int xq), .val (.ref b128), .unset, .unset, .unset, .unset] [(.ref b137), (.ref b137)])) _ _ _ _ _ _
            refine own_goW (fun _ k => XS.iconst X137.here hx rfl (hb hby at_52) k) ?_
            show own_GW _ _ _ (T137.setTop (mkF m 53 #[.val (.int p0), .val (.int p1), .val (.int p2), .val (.int p3), .val (.int p4), .val (.int (1 : Int32)), .val (.int x0), .val (.int x1), .val (.int x2), .val (.int xq), .val (.ref b128), .unset, .unset, .unset, .unset] [(.int (0 : Int32)), (.ref b137), (.ref b137)])) _ _ _ _ _ _
            refine own_goW (fun _ k => XS.iload X137.here hx rfl (hb hby at_53) rfl k) ?_
            show own_GW _ _ _ (T137.setTop (mkF m 55 #[.val (.int p0), .val (.int p1), .val (.int p2), .val (.int p3), .val (.int p4), .val (.int (1 : Int32)), .val (.int x0), .val (.int x1), .val (.int x2), .val (.int xq), .val (.ref b128), .unset, .unset, .unset, .unset] [(.int x0), (.int (0 : Int32)), (.ref b137), (.ref b137)])) _ _ _ _ _ _
            obtain ⟨cl142, Ar142, q142, S142, Ng142, H142, G142⟩ := id f141
            have in142 : ¬ ((0 : Int32) < 0 ∨ cl142.slots.size ≤ ((0 : Int32)).toNatClampNeg) := inb_of S142 ⟨by decide, by decide⟩
            obtain ⟨T142, h142, X142, e142, W142, st142⟩ := stC X137 hx hZ e137 Ar142 (j := (0 : Int32)) in142 (g := (mkF m 55 #[.val (.int p0), .val (.int p1), .val (.int p2), .val (.int p3), .val (.int p4), .val (.int (1 : Int32)), .val (.int x0), .val (.int x1), .val (.int x2), .val (.int xq), .val (.ref b128), .unset, .unset, .unset, .unset] [(.int x0), (.int (0 : Int32)), (.ref b137), (.ref b137)])) rfl rfl (hb hby at_55)
            have N142 := Fr.snoc X142 N134 gg137
            have Zs142 : n0 ≤ h142.size := Nat.le_trans Zs137 (Keep.of_wr W142).1
            have K142_0 : Keep h0 h142 [] := K137_0.wr W142 (Or.inr sz137_0)
            have K142_1 : Keep h0 h142 [] := K137_1.wr W142 (Or.inr sz137_1)
            have f143 : Old Z n0 h142 := f139.wr W142 gg137
            have f144 : Arv Z h142 b128 k128 .char (2 : Int32) [(.int x0), (.int x1)] (.int (0 : Int32)) := f140.other W142 ne138
            have f145 : Arv Z h142 b137 k137 .char (3 : Int32) [(.int x0), (.int (0 : Int32)), (.int (0 : Int32))] (.int (0 : Int32)) := (by have q := Arv.set Ar142 q142 S142 Ng142 H142 G142 (fits_nar_char _) W142 0 rfl (Nat.le_of_ble_eq_true rfl); rw [rg0.nar] at q; exact q)
            refine own_goW (fun _ k => st142 _ k) ?_
            show own_GW _ _ _ (T142.setTop (mkF m 56 #[.val (.int p0), .val (.int p1), .val (.int p2), .val (.int p3), .val (.int p4), .val (.int (1 : Int32)), .val (.int x0), .val (.int x1), .val (.int x2), .val (.int xq), .val (.ref b128), .unset, .unset, .unset, .unset] [(.ref b137)])) _ _ _ _ _ _
            refine own_goW (fun _ k => XS.dup X142.here hx rfl (hb hby at_56) rfl rfl k) ?_
            show own_GW _ _ _ (T142.setTop (mkF m 57 #[.val (.int p0), .val (.int p1), .val (.int p2), .val (.int p3), .val (.int p4), .val (.int (1 : Int32)), .val (.int x0), .val (.int x1), .val (.int x2), .val (.int xq), .val (.ref b128), .unset, .unset, .unset, .unset] [(.ref b137), (.ref b137)])) _ _ _ _ _ _
            refine own_goW (fun _ k => XS.iconst X142.here hx rfl (hb hby at_57) k) ?_
            show own_GW _ _ _ (T142.setTop (mkF m 58 #[.val (.int p0), .val (.int p1), .val (.int p2), .val (.int p3), .val (.int p4), .val (.int (1 : Int32)), .val (.int x0), .val (.int x1), .val (.int x2), .val (.int xq), .val (.ref b128), .unset, .unset, .unset, .unset] [(.int (1 : Int32)), (.ref b137), (.ref b137)])) _ _ _ _ _ _
            refine own_goW (fun _ k => XS.iload X142.here hx rfl (hb hby at_58) rfl k) ?_
            show own_GW _ _ _ (T142.setTop (mkF m 60 #[.val (.int p0), .val (.int p1), .val (.int p2), .val (.int p3), .val (.int p4), .val (.int (1 : Int32)), .val (.int x0), .val (.int x1), .val (.int x2), .val (.int xq), .val (.ref b128), .unset, .unset, .unset, .unset] [(.int x1), (.int (1 : Int32)), (.ref b137), (.ref b137)])) _ _ _ _ _ _
            obtain ⟨cl146, Ar146, q146, S146, Ng146, H146, G146⟩ := id f145
            have in146 : ¬ ((1 : Int32) < 0 ∨ cl146.slots.size ≤ ((1 : Int32)).toNatClampNeg) := inb_of S146 ⟨by decide, by decide⟩
            obtain ⟨T146, h146, X146, e146, W146, st146⟩ := stC X142 hx hZ e142 Ar146 (j := (1 : Int32)) in146 (g := (mkF m 60 #[.val (.int p0), .val (.int p1), .val (.int p2), .val (.int p3), .val (.int p4), .val (.int (1 : Int32)), .val (.int x0), .val (.int x1), .val (.int x2), .val (.int xq), .val (.ref b128), .unset, .unset, .unset, .unset] [(.int x1), (.int (1 : Int32)), (.ref b137), (.ref b137)])) rfl rfl (hb hby at_60)
            have N146 := Fr.snoc X146 N142 gg137
            have Zs146 : n0 ≤ h146.size := Nat.le_trans Zs142 (Keep.of_wr W146).1
            have K146_0 : Keep h0 h146 [] := K142_0.wr W146 (Or.inr sz137_0)
            have K146_1 : Keep h0 h146 [] := K142_1.wr W146 (Or.inr sz137_1)
            have f147 : Old Z n0 h146 := f143.wr W146 gg137
            have f148 : Arv Z h146 b128 k128 .char (2 : Int32) [(.int x0), (.int x1)] (.int (0 : Int32)) := f144.other W146 ne138
            have f149 : Arv Z h146 b137 k137 .char (3 : Int32) [(.int x0), (.int x1), (.int (0 : Int32))] (.int (0 : Int32)) := (by have q := Arv.set Ar146 q146 S146 Ng146 H146 G146 (fits_nar_char _) W146 1 rfl (Nat.le_of_ble_eq_true rfl); rw [rg1.nar] at q; exact q)
            refine own_goW (fun _ k => st146 _ k) ?_
            show own_GW _ _ _ (T146.setTop (mkF m 61 #[.val (.int p0), .val (.int p1), .val (.int p2), .val (.int p3), .val (.int p4), .val (.int (1 : Int32)), .val (.int x0), .val (.int x1), .val (.int x2), .val (.int xq), .val (.ref b128), .unset, .unset, .unset, .unset] [(.ref b137)])) _ _ _ _ _ _
            refine own_goW (fun _ k => XS.dup X146.here hx rfl (hb hby at_61) rfl rfl k) ?_
            show own_GW _ _ _ (T146.setTop (mkF m 62 #[.val (.int p0), .val (.int p1), .val (.int p2), .val (.int p3), .val (.int p4), .val (.int (1 : Int32)), .val (.int x0), .val (.int x1), .val (.int x2), .val (.int xq), .val (.ref b128), .unset, .unset, .unset, .unset] [(.ref b137), (.ref b137)])) _ _ _ _ _ _
            refine own_goW (fun _ k => XS.iconst X146.here hx rfl (hb hby at_62) k) ?_
            show own_GW _ _ _ (T146.setTop (mkF m 63 #[.val (.int p0), .val (.int p1), .val (.int p2), .val (.int p3), .val (.int p4), .val (.int (1 : Int32)), .val (.int x0), .val (.int x1), .val (.int x2), .val (.int xq), .val (.ref b128), .unset, .unset, .unset, .unset] [(.int (2 : Int32)), (.ref b137), (.ref b137)])) _ _ _ _ _ _
            refine own_goW (fun _ k => XS.iload X146.here hx rfl (hb hby at_63) rfl k) ?_
            show own_GW _ _ _ (T146.setTop (mkF m 65 #[.val (.int p0), .val (.int p1), .val (.int p2), .val (.int p3), .val (.int p4), .val (.int (1 : Int32)), .val (.int x0), .val (.int x1), .val (.int x2), .val (.int xq), .val (.ref b128), .unset, .unset, .unset, .unset] [(.int x2), (.int (2 : Int32)), (.ref b137), (.ref b137)])) _ _ _ _ _ _
            obtain ⟨cl150, Ar150, q150, S150, Ng150, H150, G150⟩ := id f149
            have in150 : ¬ ((2 : Int32) < 0 ∨ cl150.slots.size ≤ ((2 : Int32)).toNatClampNeg) := inb_of S150 ⟨by decide, by decide⟩
            obtain ⟨T150, h150, X150, e150, W150, st150⟩ := stC X146 hx hZ e146 Ar150 (j := (2 : Int32)) in150 (g := (mkF m 65 #[.val (.int p0), .val (.int p1), .val (.int p2), .val (.int p3), .val (.int p4), .val (.int (1 : Int32)), .val (.int x0), .val (.int x1), .val (.int x2), .val (.int xq), .val (.ref b128), .unset, .unset, .unset, .unset] [(.int x2), (.int (2 : Int32)), (.ref b137), (.ref b137)])) rfl rfl (hb hby at_65)
            have N150 := Fr.snoc X150 N146 gg137
            have Zs150 : n0 ≤ h150.size := Nat.le_trans Zs146 (Keep.of_wr W150).1
            have K150_0 : Keep h0 h150 [] := K146_0.wr W150 (Or.inr sz137_0)
            have K150_1 : Keep h0 h150 [] := K146_1.wr W150 (Or.inr sz137_1)
            have f151 : Old Z n0 h150 := f147.wr W150 gg137
            have f152 : Arv Z h150 b128 k128 .char (2 : Int32) [(.int x0), (.int x1)] (.int (0 : Int32)) := f148.other W150 ne138
            have f153 : Arv Z h150 b137 k137 .char (3 : Int32) [(.int x0), (.int x1), (.int x2)] (.int (0 : Int32)) := (by have q := Arv.set Ar150 q150 S150 Ng150 H150 G150 (fits_nar_char _) W150 2 rfl (Nat.le_of_ble_eq_true rfl); rw [rg2.nar] at q; exact q)
            refine own_goW (fun _ k => st150 _ k) ?_
            show own_GW _ _ _ (T150.setTop (mkF m 66 #[.val (.int p0), .val (.int p1), .val (.int p2), .val (.int p3), .val (.int p4), .val (.int (1 : Int32)), .val (.int x0), .val (.int x1), .val (.int x2), .val (.int xq), .val (.ref b128), .unset, .unset, .unset, .unset] [(.ref b137)])) _ _ _ _ _ _
            refine own_goW (fun _ k => XS.astore X150.here hx rfl (hb hby at_66) rfl rfl (l' := #[.val (.int p0), .val (.int p1), .val (.int p2), .val (.int p3), .val (.int p4), .val (.int (1 : Int32)), .val (.int x0), .val (.int x1), .val (.int x2), .val (.int xq), .val (.ref b128), .val (.ref b137), .unset, .unset, .unset]) rfl k) ?_
            show own_GW _ _ _ (T150.setTop (mkF m 68 #[.val (.int p0), .val (.int p1), .val (.int p2), .val (.int p3), .val (.int p4), .val (.int (1 : Int32)), .val (.int x0), .val (.int x1), .val (.int x2), .val (.int xq), .val (.ref b128), .val (.ref b137), .unset, .unset, .unset] [])) _ _ _ _ _ _
            refine own_goW (fun _ k => XS.iload X150.here hx rfl (hb hby at_68) rfl k) ?_
            show own_GW _ _ _ (T150.setTop (mkF m 70 #[.val (.int p0), .val (.int p1), .val (.int p2), .val (.int p3), .val (.int p4), .val (.int (1 : Int32)), .val (.int x0), .val (.int x1), .val (.int x2), .val (.int xq), .val (.ref b128), .val (.ref b137), .unset, .unset, .unset] [(.int (1 : Int32))])) _ _ _ _ _ _
            have hc154 : ¬ ((1 : Int32) = (0 : Int32)) := (by decide)
            refine own_goW (fun _ k => XS.ifYes X150.here hx rfl (pc0 := 70) (pc' := 80) rfl (hb hby at_70) rfl ((if0 _ _).trans (feq hc154).2) (by decide) (by decide) k) ?_
            show own_GW _ _ _ (T150.setTop (mkF m 80 #[.val (.int p0), .val (.int p1), .val (.int p2), .val (.int p3), .val (.int p4), .val (.int (1 : Int32)), .val (.int x0), .val (.int x1), .val (.int x2), .val (.int xq), .val (.ref b128), .val (.ref b137), .unset, .unset, .unset] [])) _ _ _ _ _ _
            refine own_goW (fun _ k => XS.iload X150.here hx rfl (hb hby at_80) rfl k) ?_
            show own_GW _ _ _ (T150.setTop (mkF m 82 #[.val (.int p0), .val (.int p1), .val (.int p2), .val (.int p3), .val (.int p4), .val (.int (1 : Int32)), .val (.int x0), .val (.int x1), .val (.int x2), .val (.int xq), .val (.ref b128), .val (.ref b137), .unset, .unset, .unset] [(.int (1 : Int32))])) _ _ _ _ _ _
            refine own_goW (fun _ k => XS.iconst X150.here hx rfl (hb hby at_82) k) ?_
            show own_GW _ _ _ (T150.setTop (mkF m 83 #[.val (.int p0), .val (.int p1), .val (.int p2), .val (.int p3), .val (.int p4), .val (.int (1 : Int32)), .val (.int x0), .val (.int x1), .val (.int x2), .val (.int xq), .val (.ref b128), .val (.ref b137), .unset, .unset, .unset] [(.int (1 : Int32)), (.int (1 : Int32))])) _ _ _ _ _ _
            have hc155 : (1 : Int32) = (1 : Int32) := (by decide)
            refine own_goW (fun _ k => XS.icmpNo X150.here hx rfl (hb hby at_83) rfl (teq hc155).2 k) ?_
            show own_GW _ _ _ (T150.setTop (mkF m 86 #[.val (.int p0), .val (.int p1), .val (.int p2), .val (.int p3), .val (.int p4), .val (.int (1 : Int32)), .val (.int x0), .val (.int x1), .val (.int x2), .val (.int xq), .val (.ref b128), .val (.ref b137), .unset, .unset, .unset] [])) _ _ _ _ _ _
            refine own_goW (fun _ k => XS.iload X150.here hx rfl (hb hby at_86) rfl k) ?_
            show own_GW _ _ _ (T150.setTop (mkF m 88 #[.val (.int p0), .val (.int p1), .val (.int p2), .val (.int p3), .val (.int p4), .val (.int (1 : Int32)), .val (.int x0), .val (.int x1), .val (.int x2), .val (.int xq), .val (.ref b128), .val (.ref b137), .unset, .unset, .unset] [(.int x0)])) _ _ _ _ _ _
            obtain ⟨_, _, ⟨T156, L156, k156, n156⟩, -, X156, ⟨Lc156, hQ156, l156, y156, z156⟩, st156⟩ := Jvm.LawKit.callS X150 hx (y := (⟨"java/lang/String", "valueOf", "(C)Ljava/lang/String;"⟩ : MethodName)) hown (mvT hZ (hw _ (List.mem_of_getElem? (i := 83) rfl))) (mvT hZ (hw _ (List.mem_of_getElem? (i := 84) rfl))) (mvT hZ (hw _ (List.mem_of_getElem? (i := 2) rfl))) (mvT hZ (hw _ (List.mem_of_getElem? (i := 85) rfl))) (by decide) (backOf (W := 0) (rm17 l Z a0 hw [] x0 zc h150 n0 Zs150 f151 P_ZS_java_lang_String_COMPACT_STRINGS hcs rg0.can) hZ (hw _ (List.mem_of_getElem? (i := 85) rfl)) (hw _ (List.mem_of_getElem? (i := 2) rfl)) (by decide) (by decide)) (g := (mkF m 88 #[.val (.int p0), .val (.int p1), .val (.int p2), .val (.int p3), .val (.int p4), .val (.int (1 : Int32)), .val (.int x0), .val (.int x1), .val (.int x2), .val (.int xq), .val (.ref b128), .val (.ref b137), .unset, .unset, .unset] [(.int x0)])) rfl (by rw [hml]; rfl) (argsL := [(.int x0)]) (rest := []) (lenOf pd_7 rfl) rfl (by show 2 * 0 + _ ≤ _; exact Nat.le_of_eq rfl) (hb hby at_88) (fun _ _ => ⟨rfl, e150, (by decide : 2 + 2 ≤ _), (by decide : 5 + 5 ≤ _)⟩)
            dsimp only [Pt.U, Pt.locs, Pt.cells, Pt.slots] at X156 l156 y156 z156 st156 hQ156
            rw [l156] at X156
            subst y156 z156
            obtain ⟨b156, u156, kb156, rfl, Nq156, Kq156, r156_0, r156_1, r156_2, r156_3, r156_4, r156_5⟩ := hQ156
            have N156 := Fr.app N150 Nq156
            have ne157 : b128 ≠ b156 := Nat.ne_of_lt (Nat.lt_of_lt_of_le f152.lt r156_0)
            have ne158 : b137 ≠ b156 := Nat.ne_of_lt (Nat.lt_of_lt_of_le f153.lt r156_0)
            have gg_b156 : n0 ≤ b156 := Nat.le_trans Zs150 r156_0
            have sz_b156_0 : h0.size ≤ b156 := Nat.le_trans K150_0.1 r156_0
            have sz_b156_1 : h0.size ≤ b156 := Nat.le_trans K150_1.1 r156_0
            have ne159 : b128 ≠ u156 := Nat.ne_of_lt (Nat.lt_of_lt_of_le f152.lt r156_1)
            have ne160 : b137 ≠ u156 := Nat.ne_of_lt (Nat.lt_of_lt_of_le f153.lt r156_1)
            have gg_u156 : n0 ≤ u156 := Nat.le_trans Zs150 r156_1
            have sz_u156_0 : h0.size ≤ u156 := Nat.le_trans K150_0.1 r156_1
            have sz_u156_1 : h0.size ≤ u156 := Nat.le_trans K150_1.1 r156_1
            have f161 : Old Z n0 T156.heap := f151.keep Kq156 all0
            have f162 : Arv Z T156.heap b128 k128 .char (2 : Int32) [(.int x0), (.int x1)] (.int (0 : Int32)) := f152.keep Kq156 nin0
            have f163 : Arv Z T156.heap b137 k137 .char (3 : Int32) [(.int x0), (.int x1), (.int x2)] (.int (0 : Int32)) := f153.keep Kq156 nin0
            have Zs156 : n0 ≤ T156.heap.size := Nat.le_trans Zs150 Kq156.1
            have K156_0 : Keep h0 T156.heap [] := K150_0.trans Kq156 all0
            have K156_1 : Keep h0 T156.heap [] := K150_1.trans Kq156 all0
            refine own_goW (fun _ k => st156 _ k) ?_
            show own_GW _ _ _ (T156.setTop (mkF m 91 #[.val (.int p0), .val (.int p1), .val (.int p2), .val (.int p3), .val (.int p4), .val (.int (1 : Int32)), .val (.int x0), .val (.int x1), .val (.int x2), .val (.int xq), .val (.ref b128), .val (.ref b137), .unset, .unset, .unset] [(.ref b156)])) _ _ _ _ _ _
            refine own_goW (fun _ k => XS.astore X156.here hx rfl (hb hby at_91) rfl rfl (l' := #[.val (.int p0), .val (.int p1), .val (.int p2), .val (.int p3), .val (.int p4), .val (.int (1 : Int32)), .val (.int x0), .val (.int x1), .val (.int x2), .val (.int xq), .val (.ref b128), .val (.ref b137), .val (.ref b156), .unset, .unset]) rfl k) ?_
            show own_GW _ _ _ (T156.setTop (mkF m 93 #[.val (.int p0), .val (.int p1), .val (.int p2), .val (.int p3), .val (.int p4), .val (.int (1 : Int32)), .val (.int x0), .val (.int x1), .val (.int x2), .val (.int xq), .val (.ref b128), .val (.ref b137), .val (.ref b156), .unset, .unset] [])) _ _ _ _ _ _
            refine own_goW (fun _ k => XS.goto X156.here hx rfl (pc0 := 93) (pc' := 127) rfl (hb hby at_93) (by decide) (by decide) k) ?_
            show own_GW _ _ _ (T156.setTop (mkF m 127 #[.val (.int p0), .val (.int p1), .val (.int p2), .val (.int p3), .val (.int p4), .val (.int (1 : Int32)), .val (.int x0), .val (.int x1), .val (.int x2), .val (.int xq), .val (.ref b128), .val (.ref b137), .val (.ref b156), .unset, .unset] [])) _ _ _ _ _ _
            refine own_goW (fun _ k => XS.iconst X156.here hx rfl (hb hby at_127) k) ?_
            show own_GW _ _ _ (T156.setTop (mkF m 128 #[.val (.int p0), .val (.int p1), .val (.int p2), .val (.int p3), .val (.int p4), .val (.int (1 : Int32)), .val (.int x0), .val (.int x1), .val (.int x2), .val (.int xq), .val (.ref b128), .val (.ref b137), .val (.ref b156), .unset, .unset] [(.int (3 : Int32))])) _ _ _ _ _ _
            obtain ⟨T164, h164, k164, X164, e164, E164, A164, O164, st164⟩ := newR X156 hx hZ hown (hw _ (List.mem_of_getElem? (i := 9) rfl)) (hw _ (List.mem_of_getElem? (i := 10) rfl)) rfl (g := (mkF m 128 #[.val (.int p0), .val (.int p1), .val (.int p2), .val (.int p3), .val (.int p4), .val (.int (1 : Int32)), .val (.int x0), .val (.int x1), .val (.int x2), .val (.int xq), .val (.ref b128), .val (.ref b137), .val (.ref b156), .unset, .unset] [(.int (3 : Int32))])) rfl (hb hby at_128) rfl (by decide) (cap := 3) (by decide) (by decide) (by decide) (by decide)
            obtain ⟨b164, g164⟩ : ∃ z, z = T156.heap.size := ⟨_, rfl⟩
            rw [← g164] at A164 st164
            have ne165 : b128 ≠ b164 := Nat.ne_of_lt (Nat.lt_of_lt_of_le f162.lt (Nat.le_of_eq g164.symm))
            have ne166 : b137 ≠ b164 := Nat.ne_of_lt (Nat.lt_of_lt_of_le f163.lt (Nat.le_of_eq g164.symm))
            have ne167 : b156 ≠ b164 := Nat.ne_of_lt (Nat.lt_of_lt_of_le r156_2.lt (Nat.le_of_eq g164.symm))
            have ne168 : u156 ≠ b164 := Nat.ne_of_lt (Nat.lt_of_lt_of_le r156_5.lt (Nat.le_of_eq g164.symm))
            have gg164 : n0 ≤ b164 := Nat.le_trans Zs156 (Nat.le_of_eq g164.symm)
            have sz164_0 : h0.size ≤ b164 := Nat.le_trans K156_0.1 (Nat.le_of_eq g164.symm)
            have sz164_1 : h0.size ≤ b164 := Nat.le_trans K156_1.1 (Nat.le_of_eq g164.symm)
            have Zs164 : n0 ≤ h164.size := Nat.le_trans Zs156 E164.1
            have K164_0 : Keep h0 h164 [] := K156_0.ext E164
            have K164_1 : Keep h0 h164 [] := K156_1.ext E164
            have f169 : Old Z n0 h164 := f161.ext E164
            have f170 : Arv Z h164 b128 k128 .char (2 : Int32) [(.int x0), (.int x1)] (.int (0 : Int32)) := f162.ext E164
            have f171 : Arv Z h164 b137 k137 .char (3 : Int32) [(.int x0), (.int x1), (.int x2)] (.int (0 : Int32)) := f163.ext E164
            have f172 : Exa Z h164 b156 "java/lang/String" := r156_2.ext E164
            have f173 : Fld Z h164 b156 "java/lang/String" "coder" "B" (.int (0 : Int32)) := r156_3.ext E164
            have f174 : Fld Z h164 b156 "java/lang/String" "value" "[B" (.ref u156) := r156_4.ext E164
            have f175 : Arv Z h164 u156 kb156 .byte (1 : Int32) [(.int x0.toInt8.toInt32)] (.int (0 : Int32)) := r156_5.ext E164
            have f176 : Ovr Z k164 "java/lang/String" := O164
            have f177 : Arv Z h164 b164 k164 (.object "java/lang/String") (3 : Int32) [.null, .null, .null] .null := (Arv.new A164 (by decide)).pad (pad_rep [] .null 3)
            refine own_goW (fun _ k => st164 _ k) ?_
            show own_GW _ _ _ (T164.setTop (mkF m 131 #[.val (.int p0), .val (.int p1), .val (.int p2), .val (.int p3), .val (.int p4), .val (.int (1 : Int32)), .val (.int x0), .val (.int x1), .val (.int x2), .val (.int xq), .val (.ref b128), .val (.ref b137), .val (.ref b156), .unset, .unset] [(.ref b164)])) _ _ _ _ _ _
            refine own_goW (fun _ k => XS.dup X164.here hx rfl (hb hby at_131) rfl rfl k) ?_
            show own_GW _ _ _ (T164.setTop (mkF m 132 #[.val (.int p0), .val (.int p1), .val (.int p2), .val (.int p3), .val (.int p4), .val (.int (1 : Int32)), .val (.int x0), .val (.int x1), .val (.int x2), .val (.int xq), .val (.ref b128), .val (.ref b137), .val (.ref b156), .unset, .unset] [(.ref b164), (.ref b164)])) _ _ _ _ _ _
            refine own_goW (fun _ k => XS.iconst X164.here hx rfl (hb hby at_132) k) ?_
            show own_GW _ _ _ (T164.setTop (mkF m 133 #[.val (.int p0), .val (.int p1), .val (.int p2), .val (.int p3), .val (.int p4), .val (.int (1 : Int32)), .val (.int x0), .val (.int x1), .val (.int x2), .val (.int xq), .val (.ref b128), .val (.ref b137), .val (.ref b156), .unset, .unset] [(.int (0 : Int32)), (.ref b164), (.ref b164)])) _ _ _ _ _ _
            have CQ178 := CR0.trans (CHr.keep K164_1 all0 CR0.1)
            obtain ⟨a178, T178, h178, k1178, b178, kb178, X178, e178, E178, hS178, hk178, -, -, xa178, cd178, vl178, vb178, la178, lb178, CC178, Lt178, nea178, st178⟩ := ldcCH (s := s.setVm s.vm) (vm0 := s.vm) X164 hx hZ hown (hw _ (List.mem_of_getElem? (i := 11) rfl)) (own_wS hw) e164 ((State.WarmedH.refl (s.setVm s.vm)).since h164.size) (Nat.le_refl _) (own_EW hw) (by simp [own_EL]) CQ178.1 (vs := [(.int (65 : Int32))]) (z := (1 : Int32)) ⟨by decide, rfl⟩ (by decide) rfl (g := (mkF m 133 #[.val (.int p0), .val (.int p1), .val (.int p2), .val (.int p3), .val (.int p4), .val (.int (1 : Int32)), .val (.int x0), .val (.int x1), .val (.int x2), .val (.int xq), .val (.ref b128), .val (.ref b137), .val (.ref b156), .unset, .unset] [(.int (0 : Int32)), (.ref b164), (.ref b164)])) rfl (hb hby at_133) (n := 4) (by decide) (by decide) (by decide) (by decide)
            have CR178 := CQ178.trans CC178
            have hW178 : (s.setVm s.vm).Warmed39 T178.vm := hS178.1
            have hR178 : (s.setVm s.vm).Since T178.vm h178.size := ⟨hS178.1, hS178.2.mono hk178⟩
            obtain ⟨X178, hS178, hZ, hown⟩ := rebS hS0 (Nat.le_trans hk0 K164_1.1) X178 hR178 E178.1 hZ hown
            have Lt178 : Lit (s.setVm T178.vm) "com/example/issuerd/issuerd/xml/DomReferencesPinLaw" 18 a178 := Lt178
            have Zs178 : n0 ≤ h178.size := Nat.le_trans Zs164 E178.1
            have K178_0 : Keep h0 h178 [] := K164_0.ext E178
            have f179 : Old Z n0 h178 := f169.ext E178
            have f180 : Arv Z h178 b128 k128 .char (2 : Int32) [(.int x0), (.int x1)] (.int (0 : Int32)) := f170.ext E178
            have f181 : Arv Z h178 b137 k137 .char (3 : Int32) [(.int x0), (.int x1), (.int x2)] (.int (0 : Int32)) := f171.ext E178
            have f182 : Exa Z h178 b156 "java/lang/String" := f172.ext E178
            have f183 : Fld Z h178 b156 "java/lang/String" "coder" "B" (.int (0 : Int32)) := f173.ext E178
            have f184 : Fld Z h178 b156 "java/lang/String" "value" "[B" (.ref u156) := f174.ext E178
            have f185 : Arv Z h178 u156 kb156 .byte (1 : Int32) [(.int x0.toInt8.toInt32)] (.int (0 : Int32)) := f175.ext E178
            have f186 : Arv Z h178 b164 k164 (.object "java/lang/String") (3 : Int32) [.null, .null, .null] .null := f177.ext E178
            have sf187 : Safe Z own_EL T178.vm h178 b164 := (by obtain ⟨c_, A_, -⟩ := f186; exact Safe.arr hZ.alike A_ (by decide))
            have KS178 : Keep h178 h178 [b164] := Keep.refl _ _
            refine own_goW (fun _ k => st178 _ k) ?_
            show own_GW _ _ _ (T178.setTop (mkF m 135 #[.val (.int p0), .val (.int p1), .val (.int p2), .val (.int p3), .val (.int p4), .val (.int (1 : Int32)), .val (.int x0), .val (.int x1), .val (.int x2), .val (.int xq), .val (.ref b128), .val (.ref b137), .val (.ref b156), .unset, .unset] [(.ref a178), (.int (0 : Int32)), (.ref b164), (.ref b164)])) _ _ _ _ _ _
            obtain ⟨cl188, Ar188, q188, S188, Ng188, H188, G188⟩ := id f186
            have in188 : ¬ ((0 : Int32) < 0 ∨ cl188.slots.size ≤ ((0 : Int32)).toNatClampNeg) := inb_of S188 ⟨by decide, by decide⟩
            obtain ⟨T188, h188, X188, e188, W188, st188⟩ := stR X178 hx hZ e178 Ar188 (j := (0 : Int32)) in188 rfl (Sto.ofV Ar188 q188 f176 (Ins.self xa178)) (g := (mkF m 135 #[.val (.int p0), .val (.int p1), .val (.int p2), .val (.int p3), .val (.int p4), .val (.int (1 : Int32)), .val (.int x0), .val (.int x1), .val (.int x2), .val (.int xq), .val (.ref b128), .val (.ref b137), .val (.ref b156), .unset, .unset] [(.ref a178), (.int (0 : Int32)), (.ref b164), (.ref b164)])) rfl rfl (hb hby at_135)
            have N188 := Fr.snoc X188 N156 gg164
            have Zs188 : n0 ≤ h188.size := Nat.le_trans Zs178 (Keep.of_wr W188).1
            have K188_0 : Keep h0 h188 [] := K178_0.wr W188 (Or.inr sz164_0)
            have K188_1 : Keep h178 h188 [b164] := KS178.wr W188 (Or.inl (List.mem_of_getElem? (i := 0) rfl))
            have f189 : Old Z n0 h188 := f179.wr W188 gg164
            have f190 : Arv Z h188 b128 k128 .char (2 : Int32) [(.int x0), (.int x1)] (.int (0 : Int32)) := f180.other W188 ne165
            have f191 : Arv Z h188 b137 k137 .char (3 : Int32) [(.int x0), (.int x1), (.int x2)] (.int (0 : Int32)) := f181.other W188 ne166
            have f192 : Exa Z h188 b156 "java/lang/String" := f182.wr W188
            have f193 : Fld Z h188 b156 "java/lang/String" "coder" "B" (.int (0 : Int32)) := f183.other W188 (Or.inl ne167)
            have f194 : Fld Z h188 b156 "java/lang/String" "value" "[B" (.ref u156) := f184.other W188 (Or.inl ne167)
            have f195 : Arv Z h188 u156 kb156 .byte (1 : Int32) [(.int x0.toInt8.toInt32)] (.int (0 : Int32)) := f185.other W188 ne168
            have f196 : Exa Z h188 a178 "java/lang/String" := xa178.wr W188
            have f197 : Arv Z h188 b164 k164 (.object "java/lang/String") (3 : Int32) [(.ref a178), .null, .null] .null := Arv.set Ar188 q188 S188 Ng188 H188 G188 rfl W188 0 rfl (Nat.le_of_ble_eq_true rfl)
            refine own_goW (fun _ k => st188 _ k) ?_
            show own_GW _ _ _ (T188.setTop (mkF m 136 #[.val (.int p0), .val (.int p1), .val (.int p2), .val (.int p3), .val (.int p4), .val (.int (1 : Int32)), .val (.int x0), .val (.int x1), .val (.int x2), .val (.int xq), .val (.ref b128), .val (.ref b137), .val (.ref b156), .unset, .unset] [(.ref b164)])) _ _ _ _ _ _
            refine own_goW (fun _ k => XS.dup X188.here hx rfl (hb hby at_136) rfl rfl k) ?_
            show own_GW _ _ _ (T188.setTop (mkF m 137 #[.val (.int p0), .val (.int p1), .val (.int p2), .val (.int p3), .val (.int p4), .val (.int (1 : Int32)), .val (.int x0), .val (.int x1), .val (.int x2), .val (.int xq), .val (.ref b128), .val (.ref b137), .val (.ref b156), .unset, .unset] [(.ref b164), (.ref b164)])) _ _ _ _ _ _
            refine own_goW (fun _ k => XS.iconst X188.here hx rfl (hb hby at_137) k) ?_
            show own_GW _ _ _ (T188.setTop (mkF m 138 #[.val (.int p0), .val (.int p1), .val (.int p2), .val (.int p3), .val (.int p4), .val (.int (1 : Int32)), .val (.int x0), .val (.int x1), .val (.int x2), .val (.int xq), .val (.ref b128), .val (.ref b137), .val (.ref b156), .unset, .unset] [(.int (1 : Int32)), (.ref b164), (.ref b164)])) _ _ _ _ _ _
            have CQ198 := CR178.trans (CHr.keep K188_1 (allS sf187 all0) CR178.1)
            obtain ⟨a198, T198, h198, k1198, b198, kb198, X198, e198, E198, hS198, hk198, -, -, xa198, cd198, vl198, vb198, la198, lb198, CC198, Lt198, nea198, st198⟩ := ldcCH (s := s.setVm T178.vm) (vm0 := T178.vm) X188 hx hZ hown (hw _ (List.mem_of_getElem? (i := 13) rfl)) (own_wS hw) e188 ((State.WarmedH.refl (s.setVm T178.vm)).since h188.size) (Nat.le_refl _) (own_EW hw) (by simp [own_EL]) CQ198.1 (vs := [(.int (66 : Int32))]) (z := (1 : Int32)) ⟨by decide, rfl⟩ (by decide) rfl (g := (mkF m 138 #[.val (.int p0), .val (.int p1), .val (.int p2), .val (.int p3), .val (.int p4), .val (.int (1 : Int32)), .val (.int x0), .val (.int x1), .val (.int x2), .val (.int xq), .val (.ref b128), .val (.ref b137), .val (.ref b156), .unset, .unset] [(.int (1 : Int32)), (.ref b164), (.ref b164)])) rfl (hb hby at_138) (n := 4) (by decide) (by decide) (by decide) (by decide)
            have CR198 := CQ198.trans CC198
            have hW198 : (s.setVm T178.vm).Warmed39 T198.vm := hS198.1
            have hR198 : (s.setVm T178.vm).Since T198.vm h198.size := ⟨hS198.1, hS198.2.mono hk198⟩
            obtain ⟨X198, hS198, hZ, hown⟩ := rebS hS178 (Nat.le_trans (Nat.le_refl _) K188_1.1) X198 hR198 E198.1 hZ hown
            have Lt198 : Lit (s.setVm T198.vm) "com/example/issuerd/issuerd/xml/DomReferencesPinLaw" 20 a198 := Lt198
            have Lt178_198 := Lit.stays Lt178 hW198
            have Zs198 : n0 ≤ h198.size := Nat.le_trans Zs188 E198.1
            have K198_0 : Keep h0 h198 [] := K188_0.ext E198
            have f199 : Old Z n0 h198 := f189.ext E198
            have f200 : Arv Z h198 b128 k128 .char (2 : Int32) [(.int x0), (.int x1)] (.int (0 : Int32)) := f190.ext E198
            have f201 : Arv Z h198 b137 k137 .char (3 : Int32) [(.int x0), (.int x1), (.int x2)] (.int (0 : Int32)) := f191.ext E198
            have f202 : Exa Z h198 b156 "java/lang/String" := f192.ext E198
            have f203 : Fld Z h198 b156 "java/lang/String" "coder" "B" (.int (0 : Int32)) := f193.ext E198
            have f204 : Fld Z h198 b156 "java/lang/String" "value" "[B" (.ref u156) := f194.ext E198
            have f205 : Arv Z h198 u156 kb156 .byte (1 : Int32) [(.int x0.toInt8.toInt32)] (.int (0 : Int32)) := f195.ext E198
            have f206 : Exa Z h198 a178 "java/lang/String" := f196.ext E198
            have f207 : Arv Z h198 b164 k164 (.object "java/lang/String") (3 : Int32) [(.ref a178), .null, .null] .null := f197.ext E198
            have sf208 : Safe Z own_EL T198.vm h198 b164 := (by obtain ⟨c_, A_, -⟩ := f207; exact Safe.arr hZ.alike A_ (by decide))
            have KS198 : Keep h198 h198 [b164] := Keep.refl _ _
            refine own_goW (fun _ k => st198 _ k) ?_
            show own_GW _ _ _ (T198.setTop (mkF m 140 #[.val (.int p0), .val (.int p1), .val (.int p2), .val (.int p3), .val (.int p4), .val (.int (1 : Int32)), .val (.int x0), .val (.int x1), .val (.int x2), .val (.int xq), .val (.ref b128), .val (.ref b137), .val (.ref b156), .unset, .unset] [(.ref a198), (.int (1 : Int32)), (.ref b164), (.ref b164)])) _ _ _ _ _ _
            obtain ⟨cl209, Ar209, q209, S209, Ng209, H209, G209⟩ := id f207
            have in209 : ¬ ((1 : Int32) < 0 ∨ cl209.slots.size ≤ ((1 : Int32)).toNatClampNeg) := inb_of S209 ⟨by decide, by decide⟩
            obtain ⟨T209, h209, X209, e209, W209, st209⟩ := stR X198 hx hZ e198 Ar209 (j := (1 : Int32)) in209 rfl (Sto.ofV Ar209 q209 f176 (Ins.self xa198)) (g := (mkF m 140 #[.val (.int p0), .val (.int p1), .val (.int p2), .val (.int p3), .val (.int p4), .val (.int (1 : Int32)), .val (.int x0), .val (.int x1), .val (.int x2), .val (.int xq), .val (.ref b128), .val (.ref b137), .val (.ref b156), .unset, .unset] [(.ref a198), (.int (1 : Int32)), (.ref b164), (.ref b164)])) rfl rfl (hb hby at_140)
            have N209 := Fr.snoc X209 N188 gg164
            have Zs209 : n0 ≤ h209.size := Nat.le_trans Zs198 (Keep.of_wr W209).1
            have K209_0 : Keep h0 h209 [] := K198_0.wr W209 (Or.inr sz164_0)
            have K209_1 : Keep h198 h209 [b164] := KS198.wr W209 (Or.inl (List.mem_of_getElem? (i := 0) rfl))
            have f210 : Old Z n0 h209 := f199.wr W209 gg164
            have f211 : Arv Z h209 b128 k128 .char (2 : Int32) [(.int x0), (.int x1)] (.int (0 : Int32)) := f200.other W209 ne165
            have f212 : Arv Z h209 b137 k137 .char (3 : Int32) [(.int x0), (.int x1), (.int x2)] (.int (0 : Int32)) := f201.other W209 ne166
            have f213 : Exa Z h209 b156 "java/lang/String" := f202.wr W209
            have f214 : Fld Z h209 b156 "java/lang/String" "coder" "B" (.int (0 : Int32)) := f203.other W209 (Or.inl ne167)
            have f215 : Fld Z h209 b156 "java/lang/String" "value" "[B" (.ref u156) := f204.other W209 (Or.inl ne167)
            have f216 : Arv Z h209 u156 kb156 .byte (1 : Int32) [(.int x0.toInt8.toInt32)] (.int (0 : Int32)) := f205.other W209 ne168
            have f217 : Exa Z h209 a178 "java/lang/String" := f206.wr W209
            have f218 : Exa Z h209 a198 "java/lang/String" := xa198.wr W209
            have f219 : Arv Z h209 b164 k164 (.object "java/lang/String") (3 : Int32) [(.ref a178), (.ref a198), .null] .null := Arv.set Ar209 q209 S209 Ng209 H209 G209 rfl W209 1 rfl (Nat.le_of_ble_eq_true rfl)
            refine own_goW (fun _ k => st209 _ k) ?_
            show own_GW _ _ _ (T209.setTop (mkF m 141 #[.val (.int p0), .val (.int p1), .val (.int p2), .val (.int p3), .val (.int p4), .val (.int (1 : Int32)), .val (.int x0), .val (.int x1), .val (.int x2), .val (.int xq), .val (.ref b128), .val (.ref b137), .val (.ref b156), .unset, .unset] [(.ref b164)])) _ _ _ _ _ _
            refine own_goW (fun _ k => XS.dup X209.here hx rfl (hb hby at_141) rfl rfl k) ?_
            show own_GW _ _ _ (T209.setTop (mkF m 142 #[.val (.int p0), .val (.int p1), .val (.int p2), .val (.int p3), .val (.int p4), .val (.int (1 : Int32)), .val (.int x0), .val (.int x1), .val (.int x2), .val (.int xq), .val (.ref b128), .val (.ref b137), .val (.ref b156), .unset, .unset] [(.ref b164), (.ref b164)])) _ _ _ _ _ _
            refine own_goW (fun _ k => XS.iconst X209.here hx rfl (hb hby at_142) k) ?_
            show own_GW _ _ _ (T209.setTop (mkF m 143 #[.val (.int p0), .val (.int p1), .val (.int p2), .val (.int p3), .val (.int p4), .val (.int (1 : Int32)), .val (.int x0), .val (.int x1), .val (.int x2), .val (.int xq), .val (.ref b128), .val (.ref b137), .val (.ref b156), .unset, .unset] [(.int (2 : Int32)), (.ref b164), (.ref b164)])) _ _ _ _ _ _
            have CQ220 := CR198.trans (CHr.keep K209_1 (allS sf208 all0) CR198.1)
            obtain ⟨a220, T220, h220, k1220, b220, kb220, X220, e220, E220, hS220, hk220, -, -, xa220, cd220, vl220, vb220, la220, lb220, CC220, Lt220, nea220, st220⟩ := ldcCH (s := s.setVm T198.vm) (vm0 := T198.vm) X209 hx hZ hown (hw _ (List.mem_of_getElem? (i := 14) rfl)) (own_wS hw) e209 ((State.WarmedH.refl (s.setVm T198.vm)).since h209.size) (Nat.le_refl _) (own_EW hw) (by simp [own_EL]) CQ220.1 (vs := [(.int (67 : Int32))]) (z := (1 : Int32)) ⟨by decide, rfl⟩ (by decide) rfl (g := (mkF m 143 #[.val (.int p0), .val (.int p1), .val (.int p2), .val (.int p3), .val (.int p4), .val (.int (1 : Int32)), .val (.int x0), .val (.int x1), .val (.int x2), .val (.int xq), .val (.ref b128), .val (.ref b137), .val (.ref b156), .unset, .unset] [(.int (2 : Int32)), (.ref b164), (.ref b164)])) rfl (hb hby at_143) (n := 4) (by decide) (by decide) (by decide) (by decide)
            have CR220 := CQ220.trans CC220
            have hW220 : (s.setVm T198.vm).Warmed39 T220.vm := hS220.1
            have hR220 : (s.setVm T198.vm).Since T220.vm h220.size := ⟨hS220.1, hS220.2.mono hk220⟩
            obtain ⟨X220, hS220, hZ, hown⟩ := rebS hS198 (Nat.le_trans (Nat.le_refl _) K209_1.1) X220 hR220 E220.1 hZ hown
            have Lt220 : Lit (s.setVm T220.vm) "com/example/issuerd/issuerd/xml/DomReferencesPinLaw" 22 a220 := Lt220
            have Lt178_198_220 := Lit.stays Lt178_198 hW220
            have Lt198_220 := Lit.stays Lt198 hW220
            have Zs220 : n0 ≤ h220.size := Nat.le_trans Zs209 E220.1
            have K220_0 : Keep h0 h220 [] := K209_0.ext E220
            have f221 : Old Z n0 h220 := f210.ext E220
            have f222 : Arv Z h220 b128 k128 .char (2 : Int32) [(.int x0), (.int x1)] (.int (0 : Int32)) := f211.ext E220
            have f223 : Arv Z h220 b137 k137 .char (3 : Int32) [(.int x0), (.int x1), (.int x2)] (.int (0 : Int32)) := f212.ext E220
            have f224 : Exa Z h220 b156 "java/lang/String" := f213.ext E220
            have f225 : Fld Z h220 b156 "java/lang/String" "coder" "B" (.int (0 : Int32)) := f214.ext E220
            have f226 : Fld Z h220 b156 "java/lang/String" "value" "[B" (.ref u156) := f215.ext E220
            have f227 : Arv Z h220 u156 kb156 .byte (1 : Int32) [(.int x0.toInt8.toInt32)] (.int (0 : Int32)) := f216.ext E220
            have f228 : Exa Z h220 a178 "java/lang/String" := f217.ext E220
            have f229 : Exa Z h220 a198 "java/lang/String" := f218.ext E220
            have f230 : Arv Z h220 b164 k164 (.object "java/lang/String") (3 : Int32) [(.ref a178), (.ref a198), .null] .null := f219.ext E220
            have sf231 : Safe Z own_EL T220.vm h220 b164 := (by obtain ⟨c_, A_, -⟩ := f230; exact Safe.arr hZ.alike A_ (by decide))
            have KS220 : Keep h220 h220 [b164] := Keep.refl _ _
            refine own_goW (fun _ k => st220 _ k) ?_
            show own_GW _ _ _ (T220.setTop (mkF m 145 #[.val (.int p0), .val (.int p1), .val (.int p2), .val (.int p3), .val (.int p4), .val (.int (1 : Int32)), .val (.int x0), .val (.int x1), .val (.int x2), .val (.int xq), .val (.ref b128), .val (.ref b137), .val (.ref b156), .unset, .unset] [(.ref a220), (.int (2 : Int32)), (.ref b164), (.ref b164)])) _ _ _ _ _ _
            obtain ⟨cl232, Ar232, q232, S232, Ng232, H232, G232⟩ := id f230
            have in232 : ¬ ((2 : Int32) < 0 ∨ cl232.slots.size ≤ ((2 : Int32)).toNatClampNeg) := inb_of S232 ⟨by decide, by decide⟩
            obtain ⟨T232, h232, X232, e232, W232, st232⟩ := stR X220 hx hZ e220 Ar232 (j := (2 : Int32)) in232 rfl (Sto.ofV Ar232 q232 f176 (Ins.self xa220)) (g := (mkF m 145 #[.val (.int p0), .val (.int p1), .val (.int p2), .val (.int p3), .val (.int p4), .val (.int (1 : Int32)), .val (.int x0), .val (.int x1), .val (.int x2), .val (.int xq), .val (.ref b128), .val (.ref b137), .val (.ref b156), .unset, .unset] [(.ref a220), (.int (2 : Int32)), (.ref b164), (.ref b164)])) rfl rfl (hb hby at_145)
            have N232 := Fr.snoc X232 N209 gg164
            have Zs232 : n0 ≤ h232.size := Nat.le_trans Zs220 (Keep.of_wr W232).1
            have K232_0 : Keep h0 h232 [] := K220_0.wr W232 (Or.inr sz164_0)
            have K232_1 : Keep h220 h232 [b164] := KS220.wr W232 (Or.inl (List.mem_of_getElem? (i := 0) rfl))
            have f233 : Old Z n0 h232 := f221.wr W232 gg164
            have f234 : Arv Z h232 b128 k128 .char (2 : Int32) [(.int x0), (.int x1)] (.int (0 : Int32)) := f222.other W232 ne165
            have f235 : Arv Z h232 b137 k137 .char (3 : Int32) [(.int x0), (.int x1), (.int x2)] (.int (0 : Int32)) := f223.other W232 ne166
            have f236 : Exa Z h232 b156 "java/lang/String" := f224.wr W232
            have f237 : Fld Z h232 b156 "java/lang/String" "coder" "B" (.int (0 : Int32)) := f225.other W232 (Or.inl ne167)
            have f238 : Fld Z h232 b156 "java/lang/String" "value" "[B" (.ref u156) := f226.other W232 (Or.inl ne167)
            have f239 : Arv Z h232 u156 kb156 .byte (1 : Int32) [(.int x0.toInt8.toInt32)] (.int (0 : Int32)) := f227.other W232 ne168
            have f240 : Exa Z h232 a178 "java/lang/String" := f228.wr W232
            have f241 : Exa Z h232 a198 "java/lang/String" := f229.wr W232
            have f242 : Exa Z h232 a220 "java/lang/String" := xa220.wr W232
            have f243 : Arv Z h232 b164 k164 (.object "java/lang/String") (3 : Int32) [(.ref a178), (.ref a198), (.ref a220)] .null := Arv.set Ar232 q232 S232 Ng232 H232 G232 rfl W232 2 rfl (Nat.le_of_ble_eq_true rfl)
            refine own_goW (fun _ k => st232 _ k) ?_
            show own_GW _ _ _ (T232.setTop (mkF m 146 #[.val (.int p0), .val (.int p1), .val (.int p2), .val (.int p3), .val (.int p4), .val (.int (1 : Int32)), .val (.int x0), .val (.int x1), .val (.int x2), .val (.int xq), .val (.ref b128), .val (.ref b137), .val (.ref b156), .unset, .unset] [(.ref b164)])) _ _ _ _ _ _
            refine own_goW (fun _ k => XS.astore X232.here hx rfl (hb hby at_146) rfl rfl (l' := #[.val (.int p0), .val (.int p1), .val (.int p2), .val (.int p3), .val (.int p4), .val (.int (1 : Int32)), .val (.int x0), .val (.int x1), .val (.int x2), .val (.int xq), .val (.ref b128), .val (.ref b137), .val (.ref b156), .val (.ref b164), .unset]) rfl k) ?_
            show own_GW _ _ _ (T232.setTop (mkF m 148 #[.val (.int p0), .val (.int p1), .val (.int p2), .val (.int p3), .val (.int p4), .val (.int (1 : Int32)), .val (.int x0), .val (.int x1), .val (.int x2), .val (.int xq), .val (.ref b128), .val (.ref b137), .val (.ref b156), .val (.ref b164), .unset] [])) _ _ _ _ _ _
            refine own_goW (fun _ k => XS.aload X232.here hx rfl (hb hby at_148) rfl rfl k) ?_
            show own_GW _ _ _ (T232.setTop (mkF m 150 #[.val (.int p0), .val (.int p1), .val (.int p2), .val (.int p3), .val (.int p4), .val (.int (1 : Int32)), .val (.int x0), .val (.int x1), .val (.int x2), .val (.int xq), .val (.ref b128), .val (.ref b137), .val (.ref b156), .val (.ref b164), .unset] [(.ref b156)])) _ _ _ _ _ _
            refine own_goW (fun _ k => XS.aload X232.here hx rfl (hb hby at_150) rfl rfl k) ?_
            show own_GW _ _ _ (T232.setTop (mkF m 152 #[.val (.int p0), .val (.int p1), .val (.int p2), .val (.int p3), .val (.int p4), .val (.int (1 : Int32)), .val (.int x0), .val (.int x1), .val (.int x2), .val (.int xq), .val (.ref b128), .val (.ref b137), .val (.ref b156), .val (.ref b164), .unset] [(.ref b164), (.ref b156)])) _ _ _ _ _ _
            obtain ⟨_, _, ⟨T244, L244, k244, n244⟩, -, X244, ⟨Lc244, hQ244, l244, y244, z244⟩, st244⟩ := Jvm.LawKit.callS X232 hx (y := (⟨"com/example/issuerd/issuerd/xml/Dom", "references", "(Ljava/lang/String;[Ljava/lang/String;)[Ljava/lang/String;"⟩ : MethodName)) hown (mvT hZ (hw _ (List.mem_of_getElem? (i := 15) rfl))) (mvT hZ (hw _ (List.mem_of_getElem? (i := 16) rfl))) (mvT hZ (hw _ (List.mem_of_getElem? (i := 17) rfl))) (mvT hZ (hw _ (List.mem_of_getElem? (i := 18) rfl))) (by decide) (backOf (W := 0) (rm1b l Z a0 hw [] b156 b164 zc fm u156 kb156 k164 a178 a198 a220 x0 h232 n0 Zs232 f233 P_ZS_java_lang_String_COMPACT_STRINGS hcs P_ZS_jdk_internal_util_Preconditions_SIOOBE_FORMATTER hfm f236 f237 f238 f239 f243 f240 f241 f242 rg0) hZ (hw _ (List.mem_of_getElem? (i := 18) rfl)) (hw _ (List.mem_of_getElem? (i := 17) rfl)) (by decide) (by decide)) (g := (mkF m 152 #[.val (.int p0), .val (.int p1), .val (.int p2), .val (.int p3), .val (.int p4), .val (.int (1 : Int32)), .val (.int x0), .val (.int x1), .val (.int x2), .val (.int xq), .val (.ref b128), .val (.ref b137), .val (.ref b156), .val (.ref b164), .unset] [(.ref b164), (.ref b156)])) rfl (by rw [hml]; rfl) (argsL := [(.ref b156), (.ref b164)]) (rest := []) (lenOf pd_6 rfl) rfl (by show 2 * 0 + _ ≤ _; exact Nat.le_of_eq rfl) (hb hby at_152) (fun _ _ => ⟨rfl, e232, (by decide : 11 + 1 ≤ _), (by decide : 37 + 128 ≤ _)⟩)
            dsimp only [Pt.U, Pt.locs, Pt.cells, Pt.slots] at X244 l244 y244 z244 st244 hQ244
            rw [l244] at X244
            subst y244 z244
            obtain ⟨na244, kn244, rfl, Nq244, Kq244, r244_0⟩ := hQ244
            have N244 := Fr.app N232 Nq244
            have f245 : Old Z n0 T244.heap := f233.keep Kq244 all0
            have f246 : Arv Z T244.heap b128 k128 .char (2 : Int32) [(.int x0), (.int x1)] (.int (0 : Int32)) := f234.keep Kq244 nin0
            have f247 : Arv Z T244.heap b137 k137 .char (3 : Int32) [(.int x0), (.int x1), (.int x2)] (.int (0 : Int32)) := f235.keep Kq244 nin0
            have f248 : Exa Z T244.heap b156 "java/lang/String" := f236.keep Kq244
            have f249 : Fld Z T244.heap b156 "java/lang/String" "coder" "B" (.int (0 : Int32)) := f237.keep Kq244 nin0
            have f250 : Fld Z T244.heap b156 "java/lang/String" "value" "[B" (.ref u156) := f238.keep Kq244 nin0
            have f251 : Arv Z T244.heap u156 kb156 .byte (1 : Int32) [(.int x0.toInt8.toInt32)] (.int (0 : Int32)) := f239.keep Kq244 nin0
            have f252 : Exa Z T244.heap a178 "java/lang/String" := f240.keep Kq244
            have f253 : Exa Z T244.heap a198 "java/lang/String" := f241.keep Kq244
            have f254 : Exa Z T244.heap a220 "java/lang/String" := f242.keep Kq244
            have f255 : Arv Z T244.heap b164 k164 (.object "java/lang/String") (3 : Int32) [(.ref a178), (.ref a198), (.ref a220)] .null := f243.keep Kq244 nin0
            have Zs244 : n0 ≤ T244.heap.size := Nat.le_trans Zs232 Kq244.1
            have K244_0 : Keep h0 T244.heap [] := K232_0.trans Kq244 all0
            have K244_1 : Keep h220 T244.heap [b164] := K232_1.trans Kq244 all0
            refine own_goW (fun _ k => st244 _ k) ?_
            show own_GW _ _ _ (T244.setTop (mkF m 155 #[.val (.int p0), .val (.int p1), .val (.int p2), .val (.int p3), .val (.int p4), .val (.int (1 : Int32)), .val (.int x0), .val (.int x1), .val (.int x2), .val (.int xq), .val (.ref b128), .val (.ref b137), .val (.ref b156), .val (.ref b164), .unset] [(.ref na244)])) _ _ _ _ _ _
            refine own_goW (fun _ k => XS.astore X244.here hx rfl (hb hby at_155) rfl rfl (l' := #[.val (.int p0), .val (.int p1), .val (.int p2), .val (.int p3), .val (.int p4), .val (.int (1 : Int32)), .val (.int x0), .val (.int x1), .val (.int x2), .val (.int xq), .val (.ref b128), .val (.ref b137), .val (.ref b156), .val (.ref b164), .val (.ref na244)]) rfl k) ?_
            show own_GW _ _ _ (T244.setTop (mkF m 157 #[.val (.int p0), .val (.int p1), .val (.int p2), .val (.int p3), .val (.int p4), .val (.int (1 : Int32)), .val (.int x0), .val (.int x1), .val (.int x2), .val (.int xq), .val (.ref b128), .val (.ref b137), .val (.ref b156), .val (.ref b164), .val (.ref na244)] [])) _ _ _ _ _ _
            refine own_goW (fun _ k => XS.iload X244.here hx rfl (hb hby at_157) rfl k) ?_
            show own_GW _ _ _ (T244.setTop (mkF m 159 #[.val (.int p0), .val (.int p1), .val (.int p2), .val (.int p3), .val (.int p4), .val (.int (1 : Int32)), .val (.int x0), .val (.int x1), .val (.int x2), .val (.int xq), .val (.ref b128), .val (.ref b137), .val (.ref b156), .val (.ref b164), .val (.ref na244)] [(.int (1 : Int32))])) _ _ _ _ _ _
            have hc256 : ¬ ((1 : Int32) = (0 : Int32)) := (by decide)
            refine own_goW (fun _ k => XS.ifYes X244.here hx rfl (pc0 := 159) (pc' := 174) rfl (hb hby at_159) rfl ((if0 _ _).trans (feq hc256).2) (by decide) (by decide) k) ?_
            show own_GW _ _ _ (T244.setTop (mkF m 174 #[.val (.int p0), .val (.int p1), .val (.int p2), .val (.int p3), .val (.int p4), .val (.int (1 : Int32)), .val (.int x0), .val (.int x1), .val (.int x2), .val (.int xq), .val (.ref b128), .val (.ref b137), .val (.ref b156), .val (.ref b164), .val (.ref na244)] [])) _ _ _ _ _ _
            refine own_goW (fun _ k => XS.aload X244.here hx rfl (hb hby at_174) rfl rfl k) ?_
            show own_GW _ _ _ (T244.setTop (mkF m 176 #[.val (.int p0), .val (.int p1), .val (.int p2), .val (.int p3), .val (.int p4), .val (.int (1 : Int32)), .val (.int x0), .val (.int x1), .val (.int x2), .val (.int xq), .val (.ref b128), .val (.ref b137), .val (.ref b156), .val (.ref b164), .val (.ref na244)] [(.ref na244)])) _ _ _ _ _ _
            obtain ⟨cl257, Ar257, -, S257, Ng257, -, -⟩ := id r244_0
            refine own_goW (fun _ k => X244.arraylength hx (by exact Ar257.1) (State.isArrayOf_alike hZ.alike Ar257.2.1) (g := (mkF m 176 #[.val (.int p0), .val (.int p1), .val (.int p2), .val (.int p3), .val (.int p4), .val (.int (1 : Int32)), .val (.int x0), .val (.int x1), .val (.int x2), .val (.int xq), .val (.ref b128), .val (.ref b137), .val (.ref b156), .val (.ref b164), .val (.ref na244)] [(.ref na244)])) rfl rfl (hb hby at_176) _ k) ?_
            rw [len_of S257 Ng257]
            show own_GW _ _ _ (T244.setTop (mkF m 177 #[.val (.int p0), .val (.int p1), .val (.int p2), .val (.int p3), .val (.int p4), .val (.int (1 : Int32)), .val (.int x0), .val (.int x1), .val (.int x2), .val (.int xq), .val (.ref b128), .val (.ref b137), .val (.ref b156), .val (.ref b164), .val (.ref na244)] [(.int (128 : Int32))])) _ _ _ _ _ _
            refine own_goW (fun _ k => XS.sipush X244.here hx rfl (hb hby at_177) k) ?_
            show own_GW _ _ _ (T244.setTop (mkF m 180 #[.val (.int p0), .val (.int p1), .val (.int p2), .val (.int p3), .val (.int p4), .val (.int (1 : Int32)), .val (.int x0), .val (.int x1), .val (.int x2), .val (.int xq), .val (.ref b128), .val (.ref b137), .val (.ref b156), .val (.ref b164), .val (.ref na244)] [(.int (128 : Int32)), (.int (128 : Int32))])) _ _ _ _ _ _
            have hc258 : (128 : Int32) = (128 : Int32) := (by decide)
            refine own_goW (fun _ k => XS.icmpYes X244.here hx rfl (pc0 := 180) (pc' := 185) rfl (hb hby at_180) rfl (teq hc258).1 (by decide) (by decide) k) ?_
            show own_GW _ _ _ (T244.setTop (mkF m 185 #[.val (.int p0), .val (.int p1), .val (.int p2), .val (.int p3), .val (.int p4), .val (.int (1 : Int32)), .val (.int x0), .val (.int x1), .val (.int x2), .val (.int xq), .val (.ref b128), .val (.ref b137), .val (.ref b156), .val (.ref b164), .val (.ref na244)] [])) _ _ _ _ _ _
            rcases own_c1 x0 xq with qhA | qnA
            · skip
              refine own_goW (fun _ k => XS.aload X244.here hx rfl (hb hby at_185) rfl rfl k) ?_
              show own_GW _ _ _ (T244.setTop (mkF m 187 #[.val (.int p0), .val (.int p1), .val (.int p2), .val (.int p3), .val (.int p4), .val (.int (1 : Int32)), .val (.int x0), .val (.int x1), .val (.int x2), .val (.int xq), .val (.ref b128), .val (.ref b137), .val (.ref b156), .val (.ref b164), .val (.ref na244)] [(.ref na244)])) _ _ _ _ _ _
              refine own_goW (fun _ k => XS.iload X244.here hx rfl (hb hby at_187) rfl k) ?_
              show own_GW _ _ _ (T244.setTop (mkF m 189 #[.val (.int p0), .val (.int p1), .val (.int p2), .val (.int p3), .val (.int p4), .val (.int (1 : Int32)), .val (.int x0), .val (.int x1), .val (.int x2), .val (.int xq), .val (.ref b128), .val (.ref b137), .val (.ref b156), .val (.ref b164), .val (.ref na244)] [(.int xq), (.ref na244)])) _ _ _ _ _ _
              obtain ⟨cl259, Ar259, q259, S259, Ng259, H259, G259⟩ := id r244_0
              have in259 : ¬ (xq < 0 ∨ cl259.slots.size ≤ (xq).toNatClampNeg) := inb_of S259 rgq.inb
              have at259 : cl259.slots[(xq).toNatClampNeg]? = some (.ref a178) := H259.at in259 (own_set_yes _ x0 xq _ rg0 (by simp only [own_set_len, own_t0_len]) qhA)
              refine own_goW (fun _ k => X244.aaload hx (j := xq) (v := (.ref a178)) (by exact Ar259.1) (State.isArrayOf_alike hZ.alike Ar259.2.1) rfl Ar259.2.2 in259 at259 (g := (mkF m 189 #[.val (.int p0), .val (.int p1), .val (.int p2), .val (.int p3), .val (.int p4), .val (.int (1 : Int32)), .val (.int x0), .val (.int x1), .val (.int x2), .val (.int xq), .val (.ref b128), .val (.ref b137), .val (.ref b156), .val (.ref b164), .val (.ref na244)] [(.int xq), (.ref na244)])) rfl rfl (hb hby at_189) _ k) ?_
              show own_GW _ _ _ (T244.setTop (mkF m 190 #[.val (.int p0), .val (.int p1), .val (.int p2), .val (.int p3), .val (.int p4), .val (.int (1 : Int32)), .val (.int x0), .val (.int x1), .val (.int x2), .val (.int xq), .val (.ref b128), .val (.ref b137), .val (.ref b156), .val (.ref b164), .val (.ref na244)] [(.ref a178)])) _ _ _ _ _ _
              refine own_goW (fun _ k => XS.iload X244.here hx rfl (hb hby at_190) rfl k) ?_
              show own_GW _ _ _ (T244.setTop (mkF m 192 #[.val (.int p0), .val (.int p1), .val (.int p2), .val (.int p3), .val (.int p4), .val (.int (1 : Int32)), .val (.int x0), .val (.int x1), .val (.int x2), .val (.int xq), .val (.ref b128), .val (.ref b137), .val (.ref b156), .val (.ref b164), .val (.ref na244)] [(.int xq), (.ref a178)])) _ _ _ _ _ _
              refine own_goW (fun _ k => XS.iload X244.here hx rfl (hb hby at_192) rfl k) ?_
              show own_GW _ _ _ (T244.setTop (mkF m 194 #[.val (.int p0), .val (.int p1), .val (.int p2), .val (.int p3), .val (.int p4), .val (.int (1 : Int32)), .val (.int x0), .val (.int x1), .val (.int x2), .val (.int xq), .val (.ref b128), .val (.ref b137), .val (.ref b156), .val (.ref b164), .val (.ref na244)] [(.int (1 : Int32)), (.int xq), (.ref a178)])) _ _ _ _ _ _
              refine own_goW (fun _ k => XS.iload X244.here hx rfl (hb hby at_194) rfl k) ?_
              show own_GW _ _ _ (T244.setTop (mkF m 196 #[.val (.int p0), .val (.int p1), .val (.int p2), .val (.int p3), .val (.int p4), .val (.int (1 : Int32)), .val (.int x0), .val (.int x1), .val (.int x2), .val (.int xq), .val (.ref b128), .val (.ref b137), .val (.ref b156), .val (.ref b164), .val (.ref na244)] [(.int x0), (.int (1 : Int32)), (.int xq), (.ref a178)])) _ _ _ _ _ _
              refine own_goW (fun _ k => XS.iload X244.here hx rfl (hb hby at_196) rfl k) ?_
              show own_GW _ _ _ (T244.setTop (mkF m 198 #[.val (.int p0), .val (.int p1), .val (.int p2), .val (.int p3), .val (.int p4), .val (.int (1 : Int32)), .val (.int x0), .val (.int x1), .val (.int x2), .val (.int xq), .val (.ref b128), .val (.ref b137), .val (.ref b156), .val (.ref b164), .val (.ref na244)] [(.int x1), (.int x0), (.int (1 : Int32)), (.int xq), (.ref a178)])) _ _ _ _ _ _
              refine own_goW (fun _ k => XS.iload X244.here hx rfl (hb hby at_198) rfl k) ?_
              show own_GW _ _ _ (T244.setTop (mkF m 200 #[.val (.int p0), .val (.int p1), .val (.int p2), .val (.int p3), .val (.int p4), .val (.int (1 : Int32)), .val (.int x0), .val (.int x1), .val (.int x2), .val (.int xq), .val (.ref b128), .val (.ref b137), .val (.ref b156), .val (.ref b164), .val (.ref na244)] [(.int x2), (.int x1), (.int x0), (.int (1 : Int32)), (.int xq), (.ref a178)])) _ _ _ _ _ _
              obtain ⟨_, _, ⟨T260, L260, k260, n260⟩, -, X260, ⟨Lc260, hQ260, l260, y260, z260⟩, st260⟩ := Jvm.LawKit.callS X244 hx (y := (⟨"com/example/issuerd/issuerd/xml/DomReferencesPinLaw", "expected", "(IICCC)Ljava/lang/String;"⟩ : MethodName)) hown (mvT hZ (hw _ (List.mem_of_getElem? (i := 79) rfl))) (mvT hZ (hw _ (List.mem_of_getElem? (i := 80) rfl))) (mvT hZ (hw _ (List.mem_of_getElem? (i := 81) rfl))) (mvT hZ (hw _ (List.mem_of_getElem? (i := 82) rfl))) (by decide) (backOf (W := 1) (rm16a l (s.setVm T220.vm) a0 [] xq x0 x1 x2 a178 a198 a220 T244.heap n0 Zs244 (mvS hZ (hw _ (List.mem_of_getElem? (i := 11) rfl))) (mvS hZ (hw _ (List.mem_of_getElem? (i := 13) rfl))) (mvS hZ (hw _ (List.mem_of_getElem? (i := 14) rfl))) Lt178_198_220 Lt198_220 Lt220 qhA) (State.Warmed39.refl _) (mvT (args := a0) hZ (hw _ (List.mem_of_getElem? (i := 82) rfl))) (mvT (args := a0) hZ (hw _ (List.mem_of_getElem? (i := 81) rfl))) (by decide) (by decide)) (g := (mkF m 200 #[.val (.int p0), .val (.int p1), .val (.int p2), .val (.int p3), .val (.int p4), .val (.int (1 : Int32)), .val (.int x0), .val (.int x1), .val (.int x2), .val (.int xq), .val (.ref b128), .val (.ref b137), .val (.ref b156), .val (.ref b164), .val (.ref na244)] [(.int x2), (.int x1), (.int x0), (.int (1 : Int32)), (.int xq), (.ref a178)])) rfl (by rw [hml]; rfl) (argsL := [(.int xq), (.int (1 : Int32)), (.int x0), (.int x1), (.int x2)]) (rest := [(.ref a178)]) (lenOf pd_8 rfl) rfl (by show 2 * 0 + _ ≤ _; exact Nat.le_of_eq rfl) (hb hby at_200) (fun _ _ => ⟨rfl, rfl, (by decide : 12 + 0 ≤ _), (by decide : 165 + 0 ≤ _)⟩)
              dsimp only [Pt.U, Pt.locs, Pt.cells, Pt.slots] at X260 l260 y260 z260 st260 hQ260
              rw [l260] at X260
              subst y260 z260
              obtain ⟨rfl, Nq260, eh260⟩ := hQ260
              have N260 := Fr.app N244 Nq260
              refine own_goW (fun _ k => st260 _ k) ?_
              show own_GW _ _ _ (T260.setTop (mkF m 203 #[.val (.int p0), .val (.int p1), .val (.int p2), .val (.int p3), .val (.int p4), .val (.int (1 : Int32)), .val (.int x0), .val (.int x1), .val (.int x2), .val (.int xq), .val (.ref b128), .val (.ref b137), .val (.ref b156), .val (.ref b164), .val (.ref na244)] [(.ref a178), (.ref a178)])) _ _ _ _ _ _
              refine own_goW (fun _ k => Jvm.RoadKit.acmp (g := (mkF m 203 #[.val (.int p0), .val (.int p1), .val (.int p2), .val (.int p3), .val (.int p4), .val (.int (1 : Int32)), .val (.int x0), .val (.int x1), .val (.int x2), .val (.int xq), .val (.ref b128), .val (.ref b137), .val (.ref b156), .val (.ref b164), .val (.ref na244)] [(.ref a178), (.ref a178)])) X260 hx rfl rfl rfl (pc0 := 203) (pc' := 206) (same := true) rfl (hb hby at_203) rfl (decide_eq_true rfl) (by decide) (by decide) k) ?_
              show own_GW _ _ _ (T260.setTop (mkF m 206 #[.val (.int p0), .val (.int p1), .val (.int p2), .val (.int p3), .val (.int p4), .val (.int (1 : Int32)), .val (.int x0), .val (.int x1), .val (.int x2), .val (.int xq), .val (.ref b128), .val (.ref b137), .val (.ref b156), .val (.ref b164), .val (.ref na244)] [])) _ _ _ _ _ _
              refine own_goW (fun _ k => XS.aload X260.here hx rfl (hb hby at_206) rfl rfl k) ?_
              show own_GW _ _ _ (T260.setTop (mkF m 208 #[.val (.int p0), .val (.int p1), .val (.int p2), .val (.int p3), .val (.int p4), .val (.int (1 : Int32)), .val (.int x0), .val (.int x1), .val (.int x2), .val (.int xq), .val (.ref b128), .val (.ref b137), .val (.ref b156), .val (.ref b164), .val (.ref na244)] [(.ref na244)])) _ _ _ _ _ _
              refine own_goW (fun _ k => XS.iload X260.here hx rfl (hb hby at_208) rfl k) ?_
              show own_GW _ _ _ (T260.setTop (mkF m 210 #[.val (.int p0), .val (.int p1), .val (.int p2), .val (.int p3), .val (.int p4), .val (.int (1 : Int32)), .val (.int x0), .val (.int x1), .val (.int x2), .val (.int xq), .val (.ref b128), .val (.ref b137), .val (.ref b156), .val (.ref b164), .val (.ref na244)] [(.int x0), (.ref na244)])) _ _ _ _ _ _
              obtain ⟨cl261, Ar261, q261, S261, Ng261, H261, G261⟩ := id r244_0
              have in261 : ¬ (x0 < 0 ∨ cl261.slots.size ≤ (x0).toNatClampNeg) := inb_of S261 rg0.inb
              have at261 : cl261.slots[(x0).toNatClampNeg]? = some (.ref a178) := H261.at in261 (own_set_yes _ x0 x0 _ rg0 (by simp only [own_set_len, own_t0_len]) rfl)
              refine own_goW (fun _ k => X260.aaload hx (j := x0) (v := (.ref a178)) (by rw [eh260]; exact Ar261.1) (State.isArrayOf_alike hZ.alike Ar261.2.1) rfl Ar261.2.2 in261 at261 (g := (mkF m 210 #[.val (.int p0), .val (.int p1), .val (.int p2), .val (.int p3), .val (.int p4), .val (.int (1 : Int32)), .val (.int x0), .val (.int x1), .val (.int x2), .val (.int xq), .val (.ref b128), .val (.ref b137), .val (.ref b156), .val (.ref b164), .val (.ref na244)] [(.int x0), (.ref na244)])) rfl rfl (hb hby at_210) _ k) ?_
              show own_GW _ _ _ (T260.setTop (mkF m 211 #[.val (.int p0), .val (.int p1), .val (.int p2), .val (.int p3), .val (.int p4), .val (.int (1 : Int32)), .val (.int x0), .val (.int x1), .val (.int x2), .val (.int xq), .val (.ref b128), .val (.ref b137), .val (.ref b156), .val (.ref b164), .val (.ref na244)] [(.ref a178)])) _ _ _ _ _ _
              refine own_goW (fun _ k => XS.iload X260.here hx rfl (hb hby at_211) rfl k) ?_
              show own_GW _ _ _ (T260.setTop (mkF m 213 #[.val (.int p0), .val (.int p1), .val (.int p2), .val (.int p3), .val (.int p4), .val (.int (1 : Int32)), .val (.int x0), .val (.int x1), .val (.int x2), .val (.int xq), .val (.ref b128), .val (.ref b137), .val (.ref b156), .val (.ref b164), .val (.ref na244)] [(.int x0), (.ref a178)])) _ _ _ _ _ _
              refine own_goW (fun _ k => XS.iload X260.here hx rfl (hb hby at_213) rfl k) ?_
              show own_GW _ _ _ (T260.setTop (mkF m 215 #[.val (.int p0), .val (.int p1), .val (.int p2), .val (.int p3), .val (.int p4), .val (.int (1 : Int32)), .val (.int x0), .val (.int x1), .val (.int x2), .val (.int xq), .val (.ref b128), .val (.ref b137), .val (.ref b156), .val (.ref b164), .val (.ref na244)] [(.int (1 : Int32)), (.int x0), (.ref a178)])) _ _ _ _ _ _
              refine own_goW (fun _ k => XS.iload X260.here hx rfl (hb hby at_215) rfl k) ?_
              show own_GW _ _ _ (T260.setTop (mkF m 217 #[.val (.int p0), .val (.int p1), .val (.int p2), .val (.int p3), .val (.int p4), .val (.int (1 : Int32)), .val (.int x0), .val (.int x1), .val (.int x2), .val (.int xq), .val (.ref b128), .val (.ref b137), .val (.ref b156), .val (.ref b164), .val (.ref na244)] [(.int x0), (.int (1 : Int32)), (.int x0), (.ref a178)])) _ _ _ _ _ _
              refine own_goW (fun _ k => XS.iload X260.here hx rfl (hb hby at_217) rfl k) ?_
              show own_GW _ _ _ (T260.setTop (mkF m 219 #[.val (.int p0), .val (.int p1), .val (.int p2), .val (.int p3), .val (.int p4), .val (.int (1 : Int32)), .val (.int x0), .val (.int x1), .val (.int x2), .val (.int xq), .val (.ref b128), .val (.ref b137), .val (.ref b156), .val (.ref b164), .val (.ref na244)] [(.int x1), (.int x0), (.int (1 : Int32)), (.int x0), (.ref a178)])) _ _ _ _ _ _
              refine own_goW (fun _ k => XS.iload X260.here hx rfl (hb hby at_219) rfl k) ?_
              show own_GW _ _ _ (T260.setTop (mkF m 221 #[.val (.int p0), .val (.int p1), .val (.int p2), .val (.int p3), .val (.int p4), .val (.int (1 : Int32)), .val (.int x0), .val (.int x1), .val (.int x2), .val (.int xq), .val (.ref b128), .val (.ref b137), .val (.ref b156), .val (.ref b164), .val (.ref na244)] [(.int x2), (.int x1), (.int x0), (.int (1 : Int32)), (.int x0), (.ref a178)])) _ _ _ _ _ _
              obtain ⟨_, _, ⟨T262, L262, k262, n262⟩, -, X262, ⟨Lc262, hQ262, l262, y262, z262⟩, st262⟩ := Jvm.LawKit.callS X260 hx (y := (⟨"com/example/issuerd/issuerd/xml/DomReferencesPinLaw", "expected", "(IICCC)Ljava/lang/String;"⟩ : MethodName)) hown (mvT hZ (hw _ (List.mem_of_getElem? (i := 79) rfl))) (mvT hZ (hw _ (List.mem_of_getElem? (i := 80) rfl))) (mvT hZ (hw _ (List.mem_of_getElem? (i := 81) rfl))) (mvT hZ (hw _ (List.mem_of_getElem? (i := 82) rfl))) (by decide) (backOf (W := 1) (rm16a l (s.setVm T220.vm) a0 [] x0 x0 x1 x2 a178 a198 a220 T244.heap n0 Zs244 (mvS hZ (hw _ (List.mem_of_getElem? (i := 11) rfl))) (mvS hZ (hw _ (List.mem_of_getElem? (i := 13) rfl))) (mvS hZ (hw _ (List.mem_of_getElem? (i := 14) rfl))) Lt178_198_220 Lt198_220 Lt220 rfl) (State.Warmed39.refl _) (mvT (args := a0) hZ (hw _ (List.mem_of_getElem? (i := 82) rfl))) (mvT (args := a0) hZ (hw _ (List.mem_of_getElem? (i := 81) rfl))) (by decide) (by decide)) (g := (mkF m 221 #[.val (.int p0), .val (.int p1), .val (.int p2), .val (.int p3), .val (.int p4), .val (.int (1 : Int32)), .val (.int x0), .val (.int x1), .val (.int x2), .val (.int xq), .val (.ref b128), .val (.ref b137), .val (.ref b156), .val (.ref b164), .val (.ref na244)] [(.int x2), (.int x1), (.int x0), (.int (1 : Int32)), (.int x0), (.ref a178)])) rfl (by rw [hml]; rfl) (argsL := [(.int x0), (.int (1 : Int32)), (.int x0), (.int x1), (.int x2)]) (rest := [(.ref a178)]) (lenOf pd_8 rfl) rfl (by show 2 * 0 + _ ≤ _; exact Nat.le_of_eq rfl) (hb hby at_221) (fun _ _ => ⟨rfl, eh260, (by decide : 12 + 0 ≤ _), (by decide : 165 + 0 ≤ _)⟩)
              dsimp only [Pt.U, Pt.locs, Pt.cells, Pt.slots] at X262 l262 y262 z262 st262 hQ262
              rw [l262] at X262
              subst y262 z262
              obtain ⟨rfl, Nq262, eh262⟩ := hQ262
              have N262 := Fr.app N260 Nq262
              refine own_goW (fun _ k => st262 _ k) ?_
              show own_GW _ _ _ (T262.setTop (mkF m 224 #[.val (.int p0), .val (.int p1), .val (.int p2), .val (.int p3), .val (.int p4), .val (.int (1 : Int32)), .val (.int x0), .val (.int x1), .val (.int x2), .val (.int xq), .val (.ref b128), .val (.ref b137), .val (.ref b156), .val (.ref b164), .val (.ref na244)] [(.ref a178), (.ref a178)])) _ _ _ _ _ _
              refine own_goW (fun _ k => Jvm.RoadKit.acmp (g := (mkF m 224 #[.val (.int p0), .val (.int p1), .val (.int p2), .val (.int p3), .val (.int p4), .val (.int (1 : Int32)), .val (.int x0), .val (.int x1), .val (.int x2), .val (.int xq), .val (.ref b128), .val (.ref b137), .val (.ref b156), .val (.ref b164), .val (.ref na244)] [(.ref a178), (.ref a178)])) X262 hx rfl rfl rfl (pc0 := 224) (pc' := 227) (same := true) rfl (hb hby at_224) rfl (decide_eq_true rfl) (by decide) (by decide) k) ?_
              show own_GW _ _ _ (T262.setTop (mkF m 227 #[.val (.int p0), .val (.int p1), .val (.int p2), .val (.int p3), .val (.int p4), .val (.int (1 : Int32)), .val (.int x0), .val (.int x1), .val (.int x2), .val (.int xq), .val (.ref b128), .val (.ref b137), .val (.ref b156), .val (.ref b164), .val (.ref na244)] [])) _ _ _ _ _ _
              refine own_goW (fun _ k => XS.iconst X262.here hx rfl (hb hby at_227) k) ?_
              show own_GW _ _ _ (T262.setTop (mkF m 228 #[.val (.int p0), .val (.int p1), .val (.int p2), .val (.int p3), .val (.int p4), .val (.int (1 : Int32)), .val (.int x0), .val (.int x1), .val (.int x2), .val (.int xq), .val (.ref b128), .val (.ref b137), .val (.ref b156), .val (.ref b164), .val (.ref na244)] [(.int (1 : Int32))])) _ _ _ _ _ _
              refine own_goW (fun _ k => XS.goto X262.here hx rfl (pc0 := 228) (pc' := 232) rfl (hb hby at_228) (by decide) (by decide) k) ?_
              show own_GW _ _ _ (T262.setTop (mkF m 232 #[.val (.int p0), .val (.int p1), .val (.int p2), .val (.int p3), .val (.int p4), .val (.int (1 : Int32)), .val (.int x0), .val (.int x1), .val (.int x2), .val (.int xq), .val (.ref b128), .val (.ref b137), .val (.ref b156), .val (.ref b164), .val (.ref na244)] [(.int (1 : Int32))])) _ _ _ _ _ _
              have CQ263 := CR220.trans (CHr.keep K244_1 (allS sf231 all0) CR220.1)
              have CE263 : CHr Z own_EL s.vm s.heap T262.vm T262.heap := by rw [hh, show T262.heap = T244.heap from eh262]; exact CQ263.trans (CHv.at X262 hZ (own_EW hw) CQ263.1)
              exact own_endWN X262 hx hlk (t := .boolean) Bd.returns (by simp) (hb hby at_232) hS220 (show _ ≤ T262.heap.size by rw [show T262.heap = T244.heap from eh262]; exact (Nat.le_trans (Nat.le_refl _) K244_1.1)) (by decide) (by decide) CE263 (Q := (Q0 Z p0 p1 p2 p3 p4 zc fm h0 n0)) (by rw [eh262]; exact ⟨rfl, N262, K244_0⟩)
            · skip
              refine own_goW (fun _ k => XS.aload X244.here hx rfl (hb hby at_185) rfl rfl k) ?_
              show own_GW _ _ _ (T244.setTop (mkF m 187 #[.val (.int p0), .val (.int p1), .val (.int p2), .val (.int p3), .val (.int p4), .val (.int (1 : Int32)), .val (.int x0), .val (.int x1), .val (.int x2), .val (.int xq), .val (.ref b128), .val (.ref b137), .val (.ref b156), .val (.ref b164), .val (.ref na244)] [(.ref na244)])) _ _ _ _ _ _
              refine own_goW (fun _ k => XS.iload X244.here hx rfl (hb hby at_187) rfl k) ?_
              show own_GW _ _ _ (T244.setTop (mkF m 189 #[.val (.int p0), .val (.int p1), .val (.int p2), .val (.int p3), .val (.int p4), .val (.int (1 : Int32)), .val (.int x0), .val (.int x1), .val (.int x2), .val (.int xq), .val (.ref b128), .val (.ref b137), .val (.ref b156), .val (.ref b164), .val (.ref na244)] [(.int xq), (.ref na244)])) _ _ _ _ _ _
              obtain ⟨cl264, Ar264, q264, S264, Ng264, H264, G264⟩ := id r244_0
              have in264 : ¬ (xq < 0 ∨ cl264.slots.size ≤ (xq).toNatClampNeg) := inb_of S264 rgq.inb
              have at264 : cl264.slots[(xq).toNatClampNeg]? = some .null := H264.at in264 ((own_set_no _ x0 xq _ rg0 rgq qnA).trans (own_t0_get _))
              refine own_goW (fun _ k => X244.aaload hx (j := xq) (v := .null) (by exact Ar264.1) (State.isArrayOf_alike hZ.alike Ar264.2.1) rfl Ar264.2.2 in264 at264 (g := (mkF m 189 #[.val (.int p0), .val (.int p1), .val (.int p2), .val (.int p3), .val (.int p4), .val (.int (1 : Int32)), .val (.int x0), .val (.int x1), .val (.int x2), .val (.int xq), .val (.ref b128), .val (.ref b137), .val (.ref b156), .val (.ref b164), .val (.ref na244)] [(.int xq), (.ref na244)])) rfl rfl (hb hby at_189) _ k) ?_
              show own_GW _ _ _ (T244.setTop (mkF m 190 #[.val (.int p0), .val (.int p1), .val (.int p2), .val (.int p3), .val (.int p4), .val (.int (1 : Int32)), .val (.int x0), .val (.int x1), .val (.int x2), .val (.int xq), .val (.ref b128), .val (.ref b137), .val (.ref b156), .val (.ref b164), .val (.ref na244)] [.null])) _ _ _ _ _ _
              refine own_goW (fun _ k => XS.iload X244.here hx rfl (hb hby at_190) rfl k) ?_
              show own_GW _ _ _ (T244.setTop (mkF m 192 #[.val (.int p0), .val (.int p1), .val (.int p2), .val (.int p3), .val (.int p4), .val (.int (1 : Int32)), .val (.int x0), .val (.int x1), .val (.int x2), .val (.int xq), .val (.ref b128), .val (.ref b137), .val (.ref b156), .val (.ref b164), .val (.ref na244)] [(.int xq), .null])) _ _ _ _ _ _
              refine own_goW (fun _ k => XS.iload X244.here hx rfl (hb hby at_192) rfl k) ?_
              show own_GW _ _ _ (T244.setTop (mkF m 194 #[.val (.int p0), .val (.int p1), .val (.int p2), .val (.int p3), .val (.int p4), .val (.int (1 : Int32)), .val (.int x0), .val (.int x1), .val (.int x2), .val (.int xq), .val (.ref b128), .val (.ref b137), .val (.ref b156), .val (.ref b164), .val (.ref na244)] [(.int (1 : Int32)), (.int xq), .null])) _ _ _ _ _ _
              refine own_goW (fun _ k => XS.iload X244.here hx rfl (hb hby at_194) rfl k) ?_
              show own_GW _ _ _ (T244.setTop (mkF m 196 #[.val (.int p0), .val (.int p1), .val (.int p2), .val (.int p3), .val (.int p4), .val (.int (1 : Int32)), .val (.int x0), .val (.int x1), .val (.int x2), .val (.int xq), .val (.ref b128), .val (.ref b137), .val (.ref b156), .val (.ref b164), .val (.ref na244)] [(.int x0), (.int (1 : Int32)), (.int xq), .null])) _ _ _ _ _ _
              refine own_goW (fun _ k => XS.iload X244.here hx rfl (hb hby at_196) rfl k) ?_
              show own_GW _ _ _ (T244.setTop (mkF m 198 #[.val (.int p0), .val (.int p1), .val (.int p2), .val (.int p3), .val (.int p4), .val (.int (1 : Int32)), .val (.int x0), .val (.int x1), .val (.int x2), .val (.int xq), .val (.ref b128), .val (.ref b137), .val (.ref b156), .val (.ref b164), .val (.ref na244)] [(.int x1), (.int x0), (.int (1 : Int32)), (.int xq), .null])) _ _ _ _ _ _
              refine own_goW (fun _ k => XS.iload X244.here hx rfl (hb hby at_198) rfl k) ?_
              show own_GW _ _ _ (T244.setTop (mkF m 200 #[.val (.int p0), .val (.int p1), .val (.int p2), .val (.int p3), .val (.int p4), .val (.int (1 : Int32)), .val (.int x0), .val (.int x1), .val (.int x2), .val (.int xq), .val (.ref b128), .val (.ref b137), .val (.ref b156), .val (.ref b164), .val (.ref na244)] [(.int x2), (.int x1), (.int x0), (.int (1 : Int32)), (.int xq), .null])) _ _ _ _ _ _
              obtain ⟨_, _, ⟨T265, L265, k265, n265⟩, -, X265, ⟨Lc265, hQ265, l265, y265, z265⟩, st265⟩ := Jvm.LawKit.callS X244 hx (y := (⟨"com/example/issuerd/issuerd/xml/DomReferencesPinLaw", "expected", "(IICCC)Ljava/lang/String;"⟩ : MethodName)) hown (mvT hZ (hw _ (List.mem_of_getElem? (i := 79) rfl))) (mvT hZ (hw _ (List.mem_of_getElem? (i := 80) rfl))) (mvT hZ (hw _ (List.mem_of_getElem? (i := 81) rfl))) (mvT hZ (hw _ (List.mem_of_getElem? (i := 82) rfl))) (by decide) (backOf (W := 1) (rm16b l (s.setVm T220.vm) a0 [] xq x0 x1 x2 a178 a198 a220 T244.heap n0 Zs244 (mvS hZ (hw _ (List.mem_of_getElem? (i := 11) rfl))) (mvS hZ (hw _ (List.mem_of_getElem? (i := 13) rfl))) (mvS hZ (hw _ (List.mem_of_getElem? (i := 14) rfl))) Lt178_198_220 Lt198_220 Lt220 qnA) (State.Warmed39.refl _) (mvT (args := a0) hZ (hw _ (List.mem_of_getElem? (i := 82) rfl))) (mvT (args := a0) hZ (hw _ (List.mem_of_getElem? (i := 81) rfl))) (by decide) (by decide)) (g := (mkF m 200 #[.val (.int p0), .val (.int p1), .val (.int p2), .val (.int p3), .val (.int p4), .val (.int (1 : Int32)), .val (.int x0), .val (.int x1), .val (.int x2), .val (.int xq), .val (.ref b128), .val (.ref b137), .val (.ref b156), .val (.ref b164), .val (.ref na244)] [(.int x2), (.int x1), (.int x0), (.int (1 : Int32)), (.int xq), .null])) rfl (by rw [hml]; rfl) (argsL := [(.int xq), (.int (1 : Int32)), (.int x0), (.int x1), (.int x2)]) (rest := [.null]) (lenOf pd_8 rfl) rfl (by show 2 * 0 + _ ≤ _; exact Nat.le_of_eq rfl) (hb hby at_200) (fun _ _ => ⟨rfl, rfl, (by decide : 12 + 0 ≤ _), (by decide : 165 + 0 ≤ _)⟩)
              dsimp only [Pt.U, Pt.locs, Pt.cells, Pt.slots] at X265 l265 y265 z265 st265 hQ265
              rw [l265] at X265
              subst y265 z265
              obtain ⟨rfl, Nq265, eh265⟩ := hQ265
              have N265 := Fr.app N244 Nq265
              refine own_goW (fun _ k => st265 _ k) ?_
              show own_GW _ _ _ (T265.setTop (mkF m 203 #[.val (.int p0), .val (.int p1), .val (.int p2), .val (.int p3), .val (.int p4), .val (.int (1 : Int32)), .val (.int x0), .val (.int x1), .val (.int x2), .val (.int xq), .val (.ref b128), .val (.ref b137), .val (.ref b156), .val (.ref b164), .val (.ref na244)] [.null, .null])) _ _ _ _ _ _
              refine own_goW (fun _ k => Jvm.RoadKit.acmp (g := (mkF m 203 #[.val (.int p0), .val (.int p1), .val (.int p2), .val (.int p3), .val (.int p4), .val (.int (1 : Int32)), .val (.int x0), .val (.int x1), .val (.int x2), .val (.int xq), .val (.ref b128), .val (.ref b137), .val (.ref b156), .val (.ref b164), .val (.ref na244)] [.null, .null])) X265 hx rfl rfl rfl (pc0 := 203) (pc' := 206) (same := true) rfl (hb hby at_203) rfl (decide_eq_true rfl) (by decide) (by decide) k) ?_
              show own_GW _ _ _ (T265.setTop (mkF m 206 #[.val (.int p0), .val (.int p1), .val (.int p2), .val (.int p3), .val (.int p4), .val (.int (1 : Int32)), .val (.int x0), .val (.int x1), .val (.int x2), .val (.int xq), .val (.ref b128), .val (.ref b137), .val (.ref b156), .val (.ref b164), .val (.ref na244)] [])) _ _ _ _ _ _
              refine own_goW (fun _ k => XS.aload X265.here hx rfl (hb hby at_206) rfl rfl k) ?_
              show own_GW _ _ _ (T265.setTop (mkF m 208 #[.val (.int p0), .val (.int p1), .val (.int p2), .val (.int p3), .val (.int p4), .val (.int (1 : Int32)), .val (.int x0), .val (.int x1), .val (.int x2), .val (.int xq), .val (.ref b128), .val (.ref b137), .val (.ref b156), .val (.ref b164), .val (.ref na244)] [(.ref na244)])) _ _ _ _ _ _
              refine own_goW (fun _ k => XS.iload X265.here hx rfl (hb hby at_208) rfl k) ?_
              show own_GW _ _ _ (T265.setTop (mkF m 210 #[.val (.int p0), .val (.int p1), .val (.int p2), .val (.int p3), .val (.int p4), .val (.int (1 : Int32)), .val (.int x0), .val (.int x1), .val (.int x2), .val (.int xq), .val (.ref b128), .val (.ref b137), .val (.ref b156), .val (.ref b164), .val (.ref na244)] [(.int x0), (.ref na244)])) _ _ _ _ _ _
              obtain ⟨cl266, Ar266, q266, S266, Ng266, H266, G266⟩ := id r244_0
              have in266 : ¬ (x0 < 0 ∨ cl266.slots.size ≤ (x0).toNatClampNeg) := inb_of S266 rg0.inb
              have at266 : cl266.slots[(x0).toNatClampNeg]? = some (.ref a178) := H266.at in266 (own_set_yes _ x0 x0 _ rg0 (by simp only [own_set_len, own_t0_len]) rfl)
              refine own_goW (fun _ k => X265.aaload hx (j := x0) (v := (.ref a178)) (by rw [eh265]; exact Ar266.1) (State.isArrayOf_alike hZ.alike Ar266.2.1) rfl Ar266.2.2 in266 at266 (g := (mkF m 210 #[.val (.int p0), .val (.int p1), .val (.int p2), .val (.int p3), .val (.int p4), .val (.int (1 : Int32)), .val (.int x0), .val (.int x1), .val (.int x2), .val (.int xq), .val (.ref b128), .val (.ref b137), .val (.ref b156), .val (.ref b164), .val (.ref na244)] [(.int x0), (.ref na244)])) rfl rfl (hb hby at_210) _ k) ?_
              show own_GW _ _ _ (T265.setTop (mkF m 211 #[.val (.int p0), .val (.int p1), .val (.int p2), .val (.int p3), .val (.int p4), .val (.int (1 : Int32)), .val (.int x0), .val (.int x1), .val (.int x2), .val (.int xq), .val (.ref b128), .val (.ref b137), .val (.ref b156), .val (.ref b164), .val (.ref na244)] [(.ref a178)])) _ _ _ _ _ _
              refine own_goW (fun _ k => XS.iload X265.here hx rfl (hb hby at_211) rfl k) ?_
              show own_GW _ _ _ (T265.setTop (mkF m 213 #[.val (.int p0), .val (.int p1), .val (.int p2), .val (.int p3), .val (.int p4), .val (.int (1 : Int32)), .val (.int x0), .val (.int x1), .val (.int x2), .val (.int xq), .val (.ref b128), .val (.ref b137), .val (.ref b156), .val (.ref b164), .val (.ref na244)] [(.int x0), (.ref a178)])) _ _ _ _ _ _
              refine own_goW (fun _ k => XS.iload X265.here hx rfl (hb hby at_213) rfl k) ?_
              show own_GW _ _ _ (T265.setTop (mkF m 215 #[.val (.int p0), .val (.int p1), .val (.int p2), .val (.int p3), .val (.int p4), .val (.int (1 : Int32)), .val (.int x0), .val (.int x1), .val (.int x2), .val (.int xq), .val (.ref b128), .val (.ref b137), .val (.ref b156), .val (.ref b164), .val (.ref na244)] [(.int (1 : Int32)), (.int x0), (.ref a178)])) _ _ _ _ _ _
              refine own_goW (fun _ k => XS.iload X265.here hx rfl (hb hby at_215) rfl k) ?_
              show own_GW _ _ _ (T265.setTop (mkF m 217 #[.val (.int p0), .val (.int p1), .val (.int p2), .val (.int p3), .val (.int p4), .val (.int (1 : Int32)), .val (.int x0), .val (.int x1), .val (.int x2), .val (.int xq), .val (.ref b128), .val (.ref b137), .val (.ref b156), .val (.ref b164), .val (.ref na244)] [(.int x0), (.int (1 : Int32)), (.int x0), (.ref a178)])) _ _ _ _ _ _
              refine own_goW (fun _ k => XS.iload X265.here hx rfl (hb hby at_217) rfl k) ?_
              show own_GW _ _ _ (T265.setTop (mkF m 219 #[.val (.int p0), .val (.int p1), .val (.int p2), .val (.int p3), .val (.int p4), .val (.int (1 : Int32)), .val (.int x0), .val (.int x1), .val (.int x2), .val (.int xq), .val (.ref b128), .val (.ref b137), .val (.ref b156), .val (.ref b164), .val (.ref na244)] [(.int x1), (.int x0), (.int (1 : Int32)), (.int x0), (.ref a178)])) _ _ _ _ _ _
              refine own_goW (fun _ k => XS.iload X265.here hx rfl (hb hby at_219) rfl k) ?_
              show own_GW _ _ _ (T265.setTop (mkF m 221 #[.val (.int p0), .val (.int p1), .val (.int p2), .val (.int p3), .val (.int p4), .val (.int (1 : Int32)), .val (.int x0), .val (.int x1), .val (.int x2), .val (.int xq), .val (.ref b128), .val (.ref b137), .val (.ref b156), .val (.ref b164), .val (.ref na244)] [(.int x2), (.int x1), (.int x0), (.int (1 : Int32)), (.int x0), (.ref a178)])) _ _ _ _ _ _
              obtain ⟨_, _, ⟨T267, L267, k267, n267⟩, -, X267, ⟨Lc267, hQ267, l267, y267, z267⟩, st267⟩ := Jvm.LawKit.callS X265 hx (y := (⟨"com/example/issuerd/issuerd/xml/DomReferencesPinLaw", "expected", "(IICCC)Ljava/lang/String;"⟩ : MethodName)) hown (mvT hZ (hw _ (List.mem_of_getElem? (i := 79) rfl))) (mvT hZ (hw _ (List.mem_of_getElem? (i := 80) rfl))) (mvT hZ (hw _ (List.mem_of_getElem? (i := 81) rfl))) (mvT hZ (hw _ (List.mem_of_getElem? (i := 82) rfl))) (by decide) (backOf (W := 1) (rm16a l (s.setVm T220.vm) a0 [] x0 x0 x1 x2 a178 a198 a220 T244.heap n0 Zs244 (mvS hZ (hw _ (List.mem_of_getElem? (i := 11) rfl))) (mvS hZ (hw _ (List.mem_of_getElem? (i := 13) rfl))) (mvS hZ (hw _ (List.mem_of_getElem? (i := 14) rfl))) Lt178_198_220 Lt198_220 Lt220 rfl) (State.Warmed39.refl _) (mvT (args := a0) hZ (hw _ (List.mem_of_getElem? (i := 82) rfl))) (mvT (args := a0) hZ (hw _ (List.mem_of_getElem? (i := 81) rfl))) (by decide) (by decide)) (g := (mkF m 221 #[.val (.int p0), .val (.int p1), .val (.int p2), .val (.int p3), .val (.int p4), .val (.int (1 : Int32)), .val (.int x0), .val (.int x1), .val (.int x2), .val (.int xq), .val (.ref b128), .val (.ref b137), .val (.ref b156), .val (.ref b164), .val (.ref na244)] [(.int x2), (.int x1), (.int x0), (.int (1 : Int32)), (.int x0), (.ref a178)])) rfl (by rw [hml]; rfl) (argsL := [(.int x0), (.int (1 : Int32)), (.int x0), (.int x1), (.int x2)]) (rest := [(.ref a178)]) (lenOf pd_8 rfl) rfl (by show 2 * 0 + _ ≤ _; exact Nat.le_of_eq rfl) (hb hby at_221) (fun _ _ => ⟨rfl, eh265, (by decide : 12 + 0 ≤ _), (by decide : 165 + 0 ≤ _)⟩)
              dsimp only [Pt.U, Pt.locs, Pt.cells, Pt.slots] at X267 l267 y267 z267 st267 hQ267
              rw [l267] at X267
              subst y267 z267
              obtain ⟨rfl, Nq267, eh267⟩ := hQ267
              have N267 := Fr.app N265 Nq267
              refine own_goW (fun _ k => st267 _ k) ?_
              show own_GW _ _ _ (T267.setTop (mkF m 224 #[.val (.int p0), .val (.int p1), .val (.int p2), .val (.int p3), .val (.int p4), .val (.int (1 : Int32)), .val (.int x0), .val (.int x1), .val (.int x2), .val (.int xq), .val (.ref b128), .val (.ref b137), .val (.ref b156), .val (.ref b164), .val (.ref na244)] [(.ref a178), (.ref a178)])) _ _ _ _ _ _
              refine own_goW (fun _ k => Jvm.RoadKit.acmp (g := (mkF m 224 #[.val (.int p0), .val (.int p1), .val (.int p2), .val (.int p3), .val (.int p4), .val (.int (1 : Int32)), .val (.int x0), .val (.int x1), .val (.int x2), .val (.int xq), .val (.ref b128), .val (.ref b137), .val (.ref b156), .val (.ref b164), .val (.ref na244)] [(.ref a178), (.ref a178)])) X267 hx rfl rfl rfl (pc0 := 224) (pc' := 227) (same := true) rfl (hb hby at_224) rfl (decide_eq_true rfl) (by decide) (by decide) k) ?_
              show own_GW _ _ _ (T267.setTop (mkF m 227 #[.val (.int p0), .val (.int p1), .val (.int p2), .val (.int p3), .val (.int p4), .val (.int (1 : Int32)), .val (.int x0), .val (.int x1), .val (.int x2), .val (.int xq), .val (.ref b128), .val (.ref b137), .val (.ref b156), .val (.ref b164), .val (.ref na244)] [])) _ _ _ _ _ _
              refine own_goW (fun _ k => XS.iconst X267.here hx rfl (hb hby at_227) k) ?_
              show own_GW _ _ _ (T267.setTop (mkF m 228 #[.val (.int p0), .val (.int p1), .val (.int p2), .val (.int p3), .val (.int p4), .val (.int (1 : Int32)), .val (.int x0), .val (.int x1), .val (.int x2), .val (.int xq), .val (.ref b128), .val (.ref b137), .val (.ref b156), .val (.ref b164), .val (.ref na244)] [(.int (1 : Int32))])) _ _ _ _ _ _
              refine own_goW (fun _ k => XS.goto X267.here hx rfl (pc0 := 228) (pc' := 232) rfl (hb hby at_228) (by decide) (by decide) k) ?_
              show own_GW _ _ _ (T267.setTop (mkF m 232 #[.val (.int p0), .val (.int p1), .val (.int p2), .val (.int p3), .val (.int p4), .val (.int (1 : Int32)), .val (.int x0), .val (.int x1), .val (.int x2), .val (.int xq), .val (.ref b128), .val (.ref b137), .val (.ref b156), .val (.ref b164), .val (.ref na244)] [(.int (1 : Int32))])) _ _ _ _ _ _
              have CQ268 := CR220.trans (CHr.keep K244_1 (allS sf231 all0) CR220.1)
              have CE268 : CHr Z own_EL s.vm s.heap T267.vm T267.heap := by rw [hh, show T267.heap = T244.heap from eh267]; exact CQ268.trans (CHv.at X267 hZ (own_EW hw) CQ268.1)
              exact own_endWN X267 hx hlk (t := .boolean) Bd.returns (by simp) (hb hby at_232) hS220 (show _ ≤ T267.heap.size by rw [show T267.heap = T244.heap from eh267]; exact (Nat.le_trans (Nat.le_refl _) K244_1.1)) (by decide) (by decide) CE268 (Q := (Q0 Z p0 p1 p2 p3 p4 zc fm h0 n0)) (by rw [eh267]; exact ⟨rfl, N267, K244_0⟩)
  · rw [hn]
    show own_GW _ _ _ (s₁.setTop (mkF m 3 #[.val (.int p0), .val (.int p1), .val (.int p2), .val (.int p3), .val (.int p4), .unset, .unset, .unset, .unset, .unset, .unset, .unset, .unset, .unset, .unset] [(.int (2 : Int32))])) _ _ _ _ _ _
    refine own_goW (fun _ k => XS.istore X0.here hx rfl (hb hby at_3) rfl (l' := #[.val (.int p0), .val (.int p1), .val (.int p2), .val (.int p3), .val (.int p4), .val (.int (2 : Int32)), .unset, .unset, .unset, .unset, .unset, .unset, .unset, .unset, .unset]) rfl k) ?_
    show own_GW _ _ _ (s₁.setTop (mkF m 5 #[.val (.int p0), .val (.int p1), .val (.int p2), .val (.int p3), .val (.int p4), .val (.int (2 : Int32)), .unset, .unset, .unset, .unset, .unset, .unset, .unset, .unset, .unset] [])) _ _ _ _ _ _
    refine own_goW (fun _ k => XS.iloadN X0.here hx rfl (hb hby at_5) rfl k) ?_
    show own_GW _ _ _ (s₁.setTop (mkF m 6 #[.val (.int p0), .val (.int p1), .val (.int p2), .val (.int p3), .val (.int p4), .val (.int (2 : Int32)), .unset, .unset, .unset, .unset, .unset, .unset, .unset, .unset, .unset] [(.int p1)])) _ _ _ _ _ _
    refine own_goW (fun _ k => XS.bipush X0.here hx rfl (hb hby at_6) k) ?_
    show own_GW _ _ _ (s₁.setTop (mkF m 8 #[.val (.int p0), .val (.int p1), .val (.int p2), .val (.int p3), .val (.int p4), .val (.int (2 : Int32)), .unset, .unset, .unset, .unset, .unset, .unset, .unset, .unset, .unset] [(.int (127 : Int32)), (.int p1)])) _ _ _ _ _ _
    refine own_goW (fun _ k => XS.iand X0.here hx rfl (hb hby at_8) rfl k) ?_
    show own_GW _ _ _ (s₁.setTop (mkF m 9 #[.val (.int p0), .val (.int p1), .val (.int p2), .val (.int p3), .val (.int p4), .val (.int (2 : Int32)), .unset, .unset, .unset, .unset, .unset, .unset, .unset, .unset, .unset] [(.int (p1 &&& (127 : Int32)))])) _ _ _ _ _ _
    refine own_goW (fun _ k => XS.i2c X0.here hx rfl (hb hby at_9) rfl k) ?_
    show own_GW _ _ _ (s₁.setTop (mkF m 10 #[.val (.int p0), .val (.int p1), .val (.int p2), .val (.int p3), .val (.int p4), .val (.int (2 : Int32)), .unset, .unset, .unset, .unset, .unset, .unset, .unset, .unset, .unset] [(.int (p1 &&& (127 : Int32)).toUInt32.toUInt16.toUInt32.toInt32)])) _ _ _ _ _ _
    obtain ⟨x0, h_x0⟩ : ∃ z : Int32, z = (p1 &&& (127 : Int32)).toUInt32.toUInt16.toUInt32.toInt32 := ⟨_, rfl⟩
    · rw [← h_x0]
      have rg0 : own_rg x0 := by rw [h_x0]; exact own_rgc _
      show own_GW _ _ _ (s₁.setTop (mkF m 10 #[.val (.int p0), .val (.int p1), .val (.int p2), .val (.int p3), .val (.int p4), .val (.int (2 : Int32)), .unset, .unset, .unset, .unset, .unset, .unset, .unset, .unset, .unset] [(.int x0)])) _ _ _ _ _ _
      refine own_goW (fun _ k => XS.istore X0.here hx rfl (hb hby at_10) rfl (l' := #[.val (.int p0), .val (.int p1), .val (.int p2), .val (.int p3), .val (.int p4), .val (.int (2 : Int32)), .val (.int x0), .unset, .unset, .unset, .unset, .unset, .unset, .unset, .unset]) rfl k) ?_
      show own_GW _ _ _ (s₁.setTop (mkF m 12 #[.val (.int p0), .val (.int p1), .val (.int p2), .val (.int p3), .val (.int p4), .val (.int (2 : Int32)), .val (.int x0), .unset, .unset, .unset, .unset, .unset, .unset, .unset, .unset] [])) _ _ _ _ _ _
      refine own_goW (fun _ k => XS.iloadN X0.here hx rfl (hb hby at_12) rfl k) ?_
      show own_GW _ _ _ (s₁.setTop (mkF m 13 #[.val (.int p0), .val (.int p1), .val (.int p2), .val (.int p3), .val (.int p4), .val (.int (2 : Int32)), .val (.int x0), .unset, .unset, .unset, .unset, .unset, .unset, .unset, .unset] [(.int p2)])) _ _ _ _ _ _
      refine own_goW (fun _ k => XS.bipush X0.here hx rfl (hb hby at_13) k) ?_
      show own_GW _ _ _ (s₁.setTop (mkF m 15 #[.val (.int p0), .val (.int p1), .val (.int p2), .val (.int p3), .val (.int p4), .val (.int (2 : Int32)), .val (.int x0), .unset, .unset, .unset, .unset, .unset, .unset, .unset, .unset] [(.int (127 : Int32)), (.int p2)])) _ _ _ _ _ _
      refine own_goW (fun _ k => XS.iand X0.here hx rfl (hb hby at_15) rfl k) ?_
      show own_GW _ _ _ (s₁.setTop (mkF m 16 #[.val (.int p0), .val (.int p1), .val (.int p2), .val (.int p3), .val (.int p4), .val (.int (2 : Int32)), .val (.int x0), .unset, .unset, .unset, .unset, .unset, .unset, .unset, .unset] [(.int (p2 &&& (127 : Int32)))])) _ _ _ _ _ _
      refine own_goW (fun _ k => XS.i2c X0.here hx rfl (hb hby at_16) rfl k) ?_
      show own_GW _ _ _ (s₁.setTop (mkF m 17 #[.val (.int p0), .val (.int p1), .val (.int p2), .val (.int p3), .val (.int p4), .val (.int (2 : Int32)), .val (.int x0), .unset, .unset, .unset, .unset, .unset, .unset, .unset, .unset] [(.int (p2 &&& (127 : Int32)).toUInt32.toUInt16.toUInt32.toInt32)])) _ _ _ _ _ _
      obtain ⟨x1, h_x1⟩ : ∃ z : Int32, z = (p2 &&& (127 : Int32)).toUInt32.toUInt16.toUInt32.toInt32 := ⟨_, rfl⟩
      · rw [← h_x1]
        have rg1 : own_rg x1 := by rw [h_x1]; exact own_rgc _
        show own_GW _ _ _ (s₁.setTop (mkF m 17 #[.val (.int p0), .val (.int p1), .val (.int p2), .val (.int p3), .val (.int p4), .val (.int (2 : Int32)), .val (.int x0), .unset, .unset, .unset, .unset, .unset, .unset, .unset, .unset] [(.int x1)])) _ _ _ _ _ _
        refine own_goW (fun _ k => XS.istore X0.here hx rfl (hb hby at_17) rfl (l' := #[.val (.int p0), .val (.int p1), .val (.int p2), .val (.int p3), .val (.int p4), .val (.int (2 : Int32)), .val (.int x0), .val (.int x1), .unset, .unset, .unset, .unset, .unset, .unset, .unset]) rfl k) ?_
        show own_GW _ _ _ (s₁.setTop (mkF m 19 #[.val (.int p0), .val (.int p1), .val (.int p2), .val (.int p3), .val (.int p4), .val (.int (2 : Int32)), .val (.int x0), .val (.int x1), .unset, .unset, .unset, .unset, .unset, .unset, .unset] [])) _ _ _ _ _ _
        refine own_goW (fun _ k => XS.iloadN X0.here hx rfl (hb hby at_19) rfl k) ?_
        show own_GW _ _ _ (s₁.setTop (mkF m 20 #[.val (.int p0), .val (.int p1), .val (.int p2), .val (.int p3), .val (.int p4), .val (.int (2 : Int32)), .val (.int x0), .val (.int x1), .unset, .unset, .unset, .unset, .unset, .unset, .unset] [(.int p3)])) _ _ _ _ _ _
        refine own_goW (fun _ k => XS.bipush X0.here hx rfl (hb hby at_20) k) ?_
        show own_GW _ _ _ (s₁.setTop (mkF m 22 #[.val (.int p0), .val (.int p1), .val (.int p2), .val (.int p3), .val (.int p4), .val (.int (2 : Int32)), .val (.int x0), .val (.int x1), .unset, .unset, .unset, .unset, .unset, .unset, .unset] [(.int (127 : Int32)), (.int p3)])) _ _ _ _ _ _
        refine own_goW (fun _ k => XS.iand X0.here hx rfl (hb hby at_22) rfl k) ?_
        show own_GW _ _ _ (s₁.setTop (mkF m 23 #[.val (.int p0), .val (.int p1), .val (.int p2), .val (.int p3), .val (.int p4), .val (.int (2 : Int32)), .val (.int x0), .val (.int x1), .unset, .unset, .unset, .unset, .unset, .unset, .unset] [(.int (p3 &&& (127 : Int32)))])) _ _ _ _ _ _
        refine own_goW (fun _ k => XS.i2c X0.here hx rfl (hb hby at_23) rfl k) ?_
        show own_GW _ _ _ (s₁.setTop (mkF m 24 #[.val (.int p0), .val (.int p1), .val (.int p2), .val (.int p3), .val (.int p4), .val (.int (2 : Int32)), .val (.int x0), .val (.int x1), .unset, .unset, .unset, .unset, .unset, .unset, .unset] [(.int (p3 &&& (127 : Int32)).toUInt32.toUInt16.toUInt32.toInt32)])) _ _ _ _ _ _
        obtain ⟨x2, h_x2⟩ : ∃ z : Int32, z = (p3 &&& (127 : Int32)).toUInt32.toUInt16.toUInt32.toInt32 := ⟨_, rfl⟩
        · rw [← h_x2]
          have rg2 : own_rg x2 := by rw [h_x2]; exact own_rgc _
          show own_GW _ _ _ (s₁.setTop (mkF m 24 #[.val (.int p0), .val (.int p1), .val (.int p2), .val (.int p3), .val (.int p4), .val (.int (2 : Int32)), .val (.int x0), .val (.int x1), .unset, .unset, .unset, .unset, .unset, .unset, .unset] [(.int x2)])) _ _ _ _ _ _
          refine own_goW (fun _ k => XS.istore X0.here hx rfl (hb hby at_24) rfl (l' := #[.val (.int p0), .val (.int p1), .val (.int p2), .val (.int p3), .val (.int p4), .val (.int (2 : Int32)), .val (.int x0), .val (.int x1), .val (.int x2), .unset, .unset, .unset, .unset, .unset, .unset]) rfl k) ?_
          show own_GW _ _ _ (s₁.setTop (mkF m 26 #[.val (.int p0), .val (.int p1), .val (.int p2), .val (.int p3), .val (.int p4), .val (.int (2 : Int32)), .val (.int x0), .val (.int x1), .val (.int x2), .unset, .unset, .unset, .unset, .unset, .unset] [])) _ _ _ _ _ _
          refine own_goW (fun _ k => XS.iload X0.here hx rfl (hb hby at_26) rfl k) ?_
          show own_GW _ _ _ (s₁.setTop (mkF m 28 #[.val (.int p0), .val (.int p1), .val (.int p2), .val (.int p3), .val (.int p4), .val (.int (2 : Int32)), .val (.int x0), .val (.int x1), .val (.int x2), .unset, .unset, .unset, .unset, .unset, .unset] [(.int p4)])) _ _ _ _ _ _
          refine own_goW (fun _ k => XS.bipush X0.here hx rfl (hb hby at_28) k) ?_
          show own_GW _ _ _ (s₁.setTop (mkF m 30 #[.val (.int p0), .val (.int p1), .val (.int p2), .val (.int p3), .val (.int p4), .val (.int (2 : Int32)), .val (.int x0), .val (.int x1), .val (.int x2), .unset, .unset, .unset, .unset, .unset, .unset] [(.int (127 : Int32)), (.int p4)])) _ _ _ _ _ _
          refine own_goW (fun _ k => XS.iand X0.here hx rfl (hb hby at_30) rfl k) ?_
          show own_GW _ _ _ (s₁.setTop (mkF m 31 #[.val (.int p0), .val (.int p1), .val (.int p2), .val (.int p3), .val (.int p4), .val (.int (2 : Int32)), .val (.int x0), .val (.int x1), .val (.int x2), .unset, .unset, .unset, .unset, .unset, .unset] [(.int (p4 &&& (127 : Int32)))])) _ _ _ _ _ _
          obtain ⟨xq, h_xq⟩ : ∃ z : Int32, z = (p4 &&& (127 : Int32)) := ⟨_, rfl⟩
          · rw [← h_xq]
            have rgq : own_rg xq := by rw [h_xq]; exact own_rgm _
            show own_GW _ _ _ (s₁.setTop (mkF m 31 #[.val (.int p0), .val (.int p1), .val (.int p2), .val (.int p3), .val (.int p4), .val (.int (2 : Int32)), .val (.int x0), .val (.int x1), .val (.int x2), .unset, .unset, .unset, .unset, .unset, .unset] [(.int xq)])) _ _ _ _ _ _
            refine own_goW (fun _ k => XS.istore X0.here hx rfl (hb hby at_31) rfl (l' := #[.val (.int p0), .val (.int p1), .val (.int p2), .val (.int p3), .val (.int p4), .val (.int (2 : Int32)), .val (.int x0), .val (.int x1), .val (.int x2), .val (.int xq), .unset, .unset, .unset, .unset, .unset]) rfl k) ?_
            show own_GW _ _ _ (s₁.setTop (mkF m 33 #[.val (.int p0), .val (.int p1), .val (.int p2), .val (.int p3), .val (.int p4), .val (.int (2 : Int32)), .val (.int x0), .val (.int x1), .val (.int x2), .val (.int xq), .unset, .unset, .unset, .unset, .unset] [])) _ _ _ _ _ _
            refine own_goW (fun _ k => XS.iconst X0.here hx rfl (hb hby at_33) k) ?_
            show own_GW _ _ _ (s₁.setTop (mkF m 34 #[.val (.int p0), .val (.int p1), .val (.int p2), .val (.int p3), .val (.int p4), .val (.int (2 : Int32)), .val (.int x0), .val (.int x1), .val (.int x2), .val (.int xq), .unset, .unset, .unset, .unset, .unset] [(.int (2 : Int32))])) _ _ _ _ _ _
            obtain ⟨T269, h269, k269, X269, e269, E269, A269, st269⟩ := newP X0 hx hZ (hw _ (List.mem_of_getElem? (i := 0) rfl)) e0 (g := (mkF m 34 #[.val (.int p0), .val (.int p1), .val (.int p2), .val (.int p3), .val (.int p4), .val (.int (2 : Int32)), .val (.int x0), .val (.int x1), .val (.int x2), .val (.int xq), .unset, .unset, .unset, .unset, .unset] [(.int (2 : Int32))])) rfl (hb hby at_34) rfl (by decide) (cap := 2) (by decide) (by decide) (by decide) (by decide)
            obtain ⟨b269, g269⟩ : ∃ z, z = h0.size := ⟨_, rfl⟩
            rw [← g269] at A269 st269
            have gg269 : n0 ≤ b269 := Nat.le_trans Z0 (Nat.le_of_eq g269.symm)
            have sz269_0 : h0.size ≤ b269 := Nat.le_trans K0.1 (Nat.le_of_eq g269.symm)
            have sz269_1 : h0.size ≤ b269 := Nat.le_trans KS0.1 (Nat.le_of_eq g269.symm)
            have Zs269 : n0 ≤ h269.size := Nat.le_trans Z0 E269.1
            have K269_0 : Keep h0 h269 [] := K0.ext E269
            have K269_1 : Keep h0 h269 [] := KS0.ext E269
            have f270 : Old Z n0 h269 := P_Old.ext E269
            have f271 : Arv Z h269 b269 k269 .char (2 : Int32) [(.int (0 : Int32)), (.int (0 : Int32))] (.int (0 : Int32)) := (Arv.new A269 (by decide)).pad (pad_rep [] (.int (0 : Int32)) 2)
            refine own_goW (fun _ k => st269 _ k) ?_
            show own_GW _ _ _ (T269.setTop (mkF m 36 #[.val (.int p0), .val (.int p1), .val (.int p2), .val (.int p3), .val (.int p4), .val (.int (2 : Int32)), .val (.int x0), .val (.int x1), .val (.int x2), .val (.int xq), .unset, .unset, .unset, .unset, .unset] [(.ref b269)])) _ _ _ _ _ _
            refine own_goW (fun _ k => XS.dup X269.here hx rfl (hb hby at_36) rfl rfl k) ?_
            show own_GW _ _ _ (T269.setTop (mkF m 37 #[.val (.int p0), .val (.int p1), .val (.int p2), .val (.int p3), .val (.int p4), .val (.int (2 : Int32)), .val (.int x0), .val (.int x1), .val (.int x2), .val (.int xq), .unset, .unset, .unset, .unset, .unset] [(.ref b269), (.ref b269)])) _ _ _ _ _ _
            refine own_goW (fun _ k => XS.iconst X269.here hx rfl (hb hby at_37) k) ?_
            show own_GW _ _ _ (T269.setTop (mkF m 38 #[.val (.int p0), .val (.int p1), .val (.int p2), .val (.int p3), .val (.int p4), .val (.int (2 : Int32)), .val (.int x0), .val (.int x1), .val (.int x2), .val (.int xq), .unset, .unset, .unset, .unset, .unset] [(.int (0 : Int32)), (.ref b269), (.ref b269)])) _ _ _ _ _ _
            refine own_goW (fun _ k => XS.iload X269.here hx rfl (hb hby at_38) rfl k) ?_
            show own_GW _ _ _ (T269.setTop (mkF m 40 #[.val (.int p0), .val (.int p1), .val (.int p2), .val (.int p3), .val (.int p4), .val (.int (2 : Int32)), .val (.int x0), .val (.int x1), .val (.int x2), .val (.int xq), .unset, .unset, .unset, .unset, .unset] [(.int x0), (.int (0 : Int32)), (.ref b269), (.ref b269)])) _ _ _ _ _ _
            obtain ⟨cl272, Ar272, q272, S272, Ng272, H272, G272⟩ := id f271
            have in272 : ¬ ((0 : Int32) < 0 ∨ cl272.slots.size ≤ ((0 : Int32)).toNatClampNeg) := inb_of S272 ⟨by decide, by decide⟩
            obtain ⟨T272, h272, X272, e272, W272, st272⟩ := stC X269 hx hZ e269 Ar272 (j := (0 : Int32)) in272 (g := (mkF m 40 #[.val (.int p0), .val (.int p1), .val (.int p2), .val (.int p3), .val (.int p4), .val (.int (2 : Int32)), .val (.int x0), .val (.int x1), .val (.int x2), .val (.int xq), .unset, .unset, .unset, .unset, .unset] [(.int x0), (.int (0 : Int32)), (.ref b269), (.ref b269)])) rfl rfl (hb hby at_40)
            have N272 := Fr.snoc X272 N0 gg269
            have Zs272 : n0 ≤ h272.size := Nat.le_trans Zs269 (Keep.of_wr W272).1
            have K272_0 : Keep h0 h272 [] := K269_0.wr W272 (Or.inr sz269_0)
            have K272_1 : Keep h0 h272 [] := K269_1.wr W272 (Or.inr sz269_1)
            have f273 : Old Z n0 h272 := f270.wr W272 gg269
            have f274 : Arv Z h272 b269 k269 .char (2 : Int32) [(.int x0), (.int (0 : Int32))] (.int (0 : Int32)) := (by have q := Arv.set Ar272 q272 S272 Ng272 H272 G272 (fits_nar_char _) W272 0 rfl (Nat.le_of_ble_eq_true rfl); rw [rg0.nar] at q; exact q)
            refine own_goW (fun _ k => st272 _ k) ?_
            show own_GW _ _ _ (T272.setTop (mkF m 41 #[.val (.int p0), .val (.int p1), .val (.int p2), .val (.int p3), .val (.int p4), .val (.int (2 : Int32)), .val (.int x0), .val (.int x1), .val (.int x2), .val (.int xq), .unset, .unset, .unset, .unset, .unset] [(.ref b269)])) _ _ _ _ _ _
            refine own_goW (fun _ k => XS.dup X272.here hx rfl (hb hby at_41) rfl rfl k) ?_
            show own_GW _ _ _ (T272.setTop (mkF m 42 #[.val (.int p0), .val (.int p1), .val (.int p2), .val (.int p3), .val (.int p4), .val (.int (2 : Int32)), .val (.int x0), .val (.int x1), .val (.int x2), .val (.int xq), .unset, .unset, .unset, .unset, .unset] [(.ref b269), (.ref b269)])) _ _ _ _ _ _
            refine own_goW (fun _ k => XS.iconst X272.here hx rfl (hb hby at_42) k) ?_
            show own_GW _ _ _ (T272.setTop (mkF m 43 #[.val (.int p0), .val (.int p1), .val (.int p2), .val (.int p3), .val (.int p4), .val (.int (2 : Int32)), .val (.int x0), .val (.int x1), .val (.int x2), .val (.int xq), .unset, .unset, .unset, .unset, .unset] [(.int (1 : Int32)), (.ref b269), (.ref b269)])) _ _ _ _ _ _
            refine own_goW (fun _ k => XS.iload X272.here hx rfl (hb hby at_43) rfl k) ?_
            show own_GW _ _ _ (T272.setTop (mkF m 45 #[.val (.int p0), .val (.int p1), .val (.int p2), .val (.int p3), .val (.int p4), .val (.int (2 : Int32)), .val (.int x0), .val (.int x1), .val (.int x2), .val (.int xq), .unset, .unset, .unset, .unset, .unset] [(.int x1), (.int (1 : Int32)), (.ref b269), (.ref b269)])) _ _ _ _ _ _
            obtain ⟨cl275, Ar275, q275, S275, Ng275, H275, G275⟩ := id f274
            have in275 : ¬ ((1 : Int32) < 0 ∨ cl275.slots.size ≤ ((1 : Int32)).toNatClampNeg) := inb_of S275 ⟨by decide, by decide⟩
            obtain ⟨T275, h275, X275, e275, W275, st275⟩ := stC X272 hx hZ e272 Ar275 (j := (1 : Int32)) in275 (g := (mkF m 45 #[.val (.int p0), .val (.int p1), .val (.int p2), .val (.int p3), .val (.int p4), .val (.int (2 : Int32)), .val (.int x0), .val (.int x1), .val (.int x2), .val (.int xq), .unset, .unset, .unset, .unset, .unset] [(.int x1), (.int (1 : Int32)), (.ref b269), (.ref b269)])) rfl rfl (hb hby at_45)
            have N275 := Fr.snoc X275 N272 gg269
            have Zs275 : n0 ≤ h275.size := Nat.le_trans Zs272 (Keep.of_wr W275).1
            have K275_0 : Keep h0 h275 [] := K272_0.wr W275 (Or.inr sz269_0)
            have K275_1 : Keep h0 h275 [] := K272_1.wr W275 (Or.inr sz269_1)
            have f276 : Old Z n0 h275 := f273.wr W275 gg269
            have f277 : Arv Z h275 b269 k269 .char (2 : Int32) [(.int x0), (.int x1)] (.int (0 : Int32)) := (by have q := Arv.set Ar275 q275 S275 Ng275 H275 G275 (fits_nar_char _) W275 1 rfl (Nat.le_of_ble_eq_true rfl); rw [rg1.nar] at q; exact q)
            refine own_goW (fun _ k => st275 _ k) ?_
            show own_GW _ _ _ (T275.setTop (mkF m 46 #[.val (.int p0), .val (.int p1), .val (.int p2), .val (.int p3), .val (.int p4), .val (.int (2 : Int32)), .val (.int x0), .val (.int x1), .val (.int x2), .val (.int xq), .unset, .unset, .unset, .unset, .unset] [(.ref b269)])) _ _ _ _ _ _
            refine own_goW (fun _ k => XS.astore X275.here hx rfl (hb hby at_46) rfl rfl (l' := #[.val (.int p0), .val (.int p1), .val (.int p2), .val (.int p3), .val (.int p4), .val (.int (2 : Int32)), .val (.int x0), .val (.int x1), .val (.int x2), .val (.int xq), .val (.ref b269), .unset, .unset, .unset, .unset]) rfl k) ?_
            show own_GW _ _ _ (T275.setTop (mkF m 48 #[.val (.int p0), .val (.int p1), .val (.int p2), .val (.int p3), .val (.int p4), .val (.int (2 : Int32)), .val (.int x0), .val (.int x1), .val (.int x2), .val (.int xq), .val (.ref b269), .unset, .unset, .unset, .unset] [])) _ _ _ _ _ _
            refine own_goW (fun _ k => XS.iconst X275.here hx rfl (hb hby at_48) k) ?_
            show own_GW _ _ _ (T275.setTop (mkF m 49 #[.val (.int p0), .val (.int p1), .val (.int p2), .val (.int p3), .val (.int p4), .val (.int (2 : Int32)), .val (.int x0), .val (.int x1), .val (.int x2), .val (.int xq), .val (.ref b269), .unset, .unset, .unset, .unset] [(.int (3 : Int32))])) _ _ _ _ _ _
            obtain ⟨T278, h278, k278, X278, e278, E278, A278, st278⟩ := newP X275 hx hZ (hw _ (List.mem_of_getElem? (i := 0) rfl)) e275 (g := (mkF m 49 #[.val (.int p0), .val (.int p1), .val (.int p2), .val (.int p3), .val (.int p4), .val (.int (2 : Int32)), .val (.int x0), .val (.int x1), .val (.int x2), .val (.int xq), .val (.ref b269), .unset, .unset, .unset, .unset] [(.int (3 : Int32))])) rfl (hb hby at_49) rfl (by decide) (cap := 3) (by decide) (by decide) (by decide) (by decide)
            obtain ⟨b278, g278⟩ : ∃ z, z = h275.size := ⟨_, rfl⟩
            rw [← g278] at A278 st278
            have ne279 : b269 ≠ b278 := Nat.ne_of_lt (Nat.lt_of_lt_of_le f277.lt (Nat.le_of_eq g278.symm))
            have gg278 : n0 ≤ b278 := Nat.le_trans Zs275 (Nat.le_of_eq g278.symm)
            have sz278_0 : h0.size ≤ b278 := Nat.le_trans K275_0.1 (Nat.le_of_eq g278.symm)
            have sz278_1 : h0.size ≤ b278 := Nat.le_trans K275_1.1 (Nat.le_of_eq g278.symm)
            have Zs278 : n0 ≤ h278.size := Nat.le_trans Zs275 E278.1
            have K278_0 : Keep h0 h278 [] := K275_0.ext E278
            have K278_1 : Keep h0 h278 [] := K275_1.ext E278
            have f280 : Old Z n0 h278 := f276.ext E278
            have f281 : Arv Z h278 b269 k269 .char (2 : Int32) [(.int x0), (.int x1)] (.int (0 : Int32)) := f277.ext E278
            have f282 : Arv Z h278 b278 k278 .char (3 : Int32) [(.int (0 : Int32)), (.int (0 : Int32)), (.int (0 : Int32))] (.int (0 : Int32)) := (Arv.new A278 (by decide)).pad (pad_rep [] (.int (0 : Int32)) 3)
            refine own_goW (fun _ k => st278 _ k) ?_
            show own_GW _ _ _ (T278.setTop (mkF m 51 #[.val (.int p0), .val (.int p1), .val (.int p2), .val (.int p3), .val (.int p4), .val (.int (2 : Int32)), .val (.int x0), .val (.int x1), .val (.int x2), .val (.int xq), .val (.ref b269), .unset, .unset, .unset, .unset] [(.ref b278)])) _ _ _ _ _ _
            refine own_goW (fun _ k => XS.dup X278.here hx rfl (hb hby at_51) rfl rfl k) ?_
            show own_GW _ _ _ (T278.setTop (mkF m 52 #[.val (.int p0), .val (.int p1), .val (.int p2), .val (.int p3), .val (.int p4), .val (.int (2 : Int32)), .val (.int x0), .val (.int x1), .val (.int x2), .val (.int xq), .val (.ref b269), .unset, .unset, .unset, .unset] [(.ref b278), (.ref b278)])) _ _ _ _ _ _
            refine own_goW (fun _ k => XS.iconst X278.here hx rfl (hb hby at_52) k) ?_
            show own_GW _ _ _ (T278.setTop (mkF m 53 #[.val (.int p0), .val (.int p1), .val (.int p2), .val (.int p3), .val (.int p4), .val (.int (2 : Int32)), .val (.int x0), .val (.int x1), .val (.int x2), .val (.int xq), .val (.ref b269), .unset, .unset, .unset, .unset] [(.int (0 : Int32)), (.ref b278), (.ref b278)])) _ _ _ _ _ _
            refine own_goW (fun _ k => XS.iload X278.here hx rfl (hb hby at_53) rfl k) ?_
            show own_GW _ _ _ (T278.setTop (mkF m 55 #[.val (.int p0), .val (.int p1), .val (.int p2), .val (.int p3), .val (.int p4), .val (.int (2 : Int32)), .val (.int x0), .val (.int x1), .val (.int x2), .val (.int xq), .val (.ref b269), .unset, .unset, .unset, .unset] [(.int x0), (.int (0 : Int32)), (.ref b278), (.ref b278)])) _ _ _ _ _ _
            obtain ⟨cl283, Ar283, q283, S283, Ng283, H283, G283⟩ := id f282
            have in283 : ¬ ((0 : Int32) < 0 ∨ cl283.slots.size ≤ ((0 : Int32)).toNatClampNeg) := inb_of S283 ⟨by decide, by decide⟩
            obtain ⟨T283, h283, X283, e283, W283, st283⟩ := stC X278 hx hZ e278 Ar283 (j := (0 : Int32)) in283 (g := (mkF m 55 #[.val (.int p0), .val (.int p1), .val (.int p2), .val (.int p3), .val (.int p4), .val (.int (2 : Int32)), .val (.int x0), .val (.int x1), .val (.int x2), .val (.int xq), .val (.ref b269), .unset, .unset, .unset, .unset] [(.int x0), (.int (0 : Int32)), (.ref b278), (.ref b278)])) rfl rfl (hb hby at_55)
            have N283 := Fr.snoc X283 N275 gg278
            have Zs283 : n0 ≤ h283.size := Nat.le_trans Zs278 (Keep.of_wr W283).1
            have K283_0 : Keep h0 h283 [] := K278_0.wr W283 (Or.inr sz278_0)
            have K283_1 : Keep h0 h283 [] := K278_1.wr W283 (Or.inr sz278_1)
            have f284 : Old Z n0 h283 := f280.wr W283 gg278
            have f285 : Arv Z h283 b269 k269 .char (2 : Int32) [(.int x0), (.int x1)] (.int (0 : Int32)) := f281.other W283 ne279
            have f286 : Arv Z h283 b278 k278 .char (3 : Int32) [(.int x0), (.int (0 : Int32)), (.int (0 : Int32))] (.int (0 : Int32)) := (by have q := Arv.set Ar283 q283 S283 Ng283 H283 G283 (fits_nar_char _) W283 0 rfl (Nat.le_of_ble_eq_true rfl); rw [rg0.nar] at q; exact q)
            refine own_goW (fun _ k => st283 _ k) ?_
            show own_GW _ _ _ (T283.setTop (mkF m 56 #[.val (.int p0), .val (.int p1), .val (.int p2), .val (.int p3), .val (.int p4), .val (.int (2 : Int32)), .val (.int x0), .val (.int x1), .val (.int x2), .val (.int xq), .val (.ref b269), .unset, .unset, .unset, .unset] [(.ref b278)])) _ _ _ _ _ _
            refine own_goW (fun _ k => XS.dup X283.here hx rfl (hb hby at_56) rfl rfl k) ?_
            show own_GW _ _ _ (T283.setTop (mkF m 57 #[.val (.int p0), .val (.int p1), .val (.int p2), .val (.int p3), .val (.int p4), .val (.int (2 : Int32)), .val (.int x0), .val (.int x1), .val (.int x2), .val (.int xq), .val (.ref b269), .unset, .unset, .unset, .unset] [(.ref b278), (.ref b278)])) _ _ _ _ _ _
            refine own_goW (fun _ k => XS.iconst X283.here hx rfl (hb hby at_57) k) ?_
            show own_GW _ _ _ (T283.setTop (mkF m 58 #[.val (.int p0), .val (.int p1), .val (.int p2), .val (.int p3), .val (.int p4), .val (.int (2 : Int32)), .val (.int x0), .val (.int x1), .val (.int x2), .val (.int xq), .val (.ref b269), .unset, .unset, .unset, .unset] [(.int (1 : Int32)), (.ref b278), (.ref b278)])) _ _ _ _ _ _
            refine own_goW (fun _ k => XS.iload X283.here hx rfl (hb hby at_58) rfl k) ?_
            show own_GW _ _ _ (T283.setTop (mkF m 60 #[.val (.int p0), .val (.int p1), .val (.int p2), .val (.int p3), .val (.int p4), .val (.int (2 : Int32)), .val (.int x0), .val (.int x1), .val (.int x2), .val (.int xq), .val (.ref b269), .unset, .unset, .unset, .unset] [(.int x1), (.int (1 : Int32)), (.ref b278), (.ref b278)])) _ _ _ _ _ _
            obtain ⟨cl287, Ar287, q287, S287, Ng287, H287, G287⟩ := id f286
            have in287 : ¬ ((1 : Int32) < 0 ∨ cl287.slots.size ≤ ((1 : Int32)).toNatClampNeg) := inb_of S287 ⟨by decide, by decide⟩
            obtain ⟨T287, h287, X287, e287, W287, st287⟩ := stC X283 hx hZ e283 Ar287 (j := (1 : Int32)) in287 (g := (mkF m 60 #[.val (.int p0), .val (.int p1), .val (.int p2), .val (.int p3), .val (.int p4), .val (.int (2 : Int32)), .val (.int x0), .val (.int x1), .val (.int x2), .val (.int xq), .val (.ref b269), .unset, .unset, .unset, .unset] [(.int x1), (.int (1 : Int32)), (.ref b278), (.ref b278)])) rfl rfl (hb hby at_60)
            have N287 := Fr.snoc X287 N283 gg278
            have Zs287 : n0 ≤ h287.size := Nat.le_trans Zs283 (Keep.of_wr W287).1
            have K287_0 : Keep h0 h287 [] := K283_0.wr W287 (Or.inr sz278_0)
            have K287_1 : Keep h0 h287 [] := K283_1.wr W287 (Or.inr sz278_1)
            have f288 : Old Z n0 h287 := f284.wr W287 gg278
            have f289 : Arv Z h287 b269 k269 .char (2 : Int32) [(.int x0), (.int x1)] (.int (0 : Int32)) := f285.other W287 ne279
            have f290 : Arv Z h287 b278 k278 .char (3 : Int32) [(.int x0), (.int x1), (.int (0 : Int32))] (.int (0 : Int32)) := (by have q := Arv.set Ar287 q287 S287 Ng287 H287 G287 (fits_nar_char _) W287 1 rfl (Nat.le_of_ble_eq_true rfl); rw [rg1.nar] at q; exact q)
            refine own_goW (fun _ k => st287 _ k) ?_
            show own_GW _ _ _ (T287.setTop (mkF m 61 #[.val (.int p0), .val (.int p1), .val (.int p2), .val (.int p3), .val (.int p4), .val (.int (2 : Int32)), .val (.int x0), .val (.int x1), .val (.int x2), .val (.int xq), .val (.ref b269), .unset, .unset, .unset, .unset] [(.ref b278)])) _ _ _ _ _ _
            refine own_goW (fun _ k => XS.dup X287.here hx rfl (hb hby at_61) rfl rfl k) ?_
            show own_GW _ _ _ (T287.setTop (mkF m 62 #[.val (.int p0), .val (.int p1), .val (.int p2), .val (.int p3), .val (.int p4), .val (.int (2 : Int32)), .val (.int x0), .val (.int x1), .val (.int x2), .val (.int xq), .val (.ref b269), .unset, .unset, .unset, .unset] [(.ref b278), (.ref b278)])) _ _ _ _ _ _
            refine own_goW (fun _ k => XS.iconst X287.here hx rfl (hb hby at_62) k) ?_
            show own_GW _ _ _ (T287.setTop (mkF m 63 #[.val (.int p0), .val (.int p1), .val (.int p2), .val (.int p3), .val (.int p4), .val (.int (2 : Int32)), .val (.int x0), .val (.int x1), .val (.int x2), .val (.int xq), .val (.ref b269), .unset, .unset, .unset, .unset] [(.int (2 : Int32)), (.ref b278), (.ref b278)])) _ _ _ _ _ _
            refine own_goW (fun _ k => XS.iload X287.here hx rfl (hb hby at_63) rfl k) ?_
            show own_GW _ _ _ (T287.setTop (mkF m 65 #[.val (.int p0), .val (.int p1), .val (.int p2), .val (.int p3), .val (.int p4), .val (.int (2 : Int32)), .val (.int x0), .val (.int x1), .val (.int x2), .val (.int xq), .val (.ref b269), .unset, .unset, .unset, .unset] [(.int x2), (.int (2 : Int32)), (.ref b278), (.ref b278)])) _ _ _ _ _ _
            obtain ⟨cl291, Ar291, q291, S291, Ng291, H291, G291⟩ := id f290
            have in291 : ¬ ((2 : Int32) < 0 ∨ cl291.slots.size ≤ ((2 : Int32)).toNatClampNeg) := inb_of S291 ⟨by decide, by decide⟩
            obtain ⟨T291, h291, X291, e291, W291, st291⟩ := stC X287 hx hZ e287 Ar291 (j := (2 : Int32)) in291 (g := (mkF m 65 #[.val (.int p0), .val (.int p1), .val (.int p2), .val (.int p3), .val (.int p4), .val (.int (2 : Int32)), .val (.int x0), .val (.int x1), .val (.int x2), .val (.int xq), .val (.ref b269), .unset, .unset, .unset, .unset] [(.int x2), (.int (2 : Int32)), (.ref b278), (.ref b278)])) rfl rfl (hb hby at_65)
            have N291 := Fr.snoc X291 N287 gg278
            have Zs291 : n0 ≤ h291.size := Nat.le_trans Zs287 (Keep.of_wr W291).1
            have K291_0 : Keep h0 h291 [] := K287_0.wr W291 (Or.inr sz278_0)
            have K291_1 : Keep h0 h291 [] := K287_1.wr W291 (Or.inr sz278_1)
            have f292 : Old Z n0 h291 := f288.wr W291 gg278
            have f293 : Arv Z h291 b269 k269 .char (2 : Int32) [(.int x0), (.int x1)] (.int (0 : Int32)) := f289.other W291 ne279
            have f294 : Arv Z h291 b278 k278 .char (3 : Int32) [(.int x0), (.int x1), (.int x2)] (.int (0 : Int32)) := (by have q := Arv.set Ar291 q291 S291 Ng291 H291 G291 (fits_nar_char _) W291 2 rfl (Nat.le_of_ble_eq_true rfl); rw [rg2.nar] at q; exact q)
            refine own_goW (fun _ k => st291 _ k) ?_
            show own_GW _ _ _ (T291.setTop (mkF m 66 #[.val (.int p0), .val (.int p1), .val (.int p2), .val (.int p3), .val (.int p4), .val (.int (2 : Int32)), .val (.int x0), .val (.int x1), .val (.int x2), .val (.int xq), .val (.ref b269), .unset, .unset, .unset, .unset] [(.ref b278)])) _ _ _ _ _ _
            refine own_goW (fun _ k => XS.astore X291.here hx rfl (hb hby at_66) rfl rfl (l' := #[.val (.int p0), .val (.int p1), .val (.int p2), .val (.int p3), .val (.int p4), .val (.int (2 : Int32)), .val (.int x0), .val (.int x1), .val (.int x2), .val (.int xq), .val (.ref b269), .val (.ref b278), .unset, .unset, .unset]) rfl k) ?_
            show own_GW _ _ _ (T291.setTop (mkF m 68 #[.val (.int p0), .val (.int p1), .val (.int p2), .val (.int p3), .val (.int p4), .val (.int (2 : Int32)), .val (.int x0), .val (.int x1), .val (.int x2), .val (.int xq), .val (.ref b269), .val (.ref b278), .unset, .unset, .unset] [])) _ _ _ _ _ _
            refine own_goW (fun _ k => XS.iload X291.here hx rfl (hb hby at_68) rfl k) ?_
            show own_GW _ _ _ (T291.setTop (mkF m 70 #[.val (.int p0), .val (.int p1), .val (.int p2), .val (.int p3), .val (.int p4), .val (.int (2 : Int32)), .val (.int x0), .val (.int x1), .val (.int x2), .val (.int xq), .val (.ref b269), .val (.ref b278), .unset, .unset, .unset] [(.int (2 : Int32))])) _ _ _ _ _ _
            have hc295 : ¬ ((2 : Int32) = (0 : Int32)) := (by decide)
            refine own_goW (fun _ k => XS.ifYes X291.here hx rfl (pc0 := 70) (pc' := 80) rfl (hb hby at_70) rfl ((if0 _ _).trans (feq hc295).2) (by decide) (by decide) k) ?_
            show own_GW _ _ _ (T291.setTop (mkF m 80 #[.val (.int p0), .val (.int p1), .val (.int p2), .val (.int p3), .val (.int p4), .val (.int (2 : Int32)), .val (.int x0), .val (.int x1), .val (.int x2), .val (.int xq), .val (.ref b269), .val (.ref b278), .unset, .unset, .unset] [])) _ _ _ _ _ _
            refine own_goW (fun _ k => XS.iload X291.here hx rfl (hb hby at_80) rfl k) ?_
            show own_GW _ _ _ (T291.setTop (mkF m 82 #[.val (.int p0), .val (.int p1), .val (.int p2), .val (.int p3), .val (.int p4), .val (.int (2 : Int32)), .val (.int x0), .val (.int x1), .val (.int x2), .val (.int xq), .val (.ref b269), .val (.ref b278), .unset, .unset, .unset] [(.int (2 : Int32))])) _ _ _ _ _ _
            refine own_goW (fun _ k => XS.iconst X291.here hx rfl (hb hby at_82) k) ?_
            show own_GW _ _ _ (T291.setTop (mkF m 83 #[.val (.int p0), .val (.int p1), .val (.int p2), .val (.int p3), .val (.int p4), .val (.int (2 : Int32)), .val (.int x0), .val (.int x1), .val (.int x2), .val (.int xq), .val (.ref b269), .val (.ref b278), .unset, .unset, .unset] [(.int (1 : Int32)), (.int (2 : Int32))])) _ _ _ _ _ _
            have hc296 : ¬ ((2 : Int32) = (1 : Int32)) := (by decide)
            refine own_goW (fun _ k => XS.icmpYes X291.here hx rfl (pc0 := 83) (pc' := 96) rfl (hb hby at_83) rfl (feq hc296).2 (by decide) (by decide) k) ?_
            show own_GW _ _ _ (T291.setTop (mkF m 96 #[.val (.int p0), .val (.int p1), .val (.int p2), .val (.int p3), .val (.int p4), .val (.int (2 : Int32)), .val (.int x0), .val (.int x1), .val (.int x2), .val (.int xq), .val (.ref b269), .val (.ref b278), .unset, .unset, .unset] [])) _ _ _ _ _ _
            refine own_goW (fun _ k => XS.iload X291.here hx rfl (hb hby at_96) rfl k) ?_
            show own_GW _ _ _ (T291.setTop (mkF m 98 #[.val (.int p0), .val (.int p1), .val (.int p2), .val (.int p3), .val (.int p4), .val (.int (2 : Int32)), .val (.int x0), .val (.int x1), .val (.int x2), .val (.int xq), .val (.ref b269), .val (.ref b278), .unset, .unset, .unset] [(.int (2 : Int32))])) _ _ _ _ _ _
            refine own_goW (fun _ k => XS.iconst X291.here hx rfl (hb hby at_98) k) ?_
            show own_GW _ _ _ (T291.setTop (mkF m 99 #[.val (.int p0), .val (.int p1), .val (.int p2), .val (.int p3), .val (.int p4), .val (.int (2 : Int32)), .val (.int x0), .val (.int x1), .val (.int x2), .val (.int xq), .val (.ref b269), .val (.ref b278), .unset, .unset, .unset] [(.int (2 : Int32)), (.int (2 : Int32))])) _ _ _ _ _ _
            have hc297 : (2 : Int32) = (2 : Int32) := (by decide)
            refine own_goW (fun _ k => XS.icmpNo X291.here hx rfl (hb hby at_99) rfl (teq hc297).2 k) ?_
            show own_GW _ _ _ (T291.setTop (mkF m 102 #[.val (.int p0), .val (.int p1), .val (.int p2), .val (.int p3), .val (.int p4), .val (.int (2 : Int32)), .val (.int x0), .val (.int x1), .val (.int x2), .val (.int xq), .val (.ref b269), .val (.ref b278), .unset, .unset, .unset] [])) _ _ _ _ _ _
            obtain ⟨T298, h298, X298, e298, E298, A298, D298, -, st298⟩ := newO X291 hx hZ hown (hw _ (List.mem_of_getElem? (i := 9) rfl)) (hw _ (List.mem_of_getElem? (i := 3) rfl)) (hw _ (List.mem_of_getElem? (i := 2) rfl)) e291 (g := (mkF m 102 #[.val (.int p0), .val (.int p1), .val (.int p2), .val (.int p3), .val (.int p4), .val (.int (2 : Int32)), .val (.int x0), .val (.int x1), .val (.int x2), .val (.int xq), .val (.ref b269), .val (.ref b278), .unset, .unset, .unset] [])) rfl (hb hby at_102) (by decide) (by decide)
            obtain ⟨b298, g298⟩ : ∃ z, z = h291.size := ⟨_, rfl⟩
            rw [← g298] at A298 D298 st298
            have ne299 : b269 ≠ b298 := Nat.ne_of_lt (Nat.lt_of_lt_of_le f293.lt (Nat.le_of_eq g298.symm))
            have ne300 : b278 ≠ b298 := Nat.ne_of_lt (Nat.lt_of_lt_of_le f294.lt (Nat.le_of_eq g298.symm))
            have gg298 : n0 ≤ b298 := Nat.le_trans Zs291 (Nat.le_of_eq g298.symm)
            have sz298_0 : h0.size ≤ b298 := Nat.le_trans K291_0.1 (Nat.le_of_eq g298.symm)
            have sz298_1 : h0.size ≤ b298 := Nat.le_trans K291_1.1 (Nat.le_of_eq g298.symm)
            have Zs298 : n0 ≤ h298.size := Nat.le_trans Zs291 E298.1
            have K298_0 : Keep h0 h298 [] := K291_0.ext E298
            have K298_1 : Keep h0 h298 [] := K291_1.ext E298
            have f301 : Old Z n0 h298 := f292.ext E298
            have f302 : Arv Z h298 b269 k269 .char (2 : Int32) [(.int x0), (.int x1)] (.int (0 : Int32)) := f293.ext E298
            have f303 : Arv Z h298 b278 k278 .char (3 : Int32) [(.int x0), (.int x1), (.int x2)] (.int (0 : Int32)) := f294.ext E298
            have f304 : Exa Z h298 b298 "java/lang/String" := A298
            have f305 : Fld Z h298 b298 "java/lang/String" "value" "[B" .null := D298 (Or.inr (hw _ (List.mem_of_getElem? (i := 5) rfl))) (ty := (.array .byte)) (by decide)
            have f306 : Fld Z h298 b298 "java/lang/String" "coder" "B" (.int (0 : Int32)) := D298 (Or.inr (hw _ (List.mem_of_getElem? (i := 6) rfl))) (ty := .byte) (by decide)
            refine own_goW (fun _ k => st298 _ k) ?_
            show own_GW _ _ _ (T298.setTop (mkF m 105 #[.val (.int p0), .val (.int p1), .val (.int p2), .val (.int p3), .val (.int p4), .val (.int (2 : Int32)), .val (.int x0), .val (.int x1), .val (.int x2), .val (.int xq), .val (.ref b269), .val (.ref b278), .unset, .unset, .unset] [(.ref b298)])) _ _ _ _ _ _
            refine own_goW (fun _ k => XS.dup X298.here hx rfl (hb hby at_105) rfl rfl k) ?_
            show own_GW _ _ _ (T298.setTop (mkF m 106 #[.val (.int p0), .val (.int p1), .val (.int p2), .val (.int p3), .val (.int p4), .val (.int (2 : Int32)), .val (.int x0), .val (.int x1), .val (.int x2), .val (.int xq), .val (.ref b269), .val (.ref b278), .unset, .unset, .unset] [(.ref b298), (.ref b298)])) _ _ _ _ _ _
            refine own_goW (fun _ k => XS.aload X298.here hx rfl (hb hby at_106) rfl rfl k) ?_
            show own_GW _ _ _ (T298.setTop (mkF m 108 #[.val (.int p0), .val (.int p1), .val (.int p2), .val (.int p3), .val (.int p4), .val (.int (2 : Int32)), .val (.int x0), .val (.int x1), .val (.int x2), .val (.int xq), .val (.ref b269), .val (.ref b278), .unset, .unset, .unset] [(.ref b269), (.ref b298), (.ref b298)])) _ _ _ _ _ _
            have hp307 : ∀ c ∈ ([x0, x1] : List Int32), ¬ c < 0 ∧ ¬ (255 : Int32) < c := (by intro c hc; simp only [List.mem_cons, List.not_mem_nil, or_false] at hc; rcases hc with hc | hc <;> rw [hc] <;> first | exact rg0.byte | exact rg1.byte)
            have hws307 : ∀ d ∈ StrChars.Road.words, d.before a0 Z = true := fun d hd => hw d (own_words d hd)
            obtain ⟨_, _, ⟨T307, L307, k307, n307⟩, -, X307, ⟨Lc307, hQ307, l307, y307, z307⟩, st307⟩ := X298.specialBack hx (y := (⟨"java/lang/String", "<init>", "([C)V"⟩ : MethodName)) rfl hown (mvT hZ (hw _ (List.mem_of_getElem? (i := 38) rfl))) (mvT hZ (hw _ (List.mem_of_getElem? (i := 39) rfl))) (mvT hZ (hw _ (List.mem_of_getElem? (i := 40) rfl))) (by decide) (StrChars.Road.backV (W := 1) hZ hws307 (kI := 4) (hw _ (List.mem_of_getElem? (i := 3) rfl)) (cs := ([x0, x1] : List Int32)) (bs := ([x0, x1] : List Int32).map (fun c => c.toInt8.toInt32)) (n := 2) gg298 Zs298 f304 f305 f306 f302 (P_ZS_java_lang_String_COMPACT_STRINGS.ext f301.2) hcs rfl rfl (by decide) (by decide) hp307 rfl (by decide) (by decide)) (g := (mkF m 108 #[.val (.int p0), .val (.int p1), .val (.int p2), .val (.int p3), .val (.int p4), .val (.int (2 : Int32)), .val (.int x0), .val (.int x1), .val (.int x2), .val (.int xq), .val (.ref b269), .val (.ref b278), .unset, .unset, .unset] [(.ref b269), (.ref b298), (.ref b298)])) rfl (by rw [hml]; rfl) (Steps.refl _) (a := b298) (argsL := [(.ref b269)]) (rest := [(.ref b298)]) (lenOf pd_9 rfl) rfl (by show 2 * 0 + _ ≤ _; exact Nat.le_of_eq rfl) (hb hby at_108) (fun _ _ => ⟨rfl, e298, (by decide : 3 + 1 ≤ _), (by decide : 9 + 2 ≤ _)⟩)
            dsimp only [Pt.U, Pt.locs, Pt.cells, Pt.slots] at X307 l307 y307 z307 st307 hQ307
            rw [l307] at X307
            subst y307 z307
            obtain ⟨rfl, Nq307, Kq307, xs307, cd307, t307, kb307, nt307, ht307, nx307, vl307, vb307⟩ := hQ307
            have N307 := Fr.app N291 Nq307
            have ne308 : b269 ≠ t307 := Nat.ne_of_lt (Nat.lt_of_lt_of_le f302.lt ht307)
            have ne309 : b278 ≠ t307 := Nat.ne_of_lt (Nat.lt_of_lt_of_le f303.lt ht307)
            have ne310 : b298 ≠ t307 := Nat.ne_of_lt (Nat.lt_of_lt_of_le f304.lt ht307)
            have sz_t307_0 : h0.size ≤ t307 := Nat.le_trans K298_0.1 ht307
            have sz_t307_1 : h0.size ≤ t307 := Nat.le_trans K298_1.1 ht307
            have f311 : Old Z n0 T307.heap := f301.keep Kq307 (allS gg298 all0)
            have f312 : Arv Z T307.heap b269 k269 .char (2 : Int32) [(.int x0), (.int x1)] (.int (0 : Int32)) := f302.keep Kq307 (ninS ne299 nin0)
            have f313 : Arv Z T307.heap b278 k278 .char (3 : Int32) [(.int x0), (.int x1), (.int x2)] (.int (0 : Int32)) := f303.keep Kq307 (ninS ne300 nin0)
            have f314 : Exa Z T307.heap b298 "java/lang/String" := f304.keep Kq307
            have Zs307 : n0 ≤ T307.heap.size := Nat.le_trans Zs298 Kq307.1
            have K307_0 : Keep h0 T307.heap [] := K298_0.trans Kq307 (allS (Or.inr sz298_0) all0)
            have K307_1 : Keep h0 T307.heap [] := K298_1.trans Kq307 (allS (Or.inr sz298_1) all0)
            have f315 : Arv Z T307.heap t307 kb307 .byte (2 : Int32) [(.int (x0).toInt8.toInt32), (.int (x1).toInt8.toInt32)] (.int (0 : Int32)) := vb307
            refine own_trW st307 ?_
            show own_GW _ _ _ (T307.setTop (mkF m 111 #[.val (.int p0), .val (.int p1), .val (.int p2), .val (.int p3), .val (.int p4), .val (.int (2 : Int32)), .val (.int x0), .val (.int x1), .val (.int x2), .val (.int xq), .val (.ref b269), .val (.ref b278), .unset, .unset, .unset] [(.ref b298)])) _ _ _ _ _ _
            refine own_goW (fun _ k => XS.astore X307.here hx rfl (hb hby at_111) rfl rfl (l' := #[.val (.int p0), .val (.int p1), .val (.int p2), .val (.int p3), .val (.int p4), .val (.int (2 : Int32)), .val (.int x0), .val (.int x1), .val (.int x2), .val (.int xq), .val (.ref b269), .val (.ref b278), .val (.ref b298), .unset, .unset]) rfl k) ?_
            show own_GW _ _ _ (T307.setTop (mkF m 113 #[.val (.int p0), .val (.int p1), .val (.int p2), .val (.int p3), .val (.int p4), .val (.int (2 : Int32)), .val (.int x0), .val (.int x1), .val (.int x2), .val (.int xq), .val (.ref b269), .val (.ref b278), .val (.ref b298), .unset, .unset] [])) _ _ _ _ _ _
            refine own_goW (fun _ k => XS.goto X307.here hx rfl (pc0 := 113) (pc' := 127) rfl (hb hby at_113) (by decide) (by decide) k) ?_
            show own_GW _ _ _ (T307.setTop (mkF m 127 #[.val (.int p0), .val (.int p1), .val (.int p2), .val (.int p3), .val (.int p4), .val (.int (2 : Int32)), .val (.int x0), .val (.int x1), .val (.int x2), .val (.int xq), .val (.ref b269), .val (.ref b278), .val (.ref b298), .unset, .unset] [])) _ _ _ _ _ _
            refine own_goW (fun _ k => XS.iconst X307.here hx rfl (hb hby at_127) k) ?_
            show own_GW _ _ _ (T307.setTop (mkF m 128 #[.val (.int p0), .val (.int p1), .val (.int p2), .val (.int p3), .val (.int p4), .val (.int (2 : Int32)), .val (.int x0), .val (.int x1), .val (.int x2), .val (.int xq), .val (.ref b269), .val (.ref b278), .val (.ref b298), .unset, .unset] [(.int (3 : Int32))])) _ _ _ _ _ _
            obtain ⟨T316, h316, k316, X316, e316, E316, A316, O316, st316⟩ := newR X307 hx hZ hown (hw _ (List.mem_of_getElem? (i := 9) rfl)) (hw _ (List.mem_of_getElem? (i := 10) rfl)) rfl (g := (mkF m 128 #[.val (.int p0), .val (.int p1), .val (.int p2), .val (.int p3), .val (.int p4), .val (.int (2 : Int32)), .val (.int x0), .val (.int x1), .val (.int x2), .val (.int xq), .val (.ref b269), .val (.ref b278), .val (.ref b298), .unset, .unset] [(.int (3 : Int32))])) rfl (hb hby at_128) rfl (by decide) (cap := 3) (by decide) (by decide) (by decide) (by decide)
            obtain ⟨b316, g316⟩ : ∃ z, z = T307.heap.size := ⟨_, rfl⟩
            rw [← g316] at A316 st316
            have ne317 : b269 ≠ b316 := Nat.ne_of_lt (Nat.lt_of_lt_of_le f312.lt (Nat.le_of_eq g316.symm))
            have ne318 : b278 ≠ b316 := Nat.ne_of_lt (Nat.lt_of_lt_of_le f313.lt (Nat.le_of_eq g316.symm))
            have ne319 : b298 ≠ b316 := Nat.ne_of_lt (Nat.lt_of_lt_of_le xs307.lt (Nat.le_of_eq g316.symm))
            have ne320 : t307 ≠ b316 := Nat.ne_of_lt (Nat.lt_of_lt_of_le f315.lt (Nat.le_of_eq g316.symm))
            have gg316 : n0 ≤ b316 := Nat.le_trans Zs307 (Nat.le_of_eq g316.symm)
            have sz316_0 : h0.size ≤ b316 := Nat.le_trans K307_0.1 (Nat.le_of_eq g316.symm)
            have sz316_1 : h0.size ≤ b316 := Nat.le_trans K307_1.1 (Nat.le_of_eq g316.symm)
            have Zs316 : n0 ≤ h316.size := Nat.le_trans Zs307 E316.1
            have K316_0 : Keep h0 h316 [] := K307_0.ext E316
            have K316_1 : Keep h0 h316 [] := K307_1.ext E316
            have f321 : Old Z n0 h316 := f311.ext E316
            have f322 : Arv Z h316 b269 k269 .char (2 : Int32) [(.int x0), (.int x1)] (.int (0 : Int32)) := f312.ext E316
            have f323 : Arv Z h316 b278 k278 .char (3 : Int32) [(.int x0), (.int x1), (.int x2)] (.int (0 : Int32)) := f313.ext E316
            have f324 : Exa Z h316 b298 "java/lang/String" := xs307.ext E316
            have f325 : Fld Z h316 b298 "java/lang/String" "coder" "B" (.int 0) := cd307.ext E316
            have f326 : Fld Z h316 b298 "java/lang/String" "value" "[B" (.ref t307) := vl307.ext E316
            have f327 : Arv Z h316 t307 kb307 .byte (2 : Int32) [(.int (x0).toInt8.toInt32), (.int (x1).toInt8.toInt32)] (.int (0 : Int32)) := f315.ext E316
            have f328 : Ovr Z k316 "java/lang/String" := O316
            have f329 : Arv Z h316 b316 k316 (.object "java/lang/String") (3 : Int32) [.null, .null, .null] .null := (Arv.new A316 (by decide)).pad (pad_rep [] .null 3)
            refine own_goW (fun _ k => st316 _ k) ?_
            show own_GW _ _ _ (T316.setTop (mkF m 131 #[.val (.int p0), .val (.int p1), .val (.int p2), .val (.int p3), .val (.int p4), .val (.int (2 : Int32)), .val (.int x0), .val (.int x1), .val (.int x2), .val (.int xq), .val (.ref b269), .val (.ref b278), .val (.ref b298), .unset, .unset] [(.ref b316)])) _ _ _ _ _ _
            refine own_goW (fun _ k => XS.dup X316.here hx rfl (hb hby at_131) rfl rfl k) ?_
            show own_GW _ _ _ (T316.setTop (mkF m 132 #[.val (.int p0), .val (.int p1), .val (.int p2), .val (.int p3), .val (.int p4), .val (.int (2 : Int32)), .val (.int x0), .val (.int x1), .val (.int x2), .val (.int xq), .val (.ref b269), .val (.ref b278), .val (.ref b298), .unset, .unset] [(.ref b316), (.ref b316)])) _ _ _ _ _ _
            refine own_goW (fun _ k => XS.iconst X316.here hx rfl (hb hby at_132) k) ?_
            show own_GW _ _ _ (T316.setTop (mkF m 133 #[.val (.int p0), .val (.int p1), .val (.int p2), .val (.int p3), .val (.int p4), .val (.int (2 : Int32)), .val (.int x0), .val (.int x1), .val (.int x2), .val (.int xq), .val (.ref b269), .val (.ref b278), .val (.ref b298), .unset, .unset] [(.int (0 : Int32)), (.ref b316), (.ref b316)])) _ _ _ _ _ _
            have CQ330 := CR0.trans (CHr.keep K316_1 all0 CR0.1)
            obtain ⟨a330, T330, h330, k1330, b330, kb330, X330, e330, E330, hS330, hk330, -, -, xa330, cd330, vl330, vb330, la330, lb330, CC330, Lt330, nea330, st330⟩ := ldcCH (s := s.setVm s.vm) (vm0 := s.vm) X316 hx hZ hown (hw _ (List.mem_of_getElem? (i := 11) rfl)) (own_wS hw) e316 ((State.WarmedH.refl (s.setVm s.vm)).since h316.size) (Nat.le_refl _) (own_EW hw) (by simp [own_EL]) CQ330.1 (vs := [(.int (65 : Int32))]) (z := (1 : Int32)) ⟨by decide, rfl⟩ (by decide) rfl (g := (mkF m 133 #[.val (.int p0), .val (.int p1), .val (.int p2), .val (.int p3), .val (.int p4), .val (.int (2 : Int32)), .val (.int x0), .val (.int x1), .val (.int x2), .val (.int xq), .val (.ref b269), .val (.ref b278), .val (.ref b298), .unset, .unset] [(.int (0 : Int32)), (.ref b316), (.ref b316)])) rfl (hb hby at_133) (n := 4) (by decide) (by decide) (by decide) (by decide)
            have CR330 := CQ330.trans CC330
            have hW330 : (s.setVm s.vm).Warmed39 T330.vm := hS330.1
            have hR330 : (s.setVm s.vm).Since T330.vm h330.size := ⟨hS330.1, hS330.2.mono hk330⟩
            obtain ⟨X330, hS330, hZ, hown⟩ := rebS hS0 (Nat.le_trans hk0 K316_1.1) X330 hR330 E330.1 hZ hown
            have Lt330 : Lit (s.setVm T330.vm) "com/example/issuerd/issuerd/xml/DomReferencesPinLaw" 18 a330 := Lt330
            have Zs330 : n0 ≤ h330.size := Nat.le_trans Zs316 E330.1
            have K330_0 : Keep h0 h330 [] := K316_0.ext E330
            have f331 : Old Z n0 h330 := f321.ext E330
            have f332 : Arv Z h330 b269 k269 .char (2 : Int32) [(.int x0), (.int x1)] (.int (0 : Int32)) := f322.ext E330
            have f333 : Arv Z h330 b278 k278 .char (3 : Int32) [(.int x0), (.int x1), (.int x2)] (.int (0 : Int32)) := f323.ext E330
            have f334 : Exa Z h330 b298 "java/lang/String" := f324.ext E330
            have f335 : Fld Z h330 b298 "java/lang/String" "coder" "B" (.int 0) := f325.ext E330
            have f336 : Fld Z h330 b298 "java/lang/String" "value" "[B" (.ref t307) := f326.ext E330
            have f337 : Arv Z h330 t307 kb307 .byte (2 : Int32) [(.int (x0).toInt8.toInt32), (.int (x1).toInt8.toInt32)] (.int (0 : Int32)) := f327.ext E330
            have f338 : Arv Z h330 b316 k316 (.object "java/lang/String") (3 : Int32) [.null, .null, .null] .null := f329.ext E330
            have sf339 : Safe Z own_EL T330.vm h330 b316 := (by obtain ⟨c_, A_, -⟩ := f338; exact Safe.arr hZ.alike A_ (by decide))
            have KS330 : Keep h330 h330 [b316] := Keep.refl _ _
            refine own_goW (fun _ k => st330 _ k) ?_
            show own_GW _ _ _ (T330.setTop (mkF m 135 #[.val (.int p0), .val (.int p1), .val (.int p2), .val (.int p3), .val (.int p4), .val (.int (2 : Int32)), .val (.int x0), .val (.int x1), .val (.int x2), .val (.int xq), .val (.ref b269), .val (.ref b278), .val (.ref b298), .unset, .unset] [(.ref a330), (.int (0 : Int32)), (.ref b316), (.ref b316)])) _ _ _ _ _ _
            obtain ⟨cl340, Ar340, q340, S340, Ng340, H340, G340⟩ := id f338
            have in340 : ¬ ((0 : Int32) < 0 ∨ cl340.slots.size ≤ ((0 : Int32)).toNatClampNeg) := inb_of S340 ⟨by decide, by decide⟩
            obtain ⟨T340, h340, X340, e340, W340, st340⟩ := stR X330 hx hZ e330 Ar340 (j := (0 : Int32)) in340 rfl (Sto.ofV Ar340 q340 f328 (Ins.self xa330)) (g := (mkF m 135 #[.val (.int p0), .val (.int p1), .val (.int p2), .val (.int p3), .val (.int p4), .val (.int (2 : Int32)), .val (.int x0), .val (.int x1), .val (.int x2), .val (.int xq), .val (.ref b269), .val (.ref b278), .val (.ref b298), .unset, .unset] [(.ref a330), (.int (0 : Int32)), (.ref b316), (.ref b316)])) rfl rfl (hb hby at_135)
            have N340 := Fr.snoc X340 N307 gg316
            have Zs340 : n0 ≤ h340.size := Nat.le_trans Zs330 (Keep.of_wr W340).1
            have K340_0 : Keep h0 h340 [] := K330_0.wr W340 (Or.inr sz316_0)
            have K340_1 : Keep h330 h340 [b316] := KS330.wr W340 (Or.inl (List.mem_of_getElem? (i := 0) rfl))
            have f341 : Old Z n0 h340 := f331.wr W340 gg316
            have f342 : Arv Z h340 b269 k269 .char (2 : Int32) [(.int x0), (.int x1)] (.int (0 : Int32)) := f332.other W340 ne317
            have f343 : Arv Z h340 b278 k278 .char (3 : Int32) [(.int x0), (.int x1), (.int x2)] (.int (0 : Int32)) := f333.other W340 ne318
            have f344 : Exa Z h340 b298 "java/lang/String" := f334.wr W340
            have f345 : Fld Z h340 b298 "java/lang/String" "coder" "B" (.int 0) := f335.other W340 (Or.inl ne319)
            have f346 : Fld Z h340 b298 "java/lang/String" "value" "[B" (.ref t307) := f336.other W340 (Or.inl ne319)
            have f347 : Arv Z h340 t307 kb307 .byte (2 : Int32) [(.int (x0).toInt8.toInt32), (.int (x1).toInt8.toInt32)] (.int (0 : Int32)) := f337.other W340 ne320
            have f348 : Exa Z h340 a330 "java/lang/String" := xa330.wr W340
            have f349 : Arv Z h340 b316 k316 (.object "java/lang/String") (3 : Int32) [(.ref a330), .null, .null] .null := Arv.set Ar340 q340 S340 Ng340 H340 G340 rfl W340 0 rfl (Nat.le_of_ble_eq_true rfl)
            refine own_goW (fun _ k => st340 _ k) ?_
            show own_GW _ _ _ (T340.setTop (mkF m 136 #[.val (.int p0), .val (.int p1), .val (.int p2), .val (.int p3), .val (.int p4), .val (.int (2 : Int32)), .val (.int x0), .val (.int x1), .val (.int x2), .val (.int xq), .val (.ref b269), .val (.ref b278), .val (.ref b298), .unset, .unset] [(.ref b316)])) _ _ _ _ _ _
            refine own_goW (fun _ k => XS.dup X340.here hx rfl (hb hby at_136) rfl rfl k) ?_
            show own_GW _ _ _ (T340.setTop (mkF m 137 #[.val (.int p0), .val (.int p1), .val (.int p2), .val (.int p3), .val (.int p4), .val (.int (2 : Int32)), .val (.int x0), .val (.int x1), .val (.int x2), .val (.int xq), .val (.ref b269), .val (.ref b278), .val (.ref b298), .unset, .unset] [(.ref b316), (.ref b316)])) _ _ _ _ _ _
            refine own_goW (fun _ k => XS.iconst X340.here hx rfl (hb hby at_137) k) ?_
            show own_GW _ _ _ (T340.setTop (mkF m 138 #[.val (.int p0), .val (.int p1), .val (.int p2), .val (.int p3), .val (.int p4), .val (.int (2 : Int32)), .val (.int x0), .val (.int x1), .val (.int x2), .val (.int xq), .val (.ref b269), .val (.ref b278), .val (.ref b298), .unset, .unset] [(.int (1 : Int32)), (.ref b316), (.ref b316)])) _ _ _ _ _ _
            have CQ350 := CR330.trans (CHr.keep K340_1 (allS sf339 all0) CR330.1)
            obtain ⟨a350, T350, h350, k1350, b350, kb350, X350, e350, E350, hS350, hk350, -, -, xa350, cd350, vl350, vb350, la350, lb350, CC350, Lt350, nea350, st350⟩ := ldcCH (s := s.setVm T330.vm) (vm0 := T330.vm) X340 hx hZ hown (hw _ (List.mem_of_getElem? (i := 13) rfl)) (own_wS hw) e340 ((State.WarmedH.refl (s.setVm T330.vm)).since h340.size) (Nat.le_refl _) (own_EW hw) (by simp [own_EL]) CQ350.1 (vs := [(.int (66 : Int32))]) (z := (1 : Int32)) ⟨by decide, rfl⟩ (by decide) rfl (g := (mkF m 138 #[.val (.int p0), .val (.int p1), .val (.int p2), .val (.int p3), .val (.int p4), .val (.int (2 : Int32)), .val (.int x0), .val (.int x1), .val (.int x2), .val (.int xq), .val (.ref b269), .val (.ref b278), .val (.ref b298), .unset, .unset] [(.int (1 : Int32)), (.ref b316), (.ref b316)])) rfl (hb hby at_138) (n := 4) (by decide) (by decide) (by decide) (by decide)
            have CR350 := CQ350.trans CC350
            have hW350 : (s.setVm T330.vm).Warmed39 T350.vm := hS350.1
            have hR350 : (s.setVm T330.vm).Since T350.vm h350.size := ⟨hS350.1, hS350.2.mono hk350⟩
            obtain ⟨X350, hS350, hZ, hown⟩ := rebS hS330 (Nat.le_trans (Nat.le_refl _) K340_1.1) X350 hR350 E350.1 hZ hown
            have Lt350 : Lit (s.setVm T350.vm) "com/example/issuerd/issuerd/xml/DomReferencesPinLaw" 20 a350 := Lt350
            have Lt330_350 := Lit.stays Lt330 hW350
            have Zs350 : n0 ≤ h350.size := Nat.le_trans Zs340 E350.1
            have K350_0 : Keep h0 h350 [] := K340_0.ext E350
            have f351 : Old Z n0 h350 := f341.ext E350
            have f352 : Arv Z h350 b269 k269 .char (2 : Int32) [(.int x0), (.int x1)] (.int (0 : Int32)) := f342.ext E350
            have f353 : Arv Z h350 b278 k278 .char (3 : Int32) [(.int x0), (.int x1), (.int x2)] (.int (0 : Int32)) := f343.ext E350
            have f354 : Exa Z h350 b298 "java/lang/String" := f344.ext E350
            have f355 : Fld Z h350 b298 "java/lang/String" "coder" "B" (.int 0) := f345.ext E350
            have f356 : Fld Z h350 b298 "java/lang/String" "value" "[B" (.ref t307) := f346.ext E350
            have f357 : Arv Z h350 t307 kb307 .byte (2 : Int32) [(.int (x0).toInt8.toInt32), (.int (x1).toInt8.toInt32)] (.int (0 : Int32)) := f347.ext E350
            have f358 : Exa Z h350 a330 "java/lang/String" := f348.ext E350
            have f359 : Arv Z h350 b316 k316 (.object "java/lang/String") (3 : Int32) [(.ref a330), .null, .null] .null := f349.ext E350
            have sf360 : Safe Z own_EL T350.vm h350 b316 := (by obtain ⟨c_, A_, -⟩ := f359; exact Safe.arr hZ.alike A_ (by decide))
            have KS350 : Keep h350 h350 [b316] := Keep.refl _ _
            refine own_goW (fun _ k => st350 _ k) ?_
            show own_GW _ _ _ (T350.setTop (mkF m 140 #[.val (.int p0), .val (.int p1), .val (.int p2), .val (.int p3), .val (.int p4), .val (.int (2 : Int32)), .val (.int x0), .val (.int x1), .val (.int x2), .val (.int xq), .val (.ref b269), .val (.ref b278), .val (.ref b298), .unset, .unset] [(.ref a350), (.int (1 : Int32)), (.ref b316), (.ref b316)])) _ _ _ _ _ _
            obtain ⟨cl361, Ar361, q361, S361, Ng361, H361, G361⟩ := id f359
            have in361 : ¬ ((1 : Int32) < 0 ∨ cl361.slots.size ≤ ((1 : Int32)).toNatClampNeg) := inb_of S361 ⟨by decide, by decide⟩
            obtain ⟨T361, h361, X361, e361, W361, st361⟩ := stR X350 hx hZ e350 Ar361 (j := (1 : Int32)) in361 rfl (Sto.ofV Ar361 q361 f328 (Ins.self xa350)) (g := (mkF m 140 #[.val (.int p0), .val (.int p1), .val (.int p2), .val (.int p3), .val (.int p4), .val (.int (2 : Int32)), .val (.int x0), .val (.int x1), .val (.int x2), .val (.int xq), .val (.ref b269), .val (.ref b278), .val (.ref b298), .unset, .unset] [(.ref a350), (.int (1 : Int32)), (.ref b316), (.ref b316)])) rfl rfl (hb hby at_140)
            have N361 := Fr.snoc X361 N340 gg316
            have Zs361 : n0 ≤ h361.size := Nat.le_trans Zs350 (Keep.of_wr W361).1
            have K361_0 : Keep h0 h361 [] := K350_0.wr W361 (Or.inr sz316_0)
            have K361_1 : Keep h350 h361 [b316] := KS350.wr W361 (Or.inl (List.mem_of_getElem? (i := 0) rfl))
            have f362 : Old Z n0 h361 := f351.wr W361 gg316
            have f363 : Arv Z h361 b269 k269 .char (2 : Int32) [(.int x0), (.int x1)] (.int (0 : Int32)) := f352.other W361 ne317
            have f364 : Arv Z h361 b278 k278 .char (3 : Int32) [(.int x0), (.int x1), (.int x2)] (.int (0 : Int32)) := f353.other W361 ne318
            have f365 : Exa Z h361 b298 "java/lang/String" := f354.wr W361
            have f366 : Fld Z h361 b298 "java/lang/String" "coder" "B" (.int 0) := f355.other W361 (Or.inl ne319)
            have f367 : Fld Z h361 b298 "java/lang/String" "value" "[B" (.ref t307) := f356.other W361 (Or.inl ne319)
            have f368 : Arv Z h361 t307 kb307 .byte (2 : Int32) [(.int (x0).toInt8.toInt32), (.int (x1).toInt8.toInt32)] (.int (0 : Int32)) := f357.other W361 ne320
            have f369 : Exa Z h361 a330 "java/lang/String" := f358.wr W361
            have f370 : Exa Z h361 a350 "java/lang/String" := xa350.wr W361
            have f371 : Arv Z h361 b316 k316 (.object "java/lang/String") (3 : Int32) [(.ref a330), (.ref a350), .null] .null := Arv.set Ar361 q361 S361 Ng361 H361 G361 rfl W361 1 rfl (Nat.le_of_ble_eq_true rfl)
            refine own_goW (fun _ k => st361 _ k) ?_
            show own_GW _ _ _ (T361.setTop (mkF m 141 #[.val (.int p0), .val (.int p1), .val (.int p2), .val (.int p3), .val (.int p4), .val (.int (2 : Int32)), .val (.int x0), .val (.int x1), .val (.int x2), .val (.int xq), .val (.ref b269), .val (.ref b278), .val (.ref b298), .unset, .unset] [(.ref b316)])) _ _ _ _ _ _
            refine own_goW (fun _ k => XS.dup X361.here hx rfl (hb hby at_141) rfl rfl k) ?_
            show own_GW _ _ _ (T361.setTop (mkF m 142 #[.val (.int p0), .val (.int p1), .val (.int p2), .val (.int p3), .val (.int p4), .val (.int (2 : Int32)), .val (.int x0), .val (.int x1), .val (.int x2), .val (.int xq), .val (.ref b269), .val (.ref b278), .val (.ref b298), .unset, .unset] [(.ref b316), (.ref b316)])) _ _ _ _ _ _
            refine own_goW (fun _ k => XS.iconst X361.here hx rfl (hb hby at_142) k) ?_
            show own_GW _ _ _ (T361.setTop (mkF m 143 #[.val (.int p0), .val (.int p1), .val (.int p2), .val (.int p3), .val (.int p4), .val (.int (2 : Int32)), .val (.int x0), .val (.int x1), .val (.int x2), .val (.int xq), .val (.ref b269), .val (.ref b278), .val (.ref b298), .unset, .unset] [(.int (2 : Int32)), (.ref b316), (.ref b316)])) _ _ _ _ _ _
            have CQ372 := CR350.trans (CHr.keep K361_1 (allS sf360 all0) CR350.1)
            obtain ⟨a372, T372, h372, k1372, b372, kb372, X372, e372, E372, hS372, hk372, -, -, xa372, cd372, vl372, vb372, la372, lb372, CC372, Lt372, nea372, st372⟩ := ldcCH (s := s.setVm T350.vm) (vm0 := T350.vm) X361 hx hZ hown (hw _ (List.mem_of_getElem? (i := 14) rfl)) (own_wS hw) e361 ((State.WarmedH.refl (s.setVm T350.vm)).since h361.size) (Nat.le_refl _) (own_EW hw) (by simp [own_EL]) CQ372.1 (vs := [(.int (67 : Int32))]) (z := (1 : Int32)) ⟨by decide, rfl⟩ (by decide) rfl (g := (mkF m 143 #[.val (.int p0), .val (.int p1), .val (.int p2), .val (.int p3), .val (.int p4), .val (.int (2 : Int32)), .val (.int x0), .val (.int x1), .val (.int x2), .val (.int xq), .val (.ref b269), .val (.ref b278), .val (.ref b298), .unset, .unset] [(.int (2 : Int32)), (.ref b316), (.ref b316)])) rfl (hb hby at_143) (n := 4) (by decide) (by decide) (by decide) (by decide)
            have CR372 := CQ372.trans CC372
            have hW372 : (s.setVm T350.vm).Warmed39 T372.vm := hS372.1
            have hR372 : (s.setVm T350.vm).Since T372.vm h372.size := ⟨hS372.1, hS372.2.mono hk372⟩
            obtain ⟨X372, hS372, hZ, hown⟩ := rebS hS350 (Nat.le_trans (Nat.le_refl _) K361_1.1) X372 hR372 E372.1 hZ hown
            have Lt372 : Lit (s.setVm T372.vm) "com/example/issuerd/issuerd/xml/DomReferencesPinLaw" 22 a372 := Lt372
            have Lt330_350_372 := Lit.stays Lt330_350 hW372
            have Lt350_372 := Lit.stays Lt350 hW372
            have Zs372 : n0 ≤ h372.size := Nat.le_trans Zs361 E372.1
            have K372_0 : Keep h0 h372 [] := K361_0.ext E372
            have f373 : Old Z n0 h372 := f362.ext E372
            have f374 : Arv Z h372 b269 k269 .char (2 : Int32) [(.int x0), (.int x1)] (.int (0 : Int32)) := f363.ext E372
            have f375 : Arv Z h372 b278 k278 .char (3 : Int32) [(.int x0), (.int x1), (.int x2)] (.int (0 : Int32)) := f364.ext E372
            have f376 : Exa Z h372 b298 "java/lang/String" := f365.ext E372
            have f377 : Fld Z h372 b298 "java/lang/String" "coder" "B" (.int 0) := f366.ext E372
            have f378 : Fld Z h372 b298 "java/lang/String" "value" "[B" (.ref t307) := f367.ext E372
            have f379 : Arv Z h372 t307 kb307 .byte (2 : Int32) [(.int (x0).toInt8.toInt32), (.int (x1).toInt8.toInt32)] (.int (0 : Int32)) := f368.ext E372
            have f380 : Exa Z h372 a330 "java/lang/String" := f369.ext E372
            have f381 : Exa Z h372 a350 "java/lang/String" := f370.ext E372
            have f382 : Arv Z h372 b316 k316 (.object "java/lang/String") (3 : Int32) [(.ref a330), (.ref a350), .null] .null := f371.ext E372
            have sf383 : Safe Z own_EL T372.vm h372 b316 := (by obtain ⟨c_, A_, -⟩ := f382; exact Safe.arr hZ.alike A_ (by decide))
            have KS372 : Keep h372 h372 [b316] := Keep.refl _ _
            refine own_goW (fun _ k => st372 _ k) ?_
            show own_GW _ _ _ (T372.setTop (mkF m 145 #[.val (.int p0), .val (.int p1), .val (.int p2), .val (.int p3), .val (.int p4), .val (.int (2 : Int32)), .val (.int x0), .val (.int x1), .val (.int x2), .val (.int xq), .val (.ref b269), .val (.ref b278), .val (.ref b298), .unset, .unset] [(.ref a372), (.int (2 : Int32)), (.ref b316), (.ref b316)])) _ _ _ _ _ _
            obtain ⟨cl384, Ar384, q384, S384, Ng384, H384, G384⟩ := id f382
            have in384 : ¬ ((2 : Int32) < 0 ∨ cl384.slots.size ≤ ((2 : Int32)).toNatClampNeg) := inb_of S384 ⟨by decide, by decide⟩
            obtain ⟨T384, h384, X384, e384, W384, st384⟩ := stR X372 hx hZ e372 Ar384 (j := (2 : Int32)) in384 rfl (Sto.ofV Ar384 q384 f328 (Ins.self xa372)) (g := (mkF m 145 #[.val (.int p0), .val (.int p1), .val (.int p2), .val (.int p3), .val (.int p4), .val (.int (2 : Int32)), .val (.int x0), .val (.int x1), .val (.int x2), .val (.int xq), .val (.ref b269), .val (.ref b278), .val (.ref b298), .unset, .unset] [(.ref a372), (.int (2 : Int32)), (.ref b316), (.ref b316)])) rfl rfl (hb hby at_145)
            have N384 := Fr.snoc X384 N361 gg316
            have Zs384 : n0 ≤ h384.size := Nat.le_trans Zs372 (Keep.of_wr W384).1
            have K384_0 : Keep h0 h384 [] := K372_0.wr W384 (Or.inr sz316_0)
            have K384_1 : Keep h372 h384 [b316] := KS372.wr W384 (Or.inl (List.mem_of_getElem? (i := 0) rfl))
            have f385 : Old Z n0 h384 := f373.wr W384 gg316
            have f386 : Arv Z h384 b269 k269 .char (2 : Int32) [(.int x0), (.int x1)] (.int (0 : Int32)) := f374.other W384 ne317
            have f387 : Arv Z h384 b278 k278 .char (3 : Int32) [(.int x0), (.int x1), (.int x2)] (.int (0 : Int32)) := f375.other W384 ne318
            have f388 : Exa Z h384 b298 "java/lang/String" := f376.wr W384
            have f389 : Fld Z h384 b298 "java/lang/String" "coder" "B" (.int 0) := f377.other W384 (Or.inl ne319)
            have f390 : Fld Z h384 b298 "java/lang/String" "value" "[B" (.ref t307) := f378.other W384 (Or.inl ne319)
            have f391 : Arv Z h384 t307 kb307 .byte (2 : Int32) [(.int (x0).toInt8.toInt32), (.int (x1).toInt8.toInt32)] (.int (0 : Int32)) := f379.other W384 ne320
            have f392 : Exa Z h384 a330 "java/lang/String" := f380.wr W384
            have f393 : Exa Z h384 a350 "java/lang/String" := f381.wr W384
            have f394 : Exa Z h384 a372 "java/lang/String" := xa372.wr W384
            have f395 : Arv Z h384 b316 k316 (.object "java/lang/String") (3 : Int32) [(.ref a330), (.ref a350), (.ref a372)] .null := Arv.set Ar384 q384 S384 Ng384 H384 G384 rfl W384 2 rfl (Nat.le_of_ble_eq_true rfl)
            refine own_goW (fun _ k => st384 _ k) ?_
            show own_GW _ _ _ (T384.setTop (mkF m 146 #[.val (.int p0), .val (.int p1), .val (.int p2), .val (.int p3), .val (.int p4), .val (.int (2 : Int32)), .val (.int x0), .val (.int x1), .val (.int x2), .val (.int xq), .val (.ref b269), .val (.ref b278), .val (.ref b298), .unset, .unset] [(.ref b316)])) _ _ _ _ _ _
            refine own_goW (fun _ k => XS.astore X384.here hx rfl (hb hby at_146) rfl rfl (l' := #[.val (.int p0), .val (.int p1), .val (.int p2), .val (.int p3), .val (.int p4), .val (.int (2 : Int32)), .val (.int x0), .val (.int x1), .val (.int x2), .val (.int xq), .val (.ref b269), .val (.ref b278), .val (.ref b298), .val (.ref b316), .unset]) rfl k) ?_
            show own_GW _ _ _ (T384.setTop (mkF m 148 #[.val (.int p0), .val (.int p1), .val (.int p2), .val (.int p3), .val (.int p4), .val (.int (2 : Int32)), .val (.int x0), .val (.int x1), .val (.int x2), .val (.int xq), .val (.ref b269), .val (.ref b278), .val (.ref b298), .val (.ref b316), .unset] [])) _ _ _ _ _ _
            refine own_goW (fun _ k => XS.aload X384.here hx rfl (hb hby at_148) rfl rfl k) ?_
            show own_GW _ _ _ (T384.setTop (mkF m 150 #[.val (.int p0), .val (.int p1), .val (.int p2), .val (.int p3), .val (.int p4), .val (.int (2 : Int32)), .val (.int x0), .val (.int x1), .val (.int x2), .val (.int xq), .val (.ref b269), .val (.ref b278), .val (.ref b298), .val (.ref b316), .unset] [(.ref b298)])) _ _ _ _ _ _
            refine own_goW (fun _ k => XS.aload X384.here hx rfl (hb hby at_150) rfl rfl k) ?_
            show own_GW _ _ _ (T384.setTop (mkF m 152 #[.val (.int p0), .val (.int p1), .val (.int p2), .val (.int p3), .val (.int p4), .val (.int (2 : Int32)), .val (.int x0), .val (.int x1), .val (.int x2), .val (.int xq), .val (.ref b269), .val (.ref b278), .val (.ref b298), .val (.ref b316), .unset] [(.ref b316), (.ref b298)])) _ _ _ _ _ _
            obtain ⟨_, _, ⟨T396, L396, k396, n396⟩, -, X396, ⟨Lc396, hQ396, l396, y396, z396⟩, st396⟩ := Jvm.LawKit.callS X384 hx (y := (⟨"com/example/issuerd/issuerd/xml/Dom", "references", "(Ljava/lang/String;[Ljava/lang/String;)[Ljava/lang/String;"⟩ : MethodName)) hown (mvT hZ (hw _ (List.mem_of_getElem? (i := 15) rfl))) (mvT hZ (hw _ (List.mem_of_getElem? (i := 16) rfl))) (mvT hZ (hw _ (List.mem_of_getElem? (i := 17) rfl))) (mvT hZ (hw _ (List.mem_of_getElem? (i := 18) rfl))) (by decide) (backOf (W := 0) (rm1c l Z a0 hw [] b298 b316 zc fm t307 kb307 k316 a330 a350 a372 x0 x1 h384 n0 Zs384 f385 P_ZS_java_lang_String_COMPACT_STRINGS hcs P_ZS_jdk_internal_util_Preconditions_SIOOBE_FORMATTER hfm f388 f389 f390 f391 f395 f392 f393 f394 rg0 rg1) hZ (hw _ (List.mem_of_getElem? (i := 18) rfl)) (hw _ (List.mem_of_getElem? (i := 17) rfl)) (by decide) (by decide)) (g := (mkF m 152 #[.val (.int p0), .val (.int p1), .val (.int p2), .val (.int p3), .val (.int p4), .val (.int (2 : Int32)), .val (.int x0), .val (.int x1), .val (.int x2), .val (.int xq), .val (.ref b269), .val (.ref b278), .val (.ref b298), .val (.ref b316), .unset] [(.ref b316), (.ref b298)])) rfl (by rw [hml]; rfl) (argsL := [(.ref b298), (.ref b316)]) (rest := []) (lenOf pd_6 rfl) rfl (by show 2 * 0 + _ ≤ _; exact Nat.le_of_eq rfl) (hb hby at_152) (fun _ _ => ⟨rfl, e384, (by decide : 11 + 1 ≤ _), (by decide : 38 + 128 ≤ _)⟩)
            dsimp only [Pt.U, Pt.locs, Pt.cells, Pt.slots] at X396 l396 y396 z396 st396 hQ396
            rw [l396] at X396
            subst y396 z396
            obtain ⟨na396, kn396, rfl, Nq396, Kq396, r396_0⟩ := hQ396
            have N396 := Fr.app N384 Nq396
            have f397 : Old Z n0 T396.heap := f385.keep Kq396 all0
            have f398 : Arv Z T396.heap b269 k269 .char (2 : Int32) [(.int x0), (.int x1)] (.int (0 : Int32)) := f386.keep Kq396 nin0
            have f399 : Arv Z T396.heap b278 k278 .char (3 : Int32) [(.int x0), (.int x1), (.int x2)] (.int (0 : Int32)) := f387.keep Kq396 nin0
            have f400 : Exa Z T396.heap b298 "java/lang/String" := f388.keep Kq396
            have f401 : Fld Z T396.heap b298 "java/lang/String" "coder" "B" (.int 0) := f389.keep Kq396 nin0
            have f402 : Fld Z T396.heap b298 "java/lang/String" "value" "[B" (.ref t307) := f390.keep Kq396 nin0
            have f403 : Arv Z T396.heap t307 kb307 .byte (2 : Int32) [(.int (x0).toInt8.toInt32), (.int (x1).toInt8.toInt32)] (.int (0 : Int32)) := f391.keep Kq396 nin0
            have f404 : Exa Z T396.heap a330 "java/lang/String" := f392.keep Kq396
            have f405 : Exa Z T396.heap a350 "java/lang/String" := f393.keep Kq396
            have f406 : Exa Z T396.heap a372 "java/lang/String" := f394.keep Kq396
            have f407 : Arv Z T396.heap b316 k316 (.object "java/lang/String") (3 : Int32) [(.ref a330), (.ref a350), (.ref a372)] .null := f395.keep Kq396 nin0
            have Zs396 : n0 ≤ T396.heap.size := Nat.le_trans Zs384 Kq396.1
            have K396_0 : Keep h0 T396.heap [] := K384_0.trans Kq396 all0
            have K396_1 : Keep h372 T396.heap [b316] := K384_1.trans Kq396 all0
            refine own_goW (fun _ k => st396 _ k) ?_
            show own_GW _ _ _ (T396.setTop (mkF m 155 #[.val (.int p0), .val (.int p1), .val (.int p2), .val (.int p3), .val (.int p4), .val (.int (2 : Int32)), .val (.int x0), .val (.int x1), .val (.int x2), .val (.int xq), .val (.ref b269), .val (.ref b278), .val (.ref b298), .val (.ref b316), .unset] [(.ref na396)])) _ _ _ _ _ _
            refine own_goW (fun _ k => XS.astore X396.here hx rfl (hb hby at_155) rfl rfl (l' := #[.val (.int p0), .val (.int p1), .val (.int p2), .val (.int p3), .val (.int p4), .val (.int (2 : Int32)), .val (.int x0), .val (.int x1), .val (.int x2), .val (.int xq), .val (.ref b269), .val (.ref b278), .val (.ref b298), .val (.ref b316), .val (.ref na396)]) rfl k) ?_
            show own_GW _ _ _ (T396.setTop (mkF m 157 #[.val (.int p0), .val (.int p1), .val (.int p2), .val (.int p3), .val (.int p4), .val (.int (2 : Int32)), .val (.int x0), .val (.int x1), .val (.int x2), .val (.int xq), .val (.ref b269), .val (.ref b278), .val (.ref b298), .val (.ref b316), .val (.ref na396)] [])) _ _ _ _ _ _
            refine own_goW (fun _ k => XS.iload X396.here hx rfl (hb hby at_157) rfl k) ?_
            show own_GW _ _ _ (T396.setTop (mkF m 159 #[.val (.int p0), .val (.int p1), .val (.int p2), .val (.int p3), .val (.int p4), .val (.int (2 : Int32)), .val (.int x0), .val (.int x1), .val (.int x2), .val (.int xq), .val (.ref b269), .val (.ref b278), .val (.ref b298), .val (.ref b316), .val (.ref na396)] [(.int (2 : Int32))])) _ _ _ _ _ _
            have hc408 : ¬ ((2 : Int32) = (0 : Int32)) := (by decide)
            refine own_goW (fun _ k => XS.ifYes X396.here hx rfl (pc0 := 159) (pc' := 174) rfl (hb hby at_159) rfl ((if0 _ _).trans (feq hc408).2) (by decide) (by decide) k) ?_
            show own_GW _ _ _ (T396.setTop (mkF m 174 #[.val (.int p0), .val (.int p1), .val (.int p2), .val (.int p3), .val (.int p4), .val (.int (2 : Int32)), .val (.int x0), .val (.int x1), .val (.int x2), .val (.int xq), .val (.ref b269), .val (.ref b278), .val (.ref b298), .val (.ref b316), .val (.ref na396)] [])) _ _ _ _ _ _
            refine own_goW (fun _ k => XS.aload X396.here hx rfl (hb hby at_174) rfl rfl k) ?_
            show own_GW _ _ _ (T396.setTop (mkF m 176 #[.val (.int p0), .val (.int p1), .val (.int p2), .val (.int p3), .val (.int p4), .val (.int (2 : Int32)), .val (.int x0), .val (.int x1), .val (.int x2), .val (.int xq), .val (.ref b269), .val (.ref b278), .val (.ref b298), .val (.ref b316), .val (.ref na396)] [(.ref na396)])) _ _ _ _ _ _
            obtain ⟨cl409, Ar409, -, S409, Ng409, -, -⟩ := id r396_0
            refine own_goW (fun _ k => X396.arraylength hx (by exact Ar409.1) (State.isArrayOf_alike hZ.alike Ar409.2.1) (g := (mkF m 176 #[.val (.int p0), .val (.int p1), .val (.int p2), .val (.int p3), .val (.int p4), .val (.int (2 : Int32)), .val (.int x0), .val (.int x1), .val (.int x2), .val (.int xq), .val (.ref b269), .val (.ref b278), .val (.ref b298), .val (.ref b316), .val (.ref na396)] [(.ref na396)])) rfl rfl (hb hby at_176) _ k) ?_
            rw [len_of S409 Ng409]
            show own_GW _ _ _ (T396.setTop (mkF m 177 #[.val (.int p0), .val (.int p1), .val (.int p2), .val (.int p3), .val (.int p4), .val (.int (2 : Int32)), .val (.int x0), .val (.int x1), .val (.int x2), .val (.int xq), .val (.ref b269), .val (.ref b278), .val (.ref b298), .val (.ref b316), .val (.ref na396)] [(.int (128 : Int32))])) _ _ _ _ _ _
            refine own_goW (fun _ k => XS.sipush X396.here hx rfl (hb hby at_177) k) ?_
            show own_GW _ _ _ (T396.setTop (mkF m 180 #[.val (.int p0), .val (.int p1), .val (.int p2), .val (.int p3), .val (.int p4), .val (.int (2 : Int32)), .val (.int x0), .val (.int x1), .val (.int x2), .val (.int xq), .val (.ref b269), .val (.ref b278), .val (.ref b298), .val (.ref b316), .val (.ref na396)] [(.int (128 : Int32)), (.int (128 : Int32))])) _ _ _ _ _ _
            have hc410 : (128 : Int32) = (128 : Int32) := (by decide)
            refine own_goW (fun _ k => XS.icmpYes X396.here hx rfl (pc0 := 180) (pc' := 185) rfl (hb hby at_180) rfl (teq hc410).1 (by decide) (by decide) k) ?_
            show own_GW _ _ _ (T396.setTop (mkF m 185 #[.val (.int p0), .val (.int p1), .val (.int p2), .val (.int p3), .val (.int p4), .val (.int (2 : Int32)), .val (.int x0), .val (.int x1), .val (.int x2), .val (.int xq), .val (.ref b269), .val (.ref b278), .val (.ref b298), .val (.ref b316), .val (.ref na396)] [])) _ _ _ _ _ _
            rcases own_c2 x0 x1 xq with qhB | ⟨qnB, qhA⟩ | ⟨qnB, qnA⟩
            · skip
              refine own_goW (fun _ k => XS.aload X396.here hx rfl (hb hby at_185) rfl rfl k) ?_
              show own_GW _ _ _ (T396.setTop (mkF m 187 #[.val (.int p0), .val (.int p1), .val (.int p2), .val (.int p3), .val (.int p4), .val (.int (2 : Int32)), .val (.int x0), .val (.int x1), .val (.int x2), .val (.int xq), .val (.ref b269), .val (.ref b278), .val (.ref b298), .val (.ref b316), .val (.ref na396)] [(.ref na396)])) _ _ _ _ _ _
              refine own_goW (fun _ k => XS.iload X396.here hx rfl (hb hby at_187) rfl k) ?_
              show own_GW _ _ _ (T396.setTop (mkF m 189 #[.val (.int p0), .val (.int p1), .val (.int p2), .val (.int p3), .val (.int p4), .val (.int (2 : Int32)), .val (.int x0), .val (.int x1), .val (.int x2), .val (.int xq), .val (.ref b269), .val (.ref b278), .val (.ref b298), .val (.ref b316), .val (.ref na396)] [(.int xq), (.ref na396)])) _ _ _ _ _ _
              obtain ⟨cl411, Ar411, q411, S411, Ng411, H411, G411⟩ := id r396_0
              have in411 : ¬ (xq < 0 ∨ cl411.slots.size ≤ (xq).toNatClampNeg) := inb_of S411 rgq.inb
              have at411 : cl411.slots[(xq).toNatClampNeg]? = some (.ref a350) := H411.at in411 (own_set_yes _ x1 xq _ rg1 (by simp only [own_set_len, own_t0_len]) qhB)
              refine own_goW (fun _ k => X396.aaload hx (j := xq) (v := (.ref a350)) (by exact Ar411.1) (State.isArrayOf_alike hZ.alike Ar411.2.1) rfl Ar411.2.2 in411 at411 (g := (mkF m 189 #[.val (.int p0), .val (.int p1), .val (.int p2), .val (.int p3), .val (.int p4), .val (.int (2 : Int32)), .val (.int x0), .val (.int x1), .val (.int x2), .val (.int xq), .val (.ref b269), .val (.ref b278), .val (.ref b298), .val (.ref b316), .val (.ref na396)] [(.int xq), (.ref na396)])) rfl rfl (hb hby at_189) _ k) ?_
              show own_GW _ _ _ (T396.setTop (mkF m 190 #[.val (.int p0), .val (.int p1), .val (.int p2), .val (.int p3), .val (.int p4), .val (.int (2 : Int32)), .val (.int x0), .val (.int x1), .val (.int x2), .val (.int xq), .val (.ref b269), .val (.ref b278), .val (.ref b298), .val (.ref b316), .val (.ref na396)] [(.ref a350)])) _ _ _ _ _ _
              refine own_goW (fun _ k => XS.iload X396.here hx rfl (hb hby at_190) rfl k) ?_
              show own_GW _ _ _ (T396.setTop (mkF m 192 #[.val (.int p0), .val (.int p1), .val (.int p2), .val (.int p3), .val (.int p4), .val (.int (2 : Int32)), .val (.int x0), .val (.int x1), .val (.int x2), .val (.int xq), .val (.ref b269), .val (.ref b278), .val (.ref b298), .val (.ref b316), .val (.ref na396)] [(.int xq), (.ref a350)])) _ _ _ _ _ _
              refine own_goW (fun _ k => XS.iload X396.here hx rfl (hb hby at_192) rfl k) ?_
              show own_GW _ _ _ (T396.setTop (mkF m 194 #[.val (.int p0), .val (.int p1), .val (.int p2), .val (.int p3), .val (.int p4), .val (.int (2 : Int32)), .val (.int x0), .val (.int x1), .val (.int x2), .val (.int xq), .val (.ref b269), .val (.ref b278), .val (.ref b298), .val (.ref b316), .val (.ref na396)] [(.int (2 : Int32)), (.int xq), (.ref a350)])) _ _ _ _ _ _
              refine own_goW (fun _ k => XS.iload X396.here hx rfl (hb hby at_194) rfl k) ?_
              show own_GW _ _ _ (T396.setTop (mkF m 196 #[.val (.int p0), .val (.int p1), .val (.int p2), .val (.int p3), .val (.int p4), .val (.int (2 : Int32)), .val (.int x0), .val (.int x1), .val (.int x2), .val (.int xq), .val (.ref b269), .val (.ref b278), .val (.ref b298), .val (.ref b316), .val (.ref na396)] [(.int x0), (.int (2 : Int32)), (.int xq), (.ref a350)])) _ _ _ _ _ _
              refine own_goW (fun _ k => XS.iload X396.here hx rfl (hb hby at_196) rfl k) ?_
              show own_GW _ _ _ (T396.setTop (mkF m 198 #[.val (.int p0), .val (.int p1), .val (.int p2), .val (.int p3), .val (.int p4), .val (.int (2 : Int32)), .val (.int x0), .val (.int x1), .val (.int x2), .val (.int xq), .val (.ref b269), .val (.ref b278), .val (.ref b298), .val (.ref b316), .val (.ref na396)] [(.int x1), (.int x0), (.int (2 : Int32)), (.int xq), (.ref a350)])) _ _ _ _ _ _
              refine own_goW (fun _ k => XS.iload X396.here hx rfl (hb hby at_198) rfl k) ?_
              show own_GW _ _ _ (T396.setTop (mkF m 200 #[.val (.int p0), .val (.int p1), .val (.int p2), .val (.int p3), .val (.int p4), .val (.int (2 : Int32)), .val (.int x0), .val (.int x1), .val (.int x2), .val (.int xq), .val (.ref b269), .val (.ref b278), .val (.ref b298), .val (.ref b316), .val (.ref na396)] [(.int x2), (.int x1), (.int x0), (.int (2 : Int32)), (.int xq), (.ref a350)])) _ _ _ _ _ _
              obtain ⟨_, _, ⟨T412, L412, k412, n412⟩, -, X412, ⟨Lc412, hQ412, l412, y412, z412⟩, st412⟩ := Jvm.LawKit.callS X396 hx (y := (⟨"com/example/issuerd/issuerd/xml/DomReferencesPinLaw", "expected", "(IICCC)Ljava/lang/String;"⟩ : MethodName)) hown (mvT hZ (hw _ (List.mem_of_getElem? (i := 79) rfl))) (mvT hZ (hw _ (List.mem_of_getElem? (i := 80) rfl))) (mvT hZ (hw _ (List.mem_of_getElem? (i := 81) rfl))) (mvT hZ (hw _ (List.mem_of_getElem? (i := 82) rfl))) (by decide) (backOf (W := 1) (rm16c l (s.setVm T372.vm) a0 [] xq x0 x1 x2 a330 a350 a372 T396.heap n0 Zs396 (mvS hZ (hw _ (List.mem_of_getElem? (i := 11) rfl))) (mvS hZ (hw _ (List.mem_of_getElem? (i := 13) rfl))) (mvS hZ (hw _ (List.mem_of_getElem? (i := 14) rfl))) Lt330_350_372 Lt350_372 Lt372 qhB) (State.Warmed39.refl _) (mvT (args := a0) hZ (hw _ (List.mem_of_getElem? (i := 82) rfl))) (mvT (args := a0) hZ (hw _ (List.mem_of_getElem? (i := 81) rfl))) (by decide) (by decide)) (g := (mkF m 200 #[.val (.int p0), .val (.int p1), .val (.int p2), .val (.int p3), .val (.int p4), .val (.int (2 : Int32)), .val (.int x0), .val (.int x1), .val (.int x2), .val (.int xq), .val (.ref b269), .val (.ref b278), .val (.ref b298), .val (.ref b316), .val (.ref na396)] [(.int x2), (.int x1), (.int x0), (.int (2 : Int32)), (.int xq), (.ref a350)])) rfl (by rw [hml]; rfl) (argsL := [(.int xq), (.int (2 : Int32)), (.int x0), (.int x1), (.int x2)]) (rest := [(.ref a350)]) (lenOf pd_8 rfl) rfl (by show 2 * 0 + _ ≤ _; exact Nat.le_of_eq rfl) (hb hby at_200) (fun _ _ => ⟨rfl, rfl, (by decide : 12 + 0 ≤ _), (by decide : 166 + 0 ≤ _)⟩)
              dsimp only [Pt.U, Pt.locs, Pt.cells, Pt.slots] at X412 l412 y412 z412 st412 hQ412
              rw [l412] at X412
              subst y412 z412
              obtain ⟨rfl, Nq412, eh412⟩ := hQ412
              have N412 := Fr.app N396 Nq412
              refine own_goW (fun _ k => st412 _ k) ?_
              show own_GW _ _ _ (T412.setTop (mkF m 203 #[.val (.int p0), .val (.int p1), .val (.int p2), .val (.int p3), .val (.int p4), .val (.int (2 : Int32)), .val (.int x0), .val (.int x1), .val (.int x2), .val (.int xq), .val (.ref b269), .val (.ref b278), .val (.ref b298), .val (.ref b316), .val (.ref na396)] [(.ref a350), (.ref a350)])) _ _ _ _ _ _
              refine own_goW (fun _ k => Jvm.RoadKit.acmp (g := (mkF m 203 #[.val (.int p0), .val (.int p1), .val (.int p2), .val (.int p3), .val (.int p4), .val (.int (2 : Int32)), .val (.int x0), .val (.int x1), .val (.int x2), .val (.int xq), .val (.ref b269), .val (.ref b278), .val (.ref b298), .val (.ref b316), .val (.ref na396)] [(.ref a350), (.ref a350)])) X412 hx rfl rfl rfl (pc0 := 203) (pc' := 206) (same := true) rfl (hb hby at_203) rfl (decide_eq_true rfl) (by decide) (by decide) k) ?_
              show own_GW _ _ _ (T412.setTop (mkF m 206 #[.val (.int p0), .val (.int p1), .val (.int p2), .val (.int p3), .val (.int p4), .val (.int (2 : Int32)), .val (.int x0), .val (.int x1), .val (.int x2), .val (.int xq), .val (.ref b269), .val (.ref b278), .val (.ref b298), .val (.ref b316), .val (.ref na396)] [])) _ _ _ _ _ _
              rcases own_c1 x1 x0 with ehB | enB
              · skip
                refine own_goW (fun _ k => XS.aload X412.here hx rfl (hb hby at_206) rfl rfl k) ?_
                show own_GW _ _ _ (T412.setTop (mkF m 208 #[.val (.int p0), .val (.int p1), .val (.int p2), .val (.int p3), .val (.int p4), .val (.int (2 : Int32)), .val (.int x0), .val (.int x1), .val (.int x2), .val (.int xq), .val (.ref b269), .val (.ref b278), .val (.ref b298), .val (.ref b316), .val (.ref na396)] [(.ref na396)])) _ _ _ _ _ _
                refine own_goW (fun _ k => XS.iload X412.here hx rfl (hb hby at_208) rfl k) ?_
                show own_GW _ _ _ (T412.setTop (mkF m 210 #[.val (.int p0), .val (.int p1), .val (.int p2), .val (.int p3), .val (.int p4), .val (.int (2 : Int32)), .val (.int x0), .val (.int x1), .val (.int x2), .val (.int xq), .val (.ref b269), .val (.ref b278), .val (.ref b298), .val (.ref b316), .val (.ref na396)] [(.int x0), (.ref na396)])) _ _ _ _ _ _
                obtain ⟨cl413, Ar413, q413, S413, Ng413, H413, G413⟩ := id r396_0
                have in413 : ¬ (x0 < 0 ∨ cl413.slots.size ≤ (x0).toNatClampNeg) := inb_of S413 rg0.inb
                have at413 : cl413.slots[(x0).toNatClampNeg]? = some (.ref a350) := H413.at in413 (own_set_yes _ x1 x0 _ rg1 (by simp only [own_set_len, own_t0_len]) ehB)
                refine own_goW (fun _ k => X412.aaload hx (j := x0) (v := (.ref a350)) (by rw [eh412]; exact Ar413.1) (State.isArrayOf_alike hZ.alike Ar413.2.1) rfl Ar413.2.2 in413 at413 (g := (mkF m 210 #[.val (.int p0), .val (.int p1), .val (.int p2), .val (.int p3), .val (.int p4), .val (.int (2 : Int32)), .val (.int x0), .val (.int x1), .val (.int x2), .val (.int xq), .val (.ref b269), .val (.ref b278), .val (.ref b298), .val (.ref b316), .val (.ref na396)] [(.int x0), (.ref na396)])) rfl rfl (hb hby at_210) _ k) ?_
                show own_GW _ _ _ (T412.setTop (mkF m 211 #[.val (.int p0), .val (.int p1), .val (.int p2), .val (.int p3), .val (.int p4), .val (.int (2 : Int32)), .val (.int x0), .val (.int x1), .val (.int x2), .val (.int xq), .val (.ref b269), .val (.ref b278), .val (.ref b298), .val (.ref b316), .val (.ref na396)] [(.ref a350)])) _ _ _ _ _ _
                refine own_goW (fun _ k => XS.iload X412.here hx rfl (hb hby at_211) rfl k) ?_
                show own_GW _ _ _ (T412.setTop (mkF m 213 #[.val (.int p0), .val (.int p1), .val (.int p2), .val (.int p3), .val (.int p4), .val (.int (2 : Int32)), .val (.int x0), .val (.int x1), .val (.int x2), .val (.int xq), .val (.ref b269), .val (.ref b278), .val (.ref b298), .val (.ref b316), .val (.ref na396)] [(.int x0), (.ref a350)])) _ _ _ _ _ _
                refine own_goW (fun _ k => XS.iload X412.here hx rfl (hb hby at_213) rfl k) ?_
                show own_GW _ _ _ (T412.setTop (mkF m 215 #[.val (.int p0), .val (.int p1), .val (.int p2), .val (.int p3), .val (.int p4), .val (.int (2 : Int32)), .val (.int x0), .val (.int x1), .val (.int x2), .val (.int xq), .val (.ref b269), .val (.ref b278), .val (.ref b298), .val (.ref b316), .val (.ref na396)] [(.int (2 : Int32)), (.int x0), (.ref a350)])) _ _ _ _ _ _
                refine own_goW (fun _ k => XS.iload X412.here hx rfl (hb hby at_215) rfl k) ?_
                show own_GW _ _ _ (T412.setTop (mkF m 217 #[.val (.int p0), .val (.int p1), .val (.int p2), .val (.int p3), .val (.int p4), .val (.int (2 : Int32)), .val (.int x0), .val (.int x1), .val (.int x2), .val (.int xq), .val (.ref b269), .val (.ref b278), .val (.ref b298), .val (.ref b316), .val (.ref na396)] [(.int x0), (.int (2 : Int32)), (.int x0), (.ref a350)])) _ _ _ _ _ _
                refine own_goW (fun _ k => XS.iload X412.here hx rfl (hb hby at_217) rfl k) ?_
                show own_GW _ _ _ (T412.setTop (mkF m 219 #[.val (.int p0), .val (.int p1), .val (.int p2), .val (.int p3), .val (.int p4), .val (.int (2 : Int32)), .val (.int x0), .val (.int x1), .val (.int x2), .val (.int xq), .val (.ref b269), .val (.ref b278), .val (.ref b298), .val (.ref b316), .val (.ref na396)] [(.int x1), (.int x0), (.int (2 : Int32)), (.int x0), (.ref a350)])) _ _ _ _ _ _
                refine own_goW (fun _ k => XS.iload X412.here hx rfl (hb hby at_219) rfl k) ?_
                show own_GW _ _ _ (T412.setTop (mkF m 221 #[.val (.int p0), .val (.int p1), .val (.int p2), .val (.int p3), .val (.int p4), .val (.int (2 : Int32)), .val (.int x0), .val (.int x1), .val (.int x2), .val (.int xq), .val (.ref b269), .val (.ref b278), .val (.ref b298), .val (.ref b316), .val (.ref na396)] [(.int x2), (.int x1), (.int x0), (.int (2 : Int32)), (.int x0), (.ref a350)])) _ _ _ _ _ _
                obtain ⟨_, _, ⟨T414, L414, k414, n414⟩, -, X414, ⟨Lc414, hQ414, l414, y414, z414⟩, st414⟩ := Jvm.LawKit.callS X412 hx (y := (⟨"com/example/issuerd/issuerd/xml/DomReferencesPinLaw", "expected", "(IICCC)Ljava/lang/String;"⟩ : MethodName)) hown (mvT hZ (hw _ (List.mem_of_getElem? (i := 79) rfl))) (mvT hZ (hw _ (List.mem_of_getElem? (i := 80) rfl))) (mvT hZ (hw _ (List.mem_of_getElem? (i := 81) rfl))) (mvT hZ (hw _ (List.mem_of_getElem? (i := 82) rfl))) (by decide) (backOf (W := 1) (rm16c l (s.setVm T372.vm) a0 [] x0 x0 x1 x2 a330 a350 a372 T396.heap n0 Zs396 (mvS hZ (hw _ (List.mem_of_getElem? (i := 11) rfl))) (mvS hZ (hw _ (List.mem_of_getElem? (i := 13) rfl))) (mvS hZ (hw _ (List.mem_of_getElem? (i := 14) rfl))) Lt330_350_372 Lt350_372 Lt372 ehB) (State.Warmed39.refl _) (mvT (args := a0) hZ (hw _ (List.mem_of_getElem? (i := 82) rfl))) (mvT (args := a0) hZ (hw _ (List.mem_of_getElem? (i := 81) rfl))) (by decide) (by decide)) (g := (mkF m 221 #[.val (.int p0), .val (.int p1), .val (.int p2), .val (.int p3), .val (.int p4), .val (.int (2 : Int32)), .val (.int x0), .val (.int x1), .val (.int x2), .val (.int xq), .val (.ref b269), .val (.ref b278), .val (.ref b298), .val (.ref b316), .val (.ref na396)] [(.int x2), (.int x1), (.int x0), (.int (2 : Int32)), (.int x0), (.ref a350)])) rfl (by rw [hml]; rfl) (argsL := [(.int x0), (.int (2 : Int32)), (.int x0), (.int x1), (.int x2)]) (rest := [(.ref a350)]) (lenOf pd_8 rfl) rfl (by show 2 * 0 + _ ≤ _; exact Nat.le_of_eq rfl) (hb hby at_221) (fun _ _ => ⟨rfl, eh412, (by decide : 12 + 0 ≤ _), (by decide : 166 + 0 ≤ _)⟩)
                dsimp only [Pt.U, Pt.locs, Pt.cells, Pt.slots] at X414 l414 y414 z414 st414 hQ414
                rw [l414] at X414
                subst y414 z414
                obtain ⟨rfl, Nq414, eh414⟩ := hQ414
                have N414 := Fr.app N412 Nq414
                refine own_goW (fun _ k => st414 _ k) ?_
                show own_GW _ _ _ (T414.setTop (mkF m 224 #[.val (.int p0), .val (.int p1), .val (.int p2), .val (.int p3), .val (.int p4), .val (.int (2 : Int32)), .val (.int x0), .val (.int x1), .val (.int x2), .val (.int xq), .val (.ref b269), .val (.ref b278), .val (.ref b298), .val (.ref b316), .val (.ref na396)] [(.ref a350), (.ref a350)])) _ _ _ _ _ _
                refine own_goW (fun _ k => Jvm.RoadKit.acmp (g := (mkF m 224 #[.val (.int p0), .val (.int p1), .val (.int p2), .val (.int p3), .val (.int p4), .val (.int (2 : Int32)), .val (.int x0), .val (.int x1), .val (.int x2), .val (.int xq), .val (.ref b269), .val (.ref b278), .val (.ref b298), .val (.ref b316), .val (.ref na396)] [(.ref a350), (.ref a350)])) X414 hx rfl rfl rfl (pc0 := 224) (pc' := 227) (same := true) rfl (hb hby at_224) rfl (decide_eq_true rfl) (by decide) (by decide) k) ?_
                show own_GW _ _ _ (T414.setTop (mkF m 227 #[.val (.int p0), .val (.int p1), .val (.int p2), .val (.int p3), .val (.int p4), .val (.int (2 : Int32)), .val (.int x0), .val (.int x1), .val (.int x2), .val (.int xq), .val (.ref b269), .val (.ref b278), .val (.ref b298), .val (.ref b316), .val (.ref na396)] [])) _ _ _ _ _ _
                refine own_goW (fun _ k => XS.iconst X414.here hx rfl (hb hby at_227) k) ?_
                show own_GW _ _ _ (T414.setTop (mkF m 228 #[.val (.int p0), .val (.int p1), .val (.int p2), .val (.int p3), .val (.int p4), .val (.int (2 : Int32)), .val (.int x0), .val (.int x1), .val (.int x2), .val (.int xq), .val (.ref b269), .val (.ref b278), .val (.ref b298), .val (.ref b316), .val (.ref na396)] [(.int (1 : Int32))])) _ _ _ _ _ _
                refine own_goW (fun _ k => XS.goto X414.here hx rfl (pc0 := 228) (pc' := 232) rfl (hb hby at_228) (by decide) (by decide) k) ?_
                show own_GW _ _ _ (T414.setTop (mkF m 232 #[.val (.int p0), .val (.int p1), .val (.int p2), .val (.int p3), .val (.int p4), .val (.int (2 : Int32)), .val (.int x0), .val (.int x1), .val (.int x2), .val (.int xq), .val (.ref b269), .val (.ref b278), .val (.ref b298), .val (.ref b316), .val (.ref na396)] [(.int (1 : Int32))])) _ _ _ _ _ _
                have CQ415 := CR372.trans (CHr.keep K396_1 (allS sf383 all0) CR372.1)
                have CE415 : CHr Z own_EL s.vm s.heap T414.vm T414.heap := by rw [hh, show T414.heap = T396.heap from eh414]; exact CQ415.trans (CHv.at X414 hZ (own_EW hw) CQ415.1)
                exact own_endWN X414 hx hlk (t := .boolean) Bd.returns (by simp) (hb hby at_232) hS372 (show _ ≤ T414.heap.size by rw [show T414.heap = T396.heap from eh414]; exact (Nat.le_trans (Nat.le_refl _) K396_1.1)) (by decide) (by decide) CE415 (Q := (Q0 Z p0 p1 p2 p3 p4 zc fm h0 n0)) (by rw [eh414]; exact ⟨rfl, N414, K396_0⟩)
              · skip
                refine own_goW (fun _ k => XS.aload X412.here hx rfl (hb hby at_206) rfl rfl k) ?_
                show own_GW _ _ _ (T412.setTop (mkF m 208 #[.val (.int p0), .val (.int p1), .val (.int p2), .val (.int p3), .val (.int p4), .val (.int (2 : Int32)), .val (.int x0), .val (.int x1), .val (.int x2), .val (.int xq), .val (.ref b269), .val (.ref b278), .val (.ref b298), .val (.ref b316), .val (.ref na396)] [(.ref na396)])) _ _ _ _ _ _
                refine own_goW (fun _ k => XS.iload X412.here hx rfl (hb hby at_208) rfl k) ?_
                show own_GW _ _ _ (T412.setTop (mkF m 210 #[.val (.int p0), .val (.int p1), .val (.int p2), .val (.int p3), .val (.int p4), .val (.int (2 : Int32)), .val (.int x0), .val (.int x1), .val (.int x2), .val (.int xq), .val (.ref b269), .val (.ref b278), .val (.ref b298), .val (.ref b316), .val (.ref na396)] [(.int x0), (.ref na396)])) _ _ _ _ _ _
                obtain ⟨cl416, Ar416, q416, S416, Ng416, H416, G416⟩ := id r396_0
                have in416 : ¬ (x0 < 0 ∨ cl416.slots.size ≤ (x0).toNatClampNeg) := inb_of S416 rg0.inb
                have at416 : cl416.slots[(x0).toNatClampNeg]? = some (.ref a330) := H416.at in416 ((own_set_no _ x1 x0 _ rg1 rg0 enB).trans (own_set_yes _ x0 x0 _ rg0 (by simp only [own_set_len, own_t0_len]) rfl))
                refine own_goW (fun _ k => X412.aaload hx (j := x0) (v := (.ref a330)) (by rw [eh412]; exact Ar416.1) (State.isArrayOf_alike hZ.alike Ar416.2.1) rfl Ar416.2.2 in416 at416 (g := (mkF m 210 #[.val (.int p0), .val (.int p1), .val (.int p2), .val (.int p3), .val (.int p4), .val (.int (2 : Int32)), .val (.int x0), .val (.int x1), .val (.int x2), .val (.int xq), .val (.ref b269), .val (.ref b278), .val (.ref b298), .val (.ref b316), .val (.ref na396)] [(.int x0), (.ref na396)])) rfl rfl (hb hby at_210) _ k) ?_
                show own_GW _ _ _ (T412.setTop (mkF m 211 #[.val (.int p0), .val (.int p1), .val (.int p2), .val (.int p3), .val (.int p4), .val (.int (2 : Int32)), .val (.int x0), .val (.int x1), .val (.int x2), .val (.int xq), .val (.ref b269), .val (.ref b278), .val (.ref b298), .val (.ref b316), .val (.ref na396)] [(.ref a330)])) _ _ _ _ _ _
                refine own_goW (fun _ k => XS.iload X412.here hx rfl (hb hby at_211) rfl k) ?_
                show own_GW _ _ _ (T412.setTop (mkF m 213 #[.val (.int p0), .val (.int p1), .val (.int p2), .val (.int p3), .val (.int p4), .val (.int (2 : Int32)), .val (.int x0), .val (.int x1), .val (.int x2), .val (.int xq), .val (.ref b269), .val (.ref b278), .val (.ref b298), .val (.ref b316), .val (.ref na396)] [(.int x0), (.ref a330)])) _ _ _ _ _ _
                refine own_goW (fun _ k => XS.iload X412.here hx rfl (hb hby at_213) rfl k) ?_
                show own_GW _ _ _ (T412.setTop (mkF m 215 #[.val (.int p0), .val (.int p1), .val (.int p2), .val (.int p3), .val (.int p4), .val (.int (2 : Int32)), .val (.int x0), .val (.int x1), .val (.int x2), .val (.int xq), .val (.ref b269), .val (.ref b278), .val (.ref b298), .val (.ref b316), .val (.ref na396)] [(.int (2 : Int32)), (.int x0), (.ref a330)])) _ _ _ _ _ _
                refine own_goW (fun _ k => XS.iload X412.here hx rfl (hb hby at_215) rfl k) ?_
                show own_GW _ _ _ (T412.setTop (mkF m 217 #[.val (.int p0), .val (.int p1), .val (.int p2), .val (.int p3), .val (.int p4), .val (.int (2 : Int32)), .val (.int x0), .val (.int x1), .val (.int x2), .val (.int xq), .val (.ref b269), .val (.ref b278), .val (.ref b298), .val (.ref b316), .val (.ref na396)] [(.int x0), (.int (2 : Int32)), (.int x0), (.ref a330)])) _ _ _ _ _ _
                refine own_goW (fun _ k => XS.iload X412.here hx rfl (hb hby at_217) rfl k) ?_
                show own_GW _ _ _ (T412.setTop (mkF m 219 #[.val (.int p0), .val (.int p1), .val (.int p2), .val (.int p3), .val (.int p4), .val (.int (2 : Int32)), .val (.int x0), .val (.int x1), .val (.int x2), .val (.int xq), .val (.ref b269), .val (.ref b278), .val (.ref b298), .val (.ref b316), .val (.ref na396)] [(.int x1), (.int x0), (.int (2 : Int32)), (.int x0), (.ref a330)])) _ _ _ _ _ _
                refine own_goW (fun _ k => XS.iload X412.here hx rfl (hb hby at_219) rfl k) ?_
                show own_GW _ _ _ (T412.setTop (mkF m 221 #[.val (.int p0), .val (.int p1), .val (.int p2), .val (.int p3), .val (.int p4), .val (.int (2 : Int32)), .val (.int x0), .val (.int x1), .val (.int x2), .val (.int xq), .val (.ref b269), .val (.ref b278), .val (.ref b298), .val (.ref b316), .val (.ref na396)] [(.int x2), (.int x1), (.int x0), (.int (2 : Int32)), (.int x0), (.ref a330)])) _ _ _ _ _ _
                obtain ⟨_, _, ⟨T417, L417, k417, n417⟩, -, X417, ⟨Lc417, hQ417, l417, y417, z417⟩, st417⟩ := Jvm.LawKit.callS X412 hx (y := (⟨"com/example/issuerd/issuerd/xml/DomReferencesPinLaw", "expected", "(IICCC)Ljava/lang/String;"⟩ : MethodName)) hown (mvT hZ (hw _ (List.mem_of_getElem? (i := 79) rfl))) (mvT hZ (hw _ (List.mem_of_getElem? (i := 80) rfl))) (mvT hZ (hw _ (List.mem_of_getElem? (i := 81) rfl))) (mvT hZ (hw _ (List.mem_of_getElem? (i := 82) rfl))) (by decide) (backOf (W := 1) (rm16d l (s.setVm T372.vm) a0 [] x0 x0 x1 x2 a330 a350 a372 T396.heap n0 Zs396 (mvS hZ (hw _ (List.mem_of_getElem? (i := 11) rfl))) (mvS hZ (hw _ (List.mem_of_getElem? (i := 13) rfl))) (mvS hZ (hw _ (List.mem_of_getElem? (i := 14) rfl))) Lt330_350_372 Lt350_372 Lt372 enB rfl) (State.Warmed39.refl _) (mvT (args := a0) hZ (hw _ (List.mem_of_getElem? (i := 82) rfl))) (mvT (args := a0) hZ (hw _ (List.mem_of_getElem? (i := 81) rfl))) (by decide) (by decide)) (g := (mkF m 221 #[.val (.int p0), .val (.int p1), .val (.int p2), .val (.int p3), .val (.int p4), .val (.int (2 : Int32)), .val (.int x0), .val (.int x1), .val (.int x2), .val (.int xq), .val (.ref b269), .val (.ref b278), .val (.ref b298), .val (.ref b316), .val (.ref na396)] [(.int x2), (.int x1), (.int x0), (.int (2 : Int32)), (.int x0), (.ref a330)])) rfl (by rw [hml]; rfl) (argsL := [(.int x0), (.int (2 : Int32)), (.int x0), (.int x1), (.int x2)]) (rest := [(.ref a330)]) (lenOf pd_8 rfl) rfl (by show 2 * 0 + _ ≤ _; exact Nat.le_of_eq rfl) (hb hby at_221) (fun _ _ => ⟨rfl, eh412, (by decide : 12 + 0 ≤ _), (by decide : 166 + 0 ≤ _)⟩)
                dsimp only [Pt.U, Pt.locs, Pt.cells, Pt.slots] at X417 l417 y417 z417 st417 hQ417
                rw [l417] at X417
                subst y417 z417
                obtain ⟨rfl, Nq417, eh417⟩ := hQ417
                have N417 := Fr.app N412 Nq417
                refine own_goW (fun _ k => st417 _ k) ?_
                show own_GW _ _ _ (T417.setTop (mkF m 224 #[.val (.int p0), .val (.int p1), .val (.int p2), .val (.int p3), .val (.int p4), .val (.int (2 : Int32)), .val (.int x0), .val (.int x1), .val (.int x2), .val (.int xq), .val (.ref b269), .val (.ref b278), .val (.ref b298), .val (.ref b316), .val (.ref na396)] [(.ref a330), (.ref a330)])) _ _ _ _ _ _
                refine own_goW (fun _ k => Jvm.RoadKit.acmp (g := (mkF m 224 #[.val (.int p0), .val (.int p1), .val (.int p2), .val (.int p3), .val (.int p4), .val (.int (2 : Int32)), .val (.int x0), .val (.int x1), .val (.int x2), .val (.int xq), .val (.ref b269), .val (.ref b278), .val (.ref b298), .val (.ref b316), .val (.ref na396)] [(.ref a330), (.ref a330)])) X417 hx rfl rfl rfl (pc0 := 224) (pc' := 227) (same := true) rfl (hb hby at_224) rfl (decide_eq_true rfl) (by decide) (by decide) k) ?_
                show own_GW _ _ _ (T417.setTop (mkF m 227 #[.val (.int p0), .val (.int p1), .val (.int p2), .val (.int p3), .val (.int p4), .val (.int (2 : Int32)), .val (.int x0), .val (.int x1), .val (.int x2), .val (.int xq), .val (.ref b269), .val (.ref b278), .val (.ref b298), .val (.ref b316), .val (.ref na396)] [])) _ _ _ _ _ _
                refine own_goW (fun _ k => XS.iconst X417.here hx rfl (hb hby at_227) k) ?_
                show own_GW _ _ _ (T417.setTop (mkF m 228 #[.val (.int p0), .val (.int p1), .val (.int p2), .val (.int p3), .val (.int p4), .val (.int (2 : Int32)), .val (.int x0), .val (.int x1), .val (.int x2), .val (.int xq), .val (.ref b269), .val (.ref b278), .val (.ref b298), .val (.ref b316), .val (.ref na396)] [(.int (1 : Int32))])) _ _ _ _ _ _
                refine own_goW (fun _ k => XS.goto X417.here hx rfl (pc0 := 228) (pc' := 232) rfl (hb hby at_228) (by decide) (by decide) k) ?_
                show own_GW _ _ _ (T417.setTop (mkF m 232 #[.val (.int p0), .val (.int p1), .val (.int p2), .val (.int p3), .val (.int p4), .val (.int (2 : Int32)), .val (.int x0), .val (.int x1), .val (.int x2), .val (.int xq), .val (.ref b269), .val (.ref b278), .val (.ref b298), .val (.ref b316), .val (.ref na396)] [(.int (1 : Int32))])) _ _ _ _ _ _
                have CQ418 := CR372.trans (CHr.keep K396_1 (allS sf383 all0) CR372.1)
                have CE418 : CHr Z own_EL s.vm s.heap T417.vm T417.heap := by rw [hh, show T417.heap = T396.heap from eh417]; exact CQ418.trans (CHv.at X417 hZ (own_EW hw) CQ418.1)
                exact own_endWN X417 hx hlk (t := .boolean) Bd.returns (by simp) (hb hby at_232) hS372 (show _ ≤ T417.heap.size by rw [show T417.heap = T396.heap from eh417]; exact (Nat.le_trans (Nat.le_refl _) K396_1.1)) (by decide) (by decide) CE418 (Q := (Q0 Z p0 p1 p2 p3 p4 zc fm h0 n0)) (by rw [eh417]; exact ⟨rfl, N417, K396_0⟩)
            · skip
              refine own_goW (fun _ k => XS.aload X396.here hx rfl (hb hby at_185) rfl rfl k) ?_
              show own_GW _ _ _ (T396.setTop (mkF m 187 #[.val (.int p0), .val (.int p1), .val (.int p2), .val (.int p3), .val (.int p4), .val (.int (2 : Int32)), .val (.int x0), .val (.int x1), .val (.int x2), .val (.int xq), .val (.ref b269), .val (.ref b278), .val (.ref b298), .val (.ref b316), .val (.ref na396)] [(.ref na396)])) _ _ _ _ _ _
              refine own_goW (fun _ k => XS.iload X396.here hx rfl (hb hby at_187) rfl k) ?_
              show own_GW _ _ _ (T396.setTop (mkF m 189 #[.val (.int p0), .val (.int p1), .val (.int p2), .val (.int p3), .val (.int p4), .val (.int (2 : Int32)), .val (.int x0), .val (.int x1), .val (.int x2), .val (.int xq), .val (.ref b269), .val (.ref b278), .val (.ref b298), .val (.ref b316), .val (.ref na396)] [(.int xq), (.ref na396)])) _ _ _ _ _ _
              obtain ⟨cl419, Ar419, q419, S419, Ng419, H419, G419⟩ := id r396_0
              have in419 : ¬ (xq < 0 ∨ cl419.slots.size ≤ (xq).toNatClampNeg) := inb_of S419 rgq.inb
              have at419 : cl419.slots[(xq).toNatClampNeg]? = some (.ref a330) := H419.at in419 ((own_set_no _ x1 xq _ rg1 rgq qnB).trans (own_set_yes _ x0 xq _ rg0 (by simp only [own_set_len, own_t0_len]) qhA))
              refine own_goW (fun _ k => X396.aaload hx (j := xq) (v := (.ref a330)) (by exact Ar419.1) (State.isArrayOf_alike hZ.alike Ar419.2.1) rfl Ar419.2.2 in419 at419 (g := (mkF m 189 #[.val (.int p0), .val (.int p1), .val (.int p2), .val (.int p3), .val (.int p4), .val (.int (2 : Int32)), .val (.int x0), .val (.int x1), .val (.int x2), .val (.int xq), .val (.ref b269), .val (.ref b278), .val (.ref b298), .val (.ref b316), .val (.ref na396)] [(.int xq), (.ref na396)])) rfl rfl (hb hby at_189) _ k) ?_
              show own_GW _ _ _ (T396.setTop (mkF m 190 #[.val (.int p0), .val (.int p1), .val (.int p2), .val (.int p3), .val (.int p4), .val (.int (2 : Int32)), .val (.int x0), .val (.int x1), .val (.int x2), .val (.int xq), .val (.ref b269), .val (.ref b278), .val (.ref b298), .val (.ref b316), .val (.ref na396)] [(.ref a330)])) _ _ _ _ _ _
              refine own_goW (fun _ k => XS.iload X396.here hx rfl (hb hby at_190) rfl k) ?_
              show own_GW _ _ _ (T396.setTop (mkF m 192 #[.val (.int p0), .val (.int p1), .val (.int p2), .val (.int p3), .val (.int p4), .val (.int (2 : Int32)), .val (.int x0), .val (.int x1), .val (.int x2), .val (.int xq), .val (.ref b269), .val (.ref b278), .val (.ref b298), .val (.ref b316), .val (.ref na396)] [(.int xq), (.ref a330)])) _ _ _ _ _ _
              refine own_goW (fun _ k => XS.iload X396.here hx rfl (hb hby at_192) rfl k) ?_
              show own_GW _ _ _ (T396.setTop (mkF m 194 #[.val (.int p0), .val (.int p1), .val (.int p2), .val (.int p3), .val (.int p4), .val (.int (2 : Int32)), .val (.int x0), .val (.int x1), .val (.int x2), .val (.int xq), .val (.ref b269), .val (.ref b278), .val (.ref b298), .val (.ref b316), .val (.ref na396)] [(.int (2 : Int32)), (.int xq), (.ref a330)])) _ _ _ _ _ _
              refine own_goW (fun _ k => XS.iload X396.here hx rfl (hb hby at_194) rfl k) ?_
              show own_GW _ _ _ (T396.setTop (mkF m 196 #[.val (.int p0), .val (.int p1), .val (.int p2), .val (.int p3), .val (.int p4), .val (.int (2 : Int32)), .val (.int x0), .val (.int x1), .val (.int x2), .val (.int xq), .val (.ref b269), .val (.ref b278), .val (.ref b298), .val (.ref b316), .val (.ref na396)] [(.int x0), (.int (2 : Int32)), (.int xq), (.ref a330)])) _ _ _ _ _ _
              refine own_goW (fun _ k => XS.iload X396.here hx rfl (hb hby at_196) rfl k) ?_
              show own_GW _ _ _ (T396.setTop (mkF m 198 #[.val (.int p0), .val (.int p1), .val (.int p2), .val (.int p3), .val (.int p4), .val (.int (2 : Int32)), .val (.int x0), .val (.int x1), .val (.int x2), .val (.int xq), .val (.ref b269), .val (.ref b278), .val (.ref b298), .val (.ref b316), .val (.ref na396)] [(.int x1), (.int x0), (.int (2 : Int32)), (.int xq), (.ref a330)])) _ _ _ _ _ _
              refine own_goW (fun _ k => XS.iload X396.here hx rfl (hb hby at_198) rfl k) ?_
              show own_GW _ _ _ (T396.setTop (mkF m 200 #[.val (.int p0), .val (.int p1), .val (.int p2), .val (.int p3), .val (.int p4), .val (.int (2 : Int32)), .val (.int x0), .val (.int x1), .val (.int x2), .val (.int xq), .val (.ref b269), .val (.ref b278), .val (.ref b298), .val (.ref b316), .val (.ref na396)] [(.int x2), (.int x1), (.int x0), (.int (2 : Int32)), (.int xq), (.ref a330)])) _ _ _ _ _ _
              obtain ⟨_, _, ⟨T420, L420, k420, n420⟩, -, X420, ⟨Lc420, hQ420, l420, y420, z420⟩, st420⟩ := Jvm.LawKit.callS X396 hx (y := (⟨"com/example/issuerd/issuerd/xml/DomReferencesPinLaw", "expected", "(IICCC)Ljava/lang/String;"⟩ : MethodName)) hown (mvT hZ (hw _ (List.mem_of_getElem? (i := 79) rfl))) (mvT hZ (hw _ (List.mem_of_getElem? (i := 80) rfl))) (mvT hZ (hw _ (List.mem_of_getElem? (i := 81) rfl))) (mvT hZ (hw _ (List.mem_of_getElem? (i := 82) rfl))) (by decide) (backOf (W := 1) (rm16d l (s.setVm T372.vm) a0 [] xq x0 x1 x2 a330 a350 a372 T396.heap n0 Zs396 (mvS hZ (hw _ (List.mem_of_getElem? (i := 11) rfl))) (mvS hZ (hw _ (List.mem_of_getElem? (i := 13) rfl))) (mvS hZ (hw _ (List.mem_of_getElem? (i := 14) rfl))) Lt330_350_372 Lt350_372 Lt372 qnB qhA) (State.Warmed39.refl _) (mvT (args := a0) hZ (hw _ (List.mem_of_getElem? (i := 82) rfl))) (mvT (args := a0) hZ (hw _ (List.mem_of_getElem? (i := 81) rfl))) (by decide) (by decide)) (g := (mkF m 200 #[.val (.int p0), .val (.int p1), .val (.int p2), .val (.int p3), .val (.int p4), .val (.int (2 : Int32)), .val (.int x0), .val (.int x1), .val (.int x2), .val (.int xq), .val (.ref b269), .val (.ref b278), .val (.ref b298), .val (.ref b316), .val (.ref na396)] [(.int x2), (.int x1), (.int x0), (.int (2 : Int32)), (.int xq), (.ref a330)])) rfl (by rw [hml]; rfl) (argsL := [(.int xq), (.int (2 : Int32)), (.int x0), (.int x1), (.int x2)]) (rest := [(.ref a330)]) (lenOf pd_8 rfl) rfl (by show 2 * 0 + _ ≤ _; exact Nat.le_of_eq rfl) (hb hby at_200) (fun _ _ => ⟨rfl, rfl, (by decide : 12 + 0 ≤ _), (by decide : 166 + 0 ≤ _)⟩)
              dsimp only [Pt.U, Pt.locs, Pt.cells, Pt.slots] at X420 l420 y420 z420 st420 hQ420
              rw [l420] at X420
              subst y420 z420
              obtain ⟨rfl, Nq420, eh420⟩ := hQ420
              have N420 := Fr.app N396 Nq420
              refine own_goW (fun _ k => st420 _ k) ?_
              show own_GW _ _ _ (T420.setTop (mkF m 203 #[.val (.int p0), .val (.int p1), .val (.int p2), .val (.int p3), .val (.int p4), .val (.int (2 : Int32)), .val (.int x0), .val (.int x1), .val (.int x2), .val (.int xq), .val (.ref b269), .val (.ref b278), .val (.ref b298), .val (.ref b316), .val (.ref na396)] [(.ref a330), (.ref a330)])) _ _ _ _ _ _
              refine own_goW (fun _ k => Jvm.RoadKit.acmp (g := (mkF m 203 #[.val (.int p0), .val (.int p1), .val (.int p2), .val (.int p3), .val (.int p4), .val (.int (2 : Int32)), .val (.int x0), .val (.int x1), .val (.int x2), .val (.int xq), .val (.ref b269), .val (.ref b278), .val (.ref b298), .val (.ref b316), .val (.ref na396)] [(.ref a330), (.ref a330)])) X420 hx rfl rfl rfl (pc0 := 203) (pc' := 206) (same := true) rfl (hb hby at_203) rfl (decide_eq_true rfl) (by decide) (by decide) k) ?_
              show own_GW _ _ _ (T420.setTop (mkF m 206 #[.val (.int p0), .val (.int p1), .val (.int p2), .val (.int p3), .val (.int p4), .val (.int (2 : Int32)), .val (.int x0), .val (.int x1), .val (.int x2), .val (.int xq), .val (.ref b269), .val (.ref b278), .val (.ref b298), .val (.ref b316), .val (.ref na396)] [])) _ _ _ _ _ _
              rcases own_c1 x1 x0 with ehB | enB
              · skip
                refine own_goW (fun _ k => XS.aload X420.here hx rfl (hb hby at_206) rfl rfl k) ?_
                show own_GW _ _ _ (T420.setTop (mkF m 208 #[.val (.int p0), .val (.int p1), .val (.int p2), .val (.int p3), .val (.int p4), .val (.int (2 : Int32)), .val (.int x0), .val (.int x1), .val (.int x2), .val (.int xq), .val (.ref b269), .val (.ref b278), .val (.ref b298), .val (.ref b316), .val (.ref na396)] [(.ref na396)])) _ _ _ _ _ _
                refine own_goW (fun _ k => XS.iload X420.here hx rfl (hb hby at_208) rfl k) ?_
                show own_GW _ _ _ (T420.setTop (mkF m 210 #[.val (.int p0), .val (.int p1), .val (.int p2), .val (.int p3), .val (.int p4), .val (.int (2 : Int32)), .val (.int x0), .val (.int x1), .val (.int x2), .val (.int xq), .val (.ref b269), .val (.ref b278), .val (.ref b298), .val (.ref b316), .val (.ref na396)] [(.int x0), (.ref na396)])) _ _ _ _ _ _
                obtain ⟨cl421, Ar421, q421, S421, Ng421, H421, G421⟩ := id r396_0
                have in421 : ¬ (x0 < 0 ∨ cl421.slots.size ≤ (x0).toNatClampNeg) := inb_of S421 rg0.inb
                have at421 : cl421.slots[(x0).toNatClampNeg]? = some (.ref a350) := H421.at in421 (own_set_yes _ x1 x0 _ rg1 (by simp only [own_set_len, own_t0_len]) ehB)
                refine own_goW (fun _ k => X420.aaload hx (j := x0) (v := (.ref a350)) (by rw [eh420]; exact Ar421.1) (State.isArrayOf_alike hZ.alike Ar421.2.1) rfl Ar421.2.2 in421 at421 (g := (mkF m 210 #[.val (.int p0), .val (.int p1), .val (.int p2), .val (.int p3), .val (.int p4), .val (.int (2 : Int32)), .val (.int x0), .val (.int x1), .val (.int x2), .val (.int xq), .val (.ref b269), .val (.ref b278), .val (.ref b298), .val (.ref b316), .val (.ref na396)] [(.int x0), (.ref na396)])) rfl rfl (hb hby at_210) _ k) ?_
                show own_GW _ _ _ (T420.setTop (mkF m 211 #[.val (.int p0), .val (.int p1), .val (.int p2), .val (.int p3), .val (.int p4), .val (.int (2 : Int32)), .val (.int x0), .val (.int x1), .val (.int x2), .val (.int xq), .val (.ref b269), .val (.ref b278), .val (.ref b298), .val (.ref b316), .val (.ref na396)] [(.ref a350)])) _ _ _ _ _ _
                refine own_goW (fun _ k => XS.iload X420.here hx rfl (hb hby at_211) rfl k) ?_
                show own_GW _ _ _ (T420.setTop (mkF m 213 #[.val (.int p0), .val (.int p1), .val (.int p2), .val (.int p3), .val (.int p4), .val (.int (2 : Int32)), .val (.int x0), .val (.int x1), .val (.int x2), .val (.int xq), .val (.ref b269), .val (.ref b278), .val (.ref b298), .val (.ref b316), .val (.ref na396)] [(.int x0), (.ref a350)])) _ _ _ _ _ _
                refine own_goW (fun _ k => XS.iload X420.here hx rfl (hb hby at_213) rfl k) ?_
                show own_GW _ _ _ (T420.setTop (mkF m 215 #[.val (.int p0), .val (.int p1), .val (.int p2), .val (.int p3), .val (.int p4), .val (.int (2 : Int32)), .val (.int x0), .val (.int x1), .val (.int x2), .val (.int xq), .val (.ref b269), .val (.ref b278), .val (.ref b298), .val (.ref b316), .val (.ref na396)] [(.int (2 : Int32)), (.int x0), (.ref a350)])) _ _ _ _ _ _
                refine own_goW (fun _ k => XS.iload X420.here hx rfl (hb hby at_215) rfl k) ?_
                show own_GW _ _ _ (T420.setTop (mkF m 217 #[.val (.int p0), .val (.int p1), .val (.int p2), .val (.int p3), .val (.int p4), .val (.int (2 : Int32)), .val (.int x0), .val (.int x1), .val (.int x2), .val (.int xq), .val (.ref b269), .val (.ref b278), .val (.ref b298), .val (.ref b316), .val (.ref na396)] [(.int x0), (.int (2 : Int32)), (.int x0), (.ref a350)])) _ _ _ _ _ _
                refine own_goW (fun _ k => XS.iload X420.here hx rfl (hb hby at_217) rfl k) ?_
                show own_GW _ _ _ (T420.setTop (mkF m 219 #[.val (.int p0), .val (.int p1), .val (.int p2), .val (.int p3), .val (.int p4), .val (.int (2 : Int32)), .val (.int x0), .val (.int x1), .val (.int x2), .val (.int xq), .val (.ref b269), .val (.ref b278), .val (.ref b298), .val (.ref b316), .val (.ref na396)] [(.int x1), (.int x0), (.int (2 : Int32)), (.int x0), (.ref a350)])) _ _ _ _ _ _
                refine own_goW (fun _ k => XS.iload X420.here hx rfl (hb hby at_219) rfl k) ?_
                show own_GW _ _ _ (T420.setTop (mkF m 221 #[.val (.int p0), .val (.int p1), .val (.int p2), .val (.int p3), .val (.int p4), .val (.int (2 : Int32)), .val (.int x0), .val (.int x1), .val (.int x2), .val (.int xq), .val (.ref b269), .val (.ref b278), .val (.ref b298), .val (.ref b316), .val (.ref na396)] [(.int x2), (.int x1), (.int x0), (.int (2 : Int32)), (.int x0), (.ref a350)])) _ _ _ _ _ _
                obtain ⟨_, _, ⟨T422, L422, k422, n422⟩, -, X422, ⟨Lc422, hQ422, l422, y422, z422⟩, st422⟩ := Jvm.LawKit.callS X420 hx (y := (⟨"com/example/issuerd/issuerd/xml/DomReferencesPinLaw", "expected", "(IICCC)Ljava/lang/String;"⟩ : MethodName)) hown (mvT hZ (hw _ (List.mem_of_getElem? (i := 79) rfl))) (mvT hZ (hw _ (List.mem_of_getElem? (i := 80) rfl))) (mvT hZ (hw _ (List.mem_of_getElem? (i := 81) rfl))) (mvT hZ (hw _ (List.mem_of_getElem? (i := 82) rfl))) (by decide) (backOf (W := 1) (rm16c l (s.setVm T372.vm) a0 [] x0 x0 x1 x2 a330 a350 a372 T396.heap n0 Zs396 (mvS hZ (hw _ (List.mem_of_getElem? (i := 11) rfl))) (mvS hZ (hw _ (List.mem_of_getElem? (i := 13) rfl))) (mvS hZ (hw _ (List.mem_of_getElem? (i := 14) rfl))) Lt330_350_372 Lt350_372 Lt372 ehB) (State.Warmed39.refl _) (mvT (args := a0) hZ (hw _ (List.mem_of_getElem? (i := 82) rfl))) (mvT (args := a0) hZ (hw _ (List.mem_of_getElem? (i := 81) rfl))) (by decide) (by decide)) (g := (mkF m 221 #[.val (.int p0), .val (.int p1), .val (.int p2), .val (.int p3), .val (.int p4), .val (.int (2 : Int32)), .val (.int x0), .val (.int x1), .val (.int x2), .val (.int xq), .val (.ref b269), .val (.ref b278), .val (.ref b298), .val (.ref b316), .val (.ref na396)] [(.int x2), (.int x1), (.int x0), (.int (2 : Int32)), (.int x0), (.ref a350)])) rfl (by rw [hml]; rfl) (argsL := [(.int x0), (.int (2 : Int32)), (.int x0), (.int x1), (.int x2)]) (rest := [(.ref a350)]) (lenOf pd_8 rfl) rfl (by show 2 * 0 + _ ≤ _; exact Nat.le_of_eq rfl) (hb hby at_221) (fun _ _ => ⟨rfl, eh420, (by decide : 12 + 0 ≤ _), (by decide : 166 + 0 ≤ _)⟩)
                dsimp only [Pt.U, Pt.locs, Pt.cells, Pt.slots] at X422 l422 y422 z422 st422 hQ422
                rw [l422] at X422
                subst y422 z422
                obtain ⟨rfl, Nq422, eh422⟩ := hQ422
                have N422 := Fr.app N420 Nq422
                refine own_goW (fun _ k => st422 _ k) ?_
                show own_GW _ _ _ (T422.setTop (mkF m 224 #[.val (.int p0), .val (.int p1), .val (.int p2), .val (.int p3), .val (.int p4), .val (.int (2 : Int32)), .val (.int x0), .val (.int x1), .val (.int x2), .val (.int xq), .val (.ref b269), .val (.ref b278), .val (.ref b298), .val (.ref b316), .val (.ref na396)] [(.ref a350), (.ref a350)])) _ _ _ _ _ _
                refine own_goW (fun _ k => Jvm.RoadKit.acmp (g := (mkF m 224 #[.val (.int p0), .val (.int p1), .val (.int p2), .val (.int p3), .val (.int p4), .val (.int (2 : Int32)), .val (.int x0), .val (.int x1), .val (.int x2), .val (.int xq), .val (.ref b269), .val (.ref b278), .val (.ref b298), .val (.ref b316), .val (.ref na396)] [(.ref a350), (.ref a350)])) X422 hx rfl rfl rfl (pc0 := 224) (pc' := 227) (same := true) rfl (hb hby at_224) rfl (decide_eq_true rfl) (by decide) (by decide) k) ?_
                show own_GW _ _ _ (T422.setTop (mkF m 227 #[.val (.int p0), .val (.int p1), .val (.int p2), .val (.int p3), .val (.int p4), .val (.int (2 : Int32)), .val (.int x0), .val (.int x1), .val (.int x2), .val (.int xq), .val (.ref b269), .val (.ref b278), .val (.ref b298), .val (.ref b316), .val (.ref na396)] [])) _ _ _ _ _ _
                refine own_goW (fun _ k => XS.iconst X422.here hx rfl (hb hby at_227) k) ?_
                show own_GW _ _ _ (T422.setTop (mkF m 228 #[.val (.int p0), .val (.int p1), .val (.int p2), .val (.int p3), .val (.int p4), .val (.int (2 : Int32)), .val (.int x0), .val (.int x1), .val (.int x2), .val (.int xq), .val (.ref b269), .val (.ref b278), .val (.ref b298), .val (.ref b316), .val (.ref na396)] [(.int (1 : Int32))])) _ _ _ _ _ _
                refine own_goW (fun _ k => XS.goto X422.here hx rfl (pc0 := 228) (pc' := 232) rfl (hb hby at_228) (by decide) (by decide) k) ?_
                show own_GW _ _ _ (T422.setTop (mkF m 232 #[.val (.int p0), .val (.int p1), .val (.int p2), .val (.int p3), .val (.int p4), .val (.int (2 : Int32)), .val (.int x0), .val (.int x1), .val (.int x2), .val (.int xq), .val (.ref b269), .val (.ref b278), .val (.ref b298), .val (.ref b316), .val (.ref na396)] [(.int (1 : Int32))])) _ _ _ _ _ _
                have CQ423 := CR372.trans (CHr.keep K396_1 (allS sf383 all0) CR372.1)
                have CE423 : CHr Z own_EL s.vm s.heap T422.vm T422.heap := by rw [hh, show T422.heap = T396.heap from eh422]; exact CQ423.trans (CHv.at X422 hZ (own_EW hw) CQ423.1)
                exact own_endWN X422 hx hlk (t := .boolean) Bd.returns (by simp) (hb hby at_232) hS372 (show _ ≤ T422.heap.size by rw [show T422.heap = T396.heap from eh422]; exact (Nat.le_trans (Nat.le_refl _) K396_1.1)) (by decide) (by decide) CE423 (Q := (Q0 Z p0 p1 p2 p3 p4 zc fm h0 n0)) (by rw [eh422]; exact ⟨rfl, N422, K396_0⟩)
              · skip
                refine own_goW (fun _ k => XS.aload X420.here hx rfl (hb hby at_206) rfl rfl k) ?_
                show own_GW _ _ _ (T420.setTop (mkF m 208 #[.val (.int p0), .val (.int p1), .val (.int p2), .val (.int p3), .val (.int p4), .val (.int (2 : Int32)), .val (.int x0), .val (.int x1), .val (.int x2), .val (.int xq), .val (.ref b269), .val (.ref b278), .val (.ref b298), .val (.ref b316), .val (.ref na396)] [(.ref na396)])) _ _ _ _ _ _
                refine own_goW (fun _ k => XS.iload X420.here hx rfl (hb hby at_208) rfl k) ?_
                show own_GW _ _ _ (T420.setTop (mkF m 210 #[.val (.int p0), .val (.int p1), .val (.int p2), .val (.int p3), .val (.int p4), .val (.int (2 : Int32)), .val (.int x0), .val (.int x1), .val (.int x2), .val (.int xq), .val (.ref b269), .val (.ref b278), .val (.ref b298), .val (.ref b316), .val (.ref na396)] [(.int x0), (.ref na396)])) _ _ _ _ _ _
                obtain ⟨cl424, Ar424, q424, S424, Ng424, H424, G424⟩ := id r396_0
                have in424 : ¬ (x0 < 0 ∨ cl424.slots.size ≤ (x0).toNatClampNeg) := inb_of S424 rg0.inb
                have at424 : cl424.slots[(x0).toNatClampNeg]? = some (.ref a330) := H424.at in424 ((own_set_no _ x1 x0 _ rg1 rg0 enB).trans (own_set_yes _ x0 x0 _ rg0 (by simp only [own_set_len, own_t0_len]) rfl))
                refine own_goW (fun _ k => X420.aaload hx (j := x0) (v := (.ref a330)) (by rw [eh420]; exact Ar424.1) (State.isArrayOf_alike hZ.alike Ar424.2.1) rfl Ar424.2.2 in424 at424 (g := (mkF m 210 #[.val (.int p0), .val (.int p1), .val (.int p2), .val (.int p3), .val (.int p4), .val (.int (2 : Int32)), .val (.int x0), .val (.int x1), .val (.int x2), .val (.int xq), .val (.ref b269), .val (.ref b278), .val (.ref b298), .val (.ref b316), .val (.ref na396)] [(.int x0), (.ref na396)])) rfl rfl (hb hby at_210) _ k) ?_
                show own_GW _ _ _ (T420.setTop (mkF m 211 #[.val (.int p0), .val (.int p1), .val (.int p2), .val (.int p3), .val (.int p4), .val (.int (2 : Int32)), .val (.int x0), .val (.int x1), .val (.int x2), .val (.int xq), .val (.ref b269), .val (.ref b278), .val (.ref b298), .val (.ref b316), .val (.ref na396)] [(.ref a330)])) _ _ _ _ _ _
                refine own_goW (fun _ k => XS.iload X420.here hx rfl (hb hby at_211) rfl k) ?_
                show own_GW _ _ _ (T420.setTop (mkF m 213 #[.val (.int p0), .val (.int p1), .val (.int p2), .val (.int p3), .val (.int p4), .val (.int (2 : Int32)), .val (.int x0), .val (.int x1), .val (.int x2), .val (.int xq), .val (.ref b269), .val (.ref b278), .val (.ref b298), .val (.ref b316), .val (.ref na396)] [(.int x0), (.ref a330)])) _ _ _ _ _ _
                refine own_goW (fun _ k => XS.iload X420.here hx rfl (hb hby at_213) rfl k) ?_
                show own_GW _ _ _ (T420.setTop (mkF m 215 #[.val (.int p0), .val (.int p1), .val (.int p2), .val (.int p3), .val (.int p4), .val (.int (2 : Int32)), .val (.int x0), .val (.int x1), .val (.int x2), .val (.int xq), .val (.ref b269), .val (.ref b278), .val (.ref b298), .val (.ref b316), .val (.ref na396)] [(.int (2 : Int32)), (.int x0), (.ref a330)])) _ _ _ _ _ _
                refine own_goW (fun _ k => XS.iload X420.here hx rfl (hb hby at_215) rfl k) ?_
                show own_GW _ _ _ (T420.setTop (mkF m 217 #[.val (.int p0), .val (.int p1), .val (.int p2), .val (.int p3), .val (.int p4), .val (.int (2 : Int32)), .val (.int x0), .val (.int x1), .val (.int x2), .val (.int xq), .val (.ref b269), .val (.ref b278), .val (.ref b298), .val (.ref b316), .val (.ref na396)] [(.int x0), (.int (2 : Int32)), (.int x0), (.ref a330)])) _ _ _ _ _ _
                refine own_goW (fun _ k => XS.iload X420.here hx rfl (hb hby at_217) rfl k) ?_
                show own_GW _ _ _ (T420.setTop (mkF m 219 #[.val (.int p0), .val (.int p1), .val (.int p2), .val (.int p3), .val (.int p4), .val (.int (2 : Int32)), .val (.int x0), .val (.int x1), .val (.int x2), .val (.int xq), .val (.ref b269), .val (.ref b278), .val (.ref b298), .val (.ref b316), .val (.ref na396)] [(.int x1), (.int x0), (.int (2 : Int32)), (.int x0), (.ref a330)])) _ _ _ _ _ _
                refine own_goW (fun _ k => XS.iload X420.here hx rfl (hb hby at_219) rfl k) ?_
                show own_GW _ _ _ (T420.setTop (mkF m 221 #[.val (.int p0), .val (.int p1), .val (.int p2), .val (.int p3), .val (.int p4), .val (.int (2 : Int32)), .val (.int x0), .val (.int x1), .val (.int x2), .val (.int xq), .val (.ref b269), .val (.ref b278), .val (.ref b298), .val (.ref b316), .val (.ref na396)] [(.int x2), (.int x1), (.int x0), (.int (2 : Int32)), (.int x0), (.ref a330)])) _ _ _ _ _ _
                obtain ⟨_, _, ⟨T425, L425, k425, n425⟩, -, X425, ⟨Lc425, hQ425, l425, y425, z425⟩, st425⟩ := Jvm.LawKit.callS X420 hx (y := (⟨"com/example/issuerd/issuerd/xml/DomReferencesPinLaw", "expected", "(IICCC)Ljava/lang/String;"⟩ : MethodName)) hown (mvT hZ (hw _ (List.mem_of_getElem? (i := 79) rfl))) (mvT hZ (hw _ (List.mem_of_getElem? (i := 80) rfl))) (mvT hZ (hw _ (List.mem_of_getElem? (i := 81) rfl))) (mvT hZ (hw _ (List.mem_of_getElem? (i := 82) rfl))) (by decide) (backOf (W := 1) (rm16d l (s.setVm T372.vm) a0 [] x0 x0 x1 x2 a330 a350 a372 T396.heap n0 Zs396 (mvS hZ (hw _ (List.mem_of_getElem? (i := 11) rfl))) (mvS hZ (hw _ (List.mem_of_getElem? (i := 13) rfl))) (mvS hZ (hw _ (List.mem_of_getElem? (i := 14) rfl))) Lt330_350_372 Lt350_372 Lt372 enB rfl) (State.Warmed39.refl _) (mvT (args := a0) hZ (hw _ (List.mem_of_getElem? (i := 82) rfl))) (mvT (args := a0) hZ (hw _ (List.mem_of_getElem? (i := 81) rfl))) (by decide) (by decide)) (g := (mkF m 221 #[.val (.int p0), .val (.int p1), .val (.int p2), .val (.int p3), .val (.int p4), .val (.int (2 : Int32)), .val (.int x0), .val (.int x1), .val (.int x2), .val (.int xq), .val (.ref b269), .val (.ref b278), .val (.ref b298), .val (.ref b316), .val (.ref na396)] [(.int x2), (.int x1), (.int x0), (.int (2 : Int32)), (.int x0), (.ref a330)])) rfl (by rw [hml]; rfl) (argsL := [(.int x0), (.int (2 : Int32)), (.int x0), (.int x1), (.int x2)]) (rest := [(.ref a330)]) (lenOf pd_8 rfl) rfl (by show 2 * 0 + _ ≤ _; exact Nat.le_of_eq rfl) (hb hby at_221) (fun _ _ => ⟨rfl, eh420, (by decide : 12 + 0 ≤ _), (by decide : 166 + 0 ≤ _)⟩)
                dsimp only [Pt.U, Pt.locs, Pt.cells, Pt.slots] at X425 l425 y425 z425 st425 hQ425
                rw [l425] at X425
                subst y425 z425
                obtain ⟨rfl, Nq425, eh425⟩ := hQ425
                have N425 := Fr.app N420 Nq425
                refine own_goW (fun _ k => st425 _ k) ?_
                show own_GW _ _ _ (T425.setTop (mkF m 224 #[.val (.int p0), .val (.int p1), .val (.int p2), .val (.int p3), .val (.int p4), .val (.int (2 : Int32)), .val (.int x0), .val (.int x1), .val (.int x2), .val (.int xq), .val (.ref b269), .val (.ref b278), .val (.ref b298), .val (.ref b316), .val (.ref na396)] [(.ref a330), (.ref a330)])) _ _ _ _ _ _
                refine own_goW (fun _ k => Jvm.RoadKit.acmp (g := (mkF m 224 #[.val (.int p0), .val (.int p1), .val (.int p2), .val (.int p3), .val (.int p4), .val (.int (2 : Int32)), .val (.int x0), .val (.int x1), .val (.int x2), .val (.int xq), .val (.ref b269), .val (.ref b278), .val (.ref b298), .val (.ref b316), .val (.ref na396)] [(.ref a330), (.ref a330)])) X425 hx rfl rfl rfl (pc0 := 224) (pc' := 227) (same := true) rfl (hb hby at_224) rfl (decide_eq_true rfl) (by decide) (by decide) k) ?_
                show own_GW _ _ _ (T425.setTop (mkF m 227 #[.val (.int p0), .val (.int p1), .val (.int p2), .val (.int p3), .val (.int p4), .val (.int (2 : Int32)), .val (.int x0), .val (.int x1), .val (.int x2), .val (.int xq), .val (.ref b269), .val (.ref b278), .val (.ref b298), .val (.ref b316), .val (.ref na396)] [])) _ _ _ _ _ _
                refine own_goW (fun _ k => XS.iconst X425.here hx rfl (hb hby at_227) k) ?_
                show own_GW _ _ _ (T425.setTop (mkF m 228 #[.val (.int p0), .val (.int p1), .val (.int p2), .val (.int p3), .val (.int p4), .val (.int (2 : Int32)), .val (.int x0), .val (.int x1), .val (.int x2), .val (.int xq), .val (.ref b269), .val (.ref b278), .val (.ref b298), .val (.ref b316), .val (.ref na396)] [(.int (1 : Int32))])) _ _ _ _ _ _
                refine own_goW (fun _ k => XS.goto X425.here hx rfl (pc0 := 228) (pc' := 232) rfl (hb hby at_228) (by decide) (by decide) k) ?_
                show own_GW _ _ _ (T425.setTop (mkF m 232 #[.val (.int p0), .val (.int p1), .val (.int p2), .val (.int p3), .val (.int p4), .val (.int (2 : Int32)), .val (.int x0), .val (.int x1), .val (.int x2), .val (.int xq), .val (.ref b269), .val (.ref b278), .val (.ref b298), .val (.ref b316), .val (.ref na396)] [(.int (1 : Int32))])) _ _ _ _ _ _
                have CQ426 := CR372.trans (CHr.keep K396_1 (allS sf383 all0) CR372.1)
                have CE426 : CHr Z own_EL s.vm s.heap T425.vm T425.heap := by rw [hh, show T425.heap = T396.heap from eh425]; exact CQ426.trans (CHv.at X425 hZ (own_EW hw) CQ426.1)
                exact own_endWN X425 hx hlk (t := .boolean) Bd.returns (by simp) (hb hby at_232) hS372 (show _ ≤ T425.heap.size by rw [show T425.heap = T396.heap from eh425]; exact (Nat.le_trans (Nat.le_refl _) K396_1.1)) (by decide) (by decide) CE426 (Q := (Q0 Z p0 p1 p2 p3 p4 zc fm h0 n0)) (by rw [eh425]; exact ⟨rfl, N425, K396_0⟩)
            · skip
              refine own_goW (fun _ k => XS.aload X396.here hx rfl (hb hby at_185) rfl rfl k) ?_
              show own_GW _ _ _ (T396.setTop (mkF m 187 #[.val (.int p0), .val (.int p1), .val (.int p2), .val (.int p3), .val (.int p4), .val (.int (2 : Int32)), .val (.int x0), .val (.int x1), .val (.int x2), .val (.int xq), .val (.ref b269), .val (.ref b278), .val (.ref b298), .val (.ref b316), .val (.ref na396)] [(.ref na396)])) _ _ _ _ _ _
              refine own_goW (fun _ k => XS.iload X396.here hx rfl (hb hby at_187) rfl k) ?_
              show own_GW _ _ _ (T396.setTop (mkF m 189 #[.val (.int p0), .val (.int p1), .val (.int p2), .val (.int p3), .val (.int p4), .val (.int (2 : Int32)), .val (.int x0), .val (.int x1), .val (.int x2), .val (.int xq), .val (.ref b269), .val (.ref b278), .val (.ref b298), .val (.ref b316), .val (.ref na396)] [(.int xq), (.ref na396)])) _ _ _ _ _ _
              obtain ⟨cl427, Ar427, q427, S427, Ng427, H427, G427⟩ := id r396_0
              have in427 : ¬ (xq < 0 ∨ cl427.slots.size ≤ (xq).toNatClampNeg) := inb_of S427 rgq.inb
              have at427 : cl427.slots[(xq).toNatClampNeg]? = some .null := H427.at in427 (((own_set_no _ x1 xq _ rg1 rgq qnB).trans (own_set_no _ x0 xq _ rg0 rgq qnA)).trans (own_t0_get _))
              refine own_goW (fun _ k => X396.aaload hx (j := xq) (v := .null) (by exact Ar427.1) (State.isArrayOf_alike hZ.alike Ar427.2.1) rfl Ar427.2.2 in427 at427 (g := (mkF m 189 #[.val (.int p0), .val (.int p1), .val (.int p2), .val (.int p3), .val (.int p4), .val (.int (2 : Int32)), .val (.int x0), .val (.int x1), .val (.int x2), .val (.int xq), .val (.ref b269), .val (.ref b278), .val (.ref b298), .val (.ref b316), .val (.ref na396)] [(.int xq), (.ref na396)])) rfl rfl (hb hby at_189) _ k) ?_
              show own_GW _ _ _ (T396.setTop (mkF m 190 #[.val (.int p0), .val (.int p1), .val (.int p2), .val (.int p3), .val (.int p4), .val (.int (2 : Int32)), .val (.int x0), .val (.int x1), .val (.int x2), .val (.int xq), .val (.ref b269), .val (.ref b278), .val (.ref b298), .val (.ref b316), .val (.ref na396)] [.null])) _ _ _ _ _ _
              refine own_goW (fun _ k => XS.iload X396.here hx rfl (hb hby at_190) rfl k) ?_
              show own_GW _ _ _ (T396.setTop (mkF m 192 #[.val (.int p0), .val (.int p1), .val (.int p2), .val (.int p3), .val (.int p4), .val (.int (2 : Int32)), .val (.int x0), .val (.int x1), .val (.int x2), .val (.int xq), .val (.ref b269), .val (.ref b278), .val (.ref b298), .val (.ref b316), .val (.ref na396)] [(.int xq), .null])) _ _ _ _ _ _
              refine own_goW (fun _ k => XS.iload X396.here hx rfl (hb hby at_192) rfl k) ?_
              show own_GW _ _ _ (T396.setTop (mkF m 194 #[.val (.int p0), .val (.int p1), .val (.int p2), .val (.int p3), .val (.int p4), .val (.int (2 : Int32)), .val (.int x0), .val (.int x1), .val (.int x2), .val (.int xq), .val (.ref b269), .val (.ref b278), .val (.ref b298), .val (.ref b316), .val (.ref na396)] [(.int (2 : Int32)), (.int xq), .null])) _ _ _ _ _ _
              refine own_goW (fun _ k => XS.iload X396.here hx rfl (hb hby at_194) rfl k) ?_
              show own_GW _ _ _ (T396.setTop (mkF m 196 #[.val (.int p0), .val (.int p1), .val (.int p2), .val (.int p3), .val (.int p4), .val (.int (2 : Int32)), .val (.int x0), .val (.int x1), .val (.int x2), .val (.int xq), .val (.ref b269), .val (.ref b278), .val (.ref b298), .val (.ref b316), .val (.ref na396)] [(.int x0), (.int (2 : Int32)), (.int xq), .null])) _ _ _ _ _ _
              refine own_goW (fun _ k => XS.iload X396.here hx rfl (hb hby at_196) rfl k) ?_
              show own_GW _ _ _ (T396.setTop (mkF m 198 #[.val (.int p0), .val (.int p1), .val (.int p2), .val (.int p3), .val (.int p4), .val (.int (2 : Int32)), .val (.int x0), .val (.int x1), .val (.int x2), .val (.int xq), .val (.ref b269), .val (.ref b278), .val (.ref b298), .val (.ref b316), .val (.ref na396)] [(.int x1), (.int x0), (.int (2 : Int32)), (.int xq), .null])) _ _ _ _ _ _
              refine own_goW (fun _ k => XS.iload X396.here hx rfl (hb hby at_198) rfl k) ?_
              show own_GW _ _ _ (T396.setTop (mkF m 200 #[.val (.int p0), .val (.int p1), .val (.int p2), .val (.int p3), .val (.int p4), .val (.int (2 : Int32)), .val (.int x0), .val (.int x1), .val (.int x2), .val (.int xq), .val (.ref b269), .val (.ref b278), .val (.ref b298), .val (.ref b316), .val (.ref na396)] [(.int x2), (.int x1), (.int x0), (.int (2 : Int32)), (.int xq), .null])) _ _ _ _ _ _
              obtain ⟨_, _, ⟨T428, L428, k428, n428⟩, -, X428, ⟨Lc428, hQ428, l428, y428, z428⟩, st428⟩ := Jvm.LawKit.callS X396 hx (y := (⟨"com/example/issuerd/issuerd/xml/DomReferencesPinLaw", "expected", "(IICCC)Ljava/lang/String;"⟩ : MethodName)) hown (mvT hZ (hw _ (List.mem_of_getElem? (i := 79) rfl))) (mvT hZ (hw _ (List.mem_of_getElem? (i := 80) rfl))) (mvT hZ (hw _ (List.mem_of_getElem? (i := 81) rfl))) (mvT hZ (hw _ (List.mem_of_getElem? (i := 82) rfl))) (by decide) (backOf (W := 1) (rm16e l (s.setVm T372.vm) a0 [] xq x0 x1 x2 a330 a350 a372 T396.heap n0 Zs396 (mvS hZ (hw _ (List.mem_of_getElem? (i := 11) rfl))) (mvS hZ (hw _ (List.mem_of_getElem? (i := 13) rfl))) (mvS hZ (hw _ (List.mem_of_getElem? (i := 14) rfl))) Lt330_350_372 Lt350_372 Lt372 qnB qnA) (State.Warmed39.refl _) (mvT (args := a0) hZ (hw _ (List.mem_of_getElem? (i := 82) rfl))) (mvT (args := a0) hZ (hw _ (List.mem_of_getElem? (i := 81) rfl))) (by decide) (by decide)) (g := (mkF m 200 #[.val (.int p0), .val (.int p1), .val (.int p2), .val (.int p3), .val (.int p4), .val (.int (2 : Int32)), .val (.int x0), .val (.int x1), .val (.int x2), .val (.int xq), .val (.ref b269), .val (.ref b278), .val (.ref b298), .val (.ref b316), .val (.ref na396)] [(.int x2), (.int x1), (.int x0), (.int (2 : Int32)), (.int xq), .null])) rfl (by rw [hml]; rfl) (argsL := [(.int xq), (.int (2 : Int32)), (.int x0), (.int x1), (.int x2)]) (rest := [.null]) (lenOf pd_8 rfl) rfl (by show 2 * 0 + _ ≤ _; exact Nat.le_of_eq rfl) (hb hby at_200) (fun _ _ => ⟨rfl, rfl, (by decide : 12 + 0 ≤ _), (by decide : 166 + 0 ≤ _)⟩)
              dsimp only [Pt.U, Pt.locs, Pt.cells, Pt.slots] at X428 l428 y428 z428 st428 hQ428
              rw [l428] at X428
              subst y428 z428
              obtain ⟨rfl, Nq428, eh428⟩ := hQ428
              have N428 := Fr.app N396 Nq428
              refine own_goW (fun _ k => st428 _ k) ?_
              show own_GW _ _ _ (T428.setTop (mkF m 203 #[.val (.int p0), .val (.int p1), .val (.int p2), .val (.int p3), .val (.int p4), .val (.int (2 : Int32)), .val (.int x0), .val (.int x1), .val (.int x2), .val (.int xq), .val (.ref b269), .val (.ref b278), .val (.ref b298), .val (.ref b316), .val (.ref na396)] [.null, .null])) _ _ _ _ _ _
              refine own_goW (fun _ k => Jvm.RoadKit.acmp (g := (mkF m 203 #[.val (.int p0), .val (.int p1), .val (.int p2), .val (.int p3), .val (.int p4), .val (.int (2 : Int32)), .val (.int x0), .val (.int x1), .val (.int x2), .val (.int xq), .val (.ref b269), .val (.ref b278), .val (.ref b298), .val (.ref b316), .val (.ref na396)] [.null, .null])) X428 hx rfl rfl rfl (pc0 := 203) (pc' := 206) (same := true) rfl (hb hby at_203) rfl (decide_eq_true rfl) (by decide) (by decide) k) ?_
              show own_GW _ _ _ (T428.setTop (mkF m 206 #[.val (.int p0), .val (.int p1), .val (.int p2), .val (.int p3), .val (.int p4), .val (.int (2 : Int32)), .val (.int x0), .val (.int x1), .val (.int x2), .val (.int xq), .val (.ref b269), .val (.ref b278), .val (.ref b298), .val (.ref b316), .val (.ref na396)] [])) _ _ _ _ _ _
              rcases own_c1 x1 x0 with ehB | enB
              · skip
                refine own_goW (fun _ k => XS.aload X428.here hx rfl (hb hby at_206) rfl rfl k) ?_
                show own_GW _ _ _ (T428.setTop (mkF m 208 #[.val (.int p0), .val (.int p1), .val (.int p2), .val (.int p3), .val (.int p4), .val (.int (2 : Int32)), .val (.int x0), .val (.int x1), .val (.int x2), .val (.int xq), .val (.ref b269), .val (.ref b278), .val (.ref b298), .val (.ref b316), .val (.ref na396)] [(.ref na396)])) _ _ _ _ _ _
                refine own_goW (fun _ k => XS.iload X428.here hx rfl (hb hby at_208) rfl k) ?_
                show own_GW _ _ _ (T428.setTop (mkF m 210 #[.val (.int p0), .val (.int p1), .val (.int p2), .val (.int p3), .val (.int p4), .val (.int (2 : Int32)), .val (.int x0), .val (.int x1), .val (.int x2), .val (.int xq), .val (.ref b269), .val (.ref b278), .val (.ref b298), .val (.ref b316), .val (.ref na396)] [(.int x0), (.ref na396)])) _ _ _ _ _ _
                obtain ⟨cl429, Ar429, q429, S429, Ng429, H429, G429⟩ := id r396_0
                have in429 : ¬ (x0 < 0 ∨ cl429.slots.size ≤ (x0).toNatClampNeg) := inb_of S429 rg0.inb
                have at429 : cl429.slots[(x0).toNatClampNeg]? = some (.ref a350) := H429.at in429 (own_set_yes _ x1 x0 _ rg1 (by simp only [own_set_len, own_t0_len]) ehB)
                refine own_goW (fun _ k => X428.aaload hx (j := x0) (v := (.ref a350)) (by rw [eh428]; exact Ar429.1) (State.isArrayOf_alike hZ.alike Ar429.2.1) rfl Ar429.2.2 in429 at429 (g := (mkF m 210 #[.val (.int p0), .val (.int p1), .val (.int p2), .val (.int p3), .val (.int p4), .val (.int (2 : Int32)), .val (.int x0), .val (.int x1), .val (.int x2), .val (.int xq), .val (.ref b269), .val (.ref b278), .val (.ref b298), .val (.ref b316), .val (.ref na396)] [(.int x0), (.ref na396)])) rfl rfl (hb hby at_210) _ k) ?_
                show own_GW _ _ _ (T428.setTop (mkF m 211 #[.val (.int p0), .val (.int p1), .val (.int p2), .val (.int p3), .val (.int p4), .val (.int (2 : Int32)), .val (.int x0), .val (.int x1), .val (.int x2), .val (.int xq), .val (.ref b269), .val (.ref b278), .val (.ref b298), .val (.ref b316), .val (.ref na396)] [(.ref a350)])) _ _ _ _ _ _
                refine own_goW (fun _ k => XS.iload X428.here hx rfl (hb hby at_211) rfl k) ?_
                show own_GW _ _ _ (T428.setTop (mkF m 213 #[.val (.int p0), .val (.int p1), .val (.int p2), .val (.int p3), .val (.int p4), .val (.int (2 : Int32)), .val (.int x0), .val (.int x1), .val (.int x2), .val (.int xq), .val (.ref b269), .val (.ref b278), .val (.ref b298), .val (.ref b316), .val (.ref na396)] [(.int x0), (.ref a350)])) _ _ _ _ _ _
                refine own_goW (fun _ k => XS.iload X428.here hx rfl (hb hby at_213) rfl k) ?_
                show own_GW _ _ _ (T428.setTop (mkF m 215 #[.val (.int p0), .val (.int p1), .val (.int p2), .val (.int p3), .val (.int p4), .val (.int (2 : Int32)), .val (.int x0), .val (.int x1), .val (.int x2), .val (.int xq), .val (.ref b269), .val (.ref b278), .val (.ref b298), .val (.ref b316), .val (.ref na396)] [(.int (2 : Int32)), (.int x0), (.ref a350)])) _ _ _ _ _ _
                refine own_goW (fun _ k => XS.iload X428.here hx rfl (hb hby at_215) rfl k) ?_
                show own_GW _ _ _ (T428.setTop (mkF m 217 #[.val (.int p0), .val (.int p1), .val (.int p2), .val (.int p3), .val (.int p4), .val (.int (2 : Int32)), .val (.int x0), .val (.int x1), .val (.int x2), .val (.int xq), .val (.ref b269), .val (.ref b278), .val (.ref b298), .val (.ref b316), .val (.ref na396)] [(.int x0), (.int (2 : Int32)), (.int x0), (.ref a350)])) _ _ _ _ _ _
                refine own_goW (fun _ k => XS.iload X428.here hx rfl (hb hby at_217) rfl k) ?_
                show own_GW _ _ _ (T428.setTop (mkF m 219 #[.val (.int p0), .val (.int p1), .val (.int p2), .val (.int p3), .val (.int p4), .val (.int (2 : Int32)), .val (.int x0), .val (.int x1), .val (.int x2), .val (.int xq), .val (.ref b269), .val (.ref b278), .val (.ref b298), .val (.ref b316), .val (.ref na396)] [(.int x1), (.int x0), (.int (2 : Int32)), (.int x0), (.ref a350)])) _ _ _ _ _ _
                refine own_goW (fun _ k => XS.iload X428.here hx rfl (hb hby at_219) rfl k) ?_
                show own_GW _ _ _ (T428.setTop (mkF m 221 #[.val (.int p0), .val (.int p1), .val (.int p2), .val (.int p3), .val (.int p4), .val (.int (2 : Int32)), .val (.int x0), .val (.int x1), .val (.int x2), .val (.int xq), .val (.ref b269), .val (.ref b278), .val (.ref b298), .val (.ref b316), .val (.ref na396)] [(.int x2), (.int x1), (.int x0), (.int (2 : Int32)), (.int x0), (.ref a350)])) _ _ _ _ _ _
                obtain ⟨_, _, ⟨T430, L430, k430, n430⟩, -, X430, ⟨Lc430, hQ430, l430, y430, z430⟩, st430⟩ := Jvm.LawKit.callS X428 hx (y := (⟨"com/example/issuerd/issuerd/xml/DomReferencesPinLaw", "expected", "(IICCC)Ljava/lang/String;"⟩ : MethodName)) hown (mvT hZ (hw _ (List.mem_of_getElem? (i := 79) rfl))) (mvT hZ (hw _ (List.mem_of_getElem? (i := 80) rfl))) (mvT hZ (hw _ (List.mem_of_getElem? (i := 81) rfl))) (mvT hZ (hw _ (List.mem_of_getElem? (i := 82) rfl))) (by decide) (backOf (W := 1) (rm16c l (s.setVm T372.vm) a0 [] x0 x0 x1 x2 a330 a350 a372 T396.heap n0 Zs396 (mvS hZ (hw _ (List.mem_of_getElem? (i := 11) rfl))) (mvS hZ (hw _ (List.mem_of_getElem? (i := 13) rfl))) (mvS hZ (hw _ (List.mem_of_getElem? (i := 14) rfl))) Lt330_350_372 Lt350_372 Lt372 ehB) (State.Warmed39.refl _) (mvT (args := a0) hZ (hw _ (List.mem_of_getElem? (i := 82) rfl))) (mvT (args := a0) hZ (hw _ (List.mem_of_getElem? (i := 81) rfl))) (by decide) (by decide)) (g := (mkF m 221 #[.val (.int p0), .val (.int p1), .val (.int p2), .val (.int p3), .val (.int p4), .val (.int (2 : Int32)), .val (.int x0), .val (.int x1), .val (.int x2), .val (.int xq), .val (.ref b269), .val (.ref b278), .val (.ref b298), .val (.ref b316), .val (.ref na396)] [(.int x2), (.int x1), (.int x0), (.int (2 : Int32)), (.int x0), (.ref a350)])) rfl (by rw [hml]; rfl) (argsL := [(.int x0), (.int (2 : Int32)), (.int x0), (.int x1), (.int x2)]) (rest := [(.ref a350)]) (lenOf pd_8 rfl) rfl (by show 2 * 0 + _ ≤ _; exact Nat.le_of_eq rfl) (hb hby at_221) (fun _ _ => ⟨rfl, eh428, (by decide : 12 + 0 ≤ _), (by decide : 166 + 0 ≤ _)⟩)
                dsimp only [Pt.U, Pt.locs, Pt.cells, Pt.slots] at X430 l430 y430 z430 st430 hQ430
                rw [l430] at X430
                subst y430 z430
                obtain ⟨rfl, Nq430, eh430⟩ := hQ430
                have N430 := Fr.app N428 Nq430
                refine own_goW (fun _ k => st430 _ k) ?_
                show own_GW _ _ _ (T430.setTop (mkF m 224 #[.val (.int p0), .val (.int p1), .val (.int p2), .val (.int p3), .val (.int p4), .val (.int (2 : Int32)), .val (.int x0), .val (.int x1), .val (.int x2), .val (.int xq), .val (.ref b269), .val (.ref b278), .val (.ref b298), .val (.ref b316), .val (.ref na396)] [(.ref a350), (.ref a350)])) _ _ _ _ _ _
                refine own_goW (fun _ k => Jvm.RoadKit.acmp (g := (mkF m 224 #[.val (.int p0), .val (.int p1), .val (.int p2), .val (.int p3), .val (.int p4), .val (.int (2 : Int32)), .val (.int x0), .val (.int x1), .val (.int x2), .val (.int xq), .val (.ref b269), .val (.ref b278), .val (.ref b298), .val (.ref b316), .val (.ref na396)] [(.ref a350), (.ref a350)])) X430 hx rfl rfl rfl (pc0 := 224) (pc' := 227) (same := true) rfl (hb hby at_224) rfl (decide_eq_true rfl) (by decide) (by decide) k) ?_
                show own_GW _ _ _ (T430.setTop (mkF m 227 #[.val (.int p0), .val (.int p1), .val (.int p2), .val (.int p3), .val (.int p4), .val (.int (2 : Int32)), .val (.int x0), .val (.int x1), .val (.int x2), .val (.int xq), .val (.ref b269), .val (.ref b278), .val (.ref b298), .val (.ref b316), .val (.ref na396)] [])) _ _ _ _ _ _
                refine own_goW (fun _ k => XS.iconst X430.here hx rfl (hb hby at_227) k) ?_
                show own_GW _ _ _ (T430.setTop (mkF m 228 #[.val (.int p0), .val (.int p1), .val (.int p2), .val (.int p3), .val (.int p4), .val (.int (2 : Int32)), .val (.int x0), .val (.int x1), .val (.int x2), .val (.int xq), .val (.ref b269), .val (.ref b278), .val (.ref b298), .val (.ref b316), .val (.ref na396)] [(.int (1 : Int32))])) _ _ _ _ _ _
                refine own_goW (fun _ k => XS.goto X430.here hx rfl (pc0 := 228) (pc' := 232) rfl (hb hby at_228) (by decide) (by decide) k) ?_
                show own_GW _ _ _ (T430.setTop (mkF m 232 #[.val (.int p0), .val (.int p1), .val (.int p2), .val (.int p3), .val (.int p4), .val (.int (2 : Int32)), .val (.int x0), .val (.int x1), .val (.int x2), .val (.int xq), .val (.ref b269), .val (.ref b278), .val (.ref b298), .val (.ref b316), .val (.ref na396)] [(.int (1 : Int32))])) _ _ _ _ _ _
                have CQ431 := CR372.trans (CHr.keep K396_1 (allS sf383 all0) CR372.1)
                have CE431 : CHr Z own_EL s.vm s.heap T430.vm T430.heap := by rw [hh, show T430.heap = T396.heap from eh430]; exact CQ431.trans (CHv.at X430 hZ (own_EW hw) CQ431.1)
                exact own_endWN X430 hx hlk (t := .boolean) Bd.returns (by simp) (hb hby at_232) hS372 (show _ ≤ T430.heap.size by rw [show T430.heap = T396.heap from eh430]; exact (Nat.le_trans (Nat.le_refl _) K396_1.1)) (by decide) (by decide) CE431 (Q := (Q0 Z p0 p1 p2 p3 p4 zc fm h0 n0)) (by rw [eh430]; exact ⟨rfl, N430, K396_0⟩)
              · skip
                refine own_goW (fun _ k => XS.aload X428.here hx rfl (hb hby at_206) rfl rfl k) ?_
                show own_GW _ _ _ (T428.setTop (mkF m 208 #[.val (.int p0), .val (.int p1), .val (.int p2), .val (.int p3), .val (.int p4), .val (.int (2 : Int32)), .val (.int x0), .val (.int x1), .val (.int x2), .val (.int xq), .val (.ref b269), .val (.ref b278), .val (.ref b298), .val (.ref b316), .val (.ref na396)] [(.ref na396)])) _ _ _ _ _ _
                refine own_goW (fun _ k => XS.iload X428.here hx rfl (hb hby at_208) rfl k) ?_
                show own_GW _ _ _ (T428.setTop (mkF m 210 #[.val (.int p0), .val (.int p1), .val (.int p2), .val (.int p3), .val (.int p4), .val (.int (2 : Int32)), .val (.int x0), .val (.int x1), .val (.int x2), .val (.int xq), .val (.ref b269), .val (.ref b278), .val (.ref b298), .val (.ref b316), .val (.ref na396)] [(.int x0), (.ref na396)])) _ _ _ _ _ _
                obtain ⟨cl432, Ar432, q432, S432, Ng432, H432, G432⟩ := id r396_0
                have in432 : ¬ (x0 < 0 ∨ cl432.slots.size ≤ (x0).toNatClampNeg) := inb_of S432 rg0.inb
                have at432 : cl432.slots[(x0).toNatClampNeg]? = some (.ref a330) := H432.at in432 ((own_set_no _ x1 x0 _ rg1 rg0 enB).trans (own_set_yes _ x0 x0 _ rg0 (by simp only [own_set_len, own_t0_len]) rfl))
                refine own_goW (fun _ k => X428.aaload hx (j := x0) (v := (.ref a330)) (by rw [eh428]; exact Ar432.1) (State.isArrayOf_alike hZ.alike Ar432.2.1) rfl Ar432.2.2 in432 at432 (g := (mkF m 210 #[.val (.int p0), .val (.int p1), .val (.int p2), .val (.int p3), .val (.int p4), .val (.int (2 : Int32)), .val (.int x0), .val (.int x1), .val (.int x2), .val (.int xq), .val (.ref b269), .val (.ref b278), .val (.ref b298), .val (.ref b316), .val (.ref na396)] [(.int x0), (.ref na396)])) rfl rfl (hb hby at_210) _ k) ?_
                show own_GW _ _ _ (T428.setTop (mkF m 211 #[.val (.int p0), .val (.int p1), .val (.int p2), .val (.int p3), .val (.int p4), .val (.int (2 : Int32)), .val (.int x0), .val (.int x1), .val (.int x2), .val (.int xq), .val (.ref b269), .val (.ref b278), .val (.ref b298), .val (.ref b316), .val (.ref na396)] [(.ref a330)])) _ _ _ _ _ _
                refine own_goW (fun _ k => XS.iload X428.here hx rfl (hb hby at_211) rfl k) ?_
                show own_GW _ _ _ (T428.setTop (mkF m 213 #[.val (.int p0), .val (.int p1), .val (.int p2), .val (.int p3), .val (.int p4), .val (.int (2 : Int32)), .val (.int x0), .val (.int x1), .val (.int x2), .val (.int xq), .val (.ref b269), .val (.ref b278), .val (.ref b298), .val (.ref b316), .val (.ref na396)] [(.int x0), (.ref a330)])) _ _ _ _ _ _
                refine own_goW (fun _ k => XS.iload X428.here hx rfl (hb hby at_213) rfl k) ?_
                show own_GW _ _ _ (T428.setTop (mkF m 215 #[.val (.int p0), .val (.int p1), .val (.int p2), .val (.int p3), .val (.int p4), .val (.int (2 : Int32)), .val (.int x0), .val (.int x1), .val (.int x2), .val (.int xq), .val (.ref b269), .val (.ref b278), .val (.ref b298), .val (.ref b316), .val (.ref na396)] [(.int (2 : Int32)), (.int x0), (.ref a330)])) _ _ _ _ _ _
                refine own_goW (fun _ k => XS.iload X428.here hx rfl (hb hby at_215) rfl k) ?_
                show own_GW _ _ _ (T428.setTop (mkF m 217 #[.val (.int p0), .val (.int p1), .val (.int p2), .val (.int p3), .val (.int p4), .val (.int (2 : Int32)), .val (.int x0), .val (.int x1), .val (.int x2), .val (.int xq), .val (.ref b269), .val (.ref b278), .val (.ref b298), .val (.ref b316), .val (.ref na396)] [(.int x0), (.int (2 : Int32)), (.int x0), (.ref a330)])) _ _ _ _ _ _
                refine own_goW (fun _ k => XS.iload X428.here hx rfl (hb hby at_217) rfl k) ?_
                show own_GW _ _ _ (T428.setTop (mkF m 219 #[.val (.int p0), .val (.int p1), .val (.int p2), .val (.int p3), .val (.int p4), .val (.int (2 : Int32)), .val (.int x0), .val (.int x1), .val (.int x2), .val (.int xq), .val (.ref b269), .val (.ref b278), .val (.ref b298), .val (.ref b316), .val (.ref na396)] [(.int x1), (.int x0), (.int (2 : Int32)), (.int x0), (.ref a330)])) _ _ _ _ _ _
                refine own_goW (fun _ k => XS.iload X428.here hx rfl (hb hby at_219) rfl k) ?_
                show own_GW _ _ _ (T428.setTop (mkF m 221 #[.val (.int p0), .val (.int p1), .val (.int p2), .val (.int p3), .val (.int p4), .val (.int (2 : Int32)), .val (.int x0), .val (.int x1), .val (.int x2), .val (.int xq), .val (.ref b269), .val (.ref b278), .val (.ref b298), .val (.ref b316), .val (.ref na396)] [(.int x2), (.int x1), (.int x0), (.int (2 : Int32)), (.int x0), (.ref a330)])) _ _ _ _ _ _
                obtain ⟨_, _, ⟨T433, L433, k433, n433⟩, -, X433, ⟨Lc433, hQ433, l433, y433, z433⟩, st433⟩ := Jvm.LawKit.callS X428 hx (y := (⟨"com/example/issuerd/issuerd/xml/DomReferencesPinLaw", "expected", "(IICCC)Ljava/lang/String;"⟩ : MethodName)) hown (mvT hZ (hw _ (List.mem_of_getElem? (i := 79) rfl))) (mvT hZ (hw _ (List.mem_of_getElem? (i := 80) rfl))) (mvT hZ (hw _ (List.mem_of_getElem? (i := 81) rfl))) (mvT hZ (hw _ (List.mem_of_getElem? (i := 82) rfl))) (by decide) (backOf (W := 1) (rm16d l (s.setVm T372.vm) a0 [] x0 x0 x1 x2 a330 a350 a372 T396.heap n0 Zs396 (mvS hZ (hw _ (List.mem_of_getElem? (i := 11) rfl))) (mvS hZ (hw _ (List.mem_of_getElem? (i := 13) rfl))) (mvS hZ (hw _ (List.mem_of_getElem? (i := 14) rfl))) Lt330_350_372 Lt350_372 Lt372 enB rfl) (State.Warmed39.refl _) (mvT (args := a0) hZ (hw _ (List.mem_of_getElem? (i := 82) rfl))) (mvT (args := a0) hZ (hw _ (List.mem_of_getElem? (i := 81) rfl))) (by decide) (by decide)) (g := (mkF m 221 #[.val (.int p0), .val (.int p1), .val (.int p2), .val (.int p3), .val (.int p4), .val (.int (2 : Int32)), .val (.int x0), .val (.int x1), .val (.int x2), .val (.int xq), .val (.ref b269), .val (.ref b278), .val (.ref b298), .val (.ref b316), .val (.ref na396)] [(.int x2), (.int x1), (.int x0), (.int (2 : Int32)), (.int x0), (.ref a330)])) rfl (by rw [hml]; rfl) (argsL := [(.int x0), (.int (2 : Int32)), (.int x0), (.int x1), (.int x2)]) (rest := [(.ref a330)]) (lenOf pd_8 rfl) rfl (by show 2 * 0 + _ ≤ _; exact Nat.le_of_eq rfl) (hb hby at_221) (fun _ _ => ⟨rfl, eh428, (by decide : 12 + 0 ≤ _), (by decide : 166 + 0 ≤ _)⟩)
                dsimp only [Pt.U, Pt.locs, Pt.cells, Pt.slots] at X433 l433 y433 z433 st433 hQ433
                rw [l433] at X433
                subst y433 z433
                obtain ⟨rfl, Nq433, eh433⟩ := hQ433
                have N433 := Fr.app N428 Nq433
                refine own_goW (fun _ k => st433 _ k) ?_
                show own_GW _ _ _ (T433.setTop (mkF m 224 #[.val (.int p0), .val (.int p1), .val (.int p2), .val (.int p3), .val (.int p4), .val (.int (2 : Int32)), .val (.int x0), .val (.int x1), .val (.int x2), .val (.int xq), .val (.ref b269), .val (.ref b278), .val (.ref b298), .val (.ref b316), .val (.ref na396)] [(.ref a330), (.ref a330)])) _ _ _ _ _ _
                refine own_goW (fun _ k => Jvm.RoadKit.acmp (g := (mkF m 224 #[.val (.int p0), .val (.int p1), .val (.int p2), .val (.int p3), .val (.int p4), .val (.int (2 : Int32)), .val (.int x0), .val (.int x1), .val (.int x2), .val (.int xq), .val (.ref b269), .val (.ref b278), .val (.ref b298), .val (.ref b316), .val (.ref na396)] [(.ref a330), (.ref a330)])) X433 hx rfl rfl rfl (pc0 := 224) (pc' := 227) (same := true) rfl (hb hby at_224) rfl (decide_eq_true rfl) (by decide) (by decide) k) ?_
                show own_GW _ _ _ (T433.setTop (mkF m 227 #[.val (.int p0), .val (.int p1), .val (.int p2), .val (.int p3), .val (.int p4), .val (.int (2 : Int32)), .val (.int x0), .val (.int x1), .val (.int x2), .val (.int xq), .val (.ref b269), .val (.ref b278), .val (.ref b298), .val (.ref b316), .val (.ref na396)] [])) _ _ _ _ _ _
                refine own_goW (fun _ k => XS.iconst X433.here hx rfl (hb hby at_227) k) ?_
                show own_GW _ _ _ (T433.setTop (mkF m 228 #[.val (.int p0), .val (.int p1), .val (.int p2), .val (.int p3), .val (.int p4), .val (.int (2 : Int32)), .val (.int x0), .val (.int x1), .val (.int x2), .val (.int xq), .val (.ref b269), .val (.ref b278), .val (.ref b298), .val (.ref b316), .val (.ref na396)] [(.int (1 : Int32))])) _ _ _ _ _ _
                refine own_goW (fun _ k => XS.goto X433.here hx rfl (pc0 := 228) (pc' := 232) rfl (hb hby at_228) (by decide) (by decide) k) ?_
                show own_GW _ _ _ (T433.setTop (mkF m 232 #[.val (.int p0), .val (.int p1), .val (.int p2), .val (.int p3), .val (.int p4), .val (.int (2 : Int32)), .val (.int x0), .val (.int x1), .val (.int x2), .val (.int xq), .val (.ref b269), .val (.ref b278), .val (.ref b298), .val (.ref b316), .val (.ref na396)] [(.int (1 : Int32))])) _ _ _ _ _ _
                have CQ434 := CR372.trans (CHr.keep K396_1 (allS sf383 all0) CR372.1)
                have CE434 : CHr Z own_EL s.vm s.heap T433.vm T433.heap := by rw [hh, show T433.heap = T396.heap from eh433]; exact CQ434.trans (CHv.at X433 hZ (own_EW hw) CQ434.1)
                exact own_endWN X433 hx hlk (t := .boolean) Bd.returns (by simp) (hb hby at_232) hS372 (show _ ≤ T433.heap.size by rw [show T433.heap = T396.heap from eh433]; exact (Nat.le_trans (Nat.le_refl _) K396_1.1)) (by decide) (by decide) CE434 (Q := (Q0 Z p0 p1 p2 p3 p4 zc fm h0 n0)) (by rw [eh433]; exact ⟨rfl, N433, K396_0⟩)
  · rw [hn]
    show own_GW _ _ _ (s₁.setTop (mkF m 3 #[.val (.int p0), .val (.int p1), .val (.int p2), .val (.int p3), .val (.int p4), .unset, .unset, .unset, .unset, .unset, .unset, .unset, .unset, .unset, .unset] [(.int (3 : Int32))])) _ _ _ _ _ _
    refine own_goW (fun _ k => XS.istore X0.here hx rfl (hb hby at_3) rfl (l' := #[.val (.int p0), .val (.int p1), .val (.int p2), .val (.int p3), .val (.int p4), .val (.int (3 : Int32)), .unset, .unset, .unset, .unset, .unset, .unset, .unset, .unset, .unset]) rfl k) ?_
    show own_GW _ _ _ (s₁.setTop (mkF m 5 #[.val (.int p0), .val (.int p1), .val (.int p2), .val (.int p3), .val (.int p4), .val (.int (3 : Int32)), .unset, .unset, .unset, .unset, .unset, .unset, .unset, .unset, .unset] [])) _ _ _ _ _ _
    refine own_goW (fun _ k => XS.iloadN X0.here hx rfl (hb hby at_5) rfl k) ?_
    show own_GW _ _ _ (s₁.setTop (mkF m 6 #[.val (.int p0), .val (.int p1), .val (.int p2), .val (.int p3), .val (.int p4), .val (.int (3 : Int32)), .unset, .unset, .unset, .unset, .unset, .unset, .unset, .unset, .unset] [(.int p1)])) _ _ _ _ _ _
    refine own_goW (fun _ k => XS.bipush X0.here hx rfl (hb hby at_6) k) ?_
    show own_GW _ _ _ (s₁.setTop (mkF m 8 #[.val (.int p0), .val (.int p1), .val (.int p2), .val (.int p3), .val (.int p4), .val (.int (3 : Int32)), .unset, .unset, .unset, .unset, .unset, .unset, .unset, .unset, .unset] [(.int (127 : Int32)), (.int p1)])) _ _ _ _ _ _
    refine own_goW (fun _ k => XS.iand X0.here hx rfl (hb hby at_8) rfl k) ?_
    show own_GW _ _ _ (s₁.setTop (mkF m 9 #[.val (.int p0), .val (.int p1), .val (.int p2), .val (.int p3), .val (.int p4), .val (.int (3 : Int32)), .unset, .unset, .unset, .unset, .unset, .unset, .unset, .unset, .unset] [(.int (p1 &&& (127 : Int32)))])) _ _ _ _ _ _
    refine own_goW (fun _ k => XS.i2c X0.here hx rfl (hb hby at_9) rfl k) ?_
    show own_GW _ _ _ (s₁.setTop (mkF m 10 #[.val (.int p0), .val (.int p1), .val (.int p2), .val (.int p3), .val (.int p4), .val (.int (3 : Int32)), .unset, .unset, .unset, .unset, .unset, .unset, .unset, .unset, .unset] [(.int (p1 &&& (127 : Int32)).toUInt32.toUInt16.toUInt32.toInt32)])) _ _ _ _ _ _
    obtain ⟨x0, h_x0⟩ : ∃ z : Int32, z = (p1 &&& (127 : Int32)).toUInt32.toUInt16.toUInt32.toInt32 := ⟨_, rfl⟩
    · rw [← h_x0]
      have rg0 : own_rg x0 := by rw [h_x0]; exact own_rgc _
      show own_GW _ _ _ (s₁.setTop (mkF m 10 #[.val (.int p0), .val (.int p1), .val (.int p2), .val (.int p3), .val (.int p4), .val (.int (3 : Int32)), .unset, .unset, .unset, .unset, .unset, .unset, .unset, .unset, .unset] [(.int x0)])) _ _ _ _ _ _
      refine own_goW (fun _ k => XS.istore X0.here hx rfl (hb hby at_10) rfl (l' := #[.val (.int p0), .val (.int p1), .val (.int p2), .val (.int p3), .val (.int p4), .val (.int (3 : Int32)), .val (.int x0), .unset, .unset, .unset, .unset, .unset, .unset, .unset, .unset]) rfl k) ?_
      show own_GW _ _ _ (s₁.setTop (mkF m 12 #[.val (.int p0), .val (.int p1), .val (.int p2), .val (.int p3), .val (.int p4), .val (.int (3 : Int32)), .val (.int x0), .unset, .unset, .unset, .unset, .unset, .unset, .unset, .unset] [])) _ _ _ _ _ _
      refine own_goW (fun _ k => XS.iloadN X0.here hx rfl (hb hby at_12) rfl k) ?_
      show own_GW _ _ _ (s₁.setTop (mkF m 13 #[.val (.int p0), .val (.int p1), .val (.int p2), .val (.int p3), .val (.int p4), .val (.int (3 : Int32)), .val (.int x0), .unset, .unset, .unset, .unset, .unset, .unset, .unset, .unset] [(.int p2)])) _ _ _ _ _ _
      refine own_goW (fun _ k => XS.bipush X0.here hx rfl (hb hby at_13) k) ?_
      show own_GW _ _ _ (s₁.setTop (mkF m 15 #[.val (.int p0), .val (.int p1), .val (.int p2), .val (.int p3), .val (.int p4), .val (.int (3 : Int32)), .val (.int x0), .unset, .unset, .unset, .unset, .unset, .unset, .unset, .unset] [(.int (127 : Int32)), (.int p2)])) _ _ _ _ _ _
      refine own_goW (fun _ k => XS.iand X0.here hx rfl (hb hby at_15) rfl k) ?_
      show own_GW _ _ _ (s₁.setTop (mkF m 16 #[.val (.int p0), .val (.int p1), .val (.int p2), .val (.int p3), .val (.int p4), .val (.int (3 : Int32)), .val (.int x0), .unset, .unset, .unset, .unset, .unset, .unset, .unset, .unset] [(.int (p2 &&& (127 : Int32)))])) _ _ _ _ _ _
      refine own_goW (fun _ k => XS.i2c X0.here hx rfl (hb hby at_16) rfl k) ?_
      show own_GW _ _ _ (s₁.setTop (mkF m 17 #[.val (.int p0), .val (.int p1), .val (.int p2), .val (.int p3), .val (.int p4), .val (.int (3 : Int32)), .val (.int x0), .unset, .unset, .unset, .unset, .unset, .unset, .unset, .unset] [(.int (p2 &&& (127 : Int32)).toUInt32.toUInt16.toUInt32.toInt32)])) _ _ _ _ _ _
      obtain ⟨x1, h_x1⟩ : ∃ z : Int32, z = (p2 &&& (127 : Int32)).toUInt32.toUInt16.toUInt32.toInt32 := ⟨_, rfl⟩
      · rw [← h_x1]
        have rg1 : own_rg x1 := by rw [h_x1]; exact own_rgc _
        show own_GW _ _ _ (s₁.setTop (mkF m 17 #[.val (.int p0), .val (.int p1), .val (.int p2), .val (.int p3), .val (.int p4), .val (.int (3 : Int32)), .val (.int x0), .unset, .unset, .unset, .unset, .unset, .unset, .unset, .unset] [(.int x1)])) _ _ _ _ _ _
        refine own_goW (fun _ k => XS.istore X0.here hx rfl (hb hby at_17) rfl (l' := #[.val (.int p0), .val (.int p1), .val (.int p2), .val (.int p3), .val (.int p4), .val (.int (3 : Int32)), .val (.int x0), .val (.int x1), .unset, .unset, .unset, .unset, .unset, .unset, .unset]) rfl k) ?_
        show own_GW _ _ _ (s₁.setTop (mkF m 19 #[.val (.int p0), .val (.int p1), .val (.int p2), .val (.int p3), .val (.int p4), .val (.int (3 : Int32)), .val (.int x0), .val (.int x1), .unset, .unset, .unset, .unset, .unset, .unset, .unset] [])) _ _ _ _ _ _
        refine own_goW (fun _ k => XS.iloadN X0.here hx rfl (hb hby at_19) rfl k) ?_
        show own_GW _ _ _ (s₁.setTop (mkF m 20 #[.val (.int p0), .val (.int p1), .val (.int p2), .val (.int p3), .val (.int p4), .val (.int (3 : Int32)), .val (.int x0), .val (.int x1), .unset, .unset, .unset, .unset, .unset, .unset, .unset] [(.int p3)])) _ _ _ _ _ _
        refine own_goW (fun _ k => XS.bipush X0.here hx rfl (hb hby at_20) k) ?_
        show own_GW _ _ _ (s₁.setTop (mkF m 22 #[.val (.int p0), .val (.int p1), .val (.int p2), .val (.int p3), .val (.int p4), .val (.int (3 : Int32)), .val (.int x0), .val (.int x1), .unset, .unset, .unset, .unset, .unset, .unset, .unset] [(.int (127 : Int32)), (.int p3)])) _ _ _ _ _ _
        refine own_goW (fun _ k => XS.iand X0.here hx rfl (hb hby at_22) rfl k) ?_
        show own_GW _ _ _ (s₁.setTop (mkF m 23 #[.val (.int p0), .val (.int p1), .val (.int p2), .val (.int p3), .val (.int p4), .val (.int (3 : Int32)), .val (.int x0), .val (.int x1), .unset, .unset, .unset, .unset, .unset, .unset, .unset] [(.int (p3 &&& (127 : Int32)))])) _ _ _ _ _ _
        refine own_goW (fun _ k => XS.i2c X0.here hx rfl (hb hby at_23) rfl k) ?_
        show own_GW _ _ _ (s₁.setTop (mkF m 24 #[.val (.int p0), .val (.int p1), .val (.int p2), .val (.int p3), .val (.int p4), .val (.int (3 : Int32)), .val (.int x0), .val (.int x1), .unset, .unset, .unset, .unset, .unset, .unset, .unset] [(.int (p3 &&& (127 : Int32)).toUInt32.toUInt16.toUInt32.toInt32)])) _ _ _ _ _ _
        obtain ⟨x2, h_x2⟩ : ∃ z : Int32, z = (p3 &&& (127 : Int32)).toUInt32.toUInt16.toUInt32.toInt32 := ⟨_, rfl⟩
        · rw [← h_x2]
          have rg2 : own_rg x2 := by rw [h_x2]; exact own_rgc _
          show own_GW _ _ _ (s₁.setTop (mkF m 24 #[.val (.int p0), .val (.int p1), .val (.int p2), .val (.int p3), .val (.int p4), .val (.int (3 : Int32)), .val (.int x0), .val (.int x1), .unset, .unset, .unset, .unset, .unset, .unset, .unset] [(.int x2)])) _ _ _ _ _ _
          refine own_goW (fun _ k => XS.istore X0.here hx rfl (hb hby at_24) rfl (l' := #[.val (.int p0), .val (.int p1), .val (.int p2), .val (.int p3), .val (.int p4), .val (.int (3 : Int32)), .val (.int x0), .val (.int x1), .val (.int x2), .unset, .unset, .unset, .unset, .unset, .unset]) rfl k) ?_
          show own_GW _ _ _ (s₁.setTop (mkF m 26 #[.val (.int p0), .val (.int p1), .val (.int p2), .val (.int p3), .val (.int p4), .val (.int (3 : Int32)), .val (.int x0), .val (.int x1), .val (.int x2), .unset, .unset, .unset, .unset, .unset, .unset] [])) _ _ _ _ _ _
          refine own_goW (fun _ k => XS.iload X0.here hx rfl (hb hby at_26) rfl k) ?_
          show own_GW _ _ _ (s₁.setTop (mkF m 28 #[.val (.int p0), .val (.int p1), .val (.int p2), .val (.int p3), .val (.int p4), .val (.int (3 : Int32)), .val (.int x0), .val (.int x1), .val (.int x2), .unset, .unset, .unset, .unset, .unset, .unset] [(.int p4)])) _ _ _ _ _ _
          refine own_goW (fun _ k => XS.bipush X0.here hx rfl (hb hby at_28) k) ?_
          show own_GW _ _ _ (s₁.setTop (mkF m 30 #[.val (.int p0), .val (.int p1), .val (.int p2), .val (.int p3), .val (.int p4), .val (.int (3 : Int32)), .val (.int x0), .val (.int x1), .val (.int x2), .unset, .unset, .unset, .unset, .unset, .unset] [(.int (127 : Int32)), (.int p4)])) _ _ _ _ _ _
          refine own_goW (fun _ k => XS.iand X0.here hx rfl (hb hby at_30) rfl k) ?_
          show own_GW _ _ _ (s₁.setTop (mkF m 31 #[.val (.int p0), .val (.int p1), .val (.int p2), .val (.int p3), .val (.int p4), .val (.int (3 : Int32)), .val (.int x0), .val (.int x1), .val (.int x2), .unset, .unset, .unset, .unset, .unset, .unset] [(.int (p4 &&& (127 : Int32)))])) _ _ _ _ _ _
          obtain ⟨xq, h_xq⟩ : ∃ z : Int32, z = (p4 &&& (127 : Int32)) := ⟨_, rfl⟩
          · rw [← h_xq]
            have rgq : own_rg xq := by rw [h_xq]; exact own_rgm _
            show own_GW _ _ _ (s₁.setTop (mkF m 31 #[.val (.int p0), .val (.int p1), .val (.int p2), .val (.int p3), .val (.int p4), .val (.int (3 : Int32)), .val (.int x0), .val (.int x1), .val (.int x2), .unset, .unset, .unset, .unset, .unset, .unset] [(.int xq)])) _ _ _ _ _ _
            refine own_goW (fun _ k => XS.istore X0.here hx rfl (hb hby at_31) rfl (l' := #[.val (.int p0), .val (.int p1), .val (.int p2), .val (.int p3), .val (.int p4), .val (.int (3 : Int32)), .val (.int x0), .val (.int x1), .val (.int x2), .val (.int xq), .unset, .unset, .unset, .unset, .unset]) rfl k) ?_
            show own_GW _ _ _ (s₁.setTop (mkF m 33 #[.val (.int p0), .val (.int p1), .val (.int p2), .val (.int p3), .val (.int p4), .val (.int (3 : Int32)), .val (.int x0), .val (.int x1), .val (.int x2), .val (.int xq), .unset, .unset, .unset, .unset, .unset] [])) _ _ _ _ _ _
            refine own_goW (fun _ k => XS.iconst X0.here hx rfl (hb hby at_33) k) ?_
            show own_GW _ _ _ (s₁.setTop (mkF m 34 #[.val (.int p0), .val (.int p1), .val (.int p2), .val (.int p3), .val (.int p4), .val (.int (3 : Int32)), .val (.int x0), .val (.int x1), .val (.int x2), .val (.int xq), .unset, .unset, .unset, .unset, .unset] [(.int (2 : Int32))])) _ _ _ _ _ _
            obtain ⟨T435, h435, k435, X435, e435, E435, A435, st435⟩ := newP X0 hx hZ (hw _ (List.mem_of_getElem? (i := 0) rfl)) e0 (g := (mkF m 34 #[.val (.int p0), .val (.int p1), .val (.int p2), .val (.int p3), .val (.int p4), .val (.int (3 : Int32)), .val (.int x0), .val (.int x1), .val (.int x2), .val (.int xq), .unset, .unset, .unset, .unset, .unset] [(.int (2 : Int32))])) rfl (hb hby at_34) rfl (by decide) (cap := 2) (by decide) (by decide) (by decide) (by decide)
            obtain ⟨b435, g435⟩ : ∃ z, z = h0.size := ⟨_, rfl⟩
            rw [← g435] at A435 st435
            have gg435 : n0 ≤ b435 := Nat.le_trans Z0 (Nat.le_of_eq g435.symm)
            have sz435_0 : h0.size ≤ b435 := Nat.le_trans K0.1 (Nat.le_of_eq g435.symm)
            have sz435_1 : h0.size ≤ b435 := Nat.le_trans KS0.1 (Nat.le_of_eq g435.symm)
            have Zs435 : n0 ≤ h435.size := Nat.le_trans Z0 E435.1
            have K435_0 : Keep h0 h435 [] := K0.ext E435
            have K435_1 : Keep h0 h435 [] := KS0.ext E435
            have f436 : Old Z n0 h435 := P_Old.ext E435
            have f437 : Arv Z h435 b435 k435 .char (2 : Int32) [(.int (0 : Int32)), (.int (0 : Int32))] (.int (0 : Int32)) := (Arv.new A435 (by decide)).pad (pad_rep [] (.int (0 : Int32)) 2)
            refine own_goW (fun _ k => st435 _ k) ?_
            show own_GW _ _ _ (T435.setTop (mkF m 36 #[.val (.int p0), .val (.int p1), .val (.int p2), .val (.int p3), .val (.int p4), .val (.int (3 : Int32)), .val (.int x0), .val (.int x1), .val (.int x2), .val (.int xq), .unset, .unset, .unset, .unset, .unset] [(.ref b435)])) _ _ _ _ _ _
            refine own_goW (fun _ k => XS.dup X435.here hx rfl (hb hby at_36) rfl rfl k) ?_
            show own_GW _ _ _ (T435.setTop (mkF m 37 #[.val (.int p0), .val (.int p1), .val (.int p2), .val (.int p3), .val (.int p4), .val (.int (3 : Int32)), .val (.int x0), .val (.int x1), .val (.int x2), .val (.int xq), .unset, .unset, .unset, .unset, .unset] [(.ref b435), (.ref b435)])) _ _ _ _ _ _
            refine own_goW (fun _ k => XS.iconst X435.here hx rfl (hb hby at_37) k) ?_
            show own_GW _ _ _ (T435.setTop (mkF m 38 #[.val (.int p0), .val (.int p1), .val (.int p2), .val (.int p3), .val (.int p4), .val (.int (3 : Int32)), .val (.int x0), .val (.int x1), .val (.int x2), .val (.int xq), .unset, .unset, .unset, .unset, .unset] [(.int (0 : Int32)), (.ref b435), (.ref b435)])) _ _ _ _ _ _
            refine own_goW (fun _ k => XS.iload X435.here hx rfl (hb hby at_38) rfl k) ?_
            show own_GW _ _ _ (T435.setTop (mkF m 40 #[.val (.int p0), .val (.int p1), .val (.int p2), .val (.int p3), .val (.int p4), .val (.int (3 : Int32)), .val (.int x0), .val (.int x1), .val (.int x2), .val (.int xq), .unset, .unset, .unset, .unset, .unset] [(.int x0), (.int (0 : Int32)), (.ref b435), (.ref b435)])) _ _ _ _ _ _
            obtain ⟨cl438, Ar438, q438, S438, Ng438, H438, G438⟩ := id f437
            have in438 : ¬ ((0 : Int32) < 0 ∨ cl438.slots.size ≤ ((0 : Int32)).toNatClampNeg) := inb_of S438 ⟨by decide, by decide⟩
            obtain ⟨T438, h438, X438, e438, W438, st438⟩ := stC X435 hx hZ e435 Ar438 (j := (0 : Int32)) in438 (g := (mkF m 40 #[.val (.int p0), .val (.int p1), .val (.int p2), .val (.int p3), .val (.int p4), .val (.int (3 : Int32)), .val (.int x0), .val (.int x1), .val (.int x2), .val (.int xq), .unset, .unset, .unset, .unset, .unset] [(.int x0), (.int (0 : Int32)), (.ref b435), (.ref b435)])) rfl rfl (hb hby at_40)
            have N438 := Fr.snoc X438 N0 gg435
            have Zs438 : n0 ≤ h438.size := Nat.le_trans Zs435 (Keep.of_wr W438).1
            have K438_0 : Keep h0 h438 [] := K435_0.wr W438 (Or.inr sz435_0)
            have K438_1 : Keep h0 h438 [] := K435_1.wr W438 (Or.inr sz435_1)
            have f439 : Old Z n0 h438 := f436.wr W438 gg435
            have f440 : Arv Z h438 b435 k435 .char (2 : Int32) [(.int x0), (.int (0 : Int32))] (.int (0 : Int32)) := (by have q := Arv.set Ar438 q438 S438 Ng438 H438 G438 (fits_nar_char _) W438 0 rfl (Nat.le_of_ble_eq_true rfl); rw [rg0.nar] at q; exact q)
            refine own_goW (fun _ k => st438 _ k) ?_
            show own_GW _ _ _ (T438.setTop (mkF m 41 #[.val (.int p0), .val (.int p1), .val (.int p2), .val (.int p3), .val (.int p4), .val (.int (3 : Int32)), .val (.int x0), .val (.int x1), .val (.int x2), .val (.int xq), .unset, .unset, .unset, .unset, .unset] [(.ref b435)])) _ _ _ _ _ _
            refine own_goW (fun _ k => XS.dup X438.here hx rfl (hb hby at_41) rfl rfl k) ?_
            show own_GW _ _ _ (T438.setTop (mkF m 42 #[.val (.int p0), .val (.int p1), .val (.int p2), .val (.int p3), .val (.int p4), .val (.int (3 : Int32)), .val (.int x0), .val (.int x1), .val (.int x2), .val (.int xq), .unset, .unset, .unset, .unset, .unset] [(.ref b435), (.ref b435)])) _ _ _ _ _ _
            refine own_goW (fun _ k => XS.iconst X438.here hx rfl (hb hby at_42) k) ?_
            show own_GW _ _ _ (T438.setTop (mkF m 43 #[.val (.int p0), .val (.int p1), .val (.int p2), .val (.int p3), .val (.int p4), .val (.int (3 : Int32)), .val (.int x0), .val (.int x1), .val (.int x2), .val (.int xq), .unset, .unset, .unset, .unset, .unset] [(.int (1 : Int32)), (.ref b435), (.ref b435)])) _ _ _ _ _ _
            refine own_goW (fun _ k => XS.iload X438.here hx rfl (hb hby at_43) rfl k) ?_
            show own_GW _ _ _ (T438.setTop (mkF m 45 #[.val (.int p0), .val (.int p1), .val (.int p2), .val (.int p3), .val (.int p4), .val (.int (3 : Int32)), .val (.int x0), .val (.int x1), .val (.int x2), .val (.int xq), .unset, .unset, .unset, .unset, .unset] [(.int x1), (.int (1 : Int32)), (.ref b435), (.ref b435)])) _ _ _ _ _ _
            obtain ⟨cl441, Ar441, q441, S441, Ng441, H441, G441⟩ := id f440
            have in441 : ¬ ((1 : Int32) < 0 ∨ cl441.slots.size ≤ ((1 : Int32)).toNatClampNeg) := inb_of S441 ⟨by decide, by decide⟩
            obtain ⟨T441, h441, X441, e441, W441, st441⟩ := stC X438 hx hZ e438 Ar441 (j := (1 : Int32)) in441 (g := (mkF m 45 #[.val (.int p0), .val (.int p1), .val (.int p2), .val (.int p3), .val (.int p4), .val (.int (3 : Int32)), .val (.int x0), .val (.int x1), .val (.int x2), .val (.int xq), .unset, .unset, .unset, .unset, .unset] [(.int x1), (.int (1 : Int32)), (.ref b435), (.ref b435)])) rfl rfl (hb hby at_45)
            have N441 := Fr.snoc X441 N438 gg435
            have Zs441 : n0 ≤ h441.size := Nat.le_trans Zs438 (Keep.of_wr W441).1
            have K441_0 : Keep h0 h441 [] := K438_0.wr W441 (Or.inr sz435_0)
            have K441_1 : Keep h0 h441 [] := K438_1.wr W441 (Or.inr sz435_1)
            have f442 : Old Z n0 h441 := f439.wr W441 gg435
            have f443 : Arv Z h441 b435 k435 .char (2 : Int32) [(.int x0), (.int x1)] (.int (0 : Int32)) := (by have q := Arv.set Ar441 q441 S441 Ng441 H441 G441 (fits_nar_char _) W441 1 rfl (Nat.le_of_ble_eq_true rfl); rw [rg1.nar] at q; exact q)
            refine own_goW (fun _ k => st441 _ k) ?_
            show own_GW _ _ _ (T441.setTop (mkF m 46 #[.val (.int p0), .val (.int p1), .val (.int p2), .val (.int p3), .val (.int p4), .val (.int (3 : Int32)), .val (.int x0), .val (.int x1), .val (.int x2), .val (.int xq), .unset, .unset, .unset, .unset, .unset] [(.ref b435)])) _ _ _ _ _ _
            refine own_goW (fun _ k => XS.astore X441.here hx rfl (hb hby at_46) rfl rfl (l' := #[.val (.int p0), .val (.int p1), .val (.int p2), .val (.int p3), .val (.int p4), .val (.int (3 : Int32)), .val (.int x0), .val (.int x1), .val (.int x2), .val (.int xq), .val (.ref b435), .unset, .unset, .unset, .unset]) rfl k) ?_
            show own_GW _ _ _ (T441.setTop (mkF m 48 #[.val (.int p0), .val (.int p1), .val (.int p2), .val (.int p3), .val (.int p4), .val (.int (3 : Int32)), .val (.int x0), .val (.int x1), .val (.int x2), .val (.int xq), .val (.ref b435), .unset, .unset, .unset, .unset] [])) _ _ _ _ _ _
            refine own_goW (fun _ k => XS.iconst X441.here hx rfl (hb hby at_48) k) ?_
            show own_GW _ _ _ (T441.setTop (mkF m 49 #[.val (.int p0), .val (.int p1), .val (.int p2), .val (.int p3), .val (.int p4), .val (.int (3 : Int32)), .val (.int x0), .val (.int x1), .val (.int x2), .val (.int xq), .val (.ref b435), .unset, .unset, .unset, .unset] [(.int (3 : Int32))])) _ _ _ _ _ _
            obtain ⟨T444, h444, k444, X444, e444, E444, A444, st444⟩ := newP X441 hx hZ (hw _ (List.mem_of_getElem? (i := 0) rfl)) e441 (g := (mkF m 49 #[.val (.int p0), .val (.int p1), .val (.int p2), .val (.int p3), .val (.int p4), .val (.int (3 : Int32)), .val (.int x0), .val (.int x1), .val (.int x2), .val (.int xq), .val (.ref b435), .unset, .unset, .unset, .unset] [(.int (3 : Int32))])) rfl (hb hby at_49) rfl (by decide) (cap := 3) (by decide) (by decide) (by decide) (by decide)
            obtain ⟨b444, g444⟩ : ∃ z, z = h441.size := ⟨_, rfl⟩
            rw [← g444] at A444 st444
            have ne445 : b435 ≠ b444 := Nat.ne_of_lt (Nat.lt_of_lt_of_le f443.lt (Nat.le_of_eq g444.symm))
            have gg444 : n0 ≤ b444 := Nat.le_trans Zs441 (Nat.le_of_eq g444.symm)
            have sz444_0 : h0.size ≤ b444 := Nat.le_trans K441_0.1 (Nat.le_of_eq g444.symm)
            have sz444_1 : h0.size ≤ b444 := Nat.le_trans K441_1.1 (Nat.le_of_eq g444.symm)
            have Zs444 : n0 ≤ h444.size := Nat.le_trans Zs441 E444.1
            have K444_0 : Keep h0 h444 [] := K441_0.ext E444
            have K444_1 : Keep h0 h444 [] := K441_1.ext E444
            have f446 : Old Z n0 h444 := f442.ext E444
            have f447 : Arv Z h444 b435 k435 .char (2 : Int32) [(.int x0), (.int x1)] (.int (0 : Int32)) := f443.ext E444
            have f448 : Arv Z h444 b444 k444 .char (3 : Int32) [(.int (0 : Int32)), (.int (0 : Int32)), (.int (0 : Int32))] (.int (0 : Int32)) := (Arv.new A444 (by decide)).pad (pad_rep [] (.int (0 : Int32)) 3)
            refine own_goW (fun _ k => st444 _ k) ?_
            show own_GW _ _ _ (T444.setTop (mkF m 51 #[.val (.int p0), .val (.int p1), .val (.int p2), .val (.int p3), .val (.int p4), .val (.int (3 : Int32)), .val (.int x0), .val (.int x1), .val (.int x2), .val (.int xq), .val (.ref b435), .unset, .unset, .unset, .unset] [(.ref b444)])) _ _ _ _ _ _
            refine own_goW (fun _ k => XS.dup X444.here hx rfl (hb hby at_51) rfl rfl k) ?_
            show own_GW _ _ _ (T444.setTop (mkF m 52 #[.val (.int p0), .val (.int p1), .val (.int p2), .val (.int p3), .val (.int p4), .val (.int (3 : Int32)), .val (.int x0), .val (.int x1), .val (.int x2), .val (.int xq), .val (.ref b435), .unset, .unset, .unset, .unset] [(.ref b444), (.ref b444)])) _ _ _ _ _ _
            refine own_goW (fun _ k => XS.iconst X444.here hx rfl (hb hby at_52) k) ?_
            show own_GW _ _ _ (T444.setTop (mkF m 53 #[.val (.int p0), .val (.int p1), .val (.int p2), .val (.int p3), .val (.int p4), .val (.int (3 : Int32)), .val (.int x0), .val (.int x1), .val (.int x2), .val (.int xq), .val (.ref b435), .unset, .unset, .unset, .unset] [(.int (0 : Int32)), (.ref b444), (.ref b444)])) _ _ _ _ _ _
            refine own_goW (fun _ k => XS.iload X444.here hx rfl (hb hby at_53) rfl k) ?_
            show own_GW _ _ _ (T444.setTop (mkF m 55 #[.val (.int p0), .val (.int p1), .val (.int p2), .val (.int p3), .val (.int p4), .val (.int (3 : Int32)), .val (.int x0), .val (.int x1), .val (.int x2), .val (.int xq), .val (.ref b435), .unset, .unset, .unset, .unset] [(.int x0), (.int (0 : Int32)), (.ref b444), (.ref b444)])) _ _ _ _ _ _
            obtain ⟨cl449, Ar449, q449, S449, Ng449, H449, G449⟩ := id f448
            have in449 : ¬ ((0 : Int32) < 0 ∨ cl449.slots.size ≤ ((0 : Int32)).toNatClampNeg) := inb_of S449 ⟨by decide, by decide⟩
            obtain ⟨T449, h449, X449, e449, W449, st449⟩ := stC X444 hx hZ e444 Ar449 (j := (0 : Int32)) in449 (g := (mkF m 55 #[.val (.int p0), .val (.int p1), .val (.int p2), .val (.int p3), .val (.int p4), .val (.int (3 : Int32)), .val (.int x0), .val (.int x1), .val (.int x2), .val (.int xq), .val (.ref b435), .unset, .unset, .unset, .unset] [(.int x0), (.int (0 : Int32)), (.ref b444), (.ref b444)])) rfl rfl (hb hby at_55)
            have N449 := Fr.snoc X449 N441 gg444
            have Zs449 : n0 ≤ h449.size := Nat.le_trans Zs444 (Keep.of_wr W449).1
            have K449_0 : Keep h0 h449 [] := K444_0.wr W449 (Or.inr sz444_0)
            have K449_1 : Keep h0 h449 [] := K444_1.wr W449 (Or.inr sz444_1)
            have f450 : Old Z n0 h449 := f446.wr W449 gg444
            have f451 : Arv Z h449 b435 k435 .char (2 : Int32) [(.int x0), (.int x1)] (.int (0 : Int32)) := f447.other W449 ne445
            have f452 : Arv Z h449 b444 k444 .char (3 : Int32) [(.int x0), (.int (0 : Int32)), (.int (0 : Int32))] (.int (0 : Int32)) := (by have q := Arv.set Ar449 q449 S449 Ng449 H449 G449 (fits_nar_char _) W449 0 rfl (Nat.le_of_ble_eq_true rfl); rw [rg0.nar] at q; exact q)
            refine own_goW (fun _ k => st449 _ k) ?_
            show own_GW _ _ _ (T449.setTop (mkF m 56 #[.val (.int p0), .val (.int p1), .val (.int p2), .val (.int p3), .val (.int p4), .val (.int (3 : Int32)), .val (.int x0), .val (.int x1), .val (.int x2), .val (.int xq), .val (.ref b435), .unset, .unset, .unset, .unset] [(.ref b444)])) _ _ _ _ _ _
            refine own_goW (fun _ k => XS.dup X449.here hx rfl (hb hby at_56) rfl rfl k) ?_
            show own_GW _ _ _ (T449.setTop (mkF m 57 #[.val (.int p0), .val (.int p1), .val (.int p2), .val (.int p3), .val (.int p4), .val (.int (3 : Int32)), .val (.int x0), .val (.int x1), .val (.int x2), .val (.int xq), .val (.ref b435), .unset, .unset, .unset, .unset] [(.ref b444), (.ref b444)])) _ _ _ _ _ _
            refine own_goW (fun _ k => XS.iconst X449.here hx rfl (hb hby at_57) k) ?_
            show own_GW _ _ _ (T449.setTop (mkF m 58 #[.val (.int p0), .val (.int p1), .val (.int p2), .val (.int p3), .val (.int p4), .val (.int (3 : Int32)), .val (.int x0), .val (.int x1), .val (.int x2), .val (.int xq), .val (.ref b435), .unset, .unset, .unset, .unset] [(.int (1 : Int32)), (.ref b444), (.ref b444)])) _ _ _ _ _ _
            refine own_goW (fun _ k => XS.iload X449.here hx rfl (hb hby at_58) rfl k) ?_
            show own_GW _ _ _ (T449.setTop (mkF m 60 #[.val (.int p0), .val (.int p1), .val (.int p2), .val (.int p3), .val (.int p4), .val (.int (3 : Int32)), .val (.int x0), .val (.int x1), .val (.int x2), .val (.int xq), .val (.ref b435), .unset, .unset, .unset, .unset] [(.int x1), (.int (1 : Int32)), (.ref b444), (.ref b444)])) _ _ _ _ _ _
            obtain ⟨cl453, Ar453, q453, S453, Ng453, H453, G453⟩ := id f452
            have in453 : ¬ ((1 : Int32) < 0 ∨ cl453.slots.size ≤ ((1 : Int32)).toNatClampNeg) := inb_of S453 ⟨by decide, by decide⟩
            obtain ⟨T453, h453, X453, e453, W453, st453⟩ := stC X449 hx hZ e449 Ar453 (j := (1 : Int32)) in453 (g := (mkF m 60 #[.val (.int p0), .val (.int p1), .val (.int p2), .val (.int p3), .val (.int p4), .val (.int (3 : Int32)), .val (.int x0), .val (.int x1), .val (.int x2), .val (.int xq), .val (.ref b435), .unset, .unset, .unset, .unset] [(.int x1), (.int (1 : Int32)), (.ref b444), (.ref b444)])) rfl rfl (hb hby at_60)
            have N453 := Fr.snoc X453 N449 gg444
            have Zs453 : n0 ≤ h453.size := Nat.le_trans Zs449 (Keep.of_wr W453).1
            have K453_0 : Keep h0 h453 [] := K449_0.wr W453 (Or.inr sz444_0)
            have K453_1 : Keep h0 h453 [] := K449_1.wr W453 (Or.inr sz444_1)
            have f454 : Old Z n0 h453 := f450.wr W453 gg444
            have f455 : Arv Z h453 b435 k435 .char (2 : Int32) [(.int x0), (.int x1)] (.int (0 : Int32)) := f451.other W453 ne445
            have f456 : Arv Z h453 b444 k444 .char (3 : Int32) [(.int x0), (.int x1), (.int (0 : Int32))] (.int (0 : Int32)) := (by have q := Arv.set Ar453 q453 S453 Ng453 H453 G453 (fits_nar_char _) W453 1 rfl (Nat.le_of_ble_eq_true rfl); rw [rg1.nar] at q; exact q)
            refine own_goW (fun _ k => st453 _ k) ?_
            show own_GW _ _ _ (T453.setTop (mkF m 61 #[.val (.int p0), .val (.int p1), .val (.int p2), .val (.int p3), .val (.int p4), .val (.int (3 : Int32)), .val (.int x0), .val (.int x1), .val (.int x2), .val (.int xq), .val (.ref b435), .unset, .unset, .unset, .unset] [(.ref b444)])) _ _ _ _ _ _
            refine own_goW (fun _ k => XS.dup X453.here hx rfl (hb hby at_61) rfl rfl k) ?_
            show own_GW _ _ _ (T453.setTop (mkF m 62 #[.val (.int p0), .val (.int p1), .val (.int p2), .val (.int p3), .val (.int p4), .val (.int (3 : Int32)), .val (.int x0), .val (.int x1), .val (.int x2), .val (.int xq), .val (.ref b435), .unset, .unset, .unset, .unset] [(.ref b444), (.ref b444)])) _ _ _ _ _ _
            refine own_goW (fun _ k => XS.iconst X453.here hx rfl (hb hby at_62) k) ?_
            show own_GW _ _ _ (T453.setTop (mkF m 63 #[.val (.int p0), .val (.int p1), .val (.int p2), .val (.int p3), .val (.int p4), .val (.int (3 : Int32)), .val (.int x0), .val (.int x1), .val (.int x2), .val (.int xq), .val (.ref b435), .unset, .unset, .unset, .unset] [(.int (2 : Int32)), (.ref b444), (.ref b444)])) _ _ _ _ _ _
            refine own_goW (fun _ k => XS.iload X453.here hx rfl (hb hby at_63) rfl k) ?_
            show own_GW _ _ _ (T453.setTop (mkF m 65 #[.val (.int p0), .val (.int p1), .val (.int p2), .val (.int p3), .val (.int p4), .val (.int (3 : Int32)), .val (.int x0), .val (.int x1), .val (.int x2), .val (.int xq), .val (.ref b435), .unset, .unset, .unset, .unset] [(.int x2), (.int (2 : Int32)), (.ref b444), (.ref b444)])) _ _ _ _ _ _
            obtain ⟨cl457, Ar457, q457, S457, Ng457, H457, G457⟩ := id f456
            have in457 : ¬ ((2 : Int32) < 0 ∨ cl457.slots.size ≤ ((2 : Int32)).toNatClampNeg) := inb_of S457 ⟨by decide, by decide⟩
            obtain ⟨T457, h457, X457, e457, W457, st457⟩ := stC X453 hx hZ e453 Ar457 (j := (2 : Int32)) in457 (g := (mkF m 65 #[.val (.int p0), .val (.int p1), .val (.int p2), .val (.int p3), .val (.int p4), .val (.int (3 : Int32)), .val (.int x0), .val (.int x1), .val (.int x2), .val (.int xq), .val (.ref b435), .unset, .unset, .unset, .unset] [(.int x2), (.int (2 : Int32)), (.ref b444), (.ref b444)])) rfl rfl (hb hby at_65)
            have N457 := Fr.snoc X457 N453 gg444
            have Zs457 : n0 ≤ h457.size := Nat.le_trans Zs453 (Keep.of_wr W457).1
            have K457_0 : Keep h0 h457 [] := K453_0.wr W457 (Or.inr sz444_0)
            have K457_1 : Keep h0 h457 [] := K453_1.wr W457 (Or.inr sz444_1)
            have f458 : Old Z n0 h457 := f454.wr W457 gg444
            have f459 : Arv Z h457 b435 k435 .char (2 : Int32) [(.int x0), (.int x1)] (.int (0 : Int32)) := f455.other W457 ne445
            have f460 : Arv Z h457 b444 k444 .char (3 : Int32) [(.int x0), (.int x1), (.int x2)] (.int (0 : Int32)) := (by have q := Arv.set Ar457 q457 S457 Ng457 H457 G457 (fits_nar_char _) W457 2 rfl (Nat.le_of_ble_eq_true rfl); rw [rg2.nar] at q; exact q)
            refine own_goW (fun _ k => st457 _ k) ?_
            show own_GW _ _ _ (T457.setTop (mkF m 66 #[.val (.int p0), .val (.int p1), .val (.int p2), .val (.int p3), .val (.int p4), .val (.int (3 : Int32)), .val (.int x0), .val (.int x1), .val (.int x2), .val (.int xq), .val (.ref b435), .unset, .unset, .unset, .unset] [(.ref b444)])) _ _ _ _ _ _
            refine own_goW (fun _ k => XS.astore X457.here hx rfl (hb hby at_66) rfl rfl (l' := #[.val (.int p0), .val (.int p1), .val (.int p2), .val (.int p3), .val (.int p4), .val (.int (3 : Int32)), .val (.int x0), .val (.int x1), .val (.int x2), .val (.int xq), .val (.ref b435), .val (.ref b444), .unset, .unset, .unset]) rfl k) ?_
            show own_GW _ _ _ (T457.setTop (mkF m 68 #[.val (.int p0), .val (.int p1), .val (.int p2), .val (.int p3), .val (.int p4), .val (.int (3 : Int32)), .val (.int x0), .val (.int x1), .val (.int x2), .val (.int xq), .val (.ref b435), .val (.ref b444), .unset, .unset, .unset] [])) _ _ _ _ _ _
            refine own_goW (fun _ k => XS.iload X457.here hx rfl (hb hby at_68) rfl k) ?_
            show own_GW _ _ _ (T457.setTop (mkF m 70 #[.val (.int p0), .val (.int p1), .val (.int p2), .val (.int p3), .val (.int p4), .val (.int (3 : Int32)), .val (.int x0), .val (.int x1), .val (.int x2), .val (.int xq), .val (.ref b435), .val (.ref b444), .unset, .unset, .unset] [(.int (3 : Int32))])) _ _ _ _ _ _
            have hc461 : ¬ ((3 : Int32) = (0 : Int32)) := (by decide)
            refine own_goW (fun _ k => XS.ifYes X457.here hx rfl (pc0 := 70) (pc' := 80) rfl (hb hby at_70) rfl ((if0 _ _).trans (feq hc461).2) (by decide) (by decide) k) ?_
            show own_GW _ _ _ (T457.setTop (mkF m 80 #[.val (.int p0), .val (.int p1), .val (.int p2), .val (.int p3), .val (.int p4), .val (.int (3 : Int32)), .val (.int x0), .val (.int x1), .val (.int x2), .val (.int xq), .val (.ref b435), .val (.ref b444), .unset, .unset, .unset] [])) _ _ _ _ _ _
            refine own_goW (fun _ k => XS.iload X457.here hx rfl (hb hby at_80) rfl k) ?_
            show own_GW _ _ _ (T457.setTop (mkF m 82 #[.val (.int p0), .val (.int p1), .val (.int p2), .val (.int p3), .val (.int p4), .val (.int (3 : Int32)), .val (.int x0), .val (.int x1), .val (.int x2), .val (.int xq), .val (.ref b435), .val (.ref b444), .unset, .unset, .unset] [(.int (3 : Int32))])) _ _ _ _ _ _
            refine own_goW (fun _ k => XS.iconst X457.here hx rfl (hb hby at_82) k) ?_
            show own_GW _ _ _ (T457.setTop (mkF m 83 #[.val (.int p0), .val (.int p1), .val (.int p2), .val (.int p3), .val (.int p4), .val (.int (3 : Int32)), .val (.int x0), .val (.int x1), .val (.int x2), .val (.int xq), .val (.ref b435), .val (.ref b444), .unset, .unset, .unset] [(.int (1 : Int32)), (.int (3 : Int32))])) _ _ _ _ _ _
            have hc462 : ¬ ((3 : Int32) = (1 : Int32)) := (by decide)
            refine own_goW (fun _ k => XS.icmpYes X457.here hx rfl (pc0 := 83) (pc' := 96) rfl (hb hby at_83) rfl (feq hc462).2 (by decide) (by decide) k) ?_
            show own_GW _ _ _ (T457.setTop (mkF m 96 #[.val (.int p0), .val (.int p1), .val (.int p2), .val (.int p3), .val (.int p4), .val (.int (3 : Int32)), .val (.int x0), .val (.int x1), .val (.int x2), .val (.int xq), .val (.ref b435), .val (.ref b444), .unset, .unset, .unset] [])) _ _ _ _ _ _
            refine own_goW (fun _ k => XS.iload X457.here hx rfl (hb hby at_96) rfl k) ?_
            show own_GW _ _ _ (T457.setTop (mkF m 98 #[.val (.int p0), .val (.int p1), .val (.int p2), .val (.int p3), .val (.int p4), .val (.int (3 : Int32)), .val (.int x0), .val (.int x1), .val (.int x2), .val (.int xq), .val (.ref b435), .val (.ref b444), .unset, .unset, .unset] [(.int (3 : Int32))])) _ _ _ _ _ _
            refine own_goW (fun _ k => XS.iconst X457.here hx rfl (hb hby at_98) k) ?_
            show own_GW _ _ _ (T457.setTop (mkF m 99 #[.val (.int p0), .val (.int p1), .val (.int p2), .val (.int p3), .val (.int p4), .val (.int (3 : Int32)), .val (.int x0), .val (.int x1), .val (.int x2), .val (.int xq), .val (.ref b435), .val (.ref b444), .unset, .unset, .unset] [(.int (2 : Int32)), (.int (3 : Int32))])) _ _ _ _ _ _
            have hc463 : ¬ ((3 : Int32) = (2 : Int32)) := (by decide)
            refine own_goW (fun _ k => XS.icmpYes X457.here hx rfl (pc0 := 99) (pc' := 116) rfl (hb hby at_99) rfl (feq hc463).2 (by decide) (by decide) k) ?_
            show own_GW _ _ _ (T457.setTop (mkF m 116 #[.val (.int p0), .val (.int p1), .val (.int p2), .val (.int p3), .val (.int p4), .val (.int (3 : Int32)), .val (.int x0), .val (.int x1), .val (.int x2), .val (.int xq), .val (.ref b435), .val (.ref b444), .unset, .unset, .unset] [])) _ _ _ _ _ _
            obtain ⟨T464, h464, X464, e464, E464, A464, D464, -, st464⟩ := newO X457 hx hZ hown (hw _ (List.mem_of_getElem? (i := 9) rfl)) (hw _ (List.mem_of_getElem? (i := 3) rfl)) (hw _ (List.mem_of_getElem? (i := 2) rfl)) e457 (g := (mkF m 116 #[.val (.int p0), .val (.int p1), .val (.int p2), .val (.int p3), .val (.int p4), .val (.int (3 : Int32)), .val (.int x0), .val (.int x1), .val (.int x2), .val (.int xq), .val (.ref b435), .val (.ref b444), .unset, .unset, .unset] [])) rfl (hb hby at_116) (by decide) (by decide)
            obtain ⟨b464, g464⟩ : ∃ z, z = h457.size := ⟨_, rfl⟩
            rw [← g464] at A464 D464 st464
            have ne465 : b435 ≠ b464 := Nat.ne_of_lt (Nat.lt_of_lt_of_le f459.lt (Nat.le_of_eq g464.symm))
            have ne466 : b444 ≠ b464 := Nat.ne_of_lt (Nat.lt_of_lt_of_le f460.lt (Nat.le_of_eq g464.symm))
            have gg464 : n0 ≤ b464 := Nat.le_trans Zs457 (Nat.le_of_eq g464.symm)
            have sz464_0 : h0.size ≤ b464 := Nat.le_trans K457_0.1 (Nat.le_of_eq g464.symm)
            have sz464_1 : h0.size ≤ b464 := Nat.le_trans K457_1.1 (Nat.le_of_eq g464.symm)
            have Zs464 : n0 ≤ h464.size := Nat.le_trans Zs457 E464.1
            have K464_0 : Keep h0 h464 [] := K457_0.ext E464
            have K464_1 : Keep h0 h464 [] := K457_1.ext E464
            have f467 : Old Z n0 h464 := f458.ext E464
            have f468 : Arv Z h464 b435 k435 .char (2 : Int32) [(.int x0), (.int x1)] (.int (0 : Int32)) := f459.ext E464
            have f469 : Arv Z h464 b444 k444 .char (3 : Int32) [(.int x0), (.int x1), (.int x2)] (.int (0 : Int32)) := f460.ext E464
            have f470 : Exa Z h464 b464 "java/lang/String" := A464
            have f471 : Fld Z h464 b464 "java/lang/String" "value" "[B" .null := D464 (Or.inr (hw _ (List.mem_of_getElem? (i := 5) rfl))) (ty := (.array .byte)) (by decide)
            have f472 : Fld Z h464 b464 "java/lang/String" "coder" "B" (.int (0 : Int32)) := D464 (Or.inr (hw _ (List.mem_of_getElem? (i := 6) rfl))) (ty := .byte) (by decide)
            refine own_goW (fun _ k => st464 _ k) ?_
            show own_GW _ _ _ (T464.setTop (mkF m 119 #[.val (.int p0), .val (.int p1), .val (.int p2), .val (.int p3), .val (.int p4), .val (.int (3 : Int32)), .val (.int x0), .val (.int x1), .val (.int x2), .val (.int xq), .val (.ref b435), .val (.ref b444), .unset, .unset, .unset] [(.ref b464)])) _ _ _ _ _ _
            refine own_goW (fun _ k => XS.dup X464.here hx rfl (hb hby at_119) rfl rfl k) ?_
            show own_GW _ _ _ (T464.setTop (mkF m 120 #[.val (.int p0), .val (.int p1), .val (.int p2), .val (.int p3), .val (.int p4), .val (.int (3 : Int32)), .val (.int x0), .val (.int x1), .val (.int x2), .val (.int xq), .val (.ref b435), .val (.ref b444), .unset, .unset, .unset] [(.ref b464), (.ref b464)])) _ _ _ _ _ _
            refine own_goW (fun _ k => XS.aload X464.here hx rfl (hb hby at_120) rfl rfl k) ?_
            show own_GW _ _ _ (T464.setTop (mkF m 122 #[.val (.int p0), .val (.int p1), .val (.int p2), .val (.int p3), .val (.int p4), .val (.int (3 : Int32)), .val (.int x0), .val (.int x1), .val (.int x2), .val (.int xq), .val (.ref b435), .val (.ref b444), .unset, .unset, .unset] [(.ref b444), (.ref b464), (.ref b464)])) _ _ _ _ _ _
            have hp473 : ∀ c ∈ ([x0, x1, x2] : List Int32), ¬ c < 0 ∧ ¬ (255 : Int32) < c := (by intro c hc; simp only [List.mem_cons, List.not_mem_nil, or_false] at hc; rcases hc with hc | hc | hc <;> rw [hc] <;> first | exact rg0.byte | exact rg1.byte | exact rg2.byte)
            have hws473 : ∀ d ∈ StrChars.Road.words, d.before a0 Z = true := fun d hd => hw d (own_words d hd)
            obtain ⟨_, _, ⟨T473, L473, k473, n473⟩, -, X473, ⟨Lc473, hQ473, l473, y473, z473⟩, st473⟩ := X464.specialBack hx (y := (⟨"java/lang/String", "<init>", "([C)V"⟩ : MethodName)) rfl hown (mvT hZ (hw _ (List.mem_of_getElem? (i := 38) rfl))) (mvT hZ (hw _ (List.mem_of_getElem? (i := 39) rfl))) (mvT hZ (hw _ (List.mem_of_getElem? (i := 40) rfl))) (by decide) (StrChars.Road.backV (W := 1) hZ hws473 (kI := 4) (hw _ (List.mem_of_getElem? (i := 3) rfl)) (cs := ([x0, x1, x2] : List Int32)) (bs := ([x0, x1, x2] : List Int32).map (fun c => c.toInt8.toInt32)) (n := 3) gg464 Zs464 f470 f471 f472 f469 (P_ZS_java_lang_String_COMPACT_STRINGS.ext f467.2) hcs rfl rfl (by decide) (by decide) hp473 rfl (by decide) (by decide)) (g := (mkF m 122 #[.val (.int p0), .val (.int p1), .val (.int p2), .val (.int p3), .val (.int p4), .val (.int (3 : Int32)), .val (.int x0), .val (.int x1), .val (.int x2), .val (.int xq), .val (.ref b435), .val (.ref b444), .unset, .unset, .unset] [(.ref b444), (.ref b464), (.ref b464)])) rfl (by rw [hml]; rfl) (Steps.refl _) (a := b464) (argsL := [(.ref b444)]) (rest := [(.ref b464)]) (lenOf pd_9 rfl) rfl (by show 2 * 0 + _ ≤ _; exact Nat.le_of_eq rfl) (hb hby at_122) (fun _ _ => ⟨rfl, e464, (by decide : 3 + 1 ≤ _), (by decide : 9 + 3 ≤ _)⟩)
            dsimp only [Pt.U, Pt.locs, Pt.cells, Pt.slots] at X473 l473 y473 z473 st473 hQ473
            rw [l473] at X473
            subst y473 z473
            obtain ⟨rfl, Nq473, Kq473, xs473, cd473, t473, kb473, nt473, ht473, nx473, vl473, vb473⟩ := hQ473
            have N473 := Fr.app N457 Nq473
            have ne474 : b435 ≠ t473 := Nat.ne_of_lt (Nat.lt_of_lt_of_le f468.lt ht473)
            have ne475 : b444 ≠ t473 := Nat.ne_of_lt (Nat.lt_of_lt_of_le f469.lt ht473)
            have ne476 : b464 ≠ t473 := Nat.ne_of_lt (Nat.lt_of_lt_of_le f470.lt ht473)
            have sz_t473_0 : h0.size ≤ t473 := Nat.le_trans K464_0.1 ht473
            have sz_t473_1 : h0.size ≤ t473 := Nat.le_trans K464_1.1 ht473
            have f477 : Old Z n0 T473.heap := f467.keep Kq473 (allS gg464 all0)
            have f478 : Arv Z T473.heap b435 k435 .char (2 : Int32) [(.int x0), (.int x1)] (.int (0 : Int32)) := f468.keep Kq473 (ninS ne465 nin0)
            have f479 : Arv Z T473.heap b444 k444 .char (3 : Int32) [(.int x0), (.int x1), (.int x2)] (.int (0 : Int32)) := f469.keep Kq473 (ninS ne466 nin0)
            have f480 : Exa Z T473.heap b464 "java/lang/String" := f470.keep Kq473
            have Zs473 : n0 ≤ T473.heap.size := Nat.le_trans Zs464 Kq473.1
            have K473_0 : Keep h0 T473.heap [] := K464_0.trans Kq473 (allS (Or.inr sz464_0) all0)
            have K473_1 : Keep h0 T473.heap [] := K464_1.trans Kq473 (allS (Or.inr sz464_1) all0)
            have f481 : Arv Z T473.heap t473 kb473 .byte (3 : Int32) [(.int (x0).toInt8.toInt32), (.int (x1).toInt8.toInt32), (.int (x2).toInt8.toInt32)] (.int (0 : Int32)) := vb473
            refine own_trW st473 ?_
            show own_GW _ _ _ (T473.setTop (mkF m 125 #[.val (.int p0), .val (.int p1), .val (.int p2), .val (.int p3), .val (.int p4), .val (.int (3 : Int32)), .val (.int x0), .val (.int x1), .val (.int x2), .val (.int xq), .val (.ref b435), .val (.ref b444), .unset, .unset, .unset] [(.ref b464)])) _ _ _ _ _ _
            refine own_goW (fun _ k => XS.astore X473.here hx rfl (hb hby at_125) rfl rfl (l' := #[.val (.int p0), .val (.int p1), .val (.int p2), .val (.int p3), .val (.int p4), .val (.int (3 : Int32)), .val (.int x0), .val (.int x1), .val (.int x2), .val (.int xq), .val (.ref b435), .val (.ref b444), .val (.ref b464), .unset, .unset]) rfl k) ?_
            show own_GW _ _ _ (T473.setTop (mkF m 127 #[.val (.int p0), .val (.int p1), .val (.int p2), .val (.int p3), .val (.int p4), .val (.int (3 : Int32)), .val (.int x0), .val (.int x1), .val (.int x2), .val (.int xq), .val (.ref b435), .val (.ref b444), .val (.ref b464), .unset, .unset] [])) _ _ _ _ _ _
            refine own_goW (fun _ k => XS.iconst X473.here hx rfl (hb hby at_127) k) ?_
            show own_GW _ _ _ (T473.setTop (mkF m 128 #[.val (.int p0), .val (.int p1), .val (.int p2), .val (.int p3), .val (.int p4), .val (.int (3 : Int32)), .val (.int x0), .val (.int x1), .val (.int x2), .val (.int xq), .val (.ref b435), .val (.ref b444), .val (.ref b464), .unset, .unset] [(.int (3 : Int32))])) _ _ _ _ _ _
            obtain ⟨T482, h482, k482, X482, e482, E482, A482, O482, st482⟩ := newR X473 hx hZ hown (hw _ (List.mem_of_getElem? (i := 9) rfl)) (hw _ (List.mem_of_getElem? (i := 10) rfl)) rfl (g := (mkF m 128 #[.val (.int p0), .val (.int p1), .val (.int p2), .val (.int p3), .val (.int p4), .val (.int (3 : Int32)), .val (.int x0), .val (.int x1), .val (.int x2), .val (.int xq), .val (.ref b435), .val (.ref b444), .val (.ref b464), .unset, .unset] [(.int (3 : Int32))])) rfl (hb hby at_128) rfl (by decide) (cap := 3) (by decide) (by decide) (by decide) (by decide)
            obtain ⟨b482, g482⟩ : ∃ z, z = T473.heap.size := ⟨_, rfl⟩
            rw [← g482] at A482 st482
            have ne483 : b435 ≠ b482 := Nat.ne_of_lt (Nat.lt_of_lt_of_le f478.lt (Nat.le_of_eq g482.symm))
            have ne484 : b444 ≠ b482 := Nat.ne_of_lt (Nat.lt_of_lt_of_le f479.lt (Nat.le_of_eq g482.symm))
            have ne485 : b464 ≠ b482 := Nat.ne_of_lt (Nat.lt_of_lt_of_le xs473.lt (Nat.le_of_eq g482.symm))
            have ne486 : t473 ≠ b482 := Nat.ne_of_lt (Nat.lt_of_lt_of_le f481.lt (Nat.le_of_eq g482.symm))
            have gg482 : n0 ≤ b482 := Nat.le_trans Zs473 (Nat.le_of_eq g482.symm)
            have sz482_0 : h0.size ≤ b482 := Nat.le_trans K473_0.1 (Nat.le_of_eq g482.symm)
            have sz482_1 : h0.size ≤ b482 := Nat.le_trans K473_1.1 (Nat.le_of_eq g482.symm)
            have Zs482 : n0 ≤ h482.size := Nat.le_trans Zs473 E482.1
            have K482_0 : Keep h0 h482 [] := K473_0.ext E482
            have K482_1 : Keep h0 h482 [] := K473_1.ext E482
            have f487 : Old Z n0 h482 := f477.ext E482
            have f488 : Arv Z h482 b435 k435 .char (2 : Int32) [(.int x0), (.int x1)] (.int (0 : Int32)) := f478.ext E482
            have f489 : Arv Z h482 b444 k444 .char (3 : Int32) [(.int x0), (.int x1), (.int x2)] (.int (0 : Int32)) := f479.ext E482
            have f490 : Exa Z h482 b464 "java/lang/String" := xs473.ext E482
            have f491 : Fld Z h482 b464 "java/lang/String" "coder" "B" (.int 0) := cd473.ext E482
            have f492 : Fld Z h482 b464 "java/lang/String" "value" "[B" (.ref t473) := vl473.ext E482
            have f493 : Arv Z h482 t473 kb473 .byte (3 : Int32) [(.int (x0).toInt8.toInt32), (.int (x1).toInt8.toInt32), (.int (x2).toInt8.toInt32)] (.int (0 : Int32)) := f481.ext E482
            have f494 : Ovr Z k482 "java/lang/String" := O482
            have f495 : Arv Z h482 b482 k482 (.object "java/lang/String") (3 : Int32) [.null, .null, .null] .null := (Arv.new A482 (by decide)).pad (pad_rep [] .null 3)
            refine own_goW (fun _ k => st482 _ k) ?_
            show own_GW _ _ _ (T482.setTop (mkF m 131 #[.val (.int p0), .val (.int p1), .val (.int p2), .val (.int p3), .val (.int p4), .val (.int (3 : Int32)), .val (.int x0), .val (.int x1), .val (.int x2), .val (.int xq), .val (.ref b435), .val (.ref b444), .val (.ref b464), .unset, .unset] [(.ref b482)])) _ _ _ _ _ _
            refine own_goW (fun _ k => XS.dup X482.here hx rfl (hb hby at_131) rfl rfl k) ?_
            show own_GW _ _ _ (T482.setTop (mkF m 132 #[.val (.int p0), .val (.int p1), .val (.int p2), .val (.int p3), .val (.int p4), .val (.int (3 : Int32)), .val (.int x0), .val (.int x1), .val (.int x2), .val (.int xq), .val (.ref b435), .val (.ref b444), .val (.ref b464), .unset, .unset] [(.ref b482), (.ref b482)])) _ _ _ _ _ _
            refine own_goW (fun _ k => XS.iconst X482.here hx rfl (hb hby at_132) k) ?_
            show own_GW _ _ _ (T482.setTop (mkF m 133 #[.val (.int p0), .val (.int p1), .val (.int p2), .val (.int p3), .val (.int p4), .val (.int (3 : Int32)), .val (.int x0), .val (.int x1), .val (.int x2), .val (.int xq), .val (.ref b435), .val (.ref b444), .val (.ref b464), .unset, .unset] [(.int (0 : Int32)), (.ref b482), (.ref b482)])) _ _ _ _ _ _
            have CQ496 := CR0.trans (CHr.keep K482_1 all0 CR0.1)
            obtain ⟨a496, T496, h496, k1496, b496, kb496, X496, e496, E496, hS496, hk496, -, -, xa496, cd496, vl496, vb496, la496, lb496, CC496, Lt496, nea496, st496⟩ := ldcCH (s := s.setVm s.vm) (vm0 := s.vm) X482 hx hZ hown (hw _ (List.mem_of_getElem? (i := 11) rfl)) (own_wS hw) e482 ((State.WarmedH.refl (s.setVm s.vm)).since h482.size) (Nat.le_refl _) (own_EW hw) (by simp [own_EL]) CQ496.1 (vs := [(.int (65 : Int32))]) (z := (1 : Int32)) ⟨by decide, rfl⟩ (by decide) rfl (g := (mkF m 133 #[.val (.int p0), .val (.int p1), .val (.int p2), .val (.int p3), .val (.int p4), .val (.int (3 : Int32)), .val (.int x0), .val (.int x1), .val (.int x2), .val (.int xq), .val (.ref b435), .val (.ref b444), .val (.ref b464), .unset, .unset] [(.int (0 : Int32)), (.ref b482), (.ref b482)])) rfl (hb hby at_133) (n := 4) (by decide) (by decide) (by decide) (by decide)
            have CR496 := CQ496.trans CC496
            have hW496 : (s.setVm s.vm).Warmed39 T496.vm := hS496.1
            have hR496 : (s.setVm s.vm).Since T496.vm h496.size := ⟨hS496.1, hS496.2.mono hk496⟩
            obtain ⟨X496, hS496, hZ, hown⟩ := rebS hS0 (Nat.le_trans hk0 K482_1.1) X496 hR496 E496.1 hZ hown
            have Lt496 : Lit (s.setVm T496.vm) "com/example/issuerd/issuerd/xml/DomReferencesPinLaw" 18 a496 := Lt496
            have Zs496 : n0 ≤ h496.size := Nat.le_trans Zs482 E496.1
            have K496_0 : Keep h0 h496 [] := K482_0.ext E496
            have f497 : Old Z n0 h496 := f487.ext E496
            have f498 : Arv Z h496 b435 k435 .char (2 : Int32) [(.int x0), (.int x1)] (.int (0 : Int32)) := f488.ext E496
            have f499 : Arv Z h496 b444 k444 .char (3 : Int32) [(.int x0), (.int x1), (.int x2)] (.int (0 : Int32)) := f489.ext E496
            have f500 : Exa Z h496 b464 "java/lang/String" := f490.ext E496
            have f501 : Fld Z h496 b464 "java/lang/String" "coder" "B" (.int 0) := f491.ext E496
            have f502 : Fld Z h496 b464 "java/lang/String" "value" "[B" (.ref t473) := f492.ext E496
            have f503 : Arv Z h496 t473 kb473 .byte (3 : Int32) [(.int (x0).toInt8.toInt32), (.int (x1).toInt8.toInt32), (.int (x2).toInt8.toInt32)] (.int (0 : Int32)) := f493.ext E496
            have f504 : Arv Z h496 b482 k482 (.object "java/lang/String") (3 : Int32) [.null, .null, .null] .null := f495.ext E496
            have sf505 : Safe Z own_EL T496.vm h496 b482 := (by obtain ⟨c_, A_, -⟩ := f504; exact Safe.arr hZ.alike A_ (by decide))
            have KS496 : Keep h496 h496 [b482] := Keep.refl _ _
            refine own_goW (fun _ k => st496 _ k) ?_
            show own_GW _ _ _ (T496.setTop (mkF m 135 #[.val (.int p0), .val (.int p1), .val (.int p2), .val (.int p3), .val (.int p4), .val (.int (3 : Int32)), .val (.int x0), .val (.int x1), .val (.int x2), .val (.int xq), .val (.ref b435), .val (.ref b444), .val (.ref b464), .unset, .unset] [(.ref a496), (.int (0 : Int32)), (.ref b482), (.ref b482)])) _ _ _ _ _ _
            obtain ⟨cl506, Ar506, q506, S506, Ng506, H506, G506⟩ := id f504
            have in506 : ¬ ((0 : Int32) < 0 ∨ cl506.slots.size ≤ ((0 : Int32)).toNatClampNeg) := inb_of S506 ⟨by decide, by decide⟩
            obtain ⟨T506, h506, X506, e506, W506, st506⟩ := stR X496 hx hZ e496 Ar506 (j := (0 : Int32)) in506 rfl (Sto.ofV Ar506 q506 f494 (Ins.self xa496)) (g := (mkF m 135 #[.val (.int p0), .val (.int p1), .val (.int p2), .val (.int p3), .val (.int p4), .val (.int (3 : Int32)), .val (.int x0), .val (.int x1), .val (.int x2), .val (.int xq), .val (.ref b435), .val (.ref b444), .val (.ref b464), .unset, .unset] [(.ref a496), (.int (0 : Int32)), (.ref b482), (.ref b482)])) rfl rfl (hb hby at_135)
            have N506 := Fr.snoc X506 N473 gg482
            have Zs506 : n0 ≤ h506.size := Nat.le_trans Zs496 (Keep.of_wr W506).1
            have K506_0 : Keep h0 h506 [] := K496_0.wr W506 (Or.inr sz482_0)
            have K506_1 : Keep h496 h506 [b482] := KS496.wr W506 (Or.inl (List.mem_of_getElem? (i := 0) rfl))
            have f507 : Old Z n0 h506 := f497.wr W506 gg482
            have f508 : Arv Z h506 b435 k435 .char (2 : Int32) [(.int x0), (.int x1)] (.int (0 : Int32)) := f498.other W506 ne483
            have f509 : Arv Z h506 b444 k444 .char (3 : Int32) [(.int x0), (.int x1), (.int x2)] (.int (0 : Int32)) := f499.other W506 ne484
            have f510 : Exa Z h506 b464 "java/lang/String" := f500.wr W506
            have f511 : Fld Z h506 b464 "java/lang/String" "coder" "B" (.int 0) := f501.other W506 (Or.inl ne485)
            have f512 : Fld Z h506 b464 "java/lang/String" "value" "[B" (.ref t473) := f502.other W506 (Or.inl ne485)
            have f513 : Arv Z h506 t473 kb473 .byte (3 : Int32) [(.int (x0).toInt8.toInt32), (.int (x1).toInt8.toInt32), (.int (x2).toInt8.toInt32)] (.int (0 : Int32)) := f503.other W506 ne486
            have f514 : Exa Z h506 a496 "java/lang/String" := xa496.wr W506
            have f515 : Arv Z h506 b482 k482 (.object "java/lang/String") (3 : Int32) [(.ref a496), .null, .null] .null := Arv.set Ar506 q506 S506 Ng506 H506 G506 rfl W506 0 rfl (Nat.le_of_ble_eq_true rfl)
            refine own_goW (fun _ k => st506 _ k) ?_
            show own_GW _ _ _ (T506.setTop (mkF m 136 #[.val (.int p0), .val (.int p1), .val (.int p2), .val (.int p3), .val (.int p4), .val (.int (3 : Int32)), .val (.int x0), .val (.int x1), .val (.int x2), .val (.int xq), .val (.ref b435), .val (.ref b444), .val (.ref b464), .unset, .unset] [(.ref b482)])) _ _ _ _ _ _
            refine own_goW (fun _ k => XS.dup X506.here hx rfl (hb hby at_136) rfl rfl k) ?_
            show own_GW _ _ _ (T506.setTop (mkF m 137 #[.val (.int p0), .val (.int p1), .val (.int p2), .val (.int p3), .val (.int p4), .val (.int (3 : Int32)), .val (.int x0), .val (.int x1), .val (.int x2), .val (.int xq), .val (.ref b435), .val (.ref b444), .val (.ref b464), .unset, .unset] [(.ref b482), (.ref b482)])) _ _ _ _ _ _
            refine own_goW (fun _ k => XS.iconst X506.here hx rfl (hb hby at_137) k) ?_
            show own_GW _ _ _ (T506.setTop (mkF m 138 #[.val (.int p0), .val (.int p1), .val (.int p2), .val (.int p3), .val (.int p4), .val (.int (3 : Int32)), .val (.int x0), .val (.int x1), .val (.int x2), .val (.int xq), .val (.ref b435), .val (.ref b444), .val (.ref b464), .unset, .unset] [(.int (1 : Int32)), (.ref b482), (.ref b482)])) _ _ _ _ _ _
            have CQ516 := CR496.trans (CHr.keep K506_1 (allS sf505 all0) CR496.1)
            obtain ⟨a516, T516, h516, k1516, b516, kb516, X516, e516, E516, hS516, hk516, -, -, xa516, cd516, vl516, vb516, la516, lb516, CC516, Lt516, nea516, st516⟩ := ldcCH (s := s.setVm T496.vm) (vm0 := T496.vm) X506 hx hZ hown (hw _ (List.mem_of_getElem? (i := 13) rfl)) (own_wS hw) e506 ((State.WarmedH.refl (s.setVm T496.vm)).since h506.size) (Nat.le_refl _) (own_EW hw) (by simp [own_EL]) CQ516.1 (vs := [(.int (66 : Int32))]) (z := (1 : Int32)) ⟨by decide, rfl⟩ (by decide) rfl (g := (mkF m 138 #[.val (.int p0), .val (.int p1), .val (.int p2), .val (.int p3), .val (.int p4), .val (.int (3 : Int32)), .val (.int x0), .val (.int x1), .val (.int x2), .val (.int xq), .val (.ref b435), .val (.ref b444), .val (.ref b464), .unset, .unset] [(.int (1 : Int32)), (.ref b482), (.ref b482)])) rfl (hb hby at_138) (n := 4) (by decide) (by decide) (by decide) (by decide)
            have CR516 := CQ516.trans CC516
            have hW516 : (s.setVm T496.vm).Warmed39 T516.vm := hS516.1
            have hR516 : (s.setVm T496.vm).Since T516.vm h516.size := ⟨hS516.1, hS516.2.mono hk516⟩
            obtain ⟨X516, hS516, hZ, hown⟩ := rebS hS496 (Nat.le_trans (Nat.le_refl _) K506_1.1) X516 hR516 E516.1 hZ hown
            have Lt516 : Lit (s.setVm T516.vm) "com/example/issuerd/issuerd/xml/DomReferencesPinLaw" 20 a516 := Lt516
            have Lt496_516 := Lit.stays Lt496 hW516
            have Zs516 : n0 ≤ h516.size := Nat.le_trans Zs506 E516.1
            have K516_0 : Keep h0 h516 [] := K506_0.ext E516
            have f517 : Old Z n0 h516 := f507.ext E516
            have f518 : Arv Z h516 b435 k435 .char (2 : Int32) [(.int x0), (.int x1)] (.int (0 : Int32)) := f508.ext E516
            have f519 : Arv Z h516 b444 k444 .char (3 : Int32) [(.int x0), (.int x1), (.int x2)] (.int (0 : Int32)) := f509.ext E516
            have f520 : Exa Z h516 b464 "java/lang/String" := f510.ext E516
            have f521 : Fld Z h516 b464 "java/lang/String" "coder" "B" (.int 0) := f511.ext E516
            have f522 : Fld Z h516 b464 "java/lang/String" "value" "[B" (.ref t473) := f512.ext E516
            have f523 : Arv Z h516 t473 kb473 .byte (3 : Int32) [(.int (x0).toInt8.toInt32), (.int (x1).toInt8.toInt32), (.int (x2).toInt8.toInt32)] (.int (0 : Int32)) := f513.ext E516
            have f524 : Exa Z h516 a496 "java/lang/String" := f514.ext E516
            have f525 : Arv Z h516 b482 k482 (.object "java/lang/String") (3 : Int32) [(.ref a496), .null, .null] .null := f515.ext E516
            have sf526 : Safe Z own_EL T516.vm h516 b482 := (by obtain ⟨c_, A_, -⟩ := f525; exact Safe.arr hZ.alike A_ (by decide))
            have KS516 : Keep h516 h516 [b482] := Keep.refl _ _
            refine own_goW (fun _ k => st516 _ k) ?_
            show own_GW _ _ _ (T516.setTop (mkF m 140 #[.val (.int p0), .val (.int p1), .val (.int p2), .val (.int p3), .val (.int p4), .val (.int (3 : Int32)), .val (.int x0), .val (.int x1), .val (.int x2), .val (.int xq), .val (.ref b435), .val (.ref b444), .val (.ref b464), .unset, .unset] [(.ref a516), (.int (1 : Int32)), (.ref b482), (.ref b482)])) _ _ _ _ _ _
            obtain ⟨cl527, Ar527, q527, S527, Ng527, H527, G527⟩ := id f525
            have in527 : ¬ ((1 : Int32) < 0 ∨ cl527.slots.size ≤ ((1 : Int32)).toNatClampNeg) := inb_of S527 ⟨by decide, by decide⟩
            obtain ⟨T527, h527, X527, e527, W527, st527⟩ := stR X516 hx hZ e516 Ar527 (j := (1 : Int32)) in527 rfl (Sto.ofV Ar527 q527 f494 (Ins.self xa516)) (g := (mkF m 140 #[.val (.int p0), .val (.int p1), .val (.int p2), .val (.int p3), .val (.int p4), .val (.int (3 : Int32)), .val (.int x0), .val (.int x1), .val (.int x2), .val (.int xq), .val (.ref b435), .val (.ref b444), .val (.ref b464), .unset, .unset] [(.ref a516), (.int (1 : Int32)), (.ref b482), (.ref b482)])) rfl rfl (hb hby at_140)
            have N527 := Fr.snoc X527 N506 gg482
            have Zs527 : n0 ≤ h527.size := Nat.le_trans Zs516 (Keep.of_wr W527).1
            have K527_0 : Keep h0 h527 [] := K516_0.wr W527 (Or.inr sz482_0)
            have K527_1 : Keep h516 h527 [b482] := KS516.wr W527 (Or.inl (List.mem_of_getElem? (i := 0) rfl))
            have f528 : Old Z n0 h527 := f517.wr W527 gg482
            have f529 : Arv Z h527 b435 k435 .char (2 : Int32) [(.int x0), (.int x1)] (.int (0 : Int32)) := f518.other W527 ne483
            have f530 : Arv Z h527 b444 k444 .char (3 : Int32) [(.int x0), (.int x1), (.int x2)] (.int (0 : Int32)) := f519.other W527 ne484
            have f531 : Exa Z h527 b464 "java/lang/String" := f520.wr W527
            have f532 : Fld Z h527 b464 "java/lang/String" "coder" "B" (.int 0) := f521.other W527 (Or.inl ne485)
            have f533 : Fld Z h527 b464 "java/lang/String" "value" "[B" (.ref t473) := f522.other W527 (Or.inl ne485)
            have f534 : Arv Z h527 t473 kb473 .byte (3 : Int32) [(.int (x0).toInt8.toInt32), (.int (x1).toInt8.toInt32), (.int (x2).toInt8.toInt32)] (.int (0 : Int32)) := f523.other W527 ne486
            have f535 : Exa Z h527 a496 "java/lang/String" := f524.wr W527
            have f536 : Exa Z h527 a516 "java/lang/String" := xa516.wr W527
            have f537 : Arv Z h527 b482 k482 (.object "java/lang/String") (3 : Int32) [(.ref a496), (.ref a516), .null] .null := Arv.set Ar527 q527 S527 Ng527 H527 G527 rfl W527 1 rfl (Nat.le_of_ble_eq_true rfl)
            refine own_goW (fun _ k => st527 _ k) ?_
            show own_GW _ _ _ (T527.setTop (mkF m 141 #[.val (.int p0), .val (.int p1), .val (.int p2), .val (.int p3), .val (.int p4), .val (.int (3 : Int32)), .val (.int x0), .val (.int x1), .val (.int x2), .val (.int xq), .val (.ref b435), .val (.ref b444), .val (.ref b464), .unset, .unset] [(.ref b482)])) _ _ _ _ _ _
            refine own_goW (fun _ k => XS.dup X527.here hx rfl (hb hby at_141) rfl rfl k) ?_
            show own_GW _ _ _ (T527.setTop (mkF m 142 #[.val (.int p0), .val (.int p1), .val (.int p2), .val (.int p3), .val (.int p4), .val (.int (3 : Int32)), .val (.int x0), .val (.int x1), .val (.int x2), .val (.int xq), .val (.ref b435), .val (.ref b444), .val (.ref b464), .unset, .unset] [(.ref b482), (.ref b482)])) _ _ _ _ _ _
            refine own_goW (fun _ k => XS.iconst X527.here hx rfl (hb hby at_142) k) ?_
            show own_GW _ _ _ (T527.setTop (mkF m 143 #[.val (.int p0), .val (.int p1), .val (.int p2), .val (.int p3), .val (.int p4), .val (.int (3 : Int32)), .val (.int x0), .val (.int x1), .val (.int x2), .val (.int xq), .val (.ref b435), .val (.ref b444), .val (.ref b464), .unset, .unset] [(.int (2 : Int32)), (.ref b482), (.ref b482)])) _ _ _ _ _ _
            have CQ538 := CR516.trans (CHr.keep K527_1 (allS sf526 all0) CR516.1)
            obtain ⟨a538, T538, h538, k1538, b538, kb538, X538, e538, E538, hS538, hk538, -, -, xa538, cd538, vl538, vb538, la538, lb538, CC538, Lt538, nea538, st538⟩ := ldcCH (s := s.setVm T516.vm) (vm0 := T516.vm) X527 hx hZ hown (hw _ (List.mem_of_getElem? (i := 14) rfl)) (own_wS hw) e527 ((State.WarmedH.refl (s.setVm T516.vm)).since h527.size) (Nat.le_refl _) (own_EW hw) (by simp [own_EL]) CQ538.1 (vs := [(.int (67 : Int32))]) (z := (1 : Int32)) ⟨by decide, rfl⟩ (by decide) rfl (g := (mkF m 143 #[.val (.int p0), .val (.int p1), .val (.int p2), .val (.int p3), .val (.int p4), .val (.int (3 : Int32)), .val (.int x0), .val (.int x1), .val (.int x2), .val (.int xq), .val (.ref b435), .val (.ref b444), .val (.ref b464), .unset, .unset] [(.int (2 : Int32)), (.ref b482), (.ref b482)])) rfl (hb hby at_143) (n := 4) (by decide) (by decide) (by decide) (by decide)
            have CR538 := CQ538.trans CC538
            have hW538 : (s.setVm T516.vm).Warmed39 T538.vm := hS538.1
            have hR538 : (s.setVm T516.vm).Since T538.vm h538.size := ⟨hS538.1, hS538.2.mono hk538⟩
            obtain ⟨X538, hS538, hZ, hown⟩ := rebS hS516 (Nat.le_trans (Nat.le_refl _) K527_1.1) X538 hR538 E538.1 hZ hown
            have Lt538 : Lit (s.setVm T538.vm) "com/example/issuerd/issuerd/xml/DomReferencesPinLaw" 22 a538 := Lt538
            have Lt496_516_538 := Lit.stays Lt496_516 hW538
            have Lt516_538 := Lit.stays Lt516 hW538
            have Zs538 : n0 ≤ h538.size := Nat.le_trans Zs527 E538.1
            have K538_0 : Keep h0 h538 [] := K527_0.ext E538
            have f539 : Old Z n0 h538 := f528.ext E538
            have f540 : Arv Z h538 b435 k435 .char (2 : Int32) [(.int x0), (.int x1)] (.int (0 : Int32)) := f529.ext E538
            have f541 : Arv Z h538 b444 k444 .char (3 : Int32) [(.int x0), (.int x1), (.int x2)] (.int (0 : Int32)) := f530.ext E538
            have f542 : Exa Z h538 b464 "java/lang/String" := f531.ext E538
            have f543 : Fld Z h538 b464 "java/lang/String" "coder" "B" (.int 0) := f532.ext E538
            have f544 : Fld Z h538 b464 "java/lang/String" "value" "[B" (.ref t473) := f533.ext E538
            have f545 : Arv Z h538 t473 kb473 .byte (3 : Int32) [(.int (x0).toInt8.toInt32), (.int (x1).toInt8.toInt32), (.int (x2).toInt8.toInt32)] (.int (0 : Int32)) := f534.ext E538
            have f546 : Exa Z h538 a496 "java/lang/String" := f535.ext E538
            have f547 : Exa Z h538 a516 "java/lang/String" := f536.ext E538
            have f548 : Arv Z h538 b482 k482 (.object "java/lang/String") (3 : Int32) [(.ref a496), (.ref a516), .null] .null := f537.ext E538
            have sf549 : Safe Z own_EL T538.vm h538 b482 := (by obtain ⟨c_, A_, -⟩ := f548; exact Safe.arr hZ.alike A_ (by decide))
            have KS538 : Keep h538 h538 [b482] := Keep.refl _ _
            refine own_goW (fun _ k => st538 _ k) ?_
            show own_GW _ _ _ (T538.setTop (mkF m 145 #[.val (.int p0), .val (.int p1), .val (.int p2), .val (.int p3), .val (.int p4), .val (.int (3 : Int32)), .val (.int x0), .val (.int x1), .val (.int x2), .val (.int xq), .val (.ref b435), .val (.ref b444), .val (.ref b464), .unset, .unset] [(.ref a538), (.int (2 : Int32)), (.ref b482), (.ref b482)])) _ _ _ _ _ _
            obtain ⟨cl550, Ar550, q550, S550, Ng550, H550, G550⟩ := id f548
            have in550 : ¬ ((2 : Int32) < 0 ∨ cl550.slots.size ≤ ((2 : Int32)).toNatClampNeg) := inb_of S550 ⟨by decide, by decide⟩
            obtain ⟨T550, h550, X550, e550, W550, st550⟩ := stR X538 hx hZ e538 Ar550 (j := (2 : Int32)) in550 rfl (Sto.ofV Ar550 q550 f494 (Ins.self xa538)) (g := (mkF m 145 #[.val (.int p0), .val (.int p1), .val (.int p2), .val (.int p3), .val (.int p4), .val (.int (3 : Int32)), .val (.int x0), .val (.int x1), .val (.int x2), .val (.int xq), .val (.ref b435), .val (.ref b444), .val (.ref b464), .unset, .unset] [(.ref a538), (.int (2 : Int32)), (.ref b482), (.ref b482)])) rfl rfl (hb hby at_145)
            have N550 := Fr.snoc X550 N527 gg482
            have Zs550 : n0 ≤ h550.size := Nat.le_trans Zs538 (Keep.of_wr W550).1
            have K550_0 : Keep h0 h550 [] := K538_0.wr W550 (Or.inr sz482_0)
            have K550_1 : Keep h538 h550 [b482] := KS538.wr W550 (Or.inl (List.mem_of_getElem? (i := 0) rfl))
            have f551 : Old Z n0 h550 := f539.wr W550 gg482
            have f552 : Arv Z h550 b435 k435 .char (2 : Int32) [(.int x0), (.int x1)] (.int (0 : Int32)) := f540.other W550 ne483
            have f553 : Arv Z h550 b444 k444 .char (3 : Int32) [(.int x0), (.int x1), (.int x2)] (.int (0 : Int32)) := f541.other W550 ne484
            have f554 : Exa Z h550 b464 "java/lang/String" := f542.wr W550
            have f555 : Fld Z h550 b464 "java/lang/String" "coder" "B" (.int 0) := f543.other W550 (Or.inl ne485)
            have f556 : Fld Z h550 b464 "java/lang/String" "value" "[B" (.ref t473) := f544.other W550 (Or.inl ne485)
            have f557 : Arv Z h550 t473 kb473 .byte (3 : Int32) [(.int (x0).toInt8.toInt32), (.int (x1).toInt8.toInt32), (.int (x2).toInt8.toInt32)] (.int (0 : Int32)) := f545.other W550 ne486
            have f558 : Exa Z h550 a496 "java/lang/String" := f546.wr W550
            have f559 : Exa Z h550 a516 "java/lang/String" := f547.wr W550
            have f560 : Exa Z h550 a538 "java/lang/String" := xa538.wr W550
            have f561 : Arv Z h550 b482 k482 (.object "java/lang/String") (3 : Int32) [(.ref a496), (.ref a516), (.ref a538)] .null := Arv.set Ar550 q550 S550 Ng550 H550 G550 rfl W550 2 rfl (Nat.le_of_ble_eq_true rfl)
            refine own_goW (fun _ k => st550 _ k) ?_
            show own_GW _ _ _ (T550.setTop (mkF m 146 #[.val (.int p0), .val (.int p1), .val (.int p2), .val (.int p3), .val (.int p4), .val (.int (3 : Int32)), .val (.int x0), .val (.int x1), .val (.int x2), .val (.int xq), .val (.ref b435), .val (.ref b444), .val (.ref b464), .unset, .unset] [(.ref b482)])) _ _ _ _ _ _
            refine own_goW (fun _ k => XS.astore X550.here hx rfl (hb hby at_146) rfl rfl (l' := #[.val (.int p0), .val (.int p1), .val (.int p2), .val (.int p3), .val (.int p4), .val (.int (3 : Int32)), .val (.int x0), .val (.int x1), .val (.int x2), .val (.int xq), .val (.ref b435), .val (.ref b444), .val (.ref b464), .val (.ref b482), .unset]) rfl k) ?_
            show own_GW _ _ _ (T550.setTop (mkF m 148 #[.val (.int p0), .val (.int p1), .val (.int p2), .val (.int p3), .val (.int p4), .val (.int (3 : Int32)), .val (.int x0), .val (.int x1), .val (.int x2), .val (.int xq), .val (.ref b435), .val (.ref b444), .val (.ref b464), .val (.ref b482), .unset] [])) _ _ _ _ _ _
            refine own_goW (fun _ k => XS.aload X550.here hx rfl (hb hby at_148) rfl rfl k) ?_
            show own_GW _ _ _ (T550.setTop (mkF m 150 #[.val (.int p0), .val (.int p1), .val (.int p2), .val (.int p3), .val (.int p4), .val (.int (3 : Int32)), .val (.int x0), .val (.int x1), .val (.int x2), .val (.int xq), .val (.ref b435), .val (.ref b444), .val (.ref b464), .val (.ref b482), .unset] [(.ref b464)])) _ _ _ _ _ _
            refine own_goW (fun _ k => XS.aload X550.here hx rfl (hb hby at_150) rfl rfl k) ?_
            show own_GW _ _ _ (T550.setTop (mkF m 152 #[.val (.int p0), .val (.int p1), .val (.int p2), .val (.int p3), .val (.int p4), .val (.int (3 : Int32)), .val (.int x0), .val (.int x1), .val (.int x2), .val (.int xq), .val (.ref b435), .val (.ref b444), .val (.ref b464), .val (.ref b482), .unset] [(.ref b482), (.ref b464)])) _ _ _ _ _ _
            obtain ⟨_, _, ⟨T562, L562, k562, n562⟩, -, X562, ⟨Lc562, hQ562, l562, y562, z562⟩, st562⟩ := Jvm.LawKit.callS X550 hx (y := (⟨"com/example/issuerd/issuerd/xml/Dom", "references", "(Ljava/lang/String;[Ljava/lang/String;)[Ljava/lang/String;"⟩ : MethodName)) hown (mvT hZ (hw _ (List.mem_of_getElem? (i := 15) rfl))) (mvT hZ (hw _ (List.mem_of_getElem? (i := 16) rfl))) (mvT hZ (hw _ (List.mem_of_getElem? (i := 17) rfl))) (mvT hZ (hw _ (List.mem_of_getElem? (i := 18) rfl))) (by decide) (backOf (W := 0) (rm1d l Z a0 hw [] b464 b482 zc fm t473 kb473 k482 a496 a516 a538 x0 x1 x2 h550 n0 Zs550 f551 P_ZS_java_lang_String_COMPACT_STRINGS hcs P_ZS_jdk_internal_util_Preconditions_SIOOBE_FORMATTER hfm f554 f555 f556 f557 f561 f558 f559 f560 rg0 rg1 rg2) hZ (hw _ (List.mem_of_getElem? (i := 18) rfl)) (hw _ (List.mem_of_getElem? (i := 17) rfl)) (by decide) (by decide)) (g := (mkF m 152 #[.val (.int p0), .val (.int p1), .val (.int p2), .val (.int p3), .val (.int p4), .val (.int (3 : Int32)), .val (.int x0), .val (.int x1), .val (.int x2), .val (.int xq), .val (.ref b435), .val (.ref b444), .val (.ref b464), .val (.ref b482), .unset] [(.ref b482), (.ref b464)])) rfl (by rw [hml]; rfl) (argsL := [(.ref b464), (.ref b482)]) (rest := []) (lenOf pd_6 rfl) rfl (by show 2 * 0 + _ ≤ _; exact Nat.le_of_eq rfl) (hb hby at_152) (fun _ _ => ⟨rfl, e550, (by decide : 11 + 1 ≤ _), (by decide : 39 + 128 ≤ _)⟩)
            dsimp only [Pt.U, Pt.locs, Pt.cells, Pt.slots] at X562 l562 y562 z562 st562 hQ562
            rw [l562] at X562
            subst y562 z562
            obtain ⟨na562, kn562, rfl, Nq562, Kq562, r562_0⟩ := hQ562
            have N562 := Fr.app N550 Nq562
            have f563 : Old Z n0 T562.heap := f551.keep Kq562 all0
            have f564 : Arv Z T562.heap b435 k435 .char (2 : Int32) [(.int x0), (.int x1)] (.int (0 : Int32)) := f552.keep Kq562 nin0
            have f565 : Arv Z T562.heap b444 k444 .char (3 : Int32) [(.int x0), (.int x1), (.int x2)] (.int (0 : Int32)) := f553.keep Kq562 nin0
            have f566 : Exa Z T562.heap b464 "java/lang/String" := f554.keep Kq562
            have f567 : Fld Z T562.heap b464 "java/lang/String" "coder" "B" (.int 0) := f555.keep Kq562 nin0
            have f568 : Fld Z T562.heap b464 "java/lang/String" "value" "[B" (.ref t473) := f556.keep Kq562 nin0
            have f569 : Arv Z T562.heap t473 kb473 .byte (3 : Int32) [(.int (x0).toInt8.toInt32), (.int (x1).toInt8.toInt32), (.int (x2).toInt8.toInt32)] (.int (0 : Int32)) := f557.keep Kq562 nin0
            have f570 : Exa Z T562.heap a496 "java/lang/String" := f558.keep Kq562
            have f571 : Exa Z T562.heap a516 "java/lang/String" := f559.keep Kq562
            have f572 : Exa Z T562.heap a538 "java/lang/String" := f560.keep Kq562
            have f573 : Arv Z T562.heap b482 k482 (.object "java/lang/String") (3 : Int32) [(.ref a496), (.ref a516), (.ref a538)] .null := f561.keep Kq562 nin0
            have Zs562 : n0 ≤ T562.heap.size := Nat.le_trans Zs550 Kq562.1
            have K562_0 : Keep h0 T562.heap [] := K550_0.trans Kq562 all0
            have K562_1 : Keep h538 T562.heap [b482] := K550_1.trans Kq562 all0
            refine own_goW (fun _ k => st562 _ k) ?_
            show own_GW _ _ _ (T562.setTop (mkF m 155 #[.val (.int p0), .val (.int p1), .val (.int p2), .val (.int p3), .val (.int p4), .val (.int (3 : Int32)), .val (.int x0), .val (.int x1), .val (.int x2), .val (.int xq), .val (.ref b435), .val (.ref b444), .val (.ref b464), .val (.ref b482), .unset] [(.ref na562)])) _ _ _ _ _ _
            refine own_goW (fun _ k => XS.astore X562.here hx rfl (hb hby at_155) rfl rfl (l' := #[.val (.int p0), .val (.int p1), .val (.int p2), .val (.int p3), .val (.int p4), .val (.int (3 : Int32)), .val (.int x0), .val (.int x1), .val (.int x2), .val (.int xq), .val (.ref b435), .val (.ref b444), .val (.ref b464), .val (.ref b482), .val (.ref na562)]) rfl k) ?_
            show own_GW _ _ _ (T562.setTop (mkF m 157 #[.val (.int p0), .val (.int p1), .val (.int p2), .val (.int p3), .val (.int p4), .val (.int (3 : Int32)), .val (.int x0), .val (.int x1), .val (.int x2), .val (.int xq), .val (.ref b435), .val (.ref b444), .val (.ref b464), .val (.ref b482), .val (.ref na562)] [])) _ _ _ _ _ _
            refine own_goW (fun _ k => XS.iload X562.here hx rfl (hb hby at_157) rfl k) ?_
            show own_GW _ _ _ (T562.setTop (mkF m 159 #[.val (.int p0), .val (.int p1), .val (.int p2), .val (.int p3), .val (.int p4), .val (.int (3 : Int32)), .val (.int x0), .val (.int x1), .val (.int x2), .val (.int xq), .val (.ref b435), .val (.ref b444), .val (.ref b464), .val (.ref b482), .val (.ref na562)] [(.int (3 : Int32))])) _ _ _ _ _ _
            have hc574 : ¬ ((3 : Int32) = (0 : Int32)) := (by decide)
            refine own_goW (fun _ k => XS.ifYes X562.here hx rfl (pc0 := 159) (pc' := 174) rfl (hb hby at_159) rfl ((if0 _ _).trans (feq hc574).2) (by decide) (by decide) k) ?_
            show own_GW _ _ _ (T562.setTop (mkF m 174 #[.val (.int p0), .val (.int p1), .val (.int p2), .val (.int p3), .val (.int p4), .val (.int (3 : Int32)), .val (.int x0), .val (.int x1), .val (.int x2), .val (.int xq), .val (.ref b435), .val (.ref b444), .val (.ref b464), .val (.ref b482), .val (.ref na562)] [])) _ _ _ _ _ _
            refine own_goW (fun _ k => XS.aload X562.here hx rfl (hb hby at_174) rfl rfl k) ?_
            show own_GW _ _ _ (T562.setTop (mkF m 176 #[.val (.int p0), .val (.int p1), .val (.int p2), .val (.int p3), .val (.int p4), .val (.int (3 : Int32)), .val (.int x0), .val (.int x1), .val (.int x2), .val (.int xq), .val (.ref b435), .val (.ref b444), .val (.ref b464), .val (.ref b482), .val (.ref na562)] [(.ref na562)])) _ _ _ _ _ _
            obtain ⟨cl575, Ar575, -, S575, Ng575, -, -⟩ := id r562_0
            refine own_goW (fun _ k => X562.arraylength hx (by exact Ar575.1) (State.isArrayOf_alike hZ.alike Ar575.2.1) (g := (mkF m 176 #[.val (.int p0), .val (.int p1), .val (.int p2), .val (.int p3), .val (.int p4), .val (.int (3 : Int32)), .val (.int x0), .val (.int x1), .val (.int x2), .val (.int xq), .val (.ref b435), .val (.ref b444), .val (.ref b464), .val (.ref b482), .val (.ref na562)] [(.ref na562)])) rfl rfl (hb hby at_176) _ k) ?_
            rw [len_of S575 Ng575]
            show own_GW _ _ _ (T562.setTop (mkF m 177 #[.val (.int p0), .val (.int p1), .val (.int p2), .val (.int p3), .val (.int p4), .val (.int (3 : Int32)), .val (.int x0), .val (.int x1), .val (.int x2), .val (.int xq), .val (.ref b435), .val (.ref b444), .val (.ref b464), .val (.ref b482), .val (.ref na562)] [(.int (128 : Int32))])) _ _ _ _ _ _
            refine own_goW (fun _ k => XS.sipush X562.here hx rfl (hb hby at_177) k) ?_
            show own_GW _ _ _ (T562.setTop (mkF m 180 #[.val (.int p0), .val (.int p1), .val (.int p2), .val (.int p3), .val (.int p4), .val (.int (3 : Int32)), .val (.int x0), .val (.int x1), .val (.int x2), .val (.int xq), .val (.ref b435), .val (.ref b444), .val (.ref b464), .val (.ref b482), .val (.ref na562)] [(.int (128 : Int32)), (.int (128 : Int32))])) _ _ _ _ _ _
            have hc576 : (128 : Int32) = (128 : Int32) := (by decide)
            refine own_goW (fun _ k => XS.icmpYes X562.here hx rfl (pc0 := 180) (pc' := 185) rfl (hb hby at_180) rfl (teq hc576).1 (by decide) (by decide) k) ?_
            show own_GW _ _ _ (T562.setTop (mkF m 185 #[.val (.int p0), .val (.int p1), .val (.int p2), .val (.int p3), .val (.int p4), .val (.int (3 : Int32)), .val (.int x0), .val (.int x1), .val (.int x2), .val (.int xq), .val (.ref b435), .val (.ref b444), .val (.ref b464), .val (.ref b482), .val (.ref na562)] [])) _ _ _ _ _ _
            rcases own_c3 x0 x1 x2 xq with qhC | ⟨qnC, qhB⟩ | ⟨qnC, qnB, qhA⟩ | ⟨qnC, qnB, qnA⟩
            · skip
              refine own_goW (fun _ k => XS.aload X562.here hx rfl (hb hby at_185) rfl rfl k) ?_
              show own_GW _ _ _ (T562.setTop (mkF m 187 #[.val (.int p0), .val (.int p1), .val (.int p2), .val (.int p3), .val (.int p4), .val (.int (3 : Int32)), .val (.int x0), .val (.int x1), .val (.int x2), .val (.int xq), .val (.ref b435), .val (.ref b444), .val (.ref b464), .val (.ref b482), .val (.ref na562)] [(.ref na562)])) _ _ _ _ _ _
              refine own_goW (fun _ k => XS.iload X562.here hx rfl (hb hby at_187) rfl k) ?_
              show own_GW _ _ _ (T562.setTop (mkF m 189 #[.val (.int p0), .val (.int p1), .val (.int p2), .val (.int p3), .val (.int p4), .val (.int (3 : Int32)), .val (.int x0), .val (.int x1), .val (.int x2), .val (.int xq), .val (.ref b435), .val (.ref b444), .val (.ref b464), .val (.ref b482), .val (.ref na562)] [(.int xq), (.ref na562)])) _ _ _ _ _ _
              obtain ⟨cl577, Ar577, q577, S577, Ng577, H577, G577⟩ := id r562_0
              have in577 : ¬ (xq < 0 ∨ cl577.slots.size ≤ (xq).toNatClampNeg) := inb_of S577 rgq.inb
              have at577 : cl577.slots[(xq).toNatClampNeg]? = some (.ref a538) := H577.at in577 (own_set_yes _ x2 xq _ rg2 (by simp only [own_set_len, own_t0_len]) qhC)
              refine own_goW (fun _ k => X562.aaload hx (j := xq) (v := (.ref a538)) (by exact Ar577.1) (State.isArrayOf_alike hZ.alike Ar577.2.1) rfl Ar577.2.2 in577 at577 (g := (mkF m 189 #[.val (.int p0), .val (.int p1), .val (.int p2), .val (.int p3), .val (.int p4), .val (.int (3 : Int32)), .val (.int x0), .val (.int x1), .val (.int x2), .val (.int xq), .val (.ref b435), .val (.ref b444), .val (.ref b464), .val (.ref b482), .val (.ref na562)] [(.int xq), (.ref na562)])) rfl rfl (hb hby at_189) _ k) ?_
              show own_GW _ _ _ (T562.setTop (mkF m 190 #[.val (.int p0), .val (.int p1), .val (.int p2), .val (.int p3), .val (.int p4), .val (.int (3 : Int32)), .val (.int x0), .val (.int x1), .val (.int x2), .val (.int xq), .val (.ref b435), .val (.ref b444), .val (.ref b464), .val (.ref b482), .val (.ref na562)] [(.ref a538)])) _ _ _ _ _ _
              refine own_goW (fun _ k => XS.iload X562.here hx rfl (hb hby at_190) rfl k) ?_
              show own_GW _ _ _ (T562.setTop (mkF m 192 #[.val (.int p0), .val (.int p1), .val (.int p2), .val (.int p3), .val (.int p4), .val (.int (3 : Int32)), .val (.int x0), .val (.int x1), .val (.int x2), .val (.int xq), .val (.ref b435), .val (.ref b444), .val (.ref b464), .val (.ref b482), .val (.ref na562)] [(.int xq), (.ref a538)])) _ _ _ _ _ _
              refine own_goW (fun _ k => XS.iload X562.here hx rfl (hb hby at_192) rfl k) ?_
              show own_GW _ _ _ (T562.setTop (mkF m 194 #[.val (.int p0), .val (.int p1), .val (.int p2), .val (.int p3), .val (.int p4), .val (.int (3 : Int32)), .val (.int x0), .val (.int x1), .val (.int x2), .val (.int xq), .val (.ref b435), .val (.ref b444), .val (.ref b464), .val (.ref b482), .val (.ref na562)] [(.int (3 : Int32)), (.int xq), (.ref a538)])) _ _ _ _ _ _
              refine own_goW (fun _ k => XS.iload X562.here hx rfl (hb hby at_194) rfl k) ?_
              show own_GW _ _ _ (T562.setTop (mkF m 196 #[.val (.int p0), .val (.int p1), .val (.int p2), .val (.int p3), .val (.int p4), .val (.int (3 : Int32)), .val (.int x0), .val (.int x1), .val (.int x2), .val (.int xq), .val (.ref b435), .val (.ref b444), .val (.ref b464), .val (.ref b482), .val (.ref na562)] [(.int x0), (.int (3 : Int32)), (.int xq), (.ref a538)])) _ _ _ _ _ _
              refine own_goW (fun _ k => XS.iload X562.here hx rfl (hb hby at_196) rfl k) ?_
              show own_GW _ _ _ (T562.setTop (mkF m 198 #[.val (.int p0), .val (.int p1), .val (.int p2), .val (.int p3), .val (.int p4), .val (.int (3 : Int32)), .val (.int x0), .val (.int x1), .val (.int x2), .val (.int xq), .val (.ref b435), .val (.ref b444), .val (.ref b464), .val (.ref b482), .val (.ref na562)] [(.int x1), (.int x0), (.int (3 : Int32)), (.int xq), (.ref a538)])) _ _ _ _ _ _
              refine own_goW (fun _ k => XS.iload X562.here hx rfl (hb hby at_198) rfl k) ?_
              show own_GW _ _ _ (T562.setTop (mkF m 200 #[.val (.int p0), .val (.int p1), .val (.int p2), .val (.int p3), .val (.int p4), .val (.int (3 : Int32)), .val (.int x0), .val (.int x1), .val (.int x2), .val (.int xq), .val (.ref b435), .val (.ref b444), .val (.ref b464), .val (.ref b482), .val (.ref na562)] [(.int x2), (.int x1), (.int x0), (.int (3 : Int32)), (.int xq), (.ref a538)])) _ _ _ _ _ _
              obtain ⟨_, _, ⟨T578, L578, k578, n578⟩, -, X578, ⟨Lc578, hQ578, l578, y578, z578⟩, st578⟩ := Jvm.LawKit.callS X562 hx (y := (⟨"com/example/issuerd/issuerd/xml/DomReferencesPinLaw", "expected", "(IICCC)Ljava/lang/String;"⟩ : MethodName)) hown (mvT hZ (hw _ (List.mem_of_getElem? (i := 79) rfl))) (mvT hZ (hw _ (List.mem_of_getElem? (i := 80) rfl))) (mvT hZ (hw _ (List.mem_of_getElem? (i := 81) rfl))) (mvT hZ (hw _ (List.mem_of_getElem? (i := 82) rfl))) (by decide) (backOf (W := 1) (rm16f l (s.setVm T538.vm) a0 [] xq x0 x1 x2 a496 a516 a538 T562.heap n0 Zs562 (mvS hZ (hw _ (List.mem_of_getElem? (i := 11) rfl))) (mvS hZ (hw _ (List.mem_of_getElem? (i := 13) rfl))) (mvS hZ (hw _ (List.mem_of_getElem? (i := 14) rfl))) Lt496_516_538 Lt516_538 Lt538 qhC) (State.Warmed39.refl _) (mvT (args := a0) hZ (hw _ (List.mem_of_getElem? (i := 82) rfl))) (mvT (args := a0) hZ (hw _ (List.mem_of_getElem? (i := 81) rfl))) (by decide) (by decide)) (g := (mkF m 200 #[.val (.int p0), .val (.int p1), .val (.int p2), .val (.int p3), .val (.int p4), .val (.int (3 : Int32)), .val (.int x0), .val (.int x1), .val (.int x2), .val (.int xq), .val (.ref b435), .val (.ref b444), .val (.ref b464), .val (.ref b482), .val (.ref na562)] [(.int x2), (.int x1), (.int x0), (.int (3 : Int32)), (.int xq), (.ref a538)])) rfl (by rw [hml]; rfl) (argsL := [(.int xq), (.int (3 : Int32)), (.int x0), (.int x1), (.int x2)]) (rest := [(.ref a538)]) (lenOf pd_8 rfl) rfl (by show 2 * 0 + _ ≤ _; exact Nat.le_of_eq rfl) (hb hby at_200) (fun _ _ => ⟨rfl, rfl, (by decide : 12 + 0 ≤ _), (by decide : 167 + 0 ≤ _)⟩)
              dsimp only [Pt.U, Pt.locs, Pt.cells, Pt.slots] at X578 l578 y578 z578 st578 hQ578
              rw [l578] at X578
              subst y578 z578
              obtain ⟨rfl, Nq578, eh578⟩ := hQ578
              have N578 := Fr.app N562 Nq578
              refine own_goW (fun _ k => st578 _ k) ?_
              show own_GW _ _ _ (T578.setTop (mkF m 203 #[.val (.int p0), .val (.int p1), .val (.int p2), .val (.int p3), .val (.int p4), .val (.int (3 : Int32)), .val (.int x0), .val (.int x1), .val (.int x2), .val (.int xq), .val (.ref b435), .val (.ref b444), .val (.ref b464), .val (.ref b482), .val (.ref na562)] [(.ref a538), (.ref a538)])) _ _ _ _ _ _
              refine own_goW (fun _ k => Jvm.RoadKit.acmp (g := (mkF m 203 #[.val (.int p0), .val (.int p1), .val (.int p2), .val (.int p3), .val (.int p4), .val (.int (3 : Int32)), .val (.int x0), .val (.int x1), .val (.int x2), .val (.int xq), .val (.ref b435), .val (.ref b444), .val (.ref b464), .val (.ref b482), .val (.ref na562)] [(.ref a538), (.ref a538)])) X578 hx rfl rfl rfl (pc0 := 203) (pc' := 206) (same := true) rfl (hb hby at_203) rfl (decide_eq_true rfl) (by decide) (by decide) k) ?_
              show own_GW _ _ _ (T578.setTop (mkF m 206 #[.val (.int p0), .val (.int p1), .val (.int p2), .val (.int p3), .val (.int p4), .val (.int (3 : Int32)), .val (.int x0), .val (.int x1), .val (.int x2), .val (.int xq), .val (.ref b435), .val (.ref b444), .val (.ref b464), .val (.ref b482), .val (.ref na562)] [])) _ _ _ _ _ _
              rcases own_c2 x1 x2 x0 with ehC | ⟨enC, ehB⟩ | ⟨enC, enB⟩
              · skip
                refine own_goW (fun _ k => XS.aload X578.here hx rfl (hb hby at_206) rfl rfl k) ?_
                show own_GW _ _ _ (T578.setTop (mkF m 208 #[.val (.int p0), .val (.int p1), .val (.int p2), .val (.int p3), .val (.int p4), .val (.int (3 : Int32)), .val (.int x0), .val (.int x1), .val (.int x2), .val (.int xq), .val (.ref b435), .val (.ref b444), .val (.ref b464), .val (.ref b482), .val (.ref na562)] [(.ref na562)])) _ _ _ _ _ _
                refine own_goW (fun _ k => XS.iload X578.here hx rfl (hb hby at_208) rfl k) ?_
                show own_GW _ _ _ (T578.setTop (mkF m 210 #[.val (.int p0), .val (.int p1), .val (.int p2), .val (.int p3), .val (.int p4), .val (.int (3 : Int32)), .val (.int x0), .val (.int x1), .val (.int x2), .val (.int xq), .val (.ref b435), .val (.ref b444), .val (.ref b464), .val (.ref b482), .val (.ref na562)] [(.int x0), (.ref na562)])) _ _ _ _ _ _
                obtain ⟨cl579, Ar579, q579, S579, Ng579, H579, G579⟩ := id r562_0
                have in579 : ¬ (x0 < 0 ∨ cl579.slots.size ≤ (x0).toNatClampNeg) := inb_of S579 rg0.inb
                have at579 : cl579.slots[(x0).toNatClampNeg]? = some (.ref a538) := H579.at in579 (own_set_yes _ x2 x0 _ rg2 (by simp only [own_set_len, own_t0_len]) ehC)
                refine own_goW (fun _ k => X578.aaload hx (j := x0) (v := (.ref a538)) (by rw [eh578]; exact Ar579.1) (State.isArrayOf_alike hZ.alike Ar579.2.1) rfl Ar579.2.2 in579 at579 (g := (mkF m 210 #[.val (.int p0), .val (.int p1), .val (.int p2), .val (.int p3), .val (.int p4), .val (.int (3 : Int32)), .val (.int x0), .val (.int x1), .val (.int x2), .val (.int xq), .val (.ref b435), .val (.ref b444), .val (.ref b464), .val (.ref b482), .val (.ref na562)] [(.int x0), (.ref na562)])) rfl rfl (hb hby at_210) _ k) ?_
                show own_GW _ _ _ (T578.setTop (mkF m 211 #[.val (.int p0), .val (.int p1), .val (.int p2), .val (.int p3), .val (.int p4), .val (.int (3 : Int32)), .val (.int x0), .val (.int x1), .val (.int x2), .val (.int xq), .val (.ref b435), .val (.ref b444), .val (.ref b464), .val (.ref b482), .val (.ref na562)] [(.ref a538)])) _ _ _ _ _ _
                refine own_goW (fun _ k => XS.iload X578.here hx rfl (hb hby at_211) rfl k) ?_
                show own_GW _ _ _ (T578.setTop (mkF m 213 #[.val (.int p0), .val (.int p1), .val (.int p2), .val (.int p3), .val (.int p4), .val (.int (3 : Int32)), .val (.int x0), .val (.int x1), .val (.int x2), .val (.int xq), .val (.ref b435), .val (.ref b444), .val (.ref b464), .val (.ref b482), .val (.ref na562)] [(.int x0), (.ref a538)])) _ _ _ _ _ _
                refine own_goW (fun _ k => XS.iload X578.here hx rfl (hb hby at_213) rfl k) ?_
                show own_GW _ _ _ (T578.setTop (mkF m 215 #[.val (.int p0), .val (.int p1), .val (.int p2), .val (.int p3), .val (.int p4), .val (.int (3 : Int32)), .val (.int x0), .val (.int x1), .val (.int x2), .val (.int xq), .val (.ref b435), .val (.ref b444), .val (.ref b464), .val (.ref b482), .val (.ref na562)] [(.int (3 : Int32)), (.int x0), (.ref a538)])) _ _ _ _ _ _
                refine own_goW (fun _ k => XS.iload X578.here hx rfl (hb hby at_215) rfl k) ?_
                show own_GW _ _ _ (T578.setTop (mkF m 217 #[.val (.int p0), .val (.int p1), .val (.int p2), .val (.int p3), .val (.int p4), .val (.int (3 : Int32)), .val (.int x0), .val (.int x1), .val (.int x2), .val (.int xq), .val (.ref b435), .val (.ref b444), .val (.ref b464), .val (.ref b482), .val (.ref na562)] [(.int x0), (.int (3 : Int32)), (.int x0), (.ref a538)])) _ _ _ _ _ _
                refine own_goW (fun _ k => XS.iload X578.here hx rfl (hb hby at_217) rfl k) ?_
                show own_GW _ _ _ (T578.setTop (mkF m 219 #[.val (.int p0), .val (.int p1), .val (.int p2), .val (.int p3), .val (.int p4), .val (.int (3 : Int32)), .val (.int x0), .val (.int x1), .val (.int x2), .val (.int xq), .val (.ref b435), .val (.ref b444), .val (.ref b464), .val (.ref b482), .val (.ref na562)] [(.int x1), (.int x0), (.int (3 : Int32)), (.int x0), (.ref a538)])) _ _ _ _ _ _
                refine own_goW (fun _ k => XS.iload X578.here hx rfl (hb hby at_219) rfl k) ?_
                show own_GW _ _ _ (T578.setTop (mkF m 221 #[.val (.int p0), .val (.int p1), .val (.int p2), .val (.int p3), .val (.int p4), .val (.int (3 : Int32)), .val (.int x0), .val (.int x1), .val (.int x2), .val (.int xq), .val (.ref b435), .val (.ref b444), .val (.ref b464), .val (.ref b482), .val (.ref na562)] [(.int x2), (.int x1), (.int x0), (.int (3 : Int32)), (.int x0), (.ref a538)])) _ _ _ _ _ _
                obtain ⟨_, _, ⟨T580, L580, k580, n580⟩, -, X580, ⟨Lc580, hQ580, l580, y580, z580⟩, st580⟩ := Jvm.LawKit.callS X578 hx (y := (⟨"com/example/issuerd/issuerd/xml/DomReferencesPinLaw", "expected", "(IICCC)Ljava/lang/String;"⟩ : MethodName)) hown (mvT hZ (hw _ (List.mem_of_getElem? (i := 79) rfl))) (mvT hZ (hw _ (List.mem_of_getElem? (i := 80) rfl))) (mvT hZ (hw _ (List.mem_of_getElem? (i := 81) rfl))) (mvT hZ (hw _ (List.mem_of_getElem? (i := 82) rfl))) (by decide) (backOf (W := 1) (rm16f l (s.setVm T538.vm) a0 [] x0 x0 x1 x2 a496 a516 a538 T562.heap n0 Zs562 (mvS hZ (hw _ (List.mem_of_getElem? (i := 11) rfl))) (mvS hZ (hw _ (List.mem_of_getElem? (i := 13) rfl))) (mvS hZ (hw _ (List.mem_of_getElem? (i := 14) rfl))) Lt496_516_538 Lt516_538 Lt538 ehC) (State.Warmed39.refl _) (mvT (args := a0) hZ (hw _ (List.mem_of_getElem? (i := 82) rfl))) (mvT (args := a0) hZ (hw _ (List.mem_of_getElem? (i := 81) rfl))) (by decide) (by decide)) (g := (mkF m 221 #[.val (.int p0), .val (.int p1), .val (.int p2), .val (.int p3), .val (.int p4), .val (.int (3 : Int32)), .val (.int x0), .val (.int x1), .val (.int x2), .val (.int xq), .val (.ref b435), .val (.ref b444), .val (.ref b464), .val (.ref b482), .val (.ref na562)] [(.int x2), (.int x1), (.int x0), (.int (3 : Int32)), (.int x0), (.ref a538)])) rfl (by rw [hml]; rfl) (argsL := [(.int x0), (.int (3 : Int32)), (.int x0), (.int x1), (.int x2)]) (rest := [(.ref a538)]) (lenOf pd_8 rfl) rfl (by show 2 * 0 + _ ≤ _; exact Nat.le_of_eq rfl) (hb hby at_221) (fun _ _ => ⟨rfl, eh578, (by decide : 12 + 0 ≤ _), (by decide : 167 + 0 ≤ _)⟩)
                dsimp only [Pt.U, Pt.locs, Pt.cells, Pt.slots] at X580 l580 y580 z580 st580 hQ580
                rw [l580] at X580
                subst y580 z580
                obtain ⟨rfl, Nq580, eh580⟩ := hQ580
                have N580 := Fr.app N578 Nq580
                refine own_goW (fun _ k => st580 _ k) ?_
                show own_GW _ _ _ (T580.setTop (mkF m 224 #[.val (.int p0), .val (.int p1), .val (.int p2), .val (.int p3), .val (.int p4), .val (.int (3 : Int32)), .val (.int x0), .val (.int x1), .val (.int x2), .val (.int xq), .val (.ref b435), .val (.ref b444), .val (.ref b464), .val (.ref b482), .val (.ref na562)] [(.ref a538), (.ref a538)])) _ _ _ _ _ _
                refine own_goW (fun _ k => Jvm.RoadKit.acmp (g := (mkF m 224 #[.val (.int p0), .val (.int p1), .val (.int p2), .val (.int p3), .val (.int p4), .val (.int (3 : Int32)), .val (.int x0), .val (.int x1), .val (.int x2), .val (.int xq), .val (.ref b435), .val (.ref b444), .val (.ref b464), .val (.ref b482), .val (.ref na562)] [(.ref a538), (.ref a538)])) X580 hx rfl rfl rfl (pc0 := 224) (pc' := 227) (same := true) rfl (hb hby at_224) rfl (decide_eq_true rfl) (by decide) (by decide) k) ?_
                show own_GW _ _ _ (T580.setTop (mkF m 227 #[.val (.int p0), .val (.int p1), .val (.int p2), .val (.int p3), .val (.int p4), .val (.int (3 : Int32)), .val (.int x0), .val (.int x1), .val (.int x2), .val (.int xq), .val (.ref b435), .val (.ref b444), .val (.ref b464), .val (.ref b482), .val (.ref na562)] [])) _ _ _ _ _ _
                refine own_goW (fun _ k => XS.iconst X580.here hx rfl (hb hby at_227) k) ?_
                show own_GW _ _ _ (T580.setTop (mkF m 228 #[.val (.int p0), .val (.int p1), .val (.int p2), .val (.int p3), .val (.int p4), .val (.int (3 : Int32)), .val (.int x0), .val (.int x1), .val (.int x2), .val (.int xq), .val (.ref b435), .val (.ref b444), .val (.ref b464), .val (.ref b482), .val (.ref na562)] [(.int (1 : Int32))])) _ _ _ _ _ _
                refine own_goW (fun _ k => XS.goto X580.here hx rfl (pc0 := 228) (pc' := 232) rfl (hb hby at_228) (by decide) (by decide) k) ?_
                show own_GW _ _ _ (T580.setTop (mkF m 232 #[.val (.int p0), .val (.int p1), .val (.int p2), .val (.int p3), .val (.int p4), .val (.int (3 : Int32)), .val (.int x0), .val (.int x1), .val (.int x2), .val (.int xq), .val (.ref b435), .val (.ref b444), .val (.ref b464), .val (.ref b482), .val (.ref na562)] [(.int (1 : Int32))])) _ _ _ _ _ _
                have CQ581 := CR538.trans (CHr.keep K562_1 (allS sf549 all0) CR538.1)
                have CE581 : CHr Z own_EL s.vm s.heap T580.vm T580.heap := by rw [hh, show T580.heap = T562.heap from eh580]; exact CQ581.trans (CHv.at X580 hZ (own_EW hw) CQ581.1)
                exact own_endWN X580 hx hlk (t := .boolean) Bd.returns (by simp) (hb hby at_232) hS538 (show _ ≤ T580.heap.size by rw [show T580.heap = T562.heap from eh580]; exact (Nat.le_trans (Nat.le_refl _) K562_1.1)) (by decide) (by decide) CE581 (Q := (Q0 Z p0 p1 p2 p3 p4 zc fm h0 n0)) (by rw [eh580]; exact ⟨rfl, N580, K562_0⟩)
              · skip
                refine own_goW (fun _ k => XS.aload X578.here hx rfl (hb hby at_206) rfl rfl k) ?_
                show own_GW _ _ _ (T578.setTop (mkF m 208 #[.val (.int p0), .val (.int p1), .val (.int p2), .val (.int p3), .val (.int p4), .val (.int (3 : Int32)), .val (.int x0), .val (.int x1), .val (.int x2), .val (.int xq), .val (.ref b435), .val (.ref b444), .val (.ref b464), .val (.ref b482), .val (.ref na562)] [(.ref na562)])) _ _ _ _ _ _
                refine own_goW (fun _ k => XS.iload X578.here hx rfl (hb hby at_208) rfl k) ?_
                show own_GW _ _ _ (T578.setTop (mkF m 210 #[.val (.int p0), .val (.int p1), .val (.int p2), .val (.int p3), .val (.int p4), .val (.int (3 : Int32)), .val (.int x0), .val (.int x1), .val (.int x2), .val (.int xq), .val (.ref b435), .val (.ref b444), .val (.ref b464), .val (.ref b482), .val (.ref na562)] [(.int x0), (.ref na562)])) _ _ _ _ _ _
                obtain ⟨cl582, Ar582, q582, S582, Ng582, H582, G582⟩ := id r562_0
                have in582 : ¬ (x0 < 0 ∨ cl582.slots.size ≤ (x0).toNatClampNeg) := inb_of S582 rg0.inb
                have at582 : cl582.slots[(x0).toNatClampNeg]? = some (.ref a516) := H582.at in582 ((own_set_no _ x2 x0 _ rg2 rg0 enC).trans (own_set_yes _ x1 x0 _ rg1 (by simp only [own_set_len, own_t0_len]) ehB))
                refine own_goW (fun _ k => X578.aaload hx (j := x0) (v := (.ref a516)) (by rw [eh578]; exact Ar582.1) (State.isArrayOf_alike hZ.alike Ar582.2.1) rfl Ar582.2.2 in582 at582 (g := (mkF m 210 #[.val (.int p0), .val (.int p1), .val (.int p2), .val (.int p3), .val (.int p4), .val (.int (3 : Int32)), .val (.int x0), .val (.int x1), .val (.int x2), .val (.int xq), .val (.ref b435), .val (.ref b444), .val (.ref b464), .val (.ref b482), .val (.ref na562)] [(.int x0), (.ref na562)])) rfl rfl (hb hby at_210) _ k) ?_
                show own_GW _ _ _ (T578.setTop (mkF m 211 #[.val (.int p0), .val (.int p1), .val (.int p2), .val (.int p3), .val (.int p4), .val (.int (3 : Int32)), .val (.int x0), .val (.int x1), .val (.int x2), .val (.int xq), .val (.ref b435), .val (.ref b444), .val (.ref b464), .val (.ref b482), .val (.ref na562)] [(.ref a516)])) _ _ _ _ _ _
                refine own_goW (fun _ k => XS.iload X578.here hx rfl (hb hby at_211) rfl k) ?_
                show own_GW _ _ _ (T578.setTop (mkF m 213 #[.val (.int p0), .val (.int p1), .val (.int p2), .val (.int p3), .val (.int p4), .val (.int (3 : Int32)), .val (.int x0), .val (.int x1), .val (.int x2), .val (.int xq), .val (.ref b435), .val (.ref b444), .val (.ref b464), .val (.ref b482), .val (.ref na562)] [(.int x0), (.ref a516)])) _ _ _ _ _ _
                refine own_goW (fun _ k => XS.iload X578.here hx rfl (hb hby at_213) rfl k) ?_
                show own_GW _ _ _ (T578.setTop (mkF m 215 #[.val (.int p0), .val (.int p1), .val (.int p2), .val (.int p3), .val (.int p4), .val (.int (3 : Int32)), .val (.int x0), .val (.int x1), .val (.int x2), .val (.int xq), .val (.ref b435), .val (.ref b444), .val (.ref b464), .val (.ref b482), .val (.ref na562)] [(.int (3 : Int32)), (.int x0), (.ref a516)])) _ _ _ _ _ _
                refine own_goW (fun _ k => XS.iload X578.here hx rfl (hb hby at_215) rfl k) ?_
                show own_GW _ _ _ (T578.setTop (mkF m 217 #[.val (.int p0), .val (.int p1), .val (.int p2), .val (.int p3), .val (.int p4), .val (.int (3 : Int32)), .val (.int x0), .val (.int x1), .val (.int x2), .val (.int xq), .val (.ref b435), .val (.ref b444), .val (.ref b464), .val (.ref b482), .val (.ref na562)] [(.int x0), (.int (3 : Int32)), (.int x0), (.ref a516)])) _ _ _ _ _ _
                refine own_goW (fun _ k => XS.iload X578.here hx rfl (hb hby at_217) rfl k) ?_
                show own_GW _ _ _ (T578.setTop (mkF m 219 #[.val (.int p0), .val (.int p1), .val (.int p2), .val (.int p3), .val (.int p4), .val (.int (3 : Int32)), .val (.int x0), .val (.int x1), .val (.int x2), .val (.int xq), .val (.ref b435), .val (.ref b444), .val (.ref b464), .val (.ref b482), .val (.ref na562)] [(.int x1), (.int x0), (.int (3 : Int32)), (.int x0), (.ref a516)])) _ _ _ _ _ _
                refine own_goW (fun _ k => XS.iload X578.here hx rfl (hb hby at_219) rfl k) ?_
                show own_GW _ _ _ (T578.setTop (mkF m 221 #[.val (.int p0), .val (.int p1), .val (.int p2), .val (.int p3), .val (.int p4), .val (.int (3 : Int32)), .val (.int x0), .val (.int x1), .val (.int x2), .val (.int xq), .val (.ref b435), .val (.ref b444), .val (.ref b464), .val (.ref b482), .val (.ref na562)] [(.int x2), (.int x1), (.int x0), (.int (3 : Int32)), (.int x0), (.ref a516)])) _ _ _ _ _ _
                obtain ⟨_, _, ⟨T583, L583, k583, n583⟩, -, X583, ⟨Lc583, hQ583, l583, y583, z583⟩, st583⟩ := Jvm.LawKit.callS X578 hx (y := (⟨"com/example/issuerd/issuerd/xml/DomReferencesPinLaw", "expected", "(IICCC)Ljava/lang/String;"⟩ : MethodName)) hown (mvT hZ (hw _ (List.mem_of_getElem? (i := 79) rfl))) (mvT hZ (hw _ (List.mem_of_getElem? (i := 80) rfl))) (mvT hZ (hw _ (List.mem_of_getElem? (i := 81) rfl))) (mvT hZ (hw _ (List.mem_of_getElem? (i := 82) rfl))) (by decide) (backOf (W := 1) (rm16g l (s.setVm T538.vm) a0 [] x0 x0 x1 x2 a496 a516 a538 T562.heap n0 Zs562 (mvS hZ (hw _ (List.mem_of_getElem? (i := 11) rfl))) (mvS hZ (hw _ (List.mem_of_getElem? (i := 13) rfl))) (mvS hZ (hw _ (List.mem_of_getElem? (i := 14) rfl))) Lt496_516_538 Lt516_538 Lt538 enC ehB) (State.Warmed39.refl _) (mvT (args := a0) hZ (hw _ (List.mem_of_getElem? (i := 82) rfl))) (mvT (args := a0) hZ (hw _ (List.mem_of_getElem? (i := 81) rfl))) (by decide) (by decide)) (g := (mkF m 221 #[.val (.int p0), .val (.int p1), .val (.int p2), .val (.int p3), .val (.int p4), .val (.int (3 : Int32)), .val (.int x0), .val (.int x1), .val (.int x2), .val (.int xq), .val (.ref b435), .val (.ref b444), .val (.ref b464), .val (.ref b482), .val (.ref na562)] [(.int x2), (.int x1), (.int x0), (.int (3 : Int32)), (.int x0), (.ref a516)])) rfl (by rw [hml]; rfl) (argsL := [(.int x0), (.int (3 : Int32)), (.int x0), (.int x1), (.int x2)]) (rest := [(.ref a516)]) (lenOf pd_8 rfl) rfl (by show 2 * 0 + _ ≤ _; exact Nat.le_of_eq rfl) (hb hby at_221) (fun _ _ => ⟨rfl, eh578, (by decide : 12 + 0 ≤ _), (by decide : 167 + 0 ≤ _)⟩)
                dsimp only [Pt.U, Pt.locs, Pt.cells, Pt.slots] at X583 l583 y583 z583 st583 hQ583
                rw [l583] at X583
                subst y583 z583
                obtain ⟨rfl, Nq583, eh583⟩ := hQ583
                have N583 := Fr.app N578 Nq583
                refine own_goW (fun _ k => st583 _ k) ?_
                show own_GW _ _ _ (T583.setTop (mkF m 224 #[.val (.int p0), .val (.int p1), .val (.int p2), .val (.int p3), .val (.int p4), .val (.int (3 : Int32)), .val (.int x0), .val (.int x1), .val (.int x2), .val (.int xq), .val (.ref b435), .val (.ref b444), .val (.ref b464), .val (.ref b482), .val (.ref na562)] [(.ref a516), (.ref a516)])) _ _ _ _ _ _
                refine own_goW (fun _ k => Jvm.RoadKit.acmp (g := (mkF m 224 #[.val (.int p0), .val (.int p1), .val (.int p2), .val (.int p3), .val (.int p4), .val (.int (3 : Int32)), .val (.int x0), .val (.int x1), .val (.int x2), .val (.int xq), .val (.ref b435), .val (.ref b444), .val (.ref b464), .val (.ref b482), .val (.ref na562)] [(.ref a516), (.ref a516)])) X583 hx rfl rfl rfl (pc0 := 224) (pc' := 227) (same := true) rfl (hb hby at_224) rfl (decide_eq_true rfl) (by decide) (by decide) k) ?_
                show own_GW _ _ _ (T583.setTop (mkF m 227 #[.val (.int p0), .val (.int p1), .val (.int p2), .val (.int p3), .val (.int p4), .val (.int (3 : Int32)), .val (.int x0), .val (.int x1), .val (.int x2), .val (.int xq), .val (.ref b435), .val (.ref b444), .val (.ref b464), .val (.ref b482), .val (.ref na562)] [])) _ _ _ _ _ _
                refine own_goW (fun _ k => XS.iconst X583.here hx rfl (hb hby at_227) k) ?_
                show own_GW _ _ _ (T583.setTop (mkF m 228 #[.val (.int p0), .val (.int p1), .val (.int p2), .val (.int p3), .val (.int p4), .val (.int (3 : Int32)), .val (.int x0), .val (.int x1), .val (.int x2), .val (.int xq), .val (.ref b435), .val (.ref b444), .val (.ref b464), .val (.ref b482), .val (.ref na562)] [(.int (1 : Int32))])) _ _ _ _ _ _
                refine own_goW (fun _ k => XS.goto X583.here hx rfl (pc0 := 228) (pc' := 232) rfl (hb hby at_228) (by decide) (by decide) k) ?_
                show own_GW _ _ _ (T583.setTop (mkF m 232 #[.val (.int p0), .val (.int p1), .val (.int p2), .val (.int p3), .val (.int p4), .val (.int (3 : Int32)), .val (.int x0), .val (.int x1), .val (.int x2), .val (.int xq), .val (.ref b435), .val (.ref b444), .val (.ref b464), .val (.ref b482), .val (.ref na562)] [(.int (1 : Int32))])) _ _ _ _ _ _
                have CQ584 := CR538.trans (CHr.keep K562_1 (allS sf549 all0) CR538.1)
                have CE584 : CHr Z own_EL s.vm s.heap T583.vm T583.heap := by rw [hh, show T583.heap = T562.heap from eh583]; exact CQ584.trans (CHv.at X583 hZ (own_EW hw) CQ584.1)
                exact own_endWN X583 hx hlk (t := .boolean) Bd.returns (by simp) (hb hby at_232) hS538 (show _ ≤ T583.heap.size by rw [show T583.heap = T562.heap from eh583]; exact (Nat.le_trans (Nat.le_refl _) K562_1.1)) (by decide) (by decide) CE584 (Q := (Q0 Z p0 p1 p2 p3 p4 zc fm h0 n0)) (by rw [eh583]; exact ⟨rfl, N583, K562_0⟩)
              · skip
                refine own_goW (fun _ k => XS.aload X578.here hx rfl (hb hby at_206) rfl rfl k) ?_
                show own_GW _ _ _ (T578.setTop (mkF m 208 #[.val (.int p0), .val (.int p1), .val (.int p2), .val (.int p3), .val (.int p4), .val (.int (3 : Int32)), .val (.int x0), .val (.int x1), .val (.int x2), .val (.int xq), .val (.ref b435), .val (.ref b444), .val (.ref b464), .val (.ref b482), .val (.ref na562)] [(.ref na562)])) _ _ _ _ _ _
                refine own_goW (fun _ k => XS.iload X578.here hx rfl (hb hby at_208) rfl k) ?_
                show own_GW _ _ _ (T578.setTop (mkF m 210 #[.val (.int p0), .val (.int p1), .val (.int p2), .val (.int p3), .val (.int p4), .val (.int (3 : Int32)), .val (.int x0), .val (.int x1), .val (.int x2), .val (.int xq), .val (.ref b435), .val (.ref b444), .val (.ref b464), .val (.ref b482), .val (.ref na562)] [(.int x0), (.ref na562)])) _ _ _ _ _ _
                obtain ⟨cl585, Ar585, q585, S585, Ng585, H585, G585⟩ := id r562_0
                have in585 : ¬ (x0 < 0 ∨ cl585.slots.size ≤ (x0).toNatClampNeg) := inb_of S585 rg0.inb
                have at585 : cl585.slots[(x0).toNatClampNeg]? = some (.ref a496) := H585.at in585 (((own_set_no _ x2 x0 _ rg2 rg0 enC).trans (own_set_no _ x1 x0 _ rg1 rg0 enB)).trans (own_set_yes _ x0 x0 _ rg0 (by simp only [own_set_len, own_t0_len]) rfl))
                refine own_goW (fun _ k => X578.aaload hx (j := x0) (v := (.ref a496)) (by rw [eh578]; exact Ar585.1) (State.isArrayOf_alike hZ.alike Ar585.2.1) rfl Ar585.2.2 in585 at585 (g := (mkF m 210 #[.val (.int p0), .val (.int p1), .val (.int p2), .val (.int p3), .val (.int p4), .val (.int (3 : Int32)), .val (.int x0), .val (.int x1), .val (.int x2), .val (.int xq), .val (.ref b435), .val (.ref b444), .val (.ref b464), .val (.ref b482), .val (.ref na562)] [(.int x0), (.ref na562)])) rfl rfl (hb hby at_210) _ k) ?_
                show own_GW _ _ _ (T578.setTop (mkF m 211 #[.val (.int p0), .val (.int p1), .val (.int p2), .val (.int p3), .val (.int p4), .val (.int (3 : Int32)), .val (.int x0), .val (.int x1), .val (.int x2), .val (.int xq), .val (.ref b435), .val (.ref b444), .val (.ref b464), .val (.ref b482), .val (.ref na562)] [(.ref a496)])) _ _ _ _ _ _
                refine own_goW (fun _ k => XS.iload X578.here hx rfl (hb hby at_211) rfl k) ?_
                show own_GW _ _ _ (T578.setTop (mkF m 213 #[.val (.int p0), .val (.int p1), .val (.int p2), .val (.int p3), .val (.int p4), .val (.int (3 : Int32)), .val (.int x0), .val (.int x1), .val (.int x2), .val (.int xq), .val (.ref b435), .val (.ref b444), .val (.ref b464), .val (.ref b482), .val (.ref na562)] [(.int x0), (.ref a496)])) _ _ _ _ _ _
                refine own_goW (fun _ k => XS.iload X578.here hx rfl (hb hby at_213) rfl k) ?_
                show own_GW _ _ _ (T578.setTop (mkF m 215 #[.val (.int p0), .val (.int p1), .val (.int p2), .val (.int p3), .val (.int p4), .val (.int (3 : Int32)), .val (.int x0), .val (.int x1), .val (.int x2), .val (.int xq), .val (.ref b435), .val (.ref b444), .val (.ref b464), .val (.ref b482), .val (.ref na562)] [(.int (3 : Int32)), (.int x0), (.ref a496)])) _ _ _ _ _ _
                refine own_goW (fun _ k => XS.iload X578.here hx rfl (hb hby at_215) rfl k) ?_
                show own_GW _ _ _ (T578.setTop (mkF m 217 #[.val (.int p0), .val (.int p1), .val (.int p2), .val (.int p3), .val (.int p4), .val (.int (3 : Int32)), .val (.int x0), .val (.int x1), .val (.int x2), .val (.int xq), .val (.ref b435), .val (.ref b444), .val (.ref b464), .val (.ref b482), .val (.ref na562)] [(.int x0), (.int (3 : Int32)), (.int x0), (.ref a496)])) _ _ _ _ _ _
                refine own_goW (fun _ k => XS.iload X578.here hx rfl (hb hby at_217) rfl k) ?_
                show own_GW _ _ _ (T578.setTop (mkF m 219 #[.val (.int p0), .val (.int p1), .val (.int p2), .val (.int p3), .val (.int p4), .val (.int (3 : Int32)), .val (.int x0), .val (.int x1), .val (.int x2), .val (.int xq), .val (.ref b435), .val (.ref b444), .val (.ref b464), .val (.ref b482), .val (.ref na562)] [(.int x1), (.int x0), (.int (3 : Int32)), (.int x0), (.ref a496)])) _ _ _ _ _ _
                refine own_goW (fun _ k => XS.iload X578.here hx rfl (hb hby at_219) rfl k) ?_
                show own_GW _ _ _ (T578.setTop (mkF m 221 #[.val (.int p0), .val (.int p1), .val (.int p2), .val (.int p3), .val (.int p4), .val (.int (3 : Int32)), .val (.int x0), .val (.int x1), .val (.int x2), .val (.int xq), .val (.ref b435), .val (.ref b444), .val (.ref b464), .val (.ref b482), .val (.ref na562)] [(.int x2), (.int x1), (.int x0), (.int (3 : Int32)), (.int x0), (.ref a496)])) _ _ _ _ _ _
                obtain ⟨_, _, ⟨T586, L586, k586, n586⟩, -, X586, ⟨Lc586, hQ586, l586, y586, z586⟩, st586⟩ := Jvm.LawKit.callS X578 hx (y := (⟨"com/example/issuerd/issuerd/xml/DomReferencesPinLaw", "expected", "(IICCC)Ljava/lang/String;"⟩ : MethodName)) hown (mvT hZ (hw _ (List.mem_of_getElem? (i := 79) rfl))) (mvT hZ (hw _ (List.mem_of_getElem? (i := 80) rfl))) (mvT hZ (hw _ (List.mem_of_getElem? (i := 81) rfl))) (mvT hZ (hw _ (List.mem_of_getElem? (i := 82) rfl))) (by decide) (backOf (W := 1) (rm16h l (s.setVm T538.vm) a0 [] x0 x0 x1 x2 a496 a516 a538 T562.heap n0 Zs562 (mvS hZ (hw _ (List.mem_of_getElem? (i := 11) rfl))) (mvS hZ (hw _ (List.mem_of_getElem? (i := 13) rfl))) (mvS hZ (hw _ (List.mem_of_getElem? (i := 14) rfl))) Lt496_516_538 Lt516_538 Lt538 enC enB rfl) (State.Warmed39.refl _) (mvT (args := a0) hZ (hw _ (List.mem_of_getElem? (i := 82) rfl))) (mvT (args := a0) hZ (hw _ (List.mem_of_getElem? (i := 81) rfl))) (by decide) (by decide)) (g := (mkF m 221 #[.val (.int p0), .val (.int p1), .val (.int p2), .val (.int p3), .val (.int p4), .val (.int (3 : Int32)), .val (.int x0), .val (.int x1), .val (.int x2), .val (.int xq), .val (.ref b435), .val (.ref b444), .val (.ref b464), .val (.ref b482), .val (.ref na562)] [(.int x2), (.int x1), (.int x0), (.int (3 : Int32)), (.int x0), (.ref a496)])) rfl (by rw [hml]; rfl) (argsL := [(.int x0), (.int (3 : Int32)), (.int x0), (.int x1), (.int x2)]) (rest := [(.ref a496)]) (lenOf pd_8 rfl) rfl (by show 2 * 0 + _ ≤ _; exact Nat.le_of_eq rfl) (hb hby at_221) (fun _ _ => ⟨rfl, eh578, (by decide : 12 + 0 ≤ _), (by decide : 167 + 0 ≤ _)⟩)
                dsimp only [Pt.U, Pt.locs, Pt.cells, Pt.slots] at X586 l586 y586 z586 st586 hQ586
                rw [l586] at X586
                subst y586 z586
                obtain ⟨rfl, Nq586, eh586⟩ := hQ586
                have N586 := Fr.app N578 Nq586
                refine own_goW (fun _ k => st586 _ k) ?_
                show own_GW _ _ _ (T586.setTop (mkF m 224 #[.val (.int p0), .val (.int p1), .val (.int p2), .val (.int p3), .val (.int p4), .val (.int (3 : Int32)), .val (.int x0), .val (.int x1), .val (.int x2), .val (.int xq), .val (.ref b435), .val (.ref b444), .val (.ref b464), .val (.ref b482), .val (.ref na562)] [(.ref a496), (.ref a496)])) _ _ _ _ _ _
                refine own_goW (fun _ k => Jvm.RoadKit.acmp (g := (mkF m 224 #[.val (.int p0), .val (.int p1), .val (.int p2), .val (.int p3), .val (.int p4), .val (.int (3 : Int32)), .val (.int x0), .val (.int x1), .val (.int x2), .val (.int xq), .val (.ref b435), .val (.ref b444), .val (.ref b464), .val (.ref b482), .val (.ref na562)] [(.ref a496), (.ref a496)])) X586 hx rfl rfl rfl (pc0 := 224) (pc' := 227) (same := true) rfl (hb hby at_224) rfl (decide_eq_true rfl) (by decide) (by decide) k) ?_
                show own_GW _ _ _ (T586.setTop (mkF m 227 #[.val (.int p0), .val (.int p1), .val (.int p2), .val (.int p3), .val (.int p4), .val (.int (3 : Int32)), .val (.int x0), .val (.int x1), .val (.int x2), .val (.int xq), .val (.ref b435), .val (.ref b444), .val (.ref b464), .val (.ref b482), .val (.ref na562)] [])) _ _ _ _ _ _
                refine own_goW (fun _ k => XS.iconst X586.here hx rfl (hb hby at_227) k) ?_
                show own_GW _ _ _ (T586.setTop (mkF m 228 #[.val (.int p0), .val (.int p1), .val (.int p2), .val (.int p3), .val (.int p4), .val (.int (3 : Int32)), .val (.int x0), .val (.int x1), .val (.int x2), .val (.int xq), .val (.ref b435), .val (.ref b444), .val (.ref b464), .val (.ref b482), .val (.ref na562)] [(.int (1 : Int32))])) _ _ _ _ _ _
                refine own_goW (fun _ k => XS.goto X586.here hx rfl (pc0 := 228) (pc' := 232) rfl (hb hby at_228) (by decide) (by decide) k) ?_
                show own_GW _ _ _ (T586.setTop (mkF m 232 #[.val (.int p0), .val (.int p1), .val (.int p2), .val (.int p3), .val (.int p4), .val (.int (3 : Int32)), .val (.int x0), .val (.int x1), .val (.int x2), .val (.int xq), .val (.ref b435), .val (.ref b444), .val (.ref b464), .val (.ref b482), .val (.ref na562)] [(.int (1 : Int32))])) _ _ _ _ _ _
                have CQ587 := CR538.trans (CHr.keep K562_1 (allS sf549 all0) CR538.1)
                have CE587 : CHr Z own_EL s.vm s.heap T586.vm T586.heap := by rw [hh, show T586.heap = T562.heap from eh586]; exact CQ587.trans (CHv.at X586 hZ (own_EW hw) CQ587.1)
                exact own_endWN X586 hx hlk (t := .boolean) Bd.returns (by simp) (hb hby at_232) hS538 (show _ ≤ T586.heap.size by rw [show T586.heap = T562.heap from eh586]; exact (Nat.le_trans (Nat.le_refl _) K562_1.1)) (by decide) (by decide) CE587 (Q := (Q0 Z p0 p1 p2 p3 p4 zc fm h0 n0)) (by rw [eh586]; exact ⟨rfl, N586, K562_0⟩)
            · skip
              refine own_goW (fun _ k => XS.aload X562.here hx rfl (hb hby at_185) rfl rfl k) ?_
              show own_GW _ _ _ (T562.setTop (mkF m 187 #[.val (.int p0), .val (.int p1), .val (.int p2), .val (.int p3), .val (.int p4), .val (.int (3 : Int32)), .val (.int x0), .val (.int x1), .val (.int x2), .val (.int xq), .val (.ref b435), .val (.ref b444), .val (.ref b464), .val (.ref b482), .val (.ref na562)] [(.ref na562)])) _ _ _ _ _ _
              refine own_goW (fun _ k => XS.iload X562.here hx rfl (hb hby at_187) rfl k) ?_
              show own_GW _ _ _ (T562.setTop (mkF m 189 #[.val (.int p0), .val (.int p1), .val (.int p2), .val (.int p3), .val (.int p4), .val (.int (3 : Int32)), .val (.int x0), .val (.int x1), .val (.int x2), .val (.int xq), .val (.ref b435), .val (.ref b444), .val (.ref b464), .val (.ref b482), .val (.ref na562)] [(.int xq), (.ref na562)])) _ _ _ _ _ _
              obtain ⟨cl588, Ar588, q588, S588, Ng588, H588, G588⟩ := id r562_0
              have in588 : ¬ (xq < 0 ∨ cl588.slots.size ≤ (xq).toNatClampNeg) := inb_of S588 rgq.inb
              have at588 : cl588.slots[(xq).toNatClampNeg]? = some (.ref a516) := H588.at in588 ((own_set_no _ x2 xq _ rg2 rgq qnC).trans (own_set_yes _ x1 xq _ rg1 (by simp only [own_set_len, own_t0_len]) qhB))
              refine own_goW (fun _ k => X562.aaload hx (j := xq) (v := (.ref a516)) (by exact Ar588.1) (State.isArrayOf_alike hZ.alike Ar588.2.1) rfl Ar588.2.2 in588 at588 (g := (mkF m 189 #[.val (.int p0), .val (.int p1), .val (.int p2), .val (.int p3), .val (.int p4), .val (.int (3 : Int32)), .val (.int x0), .val (.int x1), .val (.int x2), .val (.int xq), .val (.ref b435), .val (.ref b444), .val (.ref b464), .val (.ref b482), .val (.ref na562)] [(.int xq), (.ref na562)])) rfl rfl (hb hby at_189) _ k) ?_
              show own_GW _ _ _ (T562.setTop (mkF m 190 #[.val (.int p0), .val (.int p1), .val (.int p2), .val (.int p3), .val (.int p4), .val (.int (3 : Int32)), .val (.int x0), .val (.int x1), .val (.int x2), .val (.int xq), .val (.ref b435), .val (.ref b444), .val (.ref b464), .val (.ref b482), .val (.ref na562)] [(.ref a516)])) _ _ _ _ _ _
              refine own_goW (fun _ k => XS.iload X562.here hx rfl (hb hby at_190) rfl k) ?_
              show own_GW _ _ _ (T562.setTop (mkF m 192 #[.val (.int p0), .val (.int p1), .val (.int p2), .val (.int p3), .val (.int p4), .val (.int (3 : Int32)), .val (.int x0), .val (.int x1), .val (.int x2), .val (.int xq), .val (.ref b435), .val (.ref b444), .val (.ref b464), .val (.ref b482), .val (.ref na562)] [(.int xq), (.ref a516)])) _ _ _ _ _ _
              refine own_goW (fun _ k => XS.iload X562.here hx rfl (hb hby at_192) rfl k) ?_
              show own_GW _ _ _ (T562.setTop (mkF m 194 #[.val (.int p0), .val (.int p1), .val (.int p2), .val (.int p3), .val (.int p4), .val (.int (3 : Int32)), .val (.int x0), .val (.int x1), .val (.int x2), .val (.int xq), .val (.ref b435), .val (.ref b444), .val (.ref b464), .val (.ref b482), .val (.ref na562)] [(.int (3 : Int32)), (.int xq), (.ref a516)])) _ _ _ _ _ _
              refine own_goW (fun _ k => XS.iload X562.here hx rfl (hb hby at_194) rfl k) ?_
              show own_GW _ _ _ (T562.setTop (mkF m 196 #[.val (.int p0), .val (.int p1), .val (.int p2), .val (.int p3), .val (.int p4), .val (.int (3 : Int32)), .val (.int x0), .val (.int x1), .val (.int x2), .val (.int xq), .val (.ref b435), .val (.ref b444), .val (.ref b464), .val (.ref b482), .val (.ref na562)] [(.int x0), (.int (3 : Int32)), (.int xq), (.ref a516)])) _ _ _ _ _ _
              refine own_goW (fun _ k => XS.iload X562.here hx rfl (hb hby at_196) rfl k) ?_
              show own_GW _ _ _ (T562.setTop (mkF m 198 #[.val (.int p0), .val (.int p1), .val (.int p2), .val (.int p3), .val (.int p4), .val (.int (3 : Int32)), .val (.int x0), .val (.int x1), .val (.int x2), .val (.int xq), .val (.ref b435), .val (.ref b444), .val (.ref b464), .val (.ref b482), .val (.ref na562)] [(.int x1), (.int x0), (.int (3 : Int32)), (.int xq), (.ref a516)])) _ _ _ _ _ _
              refine own_goW (fun _ k => XS.iload X562.here hx rfl (hb hby at_198) rfl k) ?_
              show own_GW _ _ _ (T562.setTop (mkF m 200 #[.val (.int p0), .val (.int p1), .val (.int p2), .val (.int p3), .val (.int p4), .val (.int (3 : Int32)), .val (.int x0), .val (.int x1), .val (.int x2), .val (.int xq), .val (.ref b435), .val (.ref b444), .val (.ref b464), .val (.ref b482), .val (.ref na562)] [(.int x2), (.int x1), (.int x0), (.int (3 : Int32)), (.int xq), (.ref a516)])) _ _ _ _ _ _
              obtain ⟨_, _, ⟨T589, L589, k589, n589⟩, -, X589, ⟨Lc589, hQ589, l589, y589, z589⟩, st589⟩ := Jvm.LawKit.callS X562 hx (y := (⟨"com/example/issuerd/issuerd/xml/DomReferencesPinLaw", "expected", "(IICCC)Ljava/lang/String;"⟩ : MethodName)) hown (mvT hZ (hw _ (List.mem_of_getElem? (i := 79) rfl))) (mvT hZ (hw _ (List.mem_of_getElem? (i := 80) rfl))) (mvT hZ (hw _ (List.mem_of_getElem? (i := 81) rfl))) (mvT hZ (hw _ (List.mem_of_getElem? (i := 82) rfl))) (by decide) (backOf (W := 1) (rm16g l (s.setVm T538.vm) a0 [] xq x0 x1 x2 a496 a516 a538 T562.heap n0 Zs562 (mvS hZ (hw _ (List.mem_of_getElem? (i := 11) rfl))) (mvS hZ (hw _ (List.mem_of_getElem? (i := 13) rfl))) (mvS hZ (hw _ (List.mem_of_getElem? (i := 14) rfl))) Lt496_516_538 Lt516_538 Lt538 qnC qhB) (State.Warmed39.refl _) (mvT (args := a0) hZ (hw _ (List.mem_of_getElem? (i := 82) rfl))) (mvT (args := a0) hZ (hw _ (List.mem_of_getElem? (i := 81) rfl))) (by decide) (by decide)) (g := (mkF m 200 #[.val (.int p0), .val (.int p1), .val (.int p2), .val (.int p3), .val (.int p4), .val (.int (3 : Int32)), .val (.int x0), .val (.int x1), .val (.int x2), .val (.int xq), .val (.ref b435), .val (.ref b444), .val (.ref b464), .val (.ref b482), .val (.ref na562)] [(.int x2), (.int x1), (.int x0), (.int (3 : Int32)), (.int xq), (.ref a516)])) rfl (by rw [hml]; rfl) (argsL := [(.int xq), (.int (3 : Int32)), (.int x0), (.int x1), (.int x2)]) (rest := [(.ref a516)]) (lenOf pd_8 rfl) rfl (by show 2 * 0 + _ ≤ _; exact Nat.le_of_eq rfl) (hb hby at_200) (fun _ _ => ⟨rfl, rfl, (by decide : 12 + 0 ≤ _), (by decide : 167 + 0 ≤ _)⟩)
              dsimp only [Pt.U, Pt.locs, Pt.cells, Pt.slots] at X589 l589 y589 z589 st589 hQ589
              rw [l589] at X589
              subst y589 z589
              obtain ⟨rfl, Nq589, eh589⟩ := hQ589
              have N589 := Fr.app N562 Nq589
              refine own_goW (fun _ k => st589 _ k) ?_
              show own_GW _ _ _ (T589.setTop (mkF m 203 #[.val (.int p0), .val (.int p1), .val (.int p2), .val (.int p3), .val (.int p4), .val (.int (3 : Int32)), .val (.int x0), .val (.int x1), .val (.int x2), .val (.int xq), .val (.ref b435), .val (.ref b444), .val (.ref b464), .val (.ref b482), .val (.ref na562)] [(.ref a516), (.ref a516)])) _ _ _ _ _ _
              refine own_goW (fun _ k => Jvm.RoadKit.acmp (g := (mkF m 203 #[.val (.int p0), .val (.int p1), .val (.int p2), .val (.int p3), .val (.int p4), .val (.int (3 : Int32)), .val (.int x0), .val (.int x1), .val (.int x2), .val (.int xq), .val (.ref b435), .val (.ref b444), .val (.ref b464), .val (.ref b482), .val (.ref na562)] [(.ref a516), (.ref a516)])) X589 hx rfl rfl rfl (pc0 := 203) (pc' := 206) (same := true) rfl (hb hby at_203) rfl (decide_eq_true rfl) (by decide) (by decide) k) ?_
              show own_GW _ _ _ (T589.setTop (mkF m 206 #[.val (.int p0), .val (.int p1), .val (.int p2), .val (.int p3), .val (.int p4), .val (.int (3 : Int32)), .val (.int x0), .val (.int x1), .val (.int x2), .val (.int xq), .val (.ref b435), .val (.ref b444), .val (.ref b464), .val (.ref b482), .val (.ref na562)] [])) _ _ _ _ _ _
              rcases own_c2 x1 x2 x0 with ehC | ⟨enC, ehB⟩ | ⟨enC, enB⟩
              · skip
                refine own_goW (fun _ k => XS.aload X589.here hx rfl (hb hby at_206) rfl rfl k) ?_
                show own_GW _ _ _ (T589.setTop (mkF m 208 #[.val (.int p0), .val (.int p1), .val (.int p2), .val (.int p3), .val (.int p4), .val (.int (3 : Int32)), .val (.int x0), .val (.int x1), .val (.int x2), .val (.int xq), .val (.ref b435), .val (.ref b444), .val (.ref b464), .val (.ref b482), .val (.ref na562)] [(.ref na562)])) _ _ _ _ _ _
                refine own_goW (fun _ k => XS.iload X589.here hx rfl (hb hby at_208) rfl k) ?_
                show own_GW _ _ _ (T589.setTop (mkF m 210 #[.val (.int p0), .val (.int p1), .val (.int p2), .val (.int p3), .val (.int p4), .val (.int (3 : Int32)), .val (.int x0), .val (.int x1), .val (.int x2), .val (.int xq), .val (.ref b435), .val (.ref b444), .val (.ref b464), .val (.ref b482), .val (.ref na562)] [(.int x0), (.ref na562)])) _ _ _ _ _ _
                obtain ⟨cl590, Ar590, q590, S590, Ng590, H590, G590⟩ := id r562_0
                have in590 : ¬ (x0 < 0 ∨ cl590.slots.size ≤ (x0).toNatClampNeg) := inb_of S590 rg0.inb
                have at590 : cl590.slots[(x0).toNatClampNeg]? = some (.ref a538) := H590.at in590 (own_set_yes _ x2 x0 _ rg2 (by simp only [own_set_len, own_t0_len]) ehC)
                refine own_goW (fun _ k => X589.aaload hx (j := x0) (v := (.ref a538)) (by rw [eh589]; exact Ar590.1) (State.isArrayOf_alike hZ.alike Ar590.2.1) rfl Ar590.2.2 in590 at590 (g := (mkF m 210 #[.val (.int p0), .val (.int p1), .val (.int p2), .val (.int p3), .val (.int p4), .val (.int (3 : Int32)), .val (.int x0), .val (.int x1), .val (.int x2), .val (.int xq), .val (.ref b435), .val (.ref b444), .val (.ref b464), .val (.ref b482), .val (.ref na562)] [(.int x0), (.ref na562)])) rfl rfl (hb hby at_210) _ k) ?_
                show own_GW _ _ _ (T589.setTop (mkF m 211 #[.val (.int p0), .val (.int p1), .val (.int p2), .val (.int p3), .val (.int p4), .val (.int (3 : Int32)), .val (.int x0), .val (.int x1), .val (.int x2), .val (.int xq), .val (.ref b435), .val (.ref b444), .val (.ref b464), .val (.ref b482), .val (.ref na562)] [(.ref a538)])) _ _ _ _ _ _
                refine own_goW (fun _ k => XS.iload X589.here hx rfl (hb hby at_211) rfl k) ?_
                show own_GW _ _ _ (T589.setTop (mkF m 213 #[.val (.int p0), .val (.int p1), .val (.int p2), .val (.int p3), .val (.int p4), .val (.int (3 : Int32)), .val (.int x0), .val (.int x1), .val (.int x2), .val (.int xq), .val (.ref b435), .val (.ref b444), .val (.ref b464), .val (.ref b482), .val (.ref na562)] [(.int x0), (.ref a538)])) _ _ _ _ _ _
                refine own_goW (fun _ k => XS.iload X589.here hx rfl (hb hby at_213) rfl k) ?_
                show own_GW _ _ _ (T589.setTop (mkF m 215 #[.val (.int p0), .val (.int p1), .val (.int p2), .val (.int p3), .val (.int p4), .val (.int (3 : Int32)), .val (.int x0), .val (.int x1), .val (.int x2), .val (.int xq), .val (.ref b435), .val (.ref b444), .val (.ref b464), .val (.ref b482), .val (.ref na562)] [(.int (3 : Int32)), (.int x0), (.ref a538)])) _ _ _ _ _ _
                refine own_goW (fun _ k => XS.iload X589.here hx rfl (hb hby at_215) rfl k) ?_
                show own_GW _ _ _ (T589.setTop (mkF m 217 #[.val (.int p0), .val (.int p1), .val (.int p2), .val (.int p3), .val (.int p4), .val (.int (3 : Int32)), .val (.int x0), .val (.int x1), .val (.int x2), .val (.int xq), .val (.ref b435), .val (.ref b444), .val (.ref b464), .val (.ref b482), .val (.ref na562)] [(.int x0), (.int (3 : Int32)), (.int x0), (.ref a538)])) _ _ _ _ _ _
                refine own_goW (fun _ k => XS.iload X589.here hx rfl (hb hby at_217) rfl k) ?_
                show own_GW _ _ _ (T589.setTop (mkF m 219 #[.val (.int p0), .val (.int p1), .val (.int p2), .val (.int p3), .val (.int p4), .val (.int (3 : Int32)), .val (.int x0), .val (.int x1), .val (.int x2), .val (.int xq), .val (.ref b435), .val (.ref b444), .val (.ref b464), .val (.ref b482), .val (.ref na562)] [(.int x1), (.int x0), (.int (3 : Int32)), (.int x0), (.ref a538)])) _ _ _ _ _ _
                refine own_goW (fun _ k => XS.iload X589.here hx rfl (hb hby at_219) rfl k) ?_
                show own_GW _ _ _ (T589.setTop (mkF m 221 #[.val (.int p0), .val (.int p1), .val (.int p2), .val (.int p3), .val (.int p4), .val (.int (3 : Int32)), .val (.int x0), .val (.int x1), .val (.int x2), .val (.int xq), .val (.ref b435), .val (.ref b444), .val (.ref b464), .val (.ref b482), .val (.ref na562)] [(.int x2), (.int x1), (.int x0), (.int (3 : Int32)), (.int x0), (.ref a538)])) _ _ _ _ _ _
                obtain ⟨_, _, ⟨T591, L591, k591, n591⟩, -, X591, ⟨Lc591, hQ591, l591, y591, z591⟩, st591⟩ := Jvm.LawKit.callS X589 hx (y := (⟨"com/example/issuerd/issuerd/xml/DomReferencesPinLaw", "expected", "(IICCC)Ljava/lang/String;"⟩ : MethodName)) hown (mvT hZ (hw _ (List.mem_of_getElem? (i := 79) rfl))) (mvT hZ (hw _ (List.mem_of_getElem? (i := 80) rfl))) (mvT hZ (hw _ (List.mem_of_getElem? (i := 81) rfl))) (mvT hZ (hw _ (List.mem_of_getElem? (i := 82) rfl))) (by decide) (backOf (W := 1) (rm16f l (s.setVm T538.vm) a0 [] x0 x0 x1 x2 a496 a516 a538 T562.heap n0 Zs562 (mvS hZ (hw _ (List.mem_of_getElem? (i := 11) rfl))) (mvS hZ (hw _ (List.mem_of_getElem? (i := 13) rfl))) (mvS hZ (hw _ (List.mem_of_getElem? (i := 14) rfl))) Lt496_516_538 Lt516_538 Lt538 ehC) (State.Warmed39.refl _) (mvT (args := a0) hZ (hw _ (List.mem_of_getElem? (i := 82) rfl))) (mvT (args := a0) hZ (hw _ (List.mem_of_getElem? (i := 81) rfl))) (by decide) (by decide)) (g := (mkF m 221 #[.val (.int p0), .val (.int p1), .val (.int p2), .val (.int p3), .val (.int p4), .val (.int (3 : Int32)), .val (.int x0), .val (.int x1), .val (.int x2), .val (.int xq), .val (.ref b435), .val (.ref b444), .val (.ref b464), .val (.ref b482), .val (.ref na562)] [(.int x2), (.int x1), (.int x0), (.int (3 : Int32)), (.int x0), (.ref a538)])) rfl (by rw [hml]; rfl) (argsL := [(.int x0), (.int (3 : Int32)), (.int x0), (.int x1), (.int x2)]) (rest := [(.ref a538)]) (lenOf pd_8 rfl) rfl (by show 2 * 0 + _ ≤ _; exact Nat.le_of_eq rfl) (hb hby at_221) (fun _ _ => ⟨rfl, eh589, (by decide : 12 + 0 ≤ _), (by decide : 167 + 0 ≤ _)⟩)
                dsimp only [Pt.U, Pt.locs, Pt.cells, Pt.slots] at X591 l591 y591 z591 st591 hQ591
                rw [l591] at X591
                subst y591 z591
                obtain ⟨rfl, Nq591, eh591⟩ := hQ591
                have N591 := Fr.app N589 Nq591
                refine own_goW (fun _ k => st591 _ k) ?_
                show own_GW _ _ _ (T591.setTop (mkF m 224 #[.val (.int p0), .val (.int p1), .val (.int p2), .val (.int p3), .val (.int p4), .val (.int (3 : Int32)), .val (.int x0), .val (.int x1), .val (.int x2), .val (.int xq), .val (.ref b435), .val (.ref b444), .val (.ref b464), .val (.ref b482), .val (.ref na562)] [(.ref a538), (.ref a538)])) _ _ _ _ _ _
                refine own_goW (fun _ k => Jvm.RoadKit.acmp (g := (mkF m 224 #[.val (.int p0), .val (.int p1), .val (.int p2), .val (.int p3), .val (.int p4), .val (.int (3 : Int32)), .val (.int x0), .val (.int x1), .val (.int x2), .val (.int xq), .val (.ref b435), .val (.ref b444), .val (.ref b464), .val (.ref b482), .val (.ref na562)] [(.ref a538), (.ref a538)])) X591 hx rfl rfl rfl (pc0 := 224) (pc' := 227) (same := true) rfl (hb hby at_224) rfl (decide_eq_true rfl) (by decide) (by decide) k) ?_
                show own_GW _ _ _ (T591.setTop (mkF m 227 #[.val (.int p0), .val (.int p1), .val (.int p2), .val (.int p3), .val (.int p4), .val (.int (3 : Int32)), .val (.int x0), .val (.int x1), .val (.int x2), .val (.int xq), .val (.ref b435), .val (.ref b444), .val (.ref b464), .val (.ref b482), .val (.ref na562)] [])) _ _ _ _ _ _
                refine own_goW (fun _ k => XS.iconst X591.here hx rfl (hb hby at_227) k) ?_
                show own_GW _ _ _ (T591.setTop (mkF m 228 #[.val (.int p0), .val (.int p1), .val (.int p2), .val (.int p3), .val (.int p4), .val (.int (3 : Int32)), .val (.int x0), .val (.int x1), .val (.int x2), .val (.int xq), .val (.ref b435), .val (.ref b444), .val (.ref b464), .val (.ref b482), .val (.ref na562)] [(.int (1 : Int32))])) _ _ _ _ _ _
                refine own_goW (fun _ k => XS.goto X591.here hx rfl (pc0 := 228) (pc' := 232) rfl (hb hby at_228) (by decide) (by decide) k) ?_
                show own_GW _ _ _ (T591.setTop (mkF m 232 #[.val (.int p0), .val (.int p1), .val (.int p2), .val (.int p3), .val (.int p4), .val (.int (3 : Int32)), .val (.int x0), .val (.int x1), .val (.int x2), .val (.int xq), .val (.ref b435), .val (.ref b444), .val (.ref b464), .val (.ref b482), .val (.ref na562)] [(.int (1 : Int32))])) _ _ _ _ _ _
                have CQ592 := CR538.trans (CHr.keep K562_1 (allS sf549 all0) CR538.1)
                have CE592 : CHr Z own_EL s.vm s.heap T591.vm T591.heap := by rw [hh, show T591.heap = T562.heap from eh591]; exact CQ592.trans (CHv.at X591 hZ (own_EW hw) CQ592.1)
                exact own_endWN X591 hx hlk (t := .boolean) Bd.returns (by simp) (hb hby at_232) hS538 (show _ ≤ T591.heap.size by rw [show T591.heap = T562.heap from eh591]; exact (Nat.le_trans (Nat.le_refl _) K562_1.1)) (by decide) (by decide) CE592 (Q := (Q0 Z p0 p1 p2 p3 p4 zc fm h0 n0)) (by rw [eh591]; exact ⟨rfl, N591, K562_0⟩)
              · skip
                refine own_goW (fun _ k => XS.aload X589.here hx rfl (hb hby at_206) rfl rfl k) ?_
                show own_GW _ _ _ (T589.setTop (mkF m 208 #[.val (.int p0), .val (.int p1), .val (.int p2), .val (.int p3), .val (.int p4), .val (.int (3 : Int32)), .val (.int x0), .val (.int x1), .val (.int x2), .val (.int xq), .val (.ref b435), .val (.ref b444), .val (.ref b464), .val (.ref b482), .val (.ref na562)] [(.ref na562)])) _ _ _ _ _ _
                refine own_goW (fun _ k => XS.iload X589.here hx rfl (hb hby at_208) rfl k) ?_
                show own_GW _ _ _ (T589.setTop (mkF m 210 #[.val (.int p0), .val (.int p1), .val (.int p2), .val (.int p3), .val (.int p4), .val (.int (3 : Int32)), .val (.int x0), .val (.int x1), .val (.int x2), .val (.int xq), .val (.ref b435), .val (.ref b444), .val (.ref b464), .val (.ref b482), .val (.ref na562)] [(.int x0), (.ref na562)])) _ _ _ _ _ _
                obtain ⟨cl593, Ar593, q593, S593, Ng593, H593, G593⟩ := id r562_0
                have in593 : ¬ (x0 < 0 ∨ cl593.slots.size ≤ (x0).toNatClampNeg) := inb_of S593 rg0.inb
                have at593 : cl593.slots[(x0).toNatClampNeg]? = some (.ref a516) := H593.at in593 ((own_set_no _ x2 x0 _ rg2 rg0 enC).trans (own_set_yes _ x1 x0 _ rg1 (by simp only [own_set_len, own_t0_len]) ehB))
                refine own_goW (fun _ k => X589.aaload hx (j := x0) (v := (.ref a516)) (by rw [eh589]; exact Ar593.1) (State.isArrayOf_alike hZ.alike Ar593.2.1) rfl Ar593.2.2 in593 at593 (g := (mkF m 210 #[.val (.int p0), .val (.int p1), .val (.int p2), .val (.int p3), .val (.int p4), .val (.int (3 : Int32)), .val (.int x0), .val (.int x1), .val (.int x2), .val (.int xq), .val (.ref b435), .val (.ref b444), .val (.ref b464), .val (.ref b482), .val (.ref na562)] [(.int x0), (.ref na562)])) rfl rfl (hb hby at_210) _ k) ?_
                show own_GW _ _ _ (T589.setTop (mkF m 211 #[.val (.int p0), .val (.int p1), .val (.int p2), .val (.int p3), .val (.int p4), .val (.int (3 : Int32)), .val (.int x0), .val (.int x1), .val (.int x2), .val (.int xq), .val (.ref b435), .val (.ref b444), .val (.ref b464), .val (.ref b482), .val (.ref na562)] [(.ref a516)])) _ _ _ _ _ _
                refine own_goW (fun _ k => XS.iload X589.here hx rfl (hb hby at_211) rfl k) ?_
                show own_GW _ _ _ (T589.setTop (mkF m 213 #[.val (.int p0), .val (.int p1), .val (.int p2), .val (.int p3), .val (.int p4), .val (.int (3 : Int32)), .val (.int x0), .val (.int x1), .val (.int x2), .val (.int xq), .val (.ref b435), .val (.ref b444), .val (.ref b464), .val (.ref b482), .val (.ref na562)] [(.int x0), (.ref a516)])) _ _ _ _ _ _
                refine own_goW (fun _ k => XS.iload X589.here hx rfl (hb hby at_213) rfl k) ?_
                show own_GW _ _ _ (T589.setTop (mkF m 215 #[.val (.int p0), .val (.int p1), .val (.int p2), .val (.int p3), .val (.int p4), .val (.int (3 : Int32)), .val (.int x0), .val (.int x1), .val (.int x2), .val (.int xq), .val (.ref b435), .val (.ref b444), .val (.ref b464), .val (.ref b482), .val (.ref na562)] [(.int (3 : Int32)), (.int x0), (.ref a516)])) _ _ _ _ _ _
                refine own_goW (fun _ k => XS.iload X589.here hx rfl (hb hby at_215) rfl k) ?_
                show own_GW _ _ _ (T589.setTop (mkF m 217 #[.val (.int p0), .val (.int p1), .val (.int p2), .val (.int p3), .val (.int p4), .val (.int (3 : Int32)), .val (.int x0), .val (.int x1), .val (.int x2), .val (.int xq), .val (.ref b435), .val (.ref b444), .val (.ref b464), .val (.ref b482), .val (.ref na562)] [(.int x0), (.int (3 : Int32)), (.int x0), (.ref a516)])) _ _ _ _ _ _
                refine own_goW (fun _ k => XS.iload X589.here hx rfl (hb hby at_217) rfl k) ?_
                show own_GW _ _ _ (T589.setTop (mkF m 219 #[.val (.int p0), .val (.int p1), .val (.int p2), .val (.int p3), .val (.int p4), .val (.int (3 : Int32)), .val (.int x0), .val (.int x1), .val (.int x2), .val (.int xq), .val (.ref b435), .val (.ref b444), .val (.ref b464), .val (.ref b482), .val (.ref na562)] [(.int x1), (.int x0), (.int (3 : Int32)), (.int x0), (.ref a516)])) _ _ _ _ _ _
                refine own_goW (fun _ k => XS.iload X589.here hx rfl (hb hby at_219) rfl k) ?_
                show own_GW _ _ _ (T589.setTop (mkF m 221 #[.val (.int p0), .val (.int p1), .val (.int p2), .val (.int p3), .val (.int p4), .val (.int (3 : Int32)), .val (.int x0), .val (.int x1), .val (.int x2), .val (.int xq), .val (.ref b435), .val (.ref b444), .val (.ref b464), .val (.ref b482), .val (.ref na562)] [(.int x2), (.int x1), (.int x0), (.int (3 : Int32)), (.int x0), (.ref a516)])) _ _ _ _ _ _
                obtain ⟨_, _, ⟨T594, L594, k594, n594⟩, -, X594, ⟨Lc594, hQ594, l594, y594, z594⟩, st594⟩ := Jvm.LawKit.callS X589 hx (y := (⟨"com/example/issuerd/issuerd/xml/DomReferencesPinLaw", "expected", "(IICCC)Ljava/lang/String;"⟩ : MethodName)) hown (mvT hZ (hw _ (List.mem_of_getElem? (i := 79) rfl))) (mvT hZ (hw _ (List.mem_of_getElem? (i := 80) rfl))) (mvT hZ (hw _ (List.mem_of_getElem? (i := 81) rfl))) (mvT hZ (hw _ (List.mem_of_getElem? (i := 82) rfl))) (by decide) (backOf (W := 1) (rm16g l (s.setVm T538.vm) a0 [] x0 x0 x1 x2 a496 a516 a538 T562.heap n0 Zs562 (mvS hZ (hw _ (List.mem_of_getElem? (i := 11) rfl))) (mvS hZ (hw _ (List.mem_of_getElem? (i := 13) rfl))) (mvS hZ (hw _ (List.mem_of_getElem? (i := 14) rfl))) Lt496_516_538 Lt516_538 Lt538 enC ehB) (State.Warmed39.refl _) (mvT (args := a0) hZ (hw _ (List.mem_of_getElem? (i := 82) rfl))) (mvT (args := a0) hZ (hw _ (List.mem_of_getElem? (i := 81) rfl))) (by decide) (by decide)) (g := (mkF m 221 #[.val (.int p0), .val (.int p1), .val (.int p2), .val (.int p3), .val (.int p4), .val (.int (3 : Int32)), .val (.int x0), .val (.int x1), .val (.int x2), .val (.int xq), .val (.ref b435), .val (.ref b444), .val (.ref b464), .val (.ref b482), .val (.ref na562)] [(.int x2), (.int x1), (.int x0), (.int (3 : Int32)), (.int x0), (.ref a516)])) rfl (by rw [hml]; rfl) (argsL := [(.int x0), (.int (3 : Int32)), (.int x0), (.int x1), (.int x2)]) (rest := [(.ref a516)]) (lenOf pd_8 rfl) rfl (by show 2 * 0 + _ ≤ _; exact Nat.le_of_eq rfl) (hb hby at_221) (fun _ _ => ⟨rfl, eh589, (by decide : 12 + 0 ≤ _), (by decide : 167 + 0 ≤ _)⟩)
                dsimp only [Pt.U, Pt.locs, Pt.cells, Pt.slots] at X594 l594 y594 z594 st594 hQ594
                rw [l594] at X594
                subst y594 z594
                obtain ⟨rfl, Nq594, eh594⟩ := hQ594
                have N594 := Fr.app N589 Nq594
                refine own_goW (fun _ k => st594 _ k) ?_
                show own_GW _ _ _ (T594.setTop (mkF m 224 #[.val (.int p0), .val (.int p1), .val (.int p2), .val (.int p3), .val (.int p4), .val (.int (3 : Int32)), .val (.int x0), .val (.int x1), .val (.int x2), .val (.int xq), .val (.ref b435), .val (.ref b444), .val (.ref b464), .val (.ref b482), .val (.ref na562)] [(.ref a516), (.ref a516)])) _ _ _ _ _ _
                refine own_goW (fun _ k => Jvm.RoadKit.acmp (g := (mkF m 224 #[.val (.int p0), .val (.int p1), .val (.int p2), .val (.int p3), .val (.int p4), .val (.int (3 : Int32)), .val (.int x0), .val (.int x1), .val (.int x2), .val (.int xq), .val (.ref b435), .val (.ref b444), .val (.ref b464), .val (.ref b482), .val (.ref na562)] [(.ref a516), (.ref a516)])) X594 hx rfl rfl rfl (pc0 := 224) (pc' := 227) (same := true) rfl (hb hby at_224) rfl (decide_eq_true rfl) (by decide) (by decide) k) ?_
                show own_GW _ _ _ (T594.setTop (mkF m 227 #[.val (.int p0), .val (.int p1), .val (.int p2), .val (.int p3), .val (.int p4), .val (.int (3 : Int32)), .val (.int x0), .val (.int x1), .val (.int x2), .val (.int xq), .val (.ref b435), .val (.ref b444), .val (.ref b464), .val (.ref b482), .val (.ref na562)] [])) _ _ _ _ _ _
                refine own_goW (fun _ k => XS.iconst X594.here hx rfl (hb hby at_227) k) ?_
                show own_GW _ _ _ (T594.setTop (mkF m 228 #[.val (.int p0), .val (.int p1), .val (.int p2), .val (.int p3), .val (.int p4), .val (.int (3 : Int32)), .val (.int x0), .val (.int x1), .val (.int x2), .val (.int xq), .val (.ref b435), .val (.ref b444), .val (.ref b464), .val (.ref b482), .val (.ref na562)] [(.int (1 : Int32))])) _ _ _ _ _ _
                refine own_goW (fun _ k => XS.goto X594.here hx rfl (pc0 := 228) (pc' := 232) rfl (hb hby at_228) (by decide) (by decide) k) ?_
                show own_GW _ _ _ (T594.setTop (mkF m 232 #[.val (.int p0), .val (.int p1), .val (.int p2), .val (.int p3), .val (.int p4), .val (.int (3 : Int32)), .val (.int x0), .val (.int x1), .val (.int x2), .val (.int xq), .val (.ref b435), .val (.ref b444), .val (.ref b464), .val (.ref b482), .val (.ref na562)] [(.int (1 : Int32))])) _ _ _ _ _ _
                have CQ595 := CR538.trans (CHr.keep K562_1 (allS sf549 all0) CR538.1)
                have CE595 : CHr Z own_EL s.vm s.heap T594.vm T594.heap := by rw [hh, show T594.heap = T562.heap from eh594]; exact CQ595.trans (CHv.at X594 hZ (own_EW hw) CQ595.1)
                exact own_endWN X594 hx hlk (t := .boolean) Bd.returns (by simp) (hb hby at_232) hS538 (show _ ≤ T594.heap.size by rw [show T594.heap = T562.heap from eh594]; exact (Nat.le_trans (Nat.le_refl _) K562_1.1)) (by decide) (by decide) CE595 (Q := (Q0 Z p0 p1 p2 p3 p4 zc fm h0 n0)) (by rw [eh594]; exact ⟨rfl, N594, K562_0⟩)
              · skip
                refine own_goW (fun _ k => XS.aload X589.here hx rfl (hb hby at_206) rfl rfl k) ?_
                show own_GW _ _ _ (T589.setTop (mkF m 208 #[.val (.int p0), .val (.int p1), .val (.int p2), .val (.int p3), .val (.int p4), .val (.int (3 : Int32)), .val (.int x0), .val (.int x1), .val (.int x2), .val (.int xq), .val (.ref b435), .val (.ref b444), .val (.ref b464), .val (.ref b482), .val (.ref na562)] [(.ref na562)])) _ _ _ _ _ _
                refine own_goW (fun _ k => XS.iload X589.here hx rfl (hb hby at_208) rfl k) ?_
                show own_GW _ _ _ (T589.setTop (mkF m 210 #[.val (.int p0), .val (.int p1), .val (.int p2), .val (.int p3), .val (.int p4), .val (.int (3 : Int32)), .val (.int x0), .val (.int x1), .val (.int x2), .val (.int xq), .val (.ref b435), .val (.ref b444), .val (.ref b464), .val (.ref b482), .val (.ref na562)] [(.int x0), (.ref na562)])) _ _ _ _ _ _
                obtain ⟨cl596, Ar596, q596, S596, Ng596, H596, G596⟩ := id r562_0
                have in596 : ¬ (x0 < 0 ∨ cl596.slots.size ≤ (x0).toNatClampNeg) := inb_of S596 rg0.inb
                have at596 : cl596.slots[(x0).toNatClampNeg]? = some (.ref a496) := H596.at in596 (((own_set_no _ x2 x0 _ rg2 rg0 enC).trans (own_set_no _ x1 x0 _ rg1 rg0 enB)).trans (own_set_yes _ x0 x0 _ rg0 (by simp only [own_set_len, own_t0_len]) rfl))
                refine own_goW (fun _ k => X589.aaload hx (j := x0) (v := (.ref a496)) (by rw [eh589]; exact Ar596.1) (State.isArrayOf_alike hZ.alike Ar596.2.1) rfl Ar596.2.2 in596 at596 (g := (mkF m 210 #[.val (.int p0), .val (.int p1), .val (.int p2), .val (.int p3), .val (.int p4), .val (.int (3 : Int32)), .val (.int x0), .val (.int x1), .val (.int x2), .val (.int xq), .val (.ref b435), .val (.ref b444), .val (.ref b464), .val (.ref b482), .val (.ref na562)] [(.int x0), (.ref na562)])) rfl rfl (hb hby at_210) _ k) ?_
                show own_GW _ _ _ (T589.setTop (mkF m 211 #[.val (.int p0), .val (.int p1), .val (.int p2), .val (.int p3), .val (.int p4), .val (.int (3 : Int32)), .val (.int x0), .val (.int x1), .val (.int x2), .val (.int xq), .val (.ref b435), .val (.ref b444), .val (.ref b464), .val (.ref b482), .val (.ref na562)] [(.ref a496)])) _ _ _ _ _ _
                refine own_goW (fun _ k => XS.iload X589.here hx rfl (hb hby at_211) rfl k) ?_
                show own_GW _ _ _ (T589.setTop (mkF m 213 #[.val (.int p0), .val (.int p1), .val (.int p2), .val (.int p3), .val (.int p4), .val (.int (3 : Int32)), .val (.int x0), .val (.int x1), .val (.int x2), .val (.int xq), .val (.ref b435), .val (.ref b444), .val (.ref b464), .val (.ref b482), .val (.ref na562)] [(.int x0), (.ref a496)])) _ _ _ _ _ _
                refine own_goW (fun _ k => XS.iload X589.here hx rfl (hb hby at_213) rfl k) ?_
                show own_GW _ _ _ (T589.setTop (mkF m 215 #[.val (.int p0), .val (.int p1), .val (.int p2), .val (.int p3), .val (.int p4), .val (.int (3 : Int32)), .val (.int x0), .val (.int x1), .val (.int x2), .val (.int xq), .val (.ref b435), .val (.ref b444), .val (.ref b464), .val (.ref b482), .val (.ref na562)] [(.int (3 : Int32)), (.int x0), (.ref a496)])) _ _ _ _ _ _
                refine own_goW (fun _ k => XS.iload X589.here hx rfl (hb hby at_215) rfl k) ?_
                show own_GW _ _ _ (T589.setTop (mkF m 217 #[.val (.int p0), .val (.int p1), .val (.int p2), .val (.int p3), .val (.int p4), .val (.int (3 : Int32)), .val (.int x0), .val (.int x1), .val (.int x2), .val (.int xq), .val (.ref b435), .val (.ref b444), .val (.ref b464), .val (.ref b482), .val (.ref na562)] [(.int x0), (.int (3 : Int32)), (.int x0), (.ref a496)])) _ _ _ _ _ _
                refine own_goW (fun _ k => XS.iload X589.here hx rfl (hb hby at_217) rfl k) ?_
                show own_GW _ _ _ (T589.setTop (mkF m 219 #[.val (.int p0), .val (.int p1), .val (.int p2), .val (.int p3), .val (.int p4), .val (.int (3 : Int32)), .val (.int x0), .val (.int x1), .val (.int x2), .val (.int xq), .val (.ref b435), .val (.ref b444), .val (.ref b464), .val (.ref b482), .val (.ref na562)] [(.int x1), (.int x0), (.int (3 : Int32)), (.int x0), (.ref a496)])) _ _ _ _ _ _
                refine own_goW (fun _ k => XS.iload X589.here hx rfl (hb hby at_219) rfl k) ?_
                show own_GW _ _ _ (T589.setTop (mkF m 221 #[.val (.int p0), .val (.int p1), .val (.int p2), .val (.int p3), .val (.int p4), .val (.int (3 : Int32)), .val (.int x0), .val (.int x1), .val (.int x2), .val (.int xq), .val (.ref b435), .val (.ref b444), .val (.ref b464), .val (.ref b482), .val (.ref na562)] [(.int x2), (.int x1), (.int x0), (.int (3 : Int32)), (.int x0), (.ref a496)])) _ _ _ _ _ _
                obtain ⟨_, _, ⟨T597, L597, k597, n597⟩, -, X597, ⟨Lc597, hQ597, l597, y597, z597⟩, st597⟩ := Jvm.LawKit.callS X589 hx (y := (⟨"com/example/issuerd/issuerd/xml/DomReferencesPinLaw", "expected", "(IICCC)Ljava/lang/String;"⟩ : MethodName)) hown (mvT hZ (hw _ (List.mem_of_getElem? (i := 79) rfl))) (mvT hZ (hw _ (List.mem_of_getElem? (i := 80) rfl))) (mvT hZ (hw _ (List.mem_of_getElem? (i := 81) rfl))) (mvT hZ (hw _ (List.mem_of_getElem? (i := 82) rfl))) (by decide) (backOf (W := 1) (rm16h l (s.setVm T538.vm) a0 [] x0 x0 x1 x2 a496 a516 a538 T562.heap n0 Zs562 (mvS hZ (hw _ (List.mem_of_getElem? (i := 11) rfl))) (mvS hZ (hw _ (List.mem_of_getElem? (i := 13) rfl))) (mvS hZ (hw _ (List.mem_of_getElem? (i := 14) rfl))) Lt496_516_538 Lt516_538 Lt538 enC enB rfl) (State.Warmed39.refl _) (mvT (args := a0) hZ (hw _ (List.mem_of_getElem? (i := 82) rfl))) (mvT (args := a0) hZ (hw _ (List.mem_of_getElem? (i := 81) rfl))) (by decide) (by decide)) (g := (mkF m 221 #[.val (.int p0), .val (.int p1), .val (.int p2), .val (.int p3), .val (.int p4), .val (.int (3 : Int32)), .val (.int x0), .val (.int x1), .val (.int x2), .val (.int xq), .val (.ref b435), .val (.ref b444), .val (.ref b464), .val (.ref b482), .val (.ref na562)] [(.int x2), (.int x1), (.int x0), (.int (3 : Int32)), (.int x0), (.ref a496)])) rfl (by rw [hml]; rfl) (argsL := [(.int x0), (.int (3 : Int32)), (.int x0), (.int x1), (.int x2)]) (rest := [(.ref a496)]) (lenOf pd_8 rfl) rfl (by show 2 * 0 + _ ≤ _; exact Nat.le_of_eq rfl) (hb hby at_221) (fun _ _ => ⟨rfl, eh589, (by decide : 12 + 0 ≤ _), (by decide : 167 + 0 ≤ _)⟩)
                dsimp only [Pt.U, Pt.locs, Pt.cells, Pt.slots] at X597 l597 y597 z597 st597 hQ597
                rw [l597] at X597
                subst y597 z597
                obtain ⟨rfl, Nq597, eh597⟩ := hQ597
                have N597 := Fr.app N589 Nq597
                refine own_goW (fun _ k => st597 _ k) ?_
                show own_GW _ _ _ (T597.setTop (mkF m 224 #[.val (.int p0), .val (.int p1), .val (.int p2), .val (.int p3), .val (.int p4), .val (.int (3 : Int32)), .val (.int x0), .val (.int x1), .val (.int x2), .val (.int xq), .val (.ref b435), .val (.ref b444), .val (.ref b464), .val (.ref b482), .val (.ref na562)] [(.ref a496), (.ref a496)])) _ _ _ _ _ _
                refine own_goW (fun _ k => Jvm.RoadKit.acmp (g := (mkF m 224 #[.val (.int p0), .val (.int p1), .val (.int p2), .val (.int p3), .val (.int p4), .val (.int (3 : Int32)), .val (.int x0), .val (.int x1), .val (.int x2), .val (.int xq), .val (.ref b435), .val (.ref b444), .val (.ref b464), .val (.ref b482), .val (.ref na562)] [(.ref a496), (.ref a496)])) X597 hx rfl rfl rfl (pc0 := 224) (pc' := 227) (same := true) rfl (hb hby at_224) rfl (decide_eq_true rfl) (by decide) (by decide) k) ?_
                show own_GW _ _ _ (T597.setTop (mkF m 227 #[.val (.int p0), .val (.int p1), .val (.int p2), .val (.int p3), .val (.int p4), .val (.int (3 : Int32)), .val (.int x0), .val (.int x1), .val (.int x2), .val (.int xq), .val (.ref b435), .val (.ref b444), .val (.ref b464), .val (.ref b482), .val (.ref na562)] [])) _ _ _ _ _ _
                refine own_goW (fun _ k => XS.iconst X597.here hx rfl (hb hby at_227) k) ?_
                show own_GW _ _ _ (T597.setTop (mkF m 228 #[.val (.int p0), .val (.int p1), .val (.int p2), .val (.int p3), .val (.int p4), .val (.int (3 : Int32)), .val (.int x0), .val (.int x1), .val (.int x2), .val (.int xq), .val (.ref b435), .val (.ref b444), .val (.ref b464), .val (.ref b482), .val (.ref na562)] [(.int (1 : Int32))])) _ _ _ _ _ _
                refine own_goW (fun _ k => XS.goto X597.here hx rfl (pc0 := 228) (pc' := 232) rfl (hb hby at_228) (by decide) (by decide) k) ?_
                show own_GW _ _ _ (T597.setTop (mkF m 232 #[.val (.int p0), .val (.int p1), .val (.int p2), .val (.int p3), .val (.int p4), .val (.int (3 : Int32)), .val (.int x0), .val (.int x1), .val (.int x2), .val (.int xq), .val (.ref b435), .val (.ref b444), .val (.ref b464), .val (.ref b482), .val (.ref na562)] [(.int (1 : Int32))])) _ _ _ _ _ _
                have CQ598 := CR538.trans (CHr.keep K562_1 (allS sf549 all0) CR538.1)
                have CE598 : CHr Z own_EL s.vm s.heap T597.vm T597.heap := by rw [hh, show T597.heap = T562.heap from eh597]; exact CQ598.trans (CHv.at X597 hZ (own_EW hw) CQ598.1)
                exact own_endWN X597 hx hlk (t := .boolean) Bd.returns (by simp) (hb hby at_232) hS538 (show _ ≤ T597.heap.size by rw [show T597.heap = T562.heap from eh597]; exact (Nat.le_trans (Nat.le_refl _) K562_1.1)) (by decide) (by decide) CE598 (Q := (Q0 Z p0 p1 p2 p3 p4 zc fm h0 n0)) (by rw [eh597]; exact ⟨rfl, N597, K562_0⟩)
            · skip
              refine own_goW (fun _ k => XS.aload X562.here hx rfl (hb hby at_185) rfl rfl k) ?_
              show own_GW _ _ _ (T562.setTop (mkF m 187 #[.val (.int p0), .val (.int p1), .val (.int p2), .val (.int p3), .val (.int p4), .val (.int (3 : Int32)), .val (.int x0), .val (.int x1), .val (.int x2), .val (.int xq), .val (.ref b435), .val (.ref b444), .val (.ref b464), .val (.ref b482), .val (.ref na562)] [(.ref na562)])) _ _ _ _ _ _
              refine own_goW (fun _ k => XS.iload X562.here hx rfl (hb hby at_187) rfl k) ?_
              show own_GW _ _ _ (T562.setTop (mkF m 189 #[.val (.int p0), .val (.int p1), .val (.int p2), .val (.int p3), .val (.int p4), .val (.int (3 : Int32)), .val (.int x0), .val (.int x1), .val (.int x2), .val (.int xq), .val (.ref b435), .val (.ref b444), .val (.ref b464), .val (.ref b482), .val (.ref na562)] [(.int xq), (.ref na562)])) _ _ _ _ _ _
              obtain ⟨cl599, Ar599, q599, S599, Ng599, H599, G599⟩ := id r562_0
              have in599 : ¬ (xq < 0 ∨ cl599.slots.size ≤ (xq).toNatClampNeg) := inb_of S599 rgq.inb
              have at599 : cl599.slots[(xq).toNatClampNeg]? = some (.ref a496) := H599.at in599 (((own_set_no _ x2 xq _ rg2 rgq qnC).trans (own_set_no _ x1 xq _ rg1 rgq qnB)).trans (own_set_yes _ x0 xq _ rg0 (by simp only [own_set_len, own_t0_len]) qhA))
              refine own_goW (fun _ k => X562.aaload hx (j := xq) (v := (.ref a496)) (by exact Ar599.1) (State.isArrayOf_alike hZ.alike Ar599.2.1) rfl Ar599.2.2 in599 at599 (g := (mkF m 189 #[.val (.int p0), .val (.int p1), .val (.int p2), .val (.int p3), .val (.int p4), .val (.int (3 : Int32)), .val (.int x0), .val (.int x1), .val (.int x2), .val (.int xq), .val (.ref b435), .val (.ref b444), .val (.ref b464), .val (.ref b482), .val (.ref na562)] [(.int xq), (.ref na562)])) rfl rfl (hb hby at_189) _ k) ?_
              show own_GW _ _ _ (T562.setTop (mkF m 190 #[.val (.int p0), .val (.int p1), .val (.int p2), .val (.int p3), .val (.int p4), .val (.int (3 : Int32)), .val (.int x0), .val (.int x1), .val (.int x2), .val (.int xq), .val (.ref b435), .val (.ref b444), .val (.ref b464), .val (.ref b482), .val (.ref na562)] [(.ref a496)])) _ _ _ _ _ _
              refine own_goW (fun _ k => XS.iload X562.here hx rfl (hb hby at_190) rfl k) ?_
              show own_GW _ _ _ (T562.setTop (mkF m 192 #[.val (.int p0), .val (.int p1), .val (.int p2), .val (.int p3), .val (.int p4), .val (.int (3 : Int32)), .val (.int x0), .val (.int x1), .val (.int x2), .val (.int xq), .val (.ref b435), .val (.ref b444), .val (.ref b464), .val (.ref b482), .val (.ref na562)] [(.int xq), (.ref a496)])) _ _ _ _ _ _
              refine own_goW (fun _ k => XS.iload X562.here hx rfl (hb hby at_192) rfl k) ?_
              show own_GW _ _ _ (T562.setTop (mkF m 194 #[.val (.int p0), .val (.int p1), .val (.int p2), .val (.int p3), .val (.int p4), .val (.int (3 : Int32)), .val (.int x0), .val (.int x1), .val (.int x2), .val (.int xq), .val (.ref b435), .val (.ref b444), .val (.ref b464), .val (.ref b482), .val (.ref na562)] [(.int (3 : Int32)), (.int xq), (.ref a496)])) _ _ _ _ _ _
              refine own_goW (fun _ k => XS.iload X562.here hx rfl (hb hby at_194) rfl k) ?_
              show own_GW _ _ _ (T562.setTop (mkF m 196 #[.val (.int p0), .val (.int p1), .val (.int p2), .val (.int p3), .val (.int p4), .val (.int (3 : Int32)), .val (.int x0), .val (.int x1), .val (.int x2), .val (.int xq), .val (.ref b435), .val (.ref b444), .val (.ref b464), .val (.ref b482), .val (.ref na562)] [(.int x0), (.int (3 : Int32)), (.int xq), (.ref a496)])) _ _ _ _ _ _
              refine own_goW (fun _ k => XS.iload X562.here hx rfl (hb hby at_196) rfl k) ?_
              show own_GW _ _ _ (T562.setTop (mkF m 198 #[.val (.int p0), .val (.int p1), .val (.int p2), .val (.int p3), .val (.int p4), .val (.int (3 : Int32)), .val (.int x0), .val (.int x1), .val (.int x2), .val (.int xq), .val (.ref b435), .val (.ref b444), .val (.ref b464), .val (.ref b482), .val (.ref na562)] [(.int x1), (.int x0), (.int (3 : Int32)), (.int xq), (.ref a496)])) _ _ _ _ _ _
              refine own_goW (fun _ k => XS.iload X562.here hx rfl (hb hby at_198) rfl k) ?_
              show own_GW _ _ _ (T562.setTop (mkF m 200 #[.val (.int p0), .val (.int p1), .val (.int p2), .val (.int p3), .val (.int p4), .val (.int (3 : Int32)), .val (.int x0), .val (.int x1), .val (.int x2), .val (.int xq), .val (.ref b435), .val (.ref b444), .val (.ref b464), .val (.ref b482), .val (.ref na562)] [(.int x2), (.int x1), (.int x0), (.int (3 : Int32)), (.int xq), (.ref a496)])) _ _ _ _ _ _
              obtain ⟨_, _, ⟨T600, L600, k600, n600⟩, -, X600, ⟨Lc600, hQ600, l600, y600, z600⟩, st600⟩ := Jvm.LawKit.callS X562 hx (y := (⟨"com/example/issuerd/issuerd/xml/DomReferencesPinLaw", "expected", "(IICCC)Ljava/lang/String;"⟩ : MethodName)) hown (mvT hZ (hw _ (List.mem_of_getElem? (i := 79) rfl))) (mvT hZ (hw _ (List.mem_of_getElem? (i := 80) rfl))) (mvT hZ (hw _ (List.mem_of_getElem? (i := 81) rfl))) (mvT hZ (hw _ (List.mem_of_getElem? (i := 82) rfl))) (by decide) (backOf (W := 1) (rm16h l (s.setVm T538.vm) a0 [] xq x0 x1 x2 a496 a516 a538 T562.heap n0 Zs562 (mvS hZ (hw _ (List.mem_of_getElem? (i := 11) rfl))) (mvS hZ (hw _ (List.mem_of_getElem? (i := 13) rfl))) (mvS hZ (hw _ (List.mem_of_getElem? (i := 14) rfl))) Lt496_516_538 Lt516_538 Lt538 qnC qnB qhA) (State.Warmed39.refl _) (mvT (args := a0) hZ (hw _ (List.mem_of_getElem? (i := 82) rfl))) (mvT (args := a0) hZ (hw _ (List.mem_of_getElem? (i := 81) rfl))) (by decide) (by decide)) (g := (mkF m 200 #[.val (.int p0), .val (.int p1), .val (.int p2), .val (.int p3), .val (.int p4), .val (.int (3 : Int32)), .val (.int x0), .val (.int x1), .val (.int x2), .val (.int xq), .val (.ref b435), .val (.ref b444), .val (.ref b464), .val (.ref b482), .val (.ref na562)] [(.int x2), (.int x1), (.int x0), (.int (3 : Int32)), (.int xq), (.ref a496)])) rfl (by rw [hml]; rfl) (argsL := [(.int xq), (.int (3 : Int32)), (.int x0), (.int x1), (.int x2)]) (rest := [(.ref a496)]) (lenOf pd_8 rfl) rfl (by show 2 * 0 + _ ≤ _; exact Nat.le_of_eq rfl) (hb hby at_200) (fun _ _ => ⟨rfl, rfl, (by decide : 12 + 0 ≤ _), (by decide : 167 + 0 ≤ _)⟩)
              dsimp only [Pt.U, Pt.locs, Pt.cells, Pt.slots] at X600 l600 y600 z600 st600 hQ600
              rw [l600] at X600
              subst y600 z600
              obtain ⟨rfl, Nq600, eh600⟩ := hQ600
              have N600 := Fr.app N562 Nq600
              refine own_goW (fun _ k => st600 _ k) ?_
              show own_GW _ _ _ (T600.setTop (mkF m 203 #[.val (.int p0), .val (.int p1), .val (.int p2), .val (.int p3), .val (.int p4), .val (.int (3 : Int32)), .val (.int x0), .val (.int x1), .val (.int x2), .val (.int xq), .val (.ref b435), .val (.ref b444), .val (.ref b464), .val (.ref b482), .val (.ref na562)] [(.ref a496), (.ref a496)])) _ _ _ _ _ _
              refine own_goW (fun _ k => Jvm.RoadKit.acmp (g := (mkF m 203 #[.val (.int p0), .val (.int p1), .val (.int p2), .val (.int p3), .val (.int p4), .val (.int (3 : Int32)), .val (.int x0), .val (.int x1), .val (.int x2), .val (.int xq), .val (.ref b435), .val (.ref b444), .val (.ref b464), .val (.ref b482), .val (.ref na562)] [(.ref a496), (.ref a496)])) X600 hx rfl rfl rfl (pc0 := 203) (pc' := 206) (same := true) rfl (hb hby at_203) rfl (decide_eq_true rfl) (by decide) (by decide) k) ?_
              show own_GW _ _ _ (T600.setTop (mkF m 206 #[.val (.int p0), .val (.int p1), .val (.int p2), .val (.int p3), .val (.int p4), .val (.int (3 : Int32)), .val (.int x0), .val (.int x1), .val (.int x2), .val (.int xq), .val (.ref b435), .val (.ref b444), .val (.ref b464), .val (.ref b482), .val (.ref na562)] [])) _ _ _ _ _ _
              rcases own_c2 x1 x2 x0 with ehC | ⟨enC, ehB⟩ | ⟨enC, enB⟩
              · skip
                refine own_goW (fun _ k => XS.aload X600.here hx rfl (hb hby at_206) rfl rfl k) ?_
                show own_GW _ _ _ (T600.setTop (mkF m 208 #[.val (.int p0), .val (.int p1), .val (.int p2), .val (.int p3), .val (.int p4), .val (.int (3 : Int32)), .val (.int x0), .val (.int x1), .val (.int x2), .val (.int xq), .val (.ref b435), .val (.ref b444), .val (.ref b464), .val (.ref b482), .val (.ref na562)] [(.ref na562)])) _ _ _ _ _ _
                refine own_goW (fun _ k => XS.iload X600.here hx rfl (hb hby at_208) rfl k) ?_
                show own_GW _ _ _ (T600.setTop (mkF m 210 #[.val (.int p0), .val (.int p1), .val (.int p2), .val (.int p3), .val (.int p4), .val (.int (3 : Int32)), .val (.int x0), .val (.int x1), .val (.int x2), .val (.int xq), .val (.ref b435), .val (.ref b444), .val (.ref b464), .val (.ref b482), .val (.ref na562)] [(.int x0), (.ref na562)])) _ _ _ _ _ _
                obtain ⟨cl601, Ar601, q601, S601, Ng601, H601, G601⟩ := id r562_0
                have in601 : ¬ (x0 < 0 ∨ cl601.slots.size ≤ (x0).toNatClampNeg) := inb_of S601 rg0.inb
                have at601 : cl601.slots[(x0).toNatClampNeg]? = some (.ref a538) := H601.at in601 (own_set_yes _ x2 x0 _ rg2 (by simp only [own_set_len, own_t0_len]) ehC)
                refine own_goW (fun _ k => X600.aaload hx (j := x0) (v := (.ref a538)) (by rw [eh600]; exact Ar601.1) (State.isArrayOf_alike hZ.alike Ar601.2.1) rfl Ar601.2.2 in601 at601 (g := (mkF m 210 #[.val (.int p0), .val (.int p1), .val (.int p2), .val (.int p3), .val (.int p4), .val (.int (3 : Int32)), .val (.int x0), .val (.int x1), .val (.int x2), .val (.int xq), .val (.ref b435), .val (.ref b444), .val (.ref b464), .val (.ref b482), .val (.ref na562)] [(.int x0), (.ref na562)])) rfl rfl (hb hby at_210) _ k) ?_
                show own_GW _ _ _ (T600.setTop (mkF m 211 #[.val (.int p0), .val (.int p1), .val (.int p2), .val (.int p3), .val (.int p4), .val (.int (3 : Int32)), .val (.int x0), .val (.int x1), .val (.int x2), .val (.int xq), .val (.ref b435), .val (.ref b444), .val (.ref b464), .val (.ref b482), .val (.ref na562)] [(.ref a538)])) _ _ _ _ _ _
                refine own_goW (fun _ k => XS.iload X600.here hx rfl (hb hby at_211) rfl k) ?_
                show own_GW _ _ _ (T600.setTop (mkF m 213 #[.val (.int p0), .val (.int p1), .val (.int p2), .val (.int p3), .val (.int p4), .val (.int (3 : Int32)), .val (.int x0), .val (.int x1), .val (.int x2), .val (.int xq), .val (.ref b435), .val (.ref b444), .val (.ref b464), .val (.ref b482), .val (.ref na562)] [(.int x0), (.ref a538)])) _ _ _ _ _ _
                refine own_goW (fun _ k => XS.iload X600.here hx rfl (hb hby at_213) rfl k) ?_
                show own_GW _ _ _ (T600.setTop (mkF m 215 #[.val (.int p0), .val (.int p1), .val (.int p2), .val (.int p3), .val (.int p4), .val (.int (3 : Int32)), .val (.int x0), .val (.int x1), .val (.int x2), .val (.int xq), .val (.ref b435), .val (.ref b444), .val (.ref b464), .val (.ref b482), .val (.ref na562)] [(.int (3 : Int32)), (.int x0), (.ref a538)])) _ _ _ _ _ _
                refine own_goW (fun _ k => XS.iload X600.here hx rfl (hb hby at_215) rfl k) ?_
                show own_GW _ _ _ (T600.setTop (mkF m 217 #[.val (.int p0), .val (.int p1), .val (.int p2), .val (.int p3), .val (.int p4), .val (.int (3 : Int32)), .val (.int x0), .val (.int x1), .val (.int x2), .val (.int xq), .val (.ref b435), .val (.ref b444), .val (.ref b464), .val (.ref b482), .val (.ref na562)] [(.int x0), (.int (3 : Int32)), (.int x0), (.ref a538)])) _ _ _ _ _ _
                refine own_goW (fun _ k => XS.iload X600.here hx rfl (hb hby at_217) rfl k) ?_
                show own_GW _ _ _ (T600.setTop (mkF m 219 #[.val (.int p0), .val (.int p1), .val (.int p2), .val (.int p3), .val (.int p4), .val (.int (3 : Int32)), .val (.int x0), .val (.int x1), .val (.int x2), .val (.int xq), .val (.ref b435), .val (.ref b444), .val (.ref b464), .val (.ref b482), .val (.ref na562)] [(.int x1), (.int x0), (.int (3 : Int32)), (.int x0), (.ref a538)])) _ _ _ _ _ _
                refine own_goW (fun _ k => XS.iload X600.here hx rfl (hb hby at_219) rfl k) ?_
                show own_GW _ _ _ (T600.setTop (mkF m 221 #[.val (.int p0), .val (.int p1), .val (.int p2), .val (.int p3), .val (.int p4), .val (.int (3 : Int32)), .val (.int x0), .val (.int x1), .val (.int x2), .val (.int xq), .val (.ref b435), .val (.ref b444), .val (.ref b464), .val (.ref b482), .val (.ref na562)] [(.int x2), (.int x1), (.int x0), (.int (3 : Int32)), (.int x0), (.ref a538)])) _ _ _ _ _ _
                obtain ⟨_, _, ⟨T602, L602, k602, n602⟩, -, X602, ⟨Lc602, hQ602, l602, y602, z602⟩, st602⟩ := Jvm.LawKit.callS X600 hx (y := (⟨"com/example/issuerd/issuerd/xml/DomReferencesPinLaw", "expected", "(IICCC)Ljava/lang/String;"⟩ : MethodName)) hown (mvT hZ (hw _ (List.mem_of_getElem? (i := 79) rfl))) (mvT hZ (hw _ (List.mem_of_getElem? (i := 80) rfl))) (mvT hZ (hw _ (List.mem_of_getElem? (i := 81) rfl))) (mvT hZ (hw _ (List.mem_of_getElem? (i := 82) rfl))) (by decide) (backOf (W := 1) (rm16f l (s.setVm T538.vm) a0 [] x0 x0 x1 x2 a496 a516 a538 T562.heap n0 Zs562 (mvS hZ (hw _ (List.mem_of_getElem? (i := 11) rfl))) (mvS hZ (hw _ (List.mem_of_getElem? (i := 13) rfl))) (mvS hZ (hw _ (List.mem_of_getElem? (i := 14) rfl))) Lt496_516_538 Lt516_538 Lt538 ehC) (State.Warmed39.refl _) (mvT (args := a0) hZ (hw _ (List.mem_of_getElem? (i := 82) rfl))) (mvT (args := a0) hZ (hw _ (List.mem_of_getElem? (i := 81) rfl))) (by decide) (by decide)) (g := (mkF m 221 #[.val (.int p0), .val (.int p1), .val (.int p2), .val (.int p3), .val (.int p4), .val (.int (3 : Int32)), .val (.int x0), .val (.int x1), .val (.int x2), .val (.int xq), .val (.ref b435), .val (.ref b444), .val (.ref b464), .val (.ref b482), .val (.ref na562)] [(.int x2), (.int x1), (.int x0), (.int (3 : Int32)), (.int x0), (.ref a538)])) rfl (by rw [hml]; rfl) (argsL := [(.int x0), (.int (3 : Int32)), (.int x0), (.int x1), (.int x2)]) (rest := [(.ref a538)]) (lenOf pd_8 rfl) rfl (by show 2 * 0 + _ ≤ _; exact Nat.le_of_eq rfl) (hb hby at_221) (fun _ _ => ⟨rfl, eh600, (by decide : 12 + 0 ≤ _), (by decide : 167 + 0 ≤ _)⟩)
                dsimp only [Pt.U, Pt.locs, Pt.cells, Pt.slots] at X602 l602 y602 z602 st602 hQ602
                rw [l602] at X602
                subst y602 z602
                obtain ⟨rfl, Nq602, eh602⟩ := hQ602
                have N602 := Fr.app N600 Nq602
                refine own_goW (fun _ k => st602 _ k) ?_
                show own_GW _ _ _ (T602.setTop (mkF m 224 #[.val (.int p0), .val (.int p1), .val (.int p2), .val (.int p3), .val (.int p4), .val (.int (3 : Int32)), .val (.int x0), .val (.int x1), .val (.int x2), .val (.int xq), .val (.ref b435), .val (.ref b444), .val (.ref b464), .val (.ref b482), .val (.ref na562)] [(.ref a538), (.ref a538)])) _ _ _ _ _ _
                refine own_goW (fun _ k => Jvm.RoadKit.acmp (g := (mkF m 224 #[.val (.int p0), .val (.int p1), .val (.int p2), .val (.int p3), .val (.int p4), .val (.int (3 : Int32)), .val (.int x0), .val (.int x1), .val (.int x2), .val (.int xq), .val (.ref b435), .val (.ref b444), .val (.ref b464), .val (.ref b482), .val (.ref na562)] [(.ref a538), (.ref a538)])) X602 hx rfl rfl rfl (pc0 := 224) (pc' := 227) (same := true) rfl (hb hby at_224) rfl (decide_eq_true rfl) (by decide) (by decide) k) ?_
                show own_GW _ _ _ (T602.setTop (mkF m 227 #[.val (.int p0), .val (.int p1), .val (.int p2), .val (.int p3), .val (.int p4), .val (.int (3 : Int32)), .val (.int x0), .val (.int x1), .val (.int x2), .val (.int xq), .val (.ref b435), .val (.ref b444), .val (.ref b464), .val (.ref b482), .val (.ref na562)] [])) _ _ _ _ _ _
                refine own_goW (fun _ k => XS.iconst X602.here hx rfl (hb hby at_227) k) ?_
                show own_GW _ _ _ (T602.setTop (mkF m 228 #[.val (.int p0), .val (.int p1), .val (.int p2), .val (.int p3), .val (.int p4), .val (.int (3 : Int32)), .val (.int x0), .val (.int x1), .val (.int x2), .val (.int xq), .val (.ref b435), .val (.ref b444), .val (.ref b464), .val (.ref b482), .val (.ref na562)] [(.int (1 : Int32))])) _ _ _ _ _ _
                refine own_goW (fun _ k => XS.goto X602.here hx rfl (pc0 := 228) (pc' := 232) rfl (hb hby at_228) (by decide) (by decide) k) ?_
                show own_GW _ _ _ (T602.setTop (mkF m 232 #[.val (.int p0), .val (.int p1), .val (.int p2), .val (.int p3), .val (.int p4), .val (.int (3 : Int32)), .val (.int x0), .val (.int x1), .val (.int x2), .val (.int xq), .val (.ref b435), .val (.ref b444), .val (.ref b464), .val (.ref b482), .val (.ref na562)] [(.int (1 : Int32))])) _ _ _ _ _ _
                have CQ603 := CR538.trans (CHr.keep K562_1 (allS sf549 all0) CR538.1)
                have CE603 : CHr Z own_EL s.vm s.heap T602.vm T602.heap := by rw [hh, show T602.heap = T562.heap from eh602]; exact CQ603.trans (CHv.at X602 hZ (own_EW hw) CQ603.1)
                exact own_endWN X602 hx hlk (t := .boolean) Bd.returns (by simp) (hb hby at_232) hS538 (show _ ≤ T602.heap.size by rw [show T602.heap = T562.heap from eh602]; exact (Nat.le_trans (Nat.le_refl _) K562_1.1)) (by decide) (by decide) CE603 (Q := (Q0 Z p0 p1 p2 p3 p4 zc fm h0 n0)) (by rw [eh602]; exact ⟨rfl, N602, K562_0⟩)
              · skip
                refine own_goW (fun _ k => XS.aload X600.here hx rfl (hb hby at_206) rfl rfl k) ?_
                show own_GW _ _ _ (T600.setTop (mkF m 208 #[.val (.int p0), .val (.int p1), .val (.int p2), .val (.int p3), .val (.int p4), .val (.int (3 : Int32)), .val (.int x0), .val (.int x1), .val (.int x2), .val (.int xq), .val (.ref b435), .val (.ref b444), .val (.ref b464), .val (.ref b482), .val (.ref na562)] [(.ref na562)])) _ _ _ _ _ _
                refine own_goW (fun _ k => XS.iload X600.here hx rfl (hb hby at_208) rfl k) ?_
                show own_GW _ _ _ (T600.setTop (mkF m 210 #[.val (.int p0), .val (.int p1), .val (.int p2), .val (.int p3), .val (.int p4), .val (.int (3 : Int32)), .val (.int x0), .val (.int x1), .val (.int x2), .val (.int xq), .val (.ref b435), .val (.ref b444), .val (.ref b464), .val (.ref b482), .val (.ref na562)] [(.int x0), (.ref na562)])) _ _ _ _ _ _
                obtain ⟨cl604, Ar604, q604, S604, Ng604, H604, G604⟩ := id r562_0
                have in604 : ¬ (x0 < 0 ∨ cl604.slots.size ≤ (x0).toNatClampNeg) := inb_of S604 rg0.inb
                have at604 : cl604.slots[(x0).toNatClampNeg]? = some (.ref a516) := H604.at in604 ((own_set_no _ x2 x0 _ rg2 rg0 enC).trans (own_set_yes _ x1 x0 _ rg1 (by simp only [own_set_len, own_t0_len]) ehB))
                refine own_goW (fun _ k => X600.aaload hx (j := x0) (v := (.ref a516)) (by rw [eh600]; exact Ar604.1) (State.isArrayOf_alike hZ.alike Ar604.2.1) rfl Ar604.2.2 in604 at604 (g := (mkF m 210 #[.val (.int p0), .val (.int p1), .val (.int p2), .val (.int p3), .val (.int p4), .val (.int (3 : Int32)), .val (.int x0), .val (.int x1), .val (.int x2), .val (.int xq), .val (.ref b435), .val (.ref b444), .val (.ref b464), .val (.ref b482), .val (.ref na562)] [(.int x0), (.ref na562)])) rfl rfl (hb hby at_210) _ k) ?_
                show own_GW _ _ _ (T600.setTop (mkF m 211 #[.val (.int p0), .val (.int p1), .val (.int p2), .val (.int p3), .val (.int p4), .val (.int (3 : Int32)), .val (.int x0), .val (.int x1), .val (.int x2), .val (.int xq), .val (.ref b435), .val (.ref b444), .val (.ref b464), .val (.ref b482), .val (.ref na562)] [(.ref a516)])) _ _ _ _ _ _
                refine own_goW (fun _ k => XS.iload X600.here hx rfl (hb hby at_211) rfl k) ?_
                show own_GW _ _ _ (T600.setTop (mkF m 213 #[.val (.int p0), .val (.int p1), .val (.int p2), .val (.int p3), .val (.int p4), .val (.int (3 : Int32)), .val (.int x0), .val (.int x1), .val (.int x2), .val (.int xq), .val (.ref b435), .val (.ref b444), .val (.ref b464), .val (.ref b482), .val (.ref na562)] [(.int x0), (.ref a516)])) _ _ _ _ _ _
                refine own_goW (fun _ k => XS.iload X600.here hx rfl (hb hby at_213) rfl k) ?_
                show own_GW _ _ _ (T600.setTop (mkF m 215 #[.val (.int p0), .val (.int p1), .val (.int p2), .val (.int p3), .val (.int p4), .val (.int (3 : Int32)), .val (.int x0), .val (.int x1), .val (.int x2), .val (.int xq), .val (.ref b435), .val (.ref b444), .val (.ref b464), .val (.ref b482), .val (.ref na562)] [(.int (3 : Int32)), (.int x0), (.ref a516)])) _ _ _ _ _ _
                refine own_goW (fun _ k => XS.iload X600.here hx rfl (hb hby at_215) rfl k) ?_
                show own_GW _ _ _ (T600.setTop (mkF m 217 #[.val (.int p0), .val (.int p1), .val (.int p2), .val (.int p3), .val (.int p4), .val (.int (3 : Int32)), .val (.int x0), .val (.int x1), .val (.int x2), .val (.int xq), .val (.ref b435), .val (.ref b444), .val (.ref b464), .val (.ref b482), .val (.ref na562)] [(.int x0), (.int (3 : Int32)), (.int x0), (.ref a516)])) _ _ _ _ _ _
                refine own_goW (fun _ k => XS.iload X600.here hx rfl (hb hby at_217) rfl k) ?_
                show own_GW _ _ _ (T600.setTop (mkF m 219 #[.val (.int p0), .val (.int p1), .val (.int p2), .val (.int p3), .val (.int p4), .val (.int (3 : Int32)), .val (.int x0), .val (.int x1), .val (.int x2), .val (.int xq), .val (.ref b435), .val (.ref b444), .val (.ref b464), .val (.ref b482), .val (.ref na562)] [(.int x1), (.int x0), (.int (3 : Int32)), (.int x0), (.ref a516)])) _ _ _ _ _ _
                refine own_goW (fun _ k => XS.iload X600.here hx rfl (hb hby at_219) rfl k) ?_
                show own_GW _ _ _ (T600.setTop (mkF m 221 #[.val (.int p0), .val (.int p1), .val (.int p2), .val (.int p3), .val (.int p4), .val (.int (3 : Int32)), .val (.int x0), .val (.int x1), .val (.int x2), .val (.int xq), .val (.ref b435), .val (.ref b444), .val (.ref b464), .val (.ref b482), .val (.ref na562)] [(.int x2), (.int x1), (.int x0), (.int (3 : Int32)), (.int x0), (.ref a516)])) _ _ _ _ _ _
                obtain ⟨_, _, ⟨T605, L605, k605, n605⟩, -, X605, ⟨Lc605, hQ605, l605, y605, z605⟩, st605⟩ := Jvm.LawKit.callS X600 hx (y := (⟨"com/example/issuerd/issuerd/xml/DomReferencesPinLaw", "expected", "(IICCC)Ljava/lang/String;"⟩ : MethodName)) hown (mvT hZ (hw _ (List.mem_of_getElem? (i := 79) rfl))) (mvT hZ (hw _ (List.mem_of_getElem? (i := 80) rfl))) (mvT hZ (hw _ (List.mem_of_getElem? (i := 81) rfl))) (mvT hZ (hw _ (List.mem_of_getElem? (i := 82) rfl))) (by decide) (backOf (W := 1) (rm16g l (s.setVm T538.vm) a0 [] x0 x0 x1 x2 a496 a516 a538 T562.heap n0 Zs562 (mvS hZ (hw _ (List.mem_of_getElem? (i := 11) rfl))) (mvS hZ (hw _ (List.mem_of_getElem? (i := 13) rfl))) (mvS hZ (hw _ (List.mem_of_getElem? (i := 14) rfl))) Lt496_516_538 Lt516_538 Lt538 enC ehB) (State.Warmed39.refl _) (mvT (args := a0) hZ (hw _ (List.mem_of_getElem? (i := 82) rfl))) (mvT (args := a0) hZ (hw _ (List.mem_of_getElem? (i := 81) rfl))) (by decide) (by decide)) (g := (mkF m 221 #[.val (.int p0), .val (.int p1), .val (.int p2), .val (.int p3), .val (.int p4), .val (.int (3 : Int32)), .val (.int x0), .val (.int x1), .val (.int x2), .val (.int xq), .val (.ref b435), .val (.ref b444), .val (.ref b464), .val (.ref b482), .val (.ref na562)] [(.int x2), (.int x1), (.int x0), (.int (3 : Int32)), (.int x0), (.ref a516)])) rfl (by rw [hml]; rfl) (argsL := [(.int x0), (.int (3 : Int32)), (.int x0), (.int x1), (.int x2)]) (rest := [(.ref a516)]) (lenOf pd_8 rfl) rfl (by show 2 * 0 + _ ≤ _; exact Nat.le_of_eq rfl) (hb hby at_221) (fun _ _ => ⟨rfl, eh600, (by decide : 12 + 0 ≤ _), (by decide : 167 + 0 ≤ _)⟩)
                dsimp only [Pt.U, Pt.locs, Pt.cells, Pt.slots] at X605 l605 y605 z605 st605 hQ605
                rw [l605] at X605
                subst y605 z605
                obtain ⟨rfl, Nq605, eh605⟩ := hQ605
                have N605 := Fr.app N600 Nq605
                refine own_goW (fun _ k => st605 _ k) ?_
                show own_GW _ _ _ (T605.setTop (mkF m 224 #[.val (.int p0), .val (.int p1), .val (.int p2), .val (.int p3), .val (.int p4), .val (.int (3 : Int32)), .val (.int x0), .val (.int x1), .val (.int x2), .val (.int xq), .val (.ref b435), .val (.ref b444), .val (.ref b464), .val (.ref b482), .val (.ref na562)] [(.ref a516), (.ref a516)])) _ _ _ _ _ _
                refine own_goW (fun _ k => Jvm.RoadKit.acmp (g := (mkF m 224 #[.val (.int p0), .val (.int p1), .val (.int p2), .val (.int p3), .val (.int p4), .val (.int (3 : Int32)), .val (.int x0), .val (.int x1), .val (.int x2), .val (.int xq), .val (.ref b435), .val (.ref b444), .val (.ref b464), .val (.ref b482), .val (.ref na562)] [(.ref a516), (.ref a516)])) X605 hx rfl rfl rfl (pc0 := 224) (pc' := 227) (same := true) rfl (hb hby at_224) rfl (decide_eq_true rfl) (by decide) (by decide) k) ?_
                show own_GW _ _ _ (T605.setTop (mkF m 227 #[.val (.int p0), .val (.int p1), .val (.int p2), .val (.int p3), .val (.int p4), .val (.int (3 : Int32)), .val (.int x0), .val (.int x1), .val (.int x2), .val (.int xq), .val (.ref b435), .val (.ref b444), .val (.ref b464), .val (.ref b482), .val (.ref na562)] [])) _ _ _ _ _ _
                refine own_goW (fun _ k => XS.iconst X605.here hx rfl (hb hby at_227) k) ?_
                show own_GW _ _ _ (T605.setTop (mkF m 228 #[.val (.int p0), .val (.int p1), .val (.int p2), .val (.int p3), .val (.int p4), .val (.int (3 : Int32)), .val (.int x0), .val (.int x1), .val (.int x2), .val (.int xq), .val (.ref b435), .val (.ref b444), .val (.ref b464), .val (.ref b482), .val (.ref na562)] [(.int (1 : Int32))])) _ _ _ _ _ _
                refine own_goW (fun _ k => XS.goto X605.here hx rfl (pc0 := 228) (pc' := 232) rfl (hb hby at_228) (by decide) (by decide) k) ?_
                show own_GW _ _ _ (T605.setTop (mkF m 232 #[.val (.int p0), .val (.int p1), .val (.int p2), .val (.int p3), .val (.int p4), .val (.int (3 : Int32)), .val (.int x0), .val (.int x1), .val (.int x2), .val (.int xq), .val (.ref b435), .val (.ref b444), .val (.ref b464), .val (.ref b482), .val (.ref na562)] [(.int (1 : Int32))])) _ _ _ _ _ _
                have CQ606 := CR538.trans (CHr.keep K562_1 (allS sf549 all0) CR538.1)
                have CE606 : CHr Z own_EL s.vm s.heap T605.vm T605.heap := by rw [hh, show T605.heap = T562.heap from eh605]; exact CQ606.trans (CHv.at X605 hZ (own_EW hw) CQ606.1)
                exact own_endWN X605 hx hlk (t := .boolean) Bd.returns (by simp) (hb hby at_232) hS538 (show _ ≤ T605.heap.size by rw [show T605.heap = T562.heap from eh605]; exact (Nat.le_trans (Nat.le_refl _) K562_1.1)) (by decide) (by decide) CE606 (Q := (Q0 Z p0 p1 p2 p3 p4 zc fm h0 n0)) (by rw [eh605]; exact ⟨rfl, N605, K562_0⟩)
              · skip
                refine own_goW (fun _ k => XS.aload X600.here hx rfl (hb hby at_206) rfl rfl k) ?_
                show own_GW _ _ _ (T600.setTop (mkF m 208 #[.val (.int p0), .val (.int p1), .val (.int p2), .val (.int p3), .val (.int p4), .val (.int (3 : Int32)), .val (.int x0), .val (.int x1), .val (.int x2), .val (.int xq), .val (.ref b435), .val (.ref b444), .val (.ref b464), .val (.ref b482), .val (.ref na562)] [(.ref na562)])) _ _ _ _ _ _
                refine own_goW (fun _ k => XS.iload X600.here hx rfl (hb hby at_208) rfl k) ?_
                show own_GW _ _ _ (T600.setTop (mkF m 210 #[.val (.int p0), .val (.int p1), .val (.int p2), .val (.int p3), .val (.int p4), .val (.int (3 : Int32)), .val (.int x0), .val (.int x1), .val (.int x2), .val (.int xq), .val (.ref b435), .val (.ref b444), .val (.ref b464), .val (.ref b482), .val (.ref na562)] [(.int x0), (.ref na562)])) _ _ _ _ _ _
                obtain ⟨cl607, Ar607, q607, S607, Ng607, H607, G607⟩ := id r562_0
                have in607 : ¬ (x0 < 0 ∨ cl607.slots.size ≤ (x0).toNatClampNeg) := inb_of S607 rg0.inb
                have at607 : cl607.slots[(x0).toNatClampNeg]? = some (.ref a496) := H607.at in607 (((own_set_no _ x2 x0 _ rg2 rg0 enC).trans (own_set_no _ x1 x0 _ rg1 rg0 enB)).trans (own_set_yes _ x0 x0 _ rg0 (by simp only [own_set_len, own_t0_len]) rfl))
                refine own_goW (fun _ k => X600.aaload hx (j := x0) (v := (.ref a496)) (by rw [eh600]; exact Ar607.1) (State.isArrayOf_alike hZ.alike Ar607.2.1) rfl Ar607.2.2 in607 at607 (g := (mkF m 210 #[.val (.int p0), .val (.int p1), .val (.int p2), .val (.int p3), .val (.int p4), .val (.int (3 : Int32)), .val (.int x0), .val (.int x1), .val (.int x2), .val (.int xq), .val (.ref b435), .val (.ref b444), .val (.ref b464), .val (.ref b482), .val (.ref na562)] [(.int x0), (.ref na562)])) rfl rfl (hb hby at_210) _ k) ?_
                show own_GW _ _ _ (T600.setTop (mkF m 211 #[.val (.int p0), .val (.int p1), .val (.int p2), .val (.int p3), .val (.int p4), .val (.int (3 : Int32)), .val (.int x0), .val (.int x1), .val (.int x2), .val (.int xq), .val (.ref b435), .val (.ref b444), .val (.ref b464), .val (.ref b482), .val (.ref na562)] [(.ref a496)])) _ _ _ _ _ _
                refine own_goW (fun _ k => XS.iload X600.here hx rfl (hb hby at_211) rfl k) ?_
                show own_GW _ _ _ (T600.setTop (mkF m 213 #[.val (.int p0), .val (.int p1), .val (.int p2), .val (.int p3), .val (.int p4), .val (.int (3 : Int32)), .val (.int x0), .val (.int x1), .val (.int x2), .val (.int xq), .val (.ref b435), .val (.ref b444), .val (.ref b464), .val (.ref b482), .val (.ref na562)] [(.int x0), (.ref a496)])) _ _ _ _ _ _
                refine own_goW (fun _ k => XS.iload X600.here hx rfl (hb hby at_213) rfl k) ?_
                show own_GW _ _ _ (T600.setTop (mkF m 215 #[.val (.int p0), .val (.int p1), .val (.int p2), .val (.int p3), .val (.int p4), .val (.int (3 : Int32)), .val (.int x0), .val (.int x1), .val (.int x2), .val (.int xq), .val (.ref b435), .val (.ref b444), .val (.ref b464), .val (.ref b482), .val (.ref na562)] [(.int (3 : Int32)), (.int x0), (.ref a496)])) _ _ _ _ _ _
                refine own_goW (fun _ k => XS.iload X600.here hx rfl (hb hby at_215) rfl k) ?_
                show own_GW _ _ _ (T600.setTop (mkF m 217 #[.val (.int p0), .val (.int p1), .val (.int p2), .val (.int p3), .val (.int p4), .val (.int (3 : Int32)), .val (.int x0), .val (.int x1), .val (.int x2), .val (.int xq), .val (.ref b435), .val (.ref b444), .val (.ref b464), .val (.ref b482), .val (.ref na562)] [(.int x0), (.int (3 : Int32)), (.int x0), (.ref a496)])) _ _ _ _ _ _
                refine own_goW (fun _ k => XS.iload X600.here hx rfl (hb hby at_217) rfl k) ?_
                show own_GW _ _ _ (T600.setTop (mkF m 219 #[.val (.int p0), .val (.int p1), .val (.int p2), .val (.int p3), .val (.int p4), .val (.int (3 : Int32)), .val (.int x0), .val (.int x1), .val (.int x2), .val (.int xq), .val (.ref b435), .val (.ref b444), .val (.ref b464), .val (.ref b482), .val (.ref na562)] [(.int x1), (.int x0), (.int (3 : Int32)), (.int x0), (.ref a496)])) _ _ _ _ _ _
                refine own_goW (fun _ k => XS.iload X600.here hx rfl (hb hby at_219) rfl k) ?_
                show own_GW _ _ _ (T600.setTop (mkF m 221 #[.val (.int p0), .val (.int p1), .val (.int p2), .val (.int p3), .val (.int p4), .val (.int (3 : Int32)), .val (.int x0), .val (.int x1), .val (.int x2), .val (.int xq), .val (.ref b435), .val (.ref b444), .val (.ref b464), .val (.ref b482), .val (.ref na562)] [(.int x2), (.int x1), (.int x0), (.int (3 : Int32)), (.int x0), (.ref a496)])) _ _ _ _ _ _
                obtain ⟨_, _, ⟨T608, L608, k608, n608⟩, -, X608, ⟨Lc608, hQ608, l608, y608, z608⟩, st608⟩ := Jvm.LawKit.callS X600 hx (y := (⟨"com/example/issuerd/issuerd/xml/DomReferencesPinLaw", "expected", "(IICCC)Ljava/lang/String;"⟩ : MethodName)) hown (mvT hZ (hw _ (List.mem_of_getElem? (i := 79) rfl))) (mvT hZ (hw _ (List.mem_of_getElem? (i := 80) rfl))) (mvT hZ (hw _ (List.mem_of_getElem? (i := 81) rfl))) (mvT hZ (hw _ (List.mem_of_getElem? (i := 82) rfl))) (by decide) (backOf (W := 1) (rm16h l (s.setVm T538.vm) a0 [] x0 x0 x1 x2 a496 a516 a538 T562.heap n0 Zs562 (mvS hZ (hw _ (List.mem_of_getElem? (i := 11) rfl))) (mvS hZ (hw _ (List.mem_of_getElem? (i := 13) rfl))) (mvS hZ (hw _ (List.mem_of_getElem? (i := 14) rfl))) Lt496_516_538 Lt516_538 Lt538 enC enB rfl) (State.Warmed39.refl _) (mvT (args := a0) hZ (hw _ (List.mem_of_getElem? (i := 82) rfl))) (mvT (args := a0) hZ (hw _ (List.mem_of_getElem? (i := 81) rfl))) (by decide) (by decide)) (g := (mkF m 221 #[.val (.int p0), .val (.int p1), .val (.int p2), .val (.int p3), .val (.int p4), .val (.int (3 : Int32)), .val (.int x0), .val (.int x1), .val (.int x2), .val (.int xq), .val (.ref b435), .val (.ref b444), .val (.ref b464), .val (.ref b482), .val (.ref na562)] [(.int x2), (.int x1), (.int x0), (.int (3 : Int32)), (.int x0), (.ref a496)])) rfl (by rw [hml]; rfl) (argsL := [(.int x0), (.int (3 : Int32)), (.int x0), (.int x1), (.int x2)]) (rest := [(.ref a496)]) (lenOf pd_8 rfl) rfl (by show 2 * 0 + _ ≤ _; exact Nat.le_of_eq rfl) (hb hby at_221) (fun _ _ => ⟨rfl, eh600, (by decide : 12 + 0 ≤ _), (by decide : 167 + 0 ≤ _)⟩)
                dsimp only [Pt.U, Pt.locs, Pt.cells, Pt.slots] at X608 l608 y608 z608 st608 hQ608
                rw [l608] at X608
                subst y608 z608
                obtain ⟨rfl, Nq608, eh608⟩ := hQ608
                have N608 := Fr.app N600 Nq608
                refine own_goW (fun _ k => st608 _ k) ?_
                show own_GW _ _ _ (T608.setTop (mkF m 224 #[.val (.int p0), .val (.int p1), .val (.int p2), .val (.int p3), .val (.int p4), .val (.int (3 : Int32)), .val (.int x0), .val (.int x1), .val (.int x2), .val (.int xq), .val (.ref b435), .val (.ref b444), .val (.ref b464), .val (.ref b482), .val (.ref na562)] [(.ref a496), (.ref a496)])) _ _ _ _ _ _
                refine own_goW (fun _ k => Jvm.RoadKit.acmp (g := (mkF m 224 #[.val (.int p0), .val (.int p1), .val (.int p2), .val (.int p3), .val (.int p4), .val (.int (3 : Int32)), .val (.int x0), .val (.int x1), .val (.int x2), .val (.int xq), .val (.ref b435), .val (.ref b444), .val (.ref b464), .val (.ref b482), .val (.ref na562)] [(.ref a496), (.ref a496)])) X608 hx rfl rfl rfl (pc0 := 224) (pc' := 227) (same := true) rfl (hb hby at_224) rfl (decide_eq_true rfl) (by decide) (by decide) k) ?_
                show own_GW _ _ _ (T608.setTop (mkF m 227 #[.val (.int p0), .val (.int p1), .val (.int p2), .val (.int p3), .val (.int p4), .val (.int (3 : Int32)), .val (.int x0), .val (.int x1), .val (.int x2), .val (.int xq), .val (.ref b435), .val (.ref b444), .val (.ref b464), .val (.ref b482), .val (.ref na562)] [])) _ _ _ _ _ _
                refine own_goW (fun _ k => XS.iconst X608.here hx rfl (hb hby at_227) k) ?_
                show own_GW _ _ _ (T608.setTop (mkF m 228 #[.val (.int p0), .val (.int p1), .val (.int p2), .val (.int p3), .val (.int p4), .val (.int (3 : Int32)), .val (.int x0), .val (.int x1), .val (.int x2), .val (.int xq), .val (.ref b435), .val (.ref b444), .val (.ref b464), .val (.ref b482), .val (.ref na562)] [(.int (1 : Int32))])) _ _ _ _ _ _
                refine own_goW (fun _ k => XS.goto X608.here hx rfl (pc0 := 228) (pc' := 232) rfl (hb hby at_228) (by decide) (by decide) k) ?_
                show own_GW _ _ _ (T608.setTop (mkF m 232 #[.val (.int p0), .val (.int p1), .val (.int p2), .val (.int p3), .val (.int p4), .val (.int (3 : Int32)), .val (.int x0), .val (.int x1), .val (.int x2), .val (.int xq), .val (.ref b435), .val (.ref b444), .val (.ref b464), .val (.ref b482), .val (.ref na562)] [(.int (1 : Int32))])) _ _ _ _ _ _
                have CQ609 := CR538.trans (CHr.keep K562_1 (allS sf549 all0) CR538.1)
                have CE609 : CHr Z own_EL s.vm s.heap T608.vm T608.heap := by rw [hh, show T608.heap = T562.heap from eh608]; exact CQ609.trans (CHv.at X608 hZ (own_EW hw) CQ609.1)
                exact own_endWN X608 hx hlk (t := .boolean) Bd.returns (by simp) (hb hby at_232) hS538 (show _ ≤ T608.heap.size by rw [show T608.heap = T562.heap from eh608]; exact (Nat.le_trans (Nat.le_refl _) K562_1.1)) (by decide) (by decide) CE609 (Q := (Q0 Z p0 p1 p2 p3 p4 zc fm h0 n0)) (by rw [eh608]; exact ⟨rfl, N608, K562_0⟩)
            · skip
              refine own_goW (fun _ k => XS.aload X562.here hx rfl (hb hby at_185) rfl rfl k) ?_
              show own_GW _ _ _ (T562.setTop (mkF m 187 #[.val (.int p0), .val (.int p1), .val (.int p2), .val (.int p3), .val (.int p4), .val (.int (3 : Int32)), .val (.int x0), .val (.int x1), .val (.int x2), .val (.int xq), .val (.ref b435), .val (.ref b444), .val (.ref b464), .val (.ref b482), .val (.ref na562)] [(.ref na562)])) _ _ _ _ _ _
              refine own_goW (fun _ k => XS.iload X562.here hx rfl (hb hby at_187) rfl k) ?_
              show own_GW _ _ _ (T562.setTop (mkF m 189 #[.val (.int p0), .val (.int p1), .val (.int p2), .val (.int p3), .val (.int p4), .val (.int (3 : Int32)), .val (.int x0), .val (.int x1), .val (.int x2), .val (.int xq), .val (.ref b435), .val (.ref b444), .val (.ref b464), .val (.ref b482), .val (.ref na562)] [(.int xq), (.ref na562)])) _ _ _ _ _ _
              obtain ⟨cl610, Ar610, q610, S610, Ng610, H610, G610⟩ := id r562_0
              have in610 : ¬ (xq < 0 ∨ cl610.slots.size ≤ (xq).toNatClampNeg) := inb_of S610 rgq.inb
              have at610 : cl610.slots[(xq).toNatClampNeg]? = some .null := H610.at in610 ((((own_set_no _ x2 xq _ rg2 rgq qnC).trans (own_set_no _ x1 xq _ rg1 rgq qnB)).trans (own_set_no _ x0 xq _ rg0 rgq qnA)).trans (own_t0_get _))
              refine own_goW (fun _ k => X562.aaload hx (j := xq) (v := .null) (by exact Ar610.1) (State.isArrayOf_alike hZ.alike Ar610.2.1) rfl Ar610.2.2 in610 at610 (g := (mkF m 189 #[.val (.int p0), .val (.int p1), .val (.int p2), .val (.int p3), .val (.int p4), .val (.int (3 : Int32)), .val (.int x0), .val (.int x1), .val (.int x2), .val (.int xq), .val (.ref b435), .val (.ref b444), .val (.ref b464), .val (.ref b482), .val (.ref na562)] [(.int xq), (.ref na562)])) rfl rfl (hb hby at_189) _ k) ?_
              show own_GW _ _ _ (T562.setTop (mkF m 190 #[.val (.int p0), .val (.int p1), .val (.int p2), .val (.int p3), .val (.int p4), .val (.int (3 : Int32)), .val (.int x0), .val (.int x1), .val (.int x2), .val (.int xq), .val (.ref b435), .val (.ref b444), .val (.ref b464), .val (.ref b482), .val (.ref na562)] [.null])) _ _ _ _ _ _
              refine own_goW (fun _ k => XS.iload X562.here hx rfl (hb hby at_190) rfl k) ?_
              show own_GW _ _ _ (T562.setTop (mkF m 192 #[.val (.int p0), .val (.int p1), .val (.int p2), .val (.int p3), .val (.int p4), .val (.int (3 : Int32)), .val (.int x0), .val (.int x1), .val (.int x2), .val (.int xq), .val (.ref b435), .val (.ref b444), .val (.ref b464), .val (.ref b482), .val (.ref na562)] [(.int xq), .null])) _ _ _ _ _ _
              refine own_goW (fun _ k => XS.iload X562.here hx rfl (hb hby at_192) rfl k) ?_
              show own_GW _ _ _ (T562.setTop (mkF m 194 #[.val (.int p0), .val (.int p1), .val (.int p2), .val (.int p3), .val (.int p4), .val (.int (3 : Int32)), .val (.int x0), .val (.int x1), .val (.int x2), .val (.int xq), .val (.ref b435), .val (.ref b444), .val (.ref b464), .val (.ref b482), .val (.ref na562)] [(.int (3 : Int32)), (.int xq), .null])) _ _ _ _ _ _
              refine own_goW (fun _ k => XS.iload X562.here hx rfl (hb hby at_194) rfl k) ?_
              show own_GW _ _ _ (T562.setTop (mkF m 196 #[.val (.int p0), .val (.int p1), .val (.int p2), .val (.int p3), .val (.int p4), .val (.int (3 : Int32)), .val (.int x0), .val (.int x1), .val (.int x2), .val (.int xq), .val (.ref b435), .val (.ref b444), .val (.ref b464), .val (.ref b482), .val (.ref na562)] [(.int x0), (.int (3 : Int32)), (.int xq), .null])) _ _ _ _ _ _
              refine own_goW (fun _ k => XS.iload X562.here hx rfl (hb hby at_196) rfl k) ?_
              show own_GW _ _ _ (T562.setTop (mkF m 198 #[.val (.int p0), .val (.int p1), .val (.int p2), .val (.int p3), .val (.int p4), .val (.int (3 : Int32)), .val (.int x0), .val (.int x1), .val (.int x2), .val (.int xq), .val (.ref b435), .val (.ref b444), .val (.ref b464), .val (.ref b482), .val (.ref na562)] [(.int x1), (.int x0), (.int (3 : Int32)), (.int xq), .null])) _ _ _ _ _ _
              refine own_goW (fun _ k => XS.iload X562.here hx rfl (hb hby at_198) rfl k) ?_
              show own_GW _ _ _ (T562.setTop (mkF m 200 #[.val (.int p0), .val (.int p1), .val (.int p2), .val (.int p3), .val (.int p4), .val (.int (3 : Int32)), .val (.int x0), .val (.int x1), .val (.int x2), .val (.int xq), .val (.ref b435), .val (.ref b444), .val (.ref b464), .val (.ref b482), .val (.ref na562)] [(.int x2), (.int x1), (.int x0), (.int (3 : Int32)), (.int xq), .null])) _ _ _ _ _ _
              obtain ⟨_, _, ⟨T611, L611, k611, n611⟩, -, X611, ⟨Lc611, hQ611, l611, y611, z611⟩, st611⟩ := Jvm.LawKit.callS X562 hx (y := (⟨"com/example/issuerd/issuerd/xml/DomReferencesPinLaw", "expected", "(IICCC)Ljava/lang/String;"⟩ : MethodName)) hown (mvT hZ (hw _ (List.mem_of_getElem? (i := 79) rfl))) (mvT hZ (hw _ (List.mem_of_getElem? (i := 80) rfl))) (mvT hZ (hw _ (List.mem_of_getElem? (i := 81) rfl))) (mvT hZ (hw _ (List.mem_of_getElem? (i := 82) rfl))) (by decide) (backOf (W := 1) (rm16i l (s.setVm T538.vm) a0 [] xq x0 x1 x2 a496 a516 a538 T562.heap n0 Zs562 (mvS hZ (hw _ (List.mem_of_getElem? (i := 11) rfl))) (mvS hZ (hw _ (List.mem_of_getElem? (i := 13) rfl))) (mvS hZ (hw _ (List.mem_of_getElem? (i := 14) rfl))) Lt496_516_538 Lt516_538 Lt538 qnC qnB qnA) (State.Warmed39.refl _) (mvT (args := a0) hZ (hw _ (List.mem_of_getElem? (i := 82) rfl))) (mvT (args := a0) hZ (hw _ (List.mem_of_getElem? (i := 81) rfl))) (by decide) (by decide)) (g := (mkF m 200 #[.val (.int p0), .val (.int p1), .val (.int p2), .val (.int p3), .val (.int p4), .val (.int (3 : Int32)), .val (.int x0), .val (.int x1), .val (.int x2), .val (.int xq), .val (.ref b435), .val (.ref b444), .val (.ref b464), .val (.ref b482), .val (.ref na562)] [(.int x2), (.int x1), (.int x0), (.int (3 : Int32)), (.int xq), .null])) rfl (by rw [hml]; rfl) (argsL := [(.int xq), (.int (3 : Int32)), (.int x0), (.int x1), (.int x2)]) (rest := [.null]) (lenOf pd_8 rfl) rfl (by show 2 * 0 + _ ≤ _; exact Nat.le_of_eq rfl) (hb hby at_200) (fun _ _ => ⟨rfl, rfl, (by decide : 12 + 0 ≤ _), (by decide : 167 + 0 ≤ _)⟩)
              dsimp only [Pt.U, Pt.locs, Pt.cells, Pt.slots] at X611 l611 y611 z611 st611 hQ611
              rw [l611] at X611
              subst y611 z611
              obtain ⟨rfl, Nq611, eh611⟩ := hQ611
              have N611 := Fr.app N562 Nq611
              refine own_goW (fun _ k => st611 _ k) ?_
              show own_GW _ _ _ (T611.setTop (mkF m 203 #[.val (.int p0), .val (.int p1), .val (.int p2), .val (.int p3), .val (.int p4), .val (.int (3 : Int32)), .val (.int x0), .val (.int x1), .val (.int x2), .val (.int xq), .val (.ref b435), .val (.ref b444), .val (.ref b464), .val (.ref b482), .val (.ref na562)] [.null, .null])) _ _ _ _ _ _
              refine own_goW (fun _ k => Jvm.RoadKit.acmp (g := (mkF m 203 #[.val (.int p0), .val (.int p1), .val (.int p2), .val (.int p3), .val (.int p4), .val (.int (3 : Int32)), .val (.int x0), .val (.int x1), .val (.int x2), .val (.int xq), .val (.ref b435), .val (.ref b444), .val (.ref b464), .val (.ref b482), .val (.ref na562)] [.null, .null])) X611 hx rfl rfl rfl (pc0 := 203) (pc' := 206) (same := true) rfl (hb hby at_203) rfl (decide_eq_true rfl) (by decide) (by decide) k) ?_
              show own_GW _ _ _ (T611.setTop (mkF m 206 #[.val (.int p0), .val (.int p1), .val (.int p2), .val (.int p3), .val (.int p4), .val (.int (3 : Int32)), .val (.int x0), .val (.int x1), .val (.int x2), .val (.int xq), .val (.ref b435), .val (.ref b444), .val (.ref b464), .val (.ref b482), .val (.ref na562)] [])) _ _ _ _ _ _
              rcases own_c2 x1 x2 x0 with ehC | ⟨enC, ehB⟩ | ⟨enC, enB⟩
              · skip
                refine own_goW (fun _ k => XS.aload X611.here hx rfl (hb hby at_206) rfl rfl k) ?_
                show own_GW _ _ _ (T611.setTop (mkF m 208 #[.val (.int p0), .val (.int p1), .val (.int p2), .val (.int p3), .val (.int p4), .val (.int (3 : Int32)), .val (.int x0), .val (.int x1), .val (.int x2), .val (.int xq), .val (.ref b435), .val (.ref b444), .val (.ref b464), .val (.ref b482), .val (.ref na562)] [(.ref na562)])) _ _ _ _ _ _
                refine own_goW (fun _ k => XS.iload X611.here hx rfl (hb hby at_208) rfl k) ?_
                show own_GW _ _ _ (T611.setTop (mkF m 210 #[.val (.int p0), .val (.int p1), .val (.int p2), .val (.int p3), .val (.int p4), .val (.int (3 : Int32)), .val (.int x0), .val (.int x1), .val (.int x2), .val (.int xq), .val (.ref b435), .val (.ref b444), .val (.ref b464), .val (.ref b482), .val (.ref na562)] [(.int x0), (.ref na562)])) _ _ _ _ _ _
                obtain ⟨cl612, Ar612, q612, S612, Ng612, H612, G612⟩ := id r562_0
                have in612 : ¬ (x0 < 0 ∨ cl612.slots.size ≤ (x0).toNatClampNeg) := inb_of S612 rg0.inb
                have at612 : cl612.slots[(x0).toNatClampNeg]? = some (.ref a538) := H612.at in612 (own_set_yes _ x2 x0 _ rg2 (by simp only [own_set_len, own_t0_len]) ehC)
                refine own_goW (fun _ k => X611.aaload hx (j := x0) (v := (.ref a538)) (by rw [eh611]; exact Ar612.1) (State.isArrayOf_alike hZ.alike Ar612.2.1) rfl Ar612.2.2 in612 at612 (g := (mkF m 210 #[.val (.int p0), .val (.int p1), .val (.int p2), .val (.int p3), .val (.int p4), .val (.int (3 : Int32)), .val (.int x0), .val (.int x1), .val (.int x2), .val (.int xq), .val (.ref b435), .val (.ref b444), .val (.ref b464), .val (.ref b482), .val (.ref na562)] [(.int x0), (.ref na562)])) rfl rfl (hb hby at_210) _ k) ?_
                show own_GW _ _ _ (T611.setTop (mkF m 211 #[.val (.int p0), .val (.int p1), .val (.int p2), .val (.int p3), .val (.int p4), .val (.int (3 : Int32)), .val (.int x0), .val (.int x1), .val (.int x2), .val (.int xq), .val (.ref b435), .val (.ref b444), .val (.ref b464), .val (.ref b482), .val (.ref na562)] [(.ref a538)])) _ _ _ _ _ _
                refine own_goW (fun _ k => XS.iload X611.here hx rfl (hb hby at_211) rfl k) ?_
                show own_GW _ _ _ (T611.setTop (mkF m 213 #[.val (.int p0), .val (.int p1), .val (.int p2), .val (.int p3), .val (.int p4), .val (.int (3 : Int32)), .val (.int x0), .val (.int x1), .val (.int x2), .val (.int xq), .val (.ref b435), .val (.ref b444), .val (.ref b464), .val (.ref b482), .val (.ref na562)] [(.int x0), (.ref a538)])) _ _ _ _ _ _
                refine own_goW (fun _ k => XS.iload X611.here hx rfl (hb hby at_213) rfl k) ?_
                show own_GW _ _ _ (T611.setTop (mkF m 215 #[.val (.int p0), .val (.int p1), .val (.int p2), .val (.int p3), .val (.int p4), .val (.int (3 : Int32)), .val (.int x0), .val (.int x1), .val (.int x2), .val (.int xq), .val (.ref b435), .val (.ref b444), .val (.ref b464), .val (.ref b482), .val (.ref na562)] [(.int (3 : Int32)), (.int x0), (.ref a538)])) _ _ _ _ _ _
                refine own_goW (fun _ k => XS.iload X611.here hx rfl (hb hby at_215) rfl k) ?_
                show own_GW _ _ _ (T611.setTop (mkF m 217 #[.val (.int p0), .val (.int p1), .val (.int p2), .val (.int p3), .val (.int p4), .val (.int (3 : Int32)), .val (.int x0), .val (.int x1), .val (.int x2), .val (.int xq), .val (.ref b435), .val (.ref b444), .val (.ref b464), .val (.ref b482), .val (.ref na562)] [(.int x0), (.int (3 : Int32)), (.int x0), (.ref a538)])) _ _ _ _ _ _
                refine own_goW (fun _ k => XS.iload X611.here hx rfl (hb hby at_217) rfl k) ?_
                show own_GW _ _ _ (T611.setTop (mkF m 219 #[.val (.int p0), .val (.int p1), .val (.int p2), .val (.int p3), .val (.int p4), .val (.int (3 : Int32)), .val (.int x0), .val (.int x1), .val (.int x2), .val (.int xq), .val (.ref b435), .val (.ref b444), .val (.ref b464), .val (.ref b482), .val (.ref na562)] [(.int x1), (.int x0), (.int (3 : Int32)), (.int x0), (.ref a538)])) _ _ _ _ _ _
                refine own_goW (fun _ k => XS.iload X611.here hx rfl (hb hby at_219) rfl k) ?_
                show own_GW _ _ _ (T611.setTop (mkF m 221 #[.val (.int p0), .val (.int p1), .val (.int p2), .val (.int p3), .val (.int p4), .val (.int (3 : Int32)), .val (.int x0), .val (.int x1), .val (.int x2), .val (.int xq), .val (.ref b435), .val (.ref b444), .val (.ref b464), .val (.ref b482), .val (.ref na562)] [(.int x2), (.int x1), (.int x0), (.int (3 : Int32)), (.int x0), (.ref a538)])) _ _ _ _ _ _
                obtain ⟨_, _, ⟨T613, L613, k613, n613⟩, -, X613, ⟨Lc613, hQ613, l613, y613, z613⟩, st613⟩ := Jvm.LawKit.callS X611 hx (y := (⟨"com/example/issuerd/issuerd/xml/DomReferencesPinLaw", "expected", "(IICCC)Ljava/lang/String;"⟩ : MethodName)) hown (mvT hZ (hw _ (List.mem_of_getElem? (i := 79) rfl))) (mvT hZ (hw _ (List.mem_of_getElem? (i := 80) rfl))) (mvT hZ (hw _ (List.mem_of_getElem? (i := 81) rfl))) (mvT hZ (hw _ (List.mem_of_getElem? (i := 82) rfl))) (by decide) (backOf (W := 1) (rm16f l (s.setVm T538.vm) a0 [] x0 x0 x1 x2 a496 a516 a538 T562.heap n0 Zs562 (mvS hZ (hw _ (List.mem_of_getElem? (i := 11) rfl))) (mvS hZ (hw _ (List.mem_of_getElem? (i := 13) rfl))) (mvS hZ (hw _ (List.mem_of_getElem? (i := 14) rfl))) Lt496_516_538 Lt516_538 Lt538 ehC) (State.Warmed39.refl _) (mvT (args := a0) hZ (hw _ (List.mem_of_getElem? (i := 82) rfl))) (mvT (args := a0) hZ (hw _ (List.mem_of_getElem? (i := 81) rfl))) (by decide) (by decide)) (g := (mkF m 221 #[.val (.int p0), .val (.int p1), .val (.int p2), .val (.int p3), .val (.int p4), .val (.int (3 : Int32)), .val (.int x0), .val (.int x1), .val (.int x2), .val (.int xq), .val (.ref b435), .val (.ref b444), .val (.ref b464), .val (.ref b482), .val (.ref na562)] [(.int x2), (.int x1), (.int x0), (.int (3 : Int32)), (.int x0), (.ref a538)])) rfl (by rw [hml]; rfl) (argsL := [(.int x0), (.int (3 : Int32)), (.int x0), (.int x1), (.int x2)]) (rest := [(.ref a538)]) (lenOf pd_8 rfl) rfl (by show 2 * 0 + _ ≤ _; exact Nat.le_of_eq rfl) (hb hby at_221) (fun _ _ => ⟨rfl, eh611, (by decide : 12 + 0 ≤ _), (by decide : 167 + 0 ≤ _)⟩)
                dsimp only [Pt.U, Pt.locs, Pt.cells, Pt.slots] at X613 l613 y613 z613 st613 hQ613
                rw [l613] at X613
                subst y613 z613
                obtain ⟨rfl, Nq613, eh613⟩ := hQ613
                have N613 := Fr.app N611 Nq613
                refine own_goW (fun _ k => st613 _ k) ?_
                show own_GW _ _ _ (T613.setTop (mkF m 224 #[.val (.int p0), .val (.int p1), .val (.int p2), .val (.int p3), .val (.int p4), .val (.int (3 : Int32)), .val (.int x0), .val (.int x1), .val (.int x2), .val (.int xq), .val (.ref b435), .val (.ref b444), .val (.ref b464), .val (.ref b482), .val (.ref na562)] [(.ref a538), (.ref a538)])) _ _ _ _ _ _
                refine own_goW (fun _ k => Jvm.RoadKit.acmp (g := (mkF m 224 #[.val (.int p0), .val (.int p1), .val (.int p2), .val (.int p3), .val (.int p4), .val (.int (3 : Int32)), .val (.int x0), .val (.int x1), .val (.int x2), .val (.int xq), .val (.ref b435), .val (.ref b444), .val (.ref b464), .val (.ref b482), .val (.ref na562)] [(.ref a538), (.ref a538)])) X613 hx rfl rfl rfl (pc0 := 224) (pc' := 227) (same := true) rfl (hb hby at_224) rfl (decide_eq_true rfl) (by decide) (by decide) k) ?_
                show own_GW _ _ _ (T613.setTop (mkF m 227 #[.val (.int p0), .val (.int p1), .val (.int p2), .val (.int p3), .val (.int p4), .val (.int (3 : Int32)), .val (.int x0), .val (.int x1), .val (.int x2), .val (.int xq), .val (.ref b435), .val (.ref b444), .val (.ref b464), .val (.ref b482), .val (.ref na562)] [])) _ _ _ _ _ _
                refine own_goW (fun _ k => XS.iconst X613.here hx rfl (hb hby at_227) k) ?_
                show own_GW _ _ _ (T613.setTop (mkF m 228 #[.val (.int p0), .val (.int p1), .val (.int p2), .val (.int p3), .val (.int p4), .val (.int (3 : Int32)), .val (.int x0), .val (.int x1), .val (.int x2), .val (.int xq), .val (.ref b435), .val (.ref b444), .val (.ref b464), .val (.ref b482), .val (.ref na562)] [(.int (1 : Int32))])) _ _ _ _ _ _
                refine own_goW (fun _ k => XS.goto X613.here hx rfl (pc0 := 228) (pc' := 232) rfl (hb hby at_228) (by decide) (by decide) k) ?_
                show own_GW _ _ _ (T613.setTop (mkF m 232 #[.val (.int p0), .val (.int p1), .val (.int p2), .val (.int p3), .val (.int p4), .val (.int (3 : Int32)), .val (.int x0), .val (.int x1), .val (.int x2), .val (.int xq), .val (.ref b435), .val (.ref b444), .val (.ref b464), .val (.ref b482), .val (.ref na562)] [(.int (1 : Int32))])) _ _ _ _ _ _
                have CQ614 := CR538.trans (CHr.keep K562_1 (allS sf549 all0) CR538.1)
                have CE614 : CHr Z own_EL s.vm s.heap T613.vm T613.heap := by rw [hh, show T613.heap = T562.heap from eh613]; exact CQ614.trans (CHv.at X613 hZ (own_EW hw) CQ614.1)
                exact own_endWN X613 hx hlk (t := .boolean) Bd.returns (by simp) (hb hby at_232) hS538 (show _ ≤ T613.heap.size by rw [show T613.heap = T562.heap from eh613]; exact (Nat.le_trans (Nat.le_refl _) K562_1.1)) (by decide) (by decide) CE614 (Q := (Q0 Z p0 p1 p2 p3 p4 zc fm h0 n0)) (by rw [eh613]; exact ⟨rfl, N613, K562_0⟩)
              · skip
                refine own_goW (fun _ k => XS.aload X611.here hx rfl (hb hby at_206) rfl rfl k) ?_
                show own_GW _ _ _ (T611.setTop (mkF m 208 #[.val (.int p0), .val (.int p1), .val (.int p2), .val (.int p3), .val (.int p4), .val (.int (3 : Int32)), .val (.int x0), .val (.int x1), .val (.int x2), .val (.int xq), .val (.ref b435), .val (.ref b444), .val (.ref b464), .val (.ref b482), .val (.ref na562)] [(.ref na562)])) _ _ _ _ _ _
                refine own_goW (fun _ k => XS.iload X611.here hx rfl (hb hby at_208) rfl k) ?_
                show own_GW _ _ _ (T611.setTop (mkF m 210 #[.val (.int p0), .val (.int p1), .val (.int p2), .val (.int p3), .val (.int p4), .val (.int (3 : Int32)), .val (.int x0), .val (.int x1), .val (.int x2), .val (.int xq), .val (.ref b435), .val (.ref b444), .val (.ref b464), .val (.ref b482), .val (.ref na562)] [(.int x0), (.ref na562)])) _ _ _ _ _ _
                obtain ⟨cl615, Ar615, q615, S615, Ng615, H615, G615⟩ := id r562_0
                have in615 : ¬ (x0 < 0 ∨ cl615.slots.size ≤ (x0).toNatClampNeg) := inb_of S615 rg0.inb
                have at615 : cl615.slots[(x0).toNatClampNeg]? = some (.ref a516) := H615.at in615 ((own_set_no _ x2 x0 _ rg2 rg0 enC).trans (own_set_yes _ x1 x0 _ rg1 (by simp only [own_set_len, own_t0_len]) ehB))
                refine own_goW (fun _ k => X611.aaload hx (j := x0) (v := (.ref a516)) (by rw [eh611]; exact Ar615.1) (State.isArrayOf_alike hZ.alike Ar615.2.1) rfl Ar615.2.2 in615 at615 (g := (mkF m 210 #[.val (.int p0), .val (.int p1), .val (.int p2), .val (.int p3), .val (.int p4), .val (.int (3 : Int32)), .val (.int x0), .val (.int x1), .val (.int x2), .val (.int xq), .val (.ref b435), .val (.ref b444), .val (.ref b464), .val (.ref b482), .val (.ref na562)] [(.int x0), (.ref na562)])) rfl rfl (hb hby at_210) _ k) ?_
                show own_GW _ _ _ (T611.setTop (mkF m 211 #[.val (.int p0), .val (.int p1), .val (.int p2), .val (.int p3), .val (.int p4), .val (.int (3 : Int32)), .val (.int x0), .val (.int x1), .val (.int x2), .val (.int xq), .val (.ref b435), .val (.ref b444), .val (.ref b464), .val (.ref b482), .val (.ref na562)] [(.ref a516)])) _ _ _ _ _ _
                refine own_goW (fun _ k => XS.iload X611.here hx rfl (hb hby at_211) rfl k) ?_
                show own_GW _ _ _ (T611.setTop (mkF m 213 #[.val (.int p0), .val (.int p1), .val (.int p2), .val (.int p3), .val (.int p4), .val (.int (3 : Int32)), .val (.int x0), .val (.int x1), .val (.int x2), .val (.int xq), .val (.ref b435), .val (.ref b444), .val (.ref b464), .val (.ref b482), .val (.ref na562)] [(.int x0), (.ref a516)])) _ _ _ _ _ _
                refine own_goW (fun _ k => XS.iload X611.here hx rfl (hb hby at_213) rfl k) ?_
                show own_GW _ _ _ (T611.setTop (mkF m 215 #[.val (.int p0), .val (.int p1), .val (.int p2), .val (.int p3), .val (.int p4), .val (.int (3 : Int32)), .val (.int x0), .val (.int x1), .val (.int x2), .val (.int xq), .val (.ref b435), .val (.ref b444), .val (.ref b464), .val (.ref b482), .val (.ref na562)] [(.int (3 : Int32)), (.int x0), (.ref a516)])) _ _ _ _ _ _
                refine own_goW (fun _ k => XS.iload X611.here hx rfl (hb hby at_215) rfl k) ?_
                show own_GW _ _ _ (T611.setTop (mkF m 217 #[.val (.int p0), .val (.int p1), .val (.int p2), .val (.int p3), .val (.int p4), .val (.int (3 : Int32)), .val (.int x0), .val (.int x1), .val (.int x2), .val (.int xq), .val (.ref b435), .val (.ref b444), .val (.ref b464), .val (.ref b482), .val (.ref na562)] [(.int x0), (.int (3 : Int32)), (.int x0), (.ref a516)])) _ _ _ _ _ _
                refine own_goW (fun _ k => XS.iload X611.here hx rfl (hb hby at_217) rfl k) ?_
                show own_GW _ _ _ (T611.setTop (mkF m 219 #[.val (.int p0), .val (.int p1), .val (.int p2), .val (.int p3), .val (.int p4), .val (.int (3 : Int32)), .val (.int x0), .val (.int x1), .val (.int x2), .val (.int xq), .val (.ref b435), .val (.ref b444), .val (.ref b464), .val (.ref b482), .val (.ref na562)] [(.int x1), (.int x0), (.int (3 : Int32)), (.int x0), (.ref a516)])) _ _ _ _ _ _
                refine own_goW (fun _ k => XS.iload X611.here hx rfl (hb hby at_219) rfl k) ?_
                show own_GW _ _ _ (T611.setTop (mkF m 221 #[.val (.int p0), .val (.int p1), .val (.int p2), .val (.int p3), .val (.int p4), .val (.int (3 : Int32)), .val (.int x0), .val (.int x1), .val (.int x2), .val (.int xq), .val (.ref b435), .val (.ref b444), .val (.ref b464), .val (.ref b482), .val (.ref na562)] [(.int x2), (.int x1), (.int x0), (.int (3 : Int32)), (.int x0), (.ref a516)])) _ _ _ _ _ _
                obtain ⟨_, _, ⟨T616, L616, k616, n616⟩, -, X616, ⟨Lc616, hQ616, l616, y616, z616⟩, st616⟩ := Jvm.LawKit.callS X611 hx (y := (⟨"com/example/issuerd/issuerd/xml/DomReferencesPinLaw", "expected", "(IICCC)Ljava/lang/String;"⟩ : MethodName)) hown (mvT hZ (hw _ (List.mem_of_getElem? (i := 79) rfl))) (mvT hZ (hw _ (List.mem_of_getElem? (i := 80) rfl))) (mvT hZ (hw _ (List.mem_of_getElem? (i := 81) rfl))) (mvT hZ (hw _ (List.mem_of_getElem? (i := 82) rfl))) (by decide) (backOf (W := 1) (rm16g l (s.setVm T538.vm) a0 [] x0 x0 x1 x2 a496 a516 a538 T562.heap n0 Zs562 (mvS hZ (hw _ (List.mem_of_getElem? (i := 11) rfl))) (mvS hZ (hw _ (List.mem_of_getElem? (i := 13) rfl))) (mvS hZ (hw _ (List.mem_of_getElem? (i := 14) rfl))) Lt496_516_538 Lt516_538 Lt538 enC ehB) (State.Warmed39.refl _) (mvT (args := a0) hZ (hw _ (List.mem_of_getElem? (i := 82) rfl))) (mvT (args := a0) hZ (hw _ (List.mem_of_getElem? (i := 81) rfl))) (by decide) (by decide)) (g := (mkF m 221 #[.val (.int p0), .val (.int p1), .val (.int p2), .val (.int p3), .val (.int p4), .val (.int (3 : Int32)), .val (.int x0), .val (.int x1), .val (.int x2), .val (.int xq), .val (.ref b435), .val (.ref b444), .val (.ref b464), .val (.ref b482), .val (.ref na562)] [(.int x2), (.int x1), (.int x0), (.int (3 : Int32)), (.int x0), (.ref a516)])) rfl (by rw [hml]; rfl) (argsL := [(.int x0), (.int (3 : Int32)), (.int x0), (.int x1), (.int x2)]) (rest := [(.ref a516)]) (lenOf pd_8 rfl) rfl (by show 2 * 0 + _ ≤ _; exact Nat.le_of_eq rfl) (hb hby at_221) (fun _ _ => ⟨rfl, eh611, (by decide : 12 + 0 ≤ _), (by decide : 167 + 0 ≤ _)⟩)
                dsimp only [Pt.U, Pt.locs, Pt.cells, Pt.slots] at X616 l616 y616 z616 st616 hQ616
                rw [l616] at X616
                subst y616 z616
                obtain ⟨rfl, Nq616, eh616⟩ := hQ616
                have N616 := Fr.app N611 Nq616
                refine own_goW (fun _ k => st616 _ k) ?_
                show own_GW _ _ _ (T616.setTop (mkF m 224 #[.val (.int p0), .val (.int p1), .val (.int p2), .val (.int p3), .val (.int p4), .val (.int (3 : Int32)), .val (.int x0), .val (.int x1), .val (.int x2), .val (.int xq), .val (.ref b435), .val (.ref b444), .val (.ref b464), .val (.ref b482), .val (.ref na562)] [(.ref a516), (.ref a516)])) _ _ _ _ _ _
                refine own_goW (fun _ k => Jvm.RoadKit.acmp (g := (mkF m 224 #[.val (.int p0), .val (.int p1), .val (.int p2), .val (.int p3), .val (.int p4), .val (.int (3 : Int32)), .val (.int x0), .val (.int x1), .val (.int x2), .val (.int xq), .val (.ref b435), .val (.ref b444), .val (.ref b464), .val (.ref b482), .val (.ref na562)] [(.ref a516), (.ref a516)])) X616 hx rfl rfl rfl (pc0 := 224) (pc' := 227) (same := true) rfl (hb hby at_224) rfl (decide_eq_true rfl) (by decide) (by decide) k) ?_
                show own_GW _ _ _ (T616.setTop (mkF m 227 #[.val (.int p0), .val (.int p1), .val (.int p2), .val (.int p3), .val (.int p4), .val (.int (3 : Int32)), .val (.int x0), .val (.int x1), .val (.int x2), .val (.int xq), .val (.ref b435), .val (.ref b444), .val (.ref b464), .val (.ref b482), .val (.ref na562)] [])) _ _ _ _ _ _
                refine own_goW (fun _ k => XS.iconst X616.here hx rfl (hb hby at_227) k) ?_
                show own_GW _ _ _ (T616.setTop (mkF m 228 #[.val (.int p0), .val (.int p1), .val (.int p2), .val (.int p3), .val (.int p4), .val (.int (3 : Int32)), .val (.int x0), .val (.int x1), .val (.int x2), .val (.int xq), .val (.ref b435), .val (.ref b444), .val (.ref b464), .val (.ref b482), .val (.ref na562)] [(.int (1 : Int32))])) _ _ _ _ _ _
                refine own_goW (fun _ k => XS.goto X616.here hx rfl (pc0 := 228) (pc' := 232) rfl (hb hby at_228) (by decide) (by decide) k) ?_
                show own_GW _ _ _ (T616.setTop (mkF m 232 #[.val (.int p0), .val (.int p1), .val (.int p2), .val (.int p3), .val (.int p4), .val (.int (3 : Int32)), .val (.int x0), .val (.int x1), .val (.int x2), .val (.int xq), .val (.ref b435), .val (.ref b444), .val (.ref b464), .val (.ref b482), .val (.ref na562)] [(.int (1 : Int32))])) _ _ _ _ _ _
                have CQ617 := CR538.trans (CHr.keep K562_1 (allS sf549 all0) CR538.1)
                have CE617 : CHr Z own_EL s.vm s.heap T616.vm T616.heap := by rw [hh, show T616.heap = T562.heap from eh616]; exact CQ617.trans (CHv.at X616 hZ (own_EW hw) CQ617.1)
                exact own_endWN X616 hx hlk (t := .boolean) Bd.returns (by simp) (hb hby at_232) hS538 (show _ ≤ T616.heap.size by rw [show T616.heap = T562.heap from eh616]; exact (Nat.le_trans (Nat.le_refl _) K562_1.1)) (by decide) (by decide) CE617 (Q := (Q0 Z p0 p1 p2 p3 p4 zc fm h0 n0)) (by rw [eh616]; exact ⟨rfl, N616, K562_0⟩)
              · skip
                refine own_goW (fun _ k => XS.aload X611.here hx rfl (hb hby at_206) rfl rfl k) ?_
                show own_GW _ _ _ (T611.setTop (mkF m 208 #[.val (.int p0), .val (.int p1), .val (.int p2), .val (.int p3), .val (.int p4), .val (.int (3 : Int32)), .val (.int x0), .val (.int x1), .val (.int x2), .val (.int xq), .val (.ref b435), .val (.ref b444), .val (.ref b464), .val (.ref b482), .val (.ref na562)] [(.ref na562)])) _ _ _ _ _ _
                refine own_goW (fun _ k => XS.iload X611.here hx rfl (hb hby at_208) rfl k) ?_
                show own_GW _ _ _ (T611.setTop (mkF m 210 #[.val (.int p0), .val (.int p1), .val (.int p2), .val (.int p3), .val (.int p4), .val (.int (3 : Int32)), .val (.int x0), .val (.int x1), .val (.int x2), .val (.int xq), .val (.ref b435), .val (.ref b444), .val (.ref b464), .val (.ref b482), .val (.ref na562)] [(.int x0), (.ref na562)])) _ _ _ _ _ _
                obtain ⟨cl618, Ar618, q618, S618, Ng618, H618, G618⟩ := id r562_0
                have in618 : ¬ (x0 < 0 ∨ cl618.slots.size ≤ (x0).toNatClampNeg) := inb_of S618 rg0.inb
                have at618 : cl618.slots[(x0).toNatClampNeg]? = some (.ref a496) := H618.at in618 (((own_set_no _ x2 x0 _ rg2 rg0 enC).trans (own_set_no _ x1 x0 _ rg1 rg0 enB)).trans (own_set_yes _ x0 x0 _ rg0 (by simp only [own_set_len, own_t0_len]) rfl))
                refine own_goW (fun _ k => X611.aaload hx (j := x0) (v := (.ref a496)) (by rw [eh611]; exact Ar618.1) (State.isArrayOf_alike hZ.alike Ar618.2.1) rfl Ar618.2.2 in618 at618 (g := (mkF m 210 #[.val (.int p0), .val (.int p1), .val (.int p2), .val (.int p3), .val (.int p4), .val (.int (3 : Int32)), .val (.int x0), .val (.int x1), .val (.int x2), .val (.int xq), .val (.ref b435), .val (.ref b444), .val (.ref b464), .val (.ref b482), .val (.ref na562)] [(.int x0), (.ref na562)])) rfl rfl (hb hby at_210) _ k) ?_
                show own_GW _ _ _ (T611.setTop (mkF m 211 #[.val (.int p0), .val (.int p1), .val (.int p2), .val (.int p3), .val (.int p4), .val (.int (3 : Int32)), .val (.int x0), .val (.int x1), .val (.int x2), .val (.int xq), .val (.ref b435), .val (.ref b444), .val (.ref b464), .val (.ref b482), .val (.ref na562)] [(.ref a496)])) _ _ _ _ _ _
                refine own_goW (fun _ k => XS.iload X611.here hx rfl (hb hby at_211) rfl k) ?_
                show own_GW _ _ _ (T611.setTop (mkF m 213 #[.val (.int p0), .val (.int p1), .val (.int p2), .val (.int p3), .val (.int p4), .val (.int (3 : Int32)), .val (.int x0), .val (.int x1), .val (.int x2), .val (.int xq), .val (.ref b435), .val (.ref b444), .val (.ref b464), .val (.ref b482), .val (.ref na562)] [(.int x0), (.ref a496)])) _ _ _ _ _ _
                refine own_goW (fun _ k => XS.iload X611.here hx rfl (hb hby at_213) rfl k) ?_
                show own_GW _ _ _ (T611.setTop (mkF m 215 #[.val (.int p0), .val (.int p1), .val (.int p2), .val (.int p3), .val (.int p4), .val (.int (3 : Int32)), .val (.int x0), .val (.int x1), .val (.int x2), .val (.int xq), .val (.ref b435), .val (.ref b444), .val (.ref b464), .val (.ref b482), .val (.ref na562)] [(.int (3 : Int32)), (.int x0), (.ref a496)])) _ _ _ _ _ _
                refine own_goW (fun _ k => XS.iload X611.here hx rfl (hb hby at_215) rfl k) ?_
                show own_GW _ _ _ (T611.setTop (mkF m 217 #[.val (.int p0), .val (.int p1), .val (.int p2), .val (.int p3), .val (.int p4), .val (.int (3 : Int32)), .val (.int x0), .val (.int x1), .val (.int x2), .val (.int xq), .val (.ref b435), .val (.ref b444), .val (.ref b464), .val (.ref b482), .val (.ref na562)] [(.int x0), (.int (3 : Int32)), (.int x0), (.ref a496)])) _ _ _ _ _ _
                refine own_goW (fun _ k => XS.iload X611.here hx rfl (hb hby at_217) rfl k) ?_
                show own_GW _ _ _ (T611.setTop (mkF m 219 #[.val (.int p0), .val (.int p1), .val (.int p2), .val (.int p3), .val (.int p4), .val (.int (3 : Int32)), .val (.int x0), .val (.int x1), .val (.int x2), .val (.int xq), .val (.ref b435), .val (.ref b444), .val (.ref b464), .val (.ref b482), .val (.ref na562)] [(.int x1), (.int x0), (.int (3 : Int32)), (.int x0), (.ref a496)])) _ _ _ _ _ _
                refine own_goW (fun _ k => XS.iload X611.here hx rfl (hb hby at_219) rfl k) ?_
                show own_GW _ _ _ (T611.setTop (mkF m 221 #[.val (.int p0), .val (.int p1), .val (.int p2), .val (.int p3), .val (.int p4), .val (.int (3 : Int32)), .val (.int x0), .val (.int x1), .val (.int x2), .val (.int xq), .val (.ref b435), .val (.ref b444), .val (.ref b464), .val (.ref b482), .val (.ref na562)] [(.int x2), (.int x1), (.int x0), (.int (3 : Int32)), (.int x0), (.ref a496)])) _ _ _ _ _ _
                obtain ⟨_, _, ⟨T619, L619, k619, n619⟩, -, X619, ⟨Lc619, hQ619, l619, y619, z619⟩, st619⟩ := Jvm.LawKit.callS X611 hx (y := (⟨"com/example/issuerd/issuerd/xml/DomReferencesPinLaw", "expected", "(IICCC)Ljava/lang/String;"⟩ : MethodName)) hown (mvT hZ (hw _ (List.mem_of_getElem? (i := 79) rfl))) (mvT hZ (hw _ (List.mem_of_getElem? (i := 80) rfl))) (mvT hZ (hw _ (List.mem_of_getElem? (i := 81) rfl))) (mvT hZ (hw _ (List.mem_of_getElem? (i := 82) rfl))) (by decide) (backOf (W := 1) (rm16h l (s.setVm T538.vm) a0 [] x0 x0 x1 x2 a496 a516 a538 T562.heap n0 Zs562 (mvS hZ (hw _ (List.mem_of_getElem? (i := 11) rfl))) (mvS hZ (hw _ (List.mem_of_getElem? (i := 13) rfl))) (mvS hZ (hw _ (List.mem_of_getElem? (i := 14) rfl))) Lt496_516_538 Lt516_538 Lt538 enC enB rfl) (State.Warmed39.refl _) (mvT (args := a0) hZ (hw _ (List.mem_of_getElem? (i := 82) rfl))) (mvT (args := a0) hZ (hw _ (List.mem_of_getElem? (i := 81) rfl))) (by decide) (by decide)) (g := (mkF m 221 #[.val (.int p0), .val (.int p1), .val (.int p2), .val (.int p3), .val (.int p4), .val (.int (3 : Int32)), .val (.int x0), .val (.int x1), .val (.int x2), .val (.int xq), .val (.ref b435), .val (.ref b444), .val (.ref b464), .val (.ref b482), .val (.ref na562)] [(.int x2), (.int x1), (.int x0), (.int (3 : Int32)), (.int x0), (.ref a496)])) rfl (by rw [hml]; rfl) (argsL := [(.int x0), (.int (3 : Int32)), (.int x0), (.int x1), (.int x2)]) (rest := [(.ref a496)]) (lenOf pd_8 rfl) rfl (by show 2 * 0 + _ ≤ _; exact Nat.le_of_eq rfl) (hb hby at_221) (fun _ _ => ⟨rfl, eh611, (by decide : 12 + 0 ≤ _), (by decide : 167 + 0 ≤ _)⟩)
                dsimp only [Pt.U, Pt.locs, Pt.cells, Pt.slots] at X619 l619 y619 z619 st619 hQ619
                rw [l619] at X619
                subst y619 z619
                obtain ⟨rfl, Nq619, eh619⟩ := hQ619
                have N619 := Fr.app N611 Nq619
                refine own_goW (fun _ k => st619 _ k) ?_
                show own_GW _ _ _ (T619.setTop (mkF m 224 #[.val (.int p0), .val (.int p1), .val (.int p2), .val (.int p3), .val (.int p4), .val (.int (3 : Int32)), .val (.int x0), .val (.int x1), .val (.int x2), .val (.int xq), .val (.ref b435), .val (.ref b444), .val (.ref b464), .val (.ref b482), .val (.ref na562)] [(.ref a496), (.ref a496)])) _ _ _ _ _ _
                refine own_goW (fun _ k => Jvm.RoadKit.acmp (g := (mkF m 224 #[.val (.int p0), .val (.int p1), .val (.int p2), .val (.int p3), .val (.int p4), .val (.int (3 : Int32)), .val (.int x0), .val (.int x1), .val (.int x2), .val (.int xq), .val (.ref b435), .val (.ref b444), .val (.ref b464), .val (.ref b482), .val (.ref na562)] [(.ref a496), (.ref a496)])) X619 hx rfl rfl rfl (pc0 := 224) (pc' := 227) (same := true) rfl (hb hby at_224) rfl (decide_eq_true rfl) (by decide) (by decide) k) ?_
                show own_GW _ _ _ (T619.setTop (mkF m 227 #[.val (.int p0), .val (.int p1), .val (.int p2), .val (.int p3), .val (.int p4), .val (.int (3 : Int32)), .val (.int x0), .val (.int x1), .val (.int x2), .val (.int xq), .val (.ref b435), .val (.ref b444), .val (.ref b464), .val (.ref b482), .val (.ref na562)] [])) _ _ _ _ _ _
                refine own_goW (fun _ k => XS.iconst X619.here hx rfl (hb hby at_227) k) ?_
                show own_GW _ _ _ (T619.setTop (mkF m 228 #[.val (.int p0), .val (.int p1), .val (.int p2), .val (.int p3), .val (.int p4), .val (.int (3 : Int32)), .val (.int x0), .val (.int x1), .val (.int x2), .val (.int xq), .val (.ref b435), .val (.ref b444), .val (.ref b464), .val (.ref b482), .val (.ref na562)] [(.int (1 : Int32))])) _ _ _ _ _ _
                refine own_goW (fun _ k => XS.goto X619.here hx rfl (pc0 := 228) (pc' := 232) rfl (hb hby at_228) (by decide) (by decide) k) ?_
                show own_GW _ _ _ (T619.setTop (mkF m 232 #[.val (.int p0), .val (.int p1), .val (.int p2), .val (.int p3), .val (.int p4), .val (.int (3 : Int32)), .val (.int x0), .val (.int x1), .val (.int x2), .val (.int xq), .val (.ref b435), .val (.ref b444), .val (.ref b464), .val (.ref b482), .val (.ref na562)] [(.int (1 : Int32))])) _ _ _ _ _ _
                have CQ620 := CR538.trans (CHr.keep K562_1 (allS sf549 all0) CR538.1)
                have CE620 : CHr Z own_EL s.vm s.heap T619.vm T619.heap := by rw [hh, show T619.heap = T562.heap from eh619]; exact CQ620.trans (CHv.at X619 hZ (own_EW hw) CQ620.1)
                exact own_endWN X619 hx hlk (t := .boolean) Bd.returns (by simp) (hb hby at_232) hS538 (show _ ≤ T619.heap.size by rw [show T619.heap = T562.heap from eh619]; exact (Nat.le_trans (Nat.le_refl _) K562_1.1)) (by decide) (by decide) CE620 (Q := (Q0 Z p0 p1 p2 p3 p4 zc fm h0 n0)) (by rw [eh619]; exact ⟨rfl, N619, K562_0⟩)
set_option maxRecDepth 65536 in
set_option maxHeartbeats 40000000 in
theorem comes_1 {Post : Tables → Env → Array Value → State → Outcome → State → Prop} (hpost : ∀ tb e args s v u, (limb_1_1.after args s (.returned v) u = true ∧ limb_1_2.after args s (.returned v) u = true ∧ True) → ReturnedEndW s (.returned v) u (Jvm.fieldLocs frame_1_writes args s ++ Jvm.arrayLocs frame_1_arrays args s ++ Jvm.staticLocs frame_1_statics s) 32 4480 → Post tb e args s (.returned v) u) :
    ArmFor flags0 classFile x code maxLocals ret World_1 tables_1 room_1 Calls_1 rest_1 Pre_1 Post := by
  intro l hfl _ _ p e ha hc hk s m args below hf hA hF happ hP
  obtain ⟨hcalls, hrest, hpre⟩ := hP
  obtain ⟨-, -, -, hnamed, -, -, -, hat⟩ := (Spec.applies_iff hf).mp happ
  obtain ⟨hg, hn⟩ := and_e (Cond.before_iff.mp (show (Jvm.Cond.and given_1 narrow_1).before args s = true from hpre))
  obtain ⟨g0, hg1⟩ := and_e hg
  obtain ⟨a0, r0⟩ := and_e hg1
  obtain ⟨a1, r1⟩ := and_e r0
  obtain ⟨a2, r2⟩ := and_e r1
  obtain ⟨a3, r3⟩ := and_e r2
  obtain ⟨w0, w1, w2, w3, w4, rfl⟩ : ∃ w0 w1 w2 w3 w4 : Value, args = #[w0, w1, w2, w3, w4] := by
    have hs : args.size = 5 := by simpa [Cond.value, given_1] using g0
    obtain ⟨L⟩ := args
    match L, hs with
    | [w0, w1, w2, w3, w4], _ => exact ⟨w0, w1, w2, w3, w4, rfl⟩
  have hw := fun d (hd : d ∈ tables_1) => atoms_spec (ws := Jvm.Cond.code x code maxLocals ret :: tables_1) hat d (List.mem_cons_of_mem _ hd)
  have hfit : Fit s := fun {y c} hc i hi => by
    obtain ⟨ha, rfl⟩ := Array.getElem?_eq_some_iff.mp hc
    have q := List.all_eq_true.mp ((Array.all_eq_true_iff_forall_mem.mp hF) _ (Array.getElem_mem ha)) i (List.mem_range.mpr hi)
    simpa [Array.getElem?_eq_getElem hi] using q
  obtain ⟨i0, ei0⟩ := is_v a0
  obtain rfl : w0 = (.int i0) := Option.some.inj ei0
  obtain ⟨i1, ei1⟩ := is_v a1
  obtain rfl : w1 = (.int i1) := Option.some.inj ei1
  obtain ⟨i2, ei2⟩ := is_v a2
  obtain rfl : w2 = (.int i2) := Option.some.inj ei2
  obtain ⟨i3, ei3⟩ := is_v a3
  obtain rfl : w3 = (.int i3) := Option.some.inj ei3
  obtain ⟨i4, ei4⟩ := is_v r3
  obtain rfl : w4 = (.int i4) := Option.some.inj ei4
  obtain ⟨hsets, hown0⟩ := atoms_of _ (rest_1_c_eq ▸ (show rest_1_c.before _ s = true from hrest))
  have n5 := not_v (Cond.before_iff.mp (hsets _ (List.mem_of_getElem? (i := 2) rfl)))
  obtain ⟨zc, ez⟩ := is_v (Cond.before_iff.mp (hsets _ (List.mem_of_getElem? (i := 1) rfl)))
  have SZ : Sta s s.heap "java/lang/String" "COMPACT_STRINGS" "Z" (.int zc) := Sta.start ez (Or.inl (hsets _ (List.mem_of_getElem? (i := 0) rfl)))
  have hz : ¬ (zc = (0 : Int32)) := gotF (Cond.eq_ints ez (Term.int_eval (0))) n5
  obtain ⟨fm, ef, rf⟩ := isR_v (Cond.before_iff.mp (hsets _ (List.mem_of_getElem? (i := 8) rfl)))
  have SF : Sta s s.heap "jdk/internal/util/Preconditions" "SIOOBE_FORMATTER" "Ljava/util/function/BiFunction;" fm := Sta.start ef (Or.inl (hsets _ (List.mem_of_getElem? (i := 7) rfl)))
  obtain ⟨hcl, -⟩ := hcalls
  have hCH : CHv s own_EL s.vm s.heap := CHv.start (own_EW hw) (fun p hp => hcl p hp) (hsets _ (List.mem_of_getElem? (i := 2) rfl)) (hw _ (List.mem_of_getElem? (i := 4) rfl)) (hw _ (List.mem_of_getElem? (i := 3) rfl))
  obtain ⟨n, o, h1, h2, h3, _, L, rfl, ⟨rfl, N, -⟩, -, hq⟩ := rm0 l s _ hw tables_1 i0 i1 i2 i3 i4 zc fm s.heap s.heap.size (Nat.le_refl _) (Old.start s) SZ hz SF rf p e ha hc hk s m _ below hf ((Spec.applies_iff_loose hf).mp happ).1 ⟨rfl, State.Warmed39.refl s, rfl, hCH⟩ trivial
  refine ⟨n, _, h1, h2, h3, hpost _ _ _ _ _ _ ⟨Cond.after_iff.mpr rfl, Cond.after_iff.mpr (eq_i res_at (Term.int_eval (1)) (rfl)), trivial⟩ ⟨hq.1, hq.2.1, hq.2.2.1, (hq.2.2.2.sift fun y hy => Or.inr (N y hy)).mono (by decide) (by decide)⟩⟩
theorem main_1_1 : Claimed_1_1 := comes_1 fun _ _ _ _ _ _ h hF => ⟨h.1, hF⟩
theorem main_1_2 : Claimed_1_2 := comes_1 fun _ _ _ _ _ _ h hF => ⟨h.2.1, hF⟩
end Jvm.Pilot.@@N@@
namespace Jvm.Pilot.@@N@@
open Jvm Jvm.ClassFile Sem Op Lib Jvm.Free Jvm.Stand Jvm.Pilot.@@N@@.Jvm.D
/-! MADE BY PROGRAM (witnessworld.py) out of the Statement's table words and the real class files: 21 classes; the members and pool entries that the words name. The judged class is class 1, her method 1. -/
namespace start1
open Jvm.ClassFile
def u (s : String) : CpInfo := .utf8 (stringToUtf16 s)
/-- a pool by its gaps: so many unusable entries, then the entry; so many at the end -/
def gap : Nat → List CpInfo → List CpInfo
  | 0, r => r
  | n + 1, r => .unusable :: gap n r
def poolList (es : List (Nat × CpInfo)) (last : Nat) : List CpInfo := es.foldr (fun e r => gap e.1 (e.2 :: r)) (gap last [])
def pool (es : List (Nat × CpInfo)) (last : Nat) : Array CpInfo := ⟨poolList es last⟩
def fileOf (pool : Array CpInfo) (this : Nat) (attrs : Array Attribute := #[]) (ms : Array MethodInfo := #[]) (fl : Nat := 33) (sup : Nat := 0) (ifs : Array Nat := #[]) (fds : Array FieldInfo := #[]) : ClassFile where
  minorVersion := 0
  majorVersion := 65
  constantPool := pool
  accessFlags := fl
  thisClass := this
  superClass := sup
  interfaces := ifs
  fields := fds
  methods := ms
  attributes := attrs
def plain (name : String) (sup : Option ClassId) : Class where
  name := name
  kind := .ordinary
  loader := none
  accessFlags := 33
  super := sup
  interfaces := #[]
  cf := none
  fields := #[]
  methods := #[]
  instanceTypes := #[]
  staticTypes := #[]
  resolved := #[]
  callSites := []
  init := .initialized
  statics := none
  mirror := none

def pool0 : Array CpInfo := pool [(5, u "<init>"), (0, u "()V"), (1, .class_ 10), (1, u "java/lang/Object")] 113

def k0c0 : Code := { maxStack := 0, maxLocals := 1, code := object_method_1_code, exceptionTable := #[], attributes := #[] }
def k0m0 : Method := { name := "<init>", desc := "()V", sig := { parameters := [], returnType := none }, accessFlags := 1, code := some k0c0 }
/-- java/lang/Object -/
def k0 : Class := { plain "java/lang/Object" none with
  accessFlags := 33
  interfaces := #[]
  cf := some (fileOf pool0 8 #[] #[{ accessFlags := 1, nameIndex := 5, descriptorIndex := 6, attributes := #[] }] 33 0 #[] #[])
  fields := #[]
  methods := #[k0m0]
  instanceTypes := #[]
  staticTypes := #[]
  resolved := Array.replicate 124 none
  statics := none }

def pool1 : Array CpInfo := pool [(2, .class_ 4), (1, u "java/lang/Object"), (0, u "<init>"), (0, u "()V"), (0, .string 8), (0, u ""), (0, .methodref 10 11), (0, .class_ 12), (0, .nameAndType 13 14), (0, u "java/lang/String"), (0, u "valueOf"), (0, u "(C)Ljava/lang/String;"), (0, .methodref 10 16), (0, .nameAndType 5 17), (0, u "([C)V"), (0, .string 19), (0, u "A"), (0, .string 21), (0, u "B"), (0, .string 23), (0, u "C"), (0, .methodref 25 26), (0, .class_ 27), (0, .nameAndType 28 29), (0, u "com/example/issuerd/issuerd/xml/Dom"), (0, u "references"), (0, u "(Ljava/lang/String;[Ljava/lang/String;)[Ljava/lang/String;"), (0, .methodref 31 32), (0, .class_ 33), (0, .nameAndType 34 35), (0, u "com/example/issuerd/issuerd/xml/DomReferencesPinLaw"), (0, u "expected"), (0, u "(IICCC)Ljava/lang/String;"), (2, u "law"), (0, u "(IIIII)Z")] 7

def k1m0 : Method := { name := "<init>", desc := "()V", sig := { parameters := [], returnType := none }, accessFlags := 1, code := none }
def k1c1 : Code := { maxStack := 6, maxLocals := 15, code := code, exceptionTable := #[], attributes := #[] }
def k1m1 : Method := { name := "law", desc := "(IIIII)Z", sig := { parameters := [.int, .int, .int, .int, .int], returnType := some .boolean }, accessFlags := 9, code := some k1c1 }
def k1c2 : Code := { maxStack := 2, maxLocals := 6, code := method_3_code, exceptionTable := #[], attributes := #[] }
def k1m2 : Method := { name := "expected", desc := "(IICCC)Ljava/lang/String;", sig := { parameters := [.int, .int, .char, .char, .char], returnType := some (.object "java/lang/String") }, accessFlags := 10, code := some k1c2 }
/-- com/example/issuerd/issuerd/xml/DomReferencesPinLaw -/
def k1 : Class := { plain "com/example/issuerd/issuerd/xml/DomReferencesPinLaw" (some 0) with
  accessFlags := 49
  interfaces := #[]
  cf := some (fileOf pool1 31 #[] #[{ accessFlags := 1, nameIndex := 5, descriptorIndex := 6, attributes := #[] }, { accessFlags := 9, nameIndex := 38, descriptorIndex := 39, attributes := #[] }, { accessFlags := 10, nameIndex := 34, descriptorIndex := 35, attributes := #[] }] 49 2 #[] #[])
  fields := #[]
  methods := #[k1m0, k1m1, k1m2]
  instanceTypes := #[]
  staticTypes := #[]
  resolved := Array.replicate 47 none
  statics := none }

def pool2 : Array CpInfo := pool [(1, .class_ 2), (0, u "java/io/Serializable"), (0, .class_ 4), (0, u "java/lang/Object")] 2

/-- java/io/Serializable -/
def k2 : Class := { plain "java/io/Serializable" (some 0) with
  accessFlags := 1537
  interfaces := #[]
  cf := some (fileOf pool2 1 #[] #[] 1537 3 #[] #[])
  fields := #[]
  methods := #[]
  instanceTypes := #[]
  staticTypes := #[]
  resolved := Array.replicate 7 none
  statics := none }

def pool3 : Array CpInfo := pool [(1, .class_ 2), (0, u "java/lang/Comparable"), (0, .class_ 4), (0, u "java/lang/Object")] 7

/-- java/lang/Comparable -/
def k3 : Class := { plain "java/lang/Comparable" (some 0) with
  accessFlags := 1537
  interfaces := #[]
  cf := some (fileOf pool3 1 #[] #[] 1537 3 #[] #[])
  fields := #[]
  methods := #[]
  instanceTypes := #[]
  staticTypes := #[]
  resolved := Array.replicate 12 none
  statics := none }

def pool4 : Array CpInfo := pool [(2, .class_ 4), (1, u "java/lang/CharSequence"), (42, .class_ 48), (0, u "java/lang/CharSequence$1CodePointIterator"), (10, .class_ 60), (0, u "java/lang/CharSequence$1CharIterator"), (5, .class_ 67), (0, u "java/lang/Object")] 63

/-- java/lang/CharSequence -/
def k4 : Class := { plain "java/lang/CharSequence" (some 0) with
  accessFlags := 1537
  interfaces := #[]
  cf := some (fileOf pool4 2 #[.nestMembers #[47, 59]] #[] 1537 66 #[] #[])
  fields := #[]
  methods := #[]
  instanceTypes := #[]
  staticTypes := #[]
  resolved := Array.replicate 131 none
  statics := none }

def pool5 : Array CpInfo := pool [(1, .class_ 2), (0, u "java/lang/constant/Constable"), (0, .class_ 4), (0, u "java/lang/Object")] 6

/-- java/lang/constant/Constable -/
def k5 : Class := { plain "java/lang/constant/Constable" (some 0) with
  accessFlags := 1537
  interfaces := #[]
  cf := some (fileOf pool5 1 #[] #[] 1537 3 #[] #[])
  fields := #[]
  methods := #[]
  instanceTypes := #[]
  staticTypes := #[]
  resolved := Array.replicate 11 none
  statics := none }

def pool6 : Array CpInfo := pool [(1, .class_ 2), (0, u "java/lang/constant/ConstantDesc"), (0, .class_ 4), (0, u "java/lang/Object")] 32

/-- java/lang/constant/ConstantDesc -/
def k6 : Class := { plain "java/lang/constant/ConstantDesc" (some 0) with
  accessFlags := 1537
  interfaces := #[]
  cf := some (fileOf pool6 1 #[] #[] 1537 3 #[] #[])
  fields := #[]
  methods := #[]
  instanceTypes := #[]
  staticTypes := #[]
  resolved := Array.replicate 37 none
  statics := none }

def pool7 : Array CpInfo := pool [(1, .methodref 2 3), (0, .class_ 4), (0, .nameAndType 5 6), (0, u "java/lang/Object"), (0, u "<init>"), (0, u "()V"), (2, .fieldref 10 11), (0, .class_ 12), (0, .nameAndType 13 14), (0, u "java/lang/String"), (0, u "value"), (0, u "[B"), (0, .fieldref 10 16), (0, .nameAndType 17 18), (0, u "coder"), (0, u "B"), (2, u "hash"), (0, u "I"), (2, u "hashIsZero"), (0, u "Z"), (0, .methodref 10 28), (0, .nameAndType 5 29), (0, u "([CIILjava/lang/Void;)V"), (8, .fieldref 10 39), (0, .nameAndType 40 26), (0, u "COMPACT_STRINGS"), (1, .class_ 44), (1, u "java/lang/StringUTF16"), (0, u "compress"), (1, .methodref 42 48), (0, .nameAndType 49 50), (0, u "coderFromArrayLen"), (0, u "([BI)B"), (2, u "toBytes"), (53, .class_ 109), (1, u "java/lang/StringLatin1"), (32, u "()Z"), (34, .methodref 42 178), (0, .nameAndType 45 179), (0, u "([CII)[B"), (29, .methodref 10 210), (0, .nameAndType 5 211), (0, u "([BB)V"), (122, u "()I"), (0, .methodref 10 336), (0, .nameAndType 17 337), (0, u "()B"), (25, u "([BI)C"), (5, u "(C)Z"), (21, u "(II)V"), (35, u "(I)C"), (64, .methodref 10 493), (0, .nameAndType 494 142), (0, u "isLatin1"), (0, .methodref 107 496), (0, .nameAndType 497 363), (0, u "charAt"), (3, u "checkIndex"), (5, u "length"), (67, .class_ 576), (0, u "java/lang/CharSequence"), (22, u "CASE_INSENSITIVE_ORDER"), (0, u "Ljava/util/Comparator;"), (91, u "isEmpty"), (89, u "valueOf"), (0, u "(C)Ljava/lang/String;"), (226, u "([C)V"), (4, .methodref 107 1016), (0, .nameAndType 1017 369), (0, u "canEncode"), (0, .methodref 107 1019), (0, .nameAndType 53 1020), (0, u "(C)[B"), (32, .fieldref 1054 1055), (0, .class_ 1056), (0, .nameAndType 1057 1058), (0, u "jdk/internal/util/Preconditions"), (0, u "SIOOBE_FORMATTER"), (0, u "Ljava/util/function/BiFunction;"), (0, .methodref 1054 1060), (0, .nameAndType 501 1061), (0, u "(IILjava/util/function/BiFunction;)I"), (39, u "serialPersistentFields"), (0, u "[Ljava/io/ObjectStreamField;"), (0, .class_ 1104), (0, u "java/lang/String$CaseInsensitiveComparator"), (1, .class_ 1107), (0, u "java/io/Serializable"), (0, .class_ 1109), (0, u "java/lang/Comparable"), (0, .class_ 1111), (0, u "java/lang/constant/Constable"), (0, .class_ 1113), (0, u "java/lang/constant/ConstantDesc"), (2, u "serialVersionUID"), (0, u "J"), (3, u "REPL"), (0, u "C"), (2, u "LATIN1"), (1, u "UTF16")] 323

def k7m0 : Method := { name := "<init>", desc := "()V", sig := { parameters := [], returnType := none }, accessFlags := 1, code := none }
def k7c1 : Code := { maxStack := 5, maxLocals := 2, code := jdk_42_method_3_code, exceptionTable := #[], attributes := #[] }
def k7m1 : Method := { name := "<init>", desc := "([C)V", sig := { parameters := [(.array .char)], returnType := none }, accessFlags := 1, code := some k7c1 }
def k7c2 : Code := { maxStack := 2, maxLocals := 1, code := jdk_42_method_54_code, exceptionTable := #[], attributes := #[] }
def k7m2 : Method := { name := "length", desc := "()I", sig := { parameters := [], returnType := some .int }, accessFlags := 1, code := some k7c2 }
def k7c3 : Code := { maxStack := 1, maxLocals := 1, code := jdk_42_method_55_code, exceptionTable := #[], attributes := #[] }
def k7m3 : Method := { name := "isEmpty", desc := "()Z", sig := { parameters := [], returnType := some .boolean }, accessFlags := 1, code := some k7c3 }
def k7c4 : Code := { maxStack := 2, maxLocals := 2, code := jdk_42_method_56_code, exceptionTable := #[], attributes := #[] }
def k7m4 : Method := { name := "charAt", desc := "(I)C", sig := { parameters := [.int], returnType := some .char }, accessFlags := 1, code := some k7c4 }
def k7c5 : Code := { maxStack := 4, maxLocals := 1, code := jdk_42_method_139_code, exceptionTable := #[], attributes := #[] }
def k7m5 : Method := { name := "valueOf", desc := "(C)Ljava/lang/String;", sig := { parameters := [.char], returnType := some (.object "java/lang/String") }, accessFlags := 9, code := some k7c5 }
def k7c6 : Code := { maxStack := 4, maxLocals := 6, code := jdk_42_method_149_code, exceptionTable := #[], attributes := #[] }
def k7m6 : Method := { name := "<init>", desc := "([CIILjava/lang/Void;)V", sig := { parameters := [(.array .char), .int, .int, (.object "java/lang/Void")], returnType := none }, accessFlags := 2, code := some k7c6 }
def k7c7 : Code := { maxStack := 2, maxLocals := 3, code := jdk_42_method_151_code, exceptionTable := #[], attributes := #[] }
def k7m7 : Method := { name := "<init>", desc := "([BB)V", sig := { parameters := [(.array .byte), .byte], returnType := none }, accessFlags := 0, code := some k7c7 }
def k7c8 : Code := { maxStack := 1, maxLocals := 1, code := jdk_42_method_152_code, exceptionTable := #[], attributes := #[] }
def k7m8 : Method := { name := "coder", desc := "()B", sig := { parameters := [], returnType := some .byte }, accessFlags := 0, code := some k7c8 }
def k7c9 : Code := { maxStack := 1, maxLocals := 1, code := jdk_42_method_154_code, exceptionTable := #[], attributes := #[] }
def k7m9 : Method := { name := "isLatin1", desc := "()Z", sig := { parameters := [], returnType := some .boolean }, accessFlags := 0, code := some k7c9 }
def k7c10 : Code := { maxStack := 3, maxLocals := 2, code := jdk_42_method_155_code, exceptionTable := #[], attributes := #[] }
def k7m10 : Method := { name := "checkIndex", desc := "(II)V", sig := { parameters := [.int, .int], returnType := none }, accessFlags := 8, code := some k7c10 }
/-- java/lang/String -/
def k7 : Class := { plain "java/lang/String" (some 0) with
  accessFlags := 49
  interfaces := #[2, 3, 4, 5, 6]
  cf := some (fileOf pool7 10 #[.nestMembers #[1103]] #[{ accessFlags := 1, nameIndex := 5, descriptorIndex := 6, attributes := #[] }, { accessFlags := 1, nameIndex := 5, descriptorIndex := 1010, attributes := #[] }, { accessFlags := 1, nameIndex := 507, descriptorIndex := 334, attributes := #[] }, { accessFlags := 1, nameIndex := 692, descriptorIndex := 142, attributes := #[] }, { accessFlags := 1, nameIndex := 497, descriptorIndex := 427, attributes := #[] }, { accessFlags := 9, nameIndex := 782, descriptorIndex := 783, attributes := #[] }, { accessFlags := 2, nameIndex := 5, descriptorIndex := 29, attributes := #[] }, { accessFlags := 0, nameIndex := 5, descriptorIndex := 211, attributes := #[] }, { accessFlags := 0, nameIndex := 17, descriptorIndex := 337, attributes := #[] }, { accessFlags := 0, nameIndex := 494, descriptorIndex := 142, attributes := #[] }, { accessFlags := 8, nameIndex := 501, descriptorIndex := 391, attributes := #[] }] 49 2 #[1106, 1108, 575, 1110, 1112] #[{ accessFlags := 18, nameIndex := 13, descriptorIndex := 14, attributes := #[] }, { accessFlags := 18, nameIndex := 17, descriptorIndex := 18, attributes := #[] }, { accessFlags := 2, nameIndex := 21, descriptorIndex := 22, attributes := #[] }, { accessFlags := 2, nameIndex := 25, descriptorIndex := 26, attributes := #[] }, { accessFlags := 26, nameIndex := 1116, descriptorIndex := 1117, attributes := #[] }, { accessFlags := 24, nameIndex := 40, descriptorIndex := 26, attributes := #[] }, { accessFlags := 26, nameIndex := 1101, descriptorIndex := 1102, attributes := #[] }, { accessFlags := 26, nameIndex := 1121, descriptorIndex := 1122, attributes := #[] }, { accessFlags := 25, nameIndex := 599, descriptorIndex := 600, attributes := #[] }, { accessFlags := 24, nameIndex := 1125, descriptorIndex := 18, attributes := #[] }, { accessFlags := 24, nameIndex := 1127, descriptorIndex := 18, attributes := #[] }])
  fields := #[{ name := "value", type := (.array .byte), accessFlags := 18, slot := 0, constantValue := 0 }, { name := "coder", type := .byte, accessFlags := 18, slot := 1, constantValue := 0 }, { name := "hash", type := .int, accessFlags := 2, slot := 2, constantValue := 0 }, { name := "hashIsZero", type := .boolean, accessFlags := 2, slot := 3, constantValue := 0 }, { name := "serialVersionUID", type := .long, accessFlags := 26, slot := 0, constantValue := 0 }, { name := "COMPACT_STRINGS", type := .boolean, accessFlags := 24, slot := 1, constantValue := 0 }, { name := "serialPersistentFields", type := (.array (.object "java/io/ObjectStreamField")), accessFlags := 26, slot := 2, constantValue := 0 }, { name := "REPL", type := .char, accessFlags := 26, slot := 3, constantValue := 0 }, { name := "CASE_INSENSITIVE_ORDER", type := (.object "java/util/Comparator"), accessFlags := 25, slot := 4, constantValue := 0 }, { name := "LATIN1", type := .byte, accessFlags := 24, slot := 5, constantValue := 0 }, { name := "UTF16", type := .byte, accessFlags := 24, slot := 6, constantValue := 0 }]
  methods := #[k7m0, k7m1, k7m2, k7m3, k7m4, k7m5, k7m6, k7m7, k7m8, k7m9, k7m10]
  instanceTypes := #[(.array .byte), .byte, .int, .boolean]
  staticTypes := #[.long, .boolean, (.array (.object "java/io/ObjectStreamField")), .char, (.object "java/util/Comparator"), .byte, .byte]
  resolved := Array.replicate 1451 none
  statics := some 0 }

def pool8 : Array CpInfo := pool [(2, .class_ 4), (1, u "java/lang/Object"), (0, u "<init>"), (0, u "()V"), (25, .class_ 34), (1, u "com/example/issuerd/issuerd/xml/Dom"), (11, u "()Z"), (13, .class_ 62), (1, u "java/lang/String"), (54, u "()I"), (11, u "IN_ATTRIBUTE"), (0, u "[Ljava/lang/String;"), (14, u "IN_TEXT"), (23, u "IN_MARKUP"), (8, .methodref 60 179), (0, .nameAndType 180 46), (0, u "isEmpty"), (4, .methodref 60 186), (0, .nameAndType 187 117), (0, u "length"), (0, .methodref 60 189), (0, .nameAndType 190 191), (0, u "charAt"), (0, u "(I)C"), (55, u "references"), (0, u "(Ljava/lang/String;[Ljava/lang/String;)[Ljava/lang/String;"), (10, u "XML_DECLARATION"), (0, u "Ljava/lang/String;")] 29

def k8m0 : Method := { name := "<init>", desc := "()V", sig := { parameters := [], returnType := none }, accessFlags := 2, code := none }
def k8c1 : Code := { maxStack := 4, maxLocals := 4, code := prog_48_method_10_code, exceptionTable := #[], attributes := #[] }
def k8m1 : Method := { name := "references", desc := "(Ljava/lang/String;[Ljava/lang/String;)[Ljava/lang/String;", sig := { parameters := [(.object "java/lang/String"), (.array (.object "java/lang/String"))], returnType := some (.array (.object "java/lang/String")) }, accessFlags := 136, code := some k8c1 }
/-- com/example/issuerd/issuerd/xml/Dom -/
def k8 : Class := { plain "com/example/issuerd/issuerd/xml/Dom" (some 0) with
  accessFlags := 49
  interfaces := #[]
  cf := some (fileOf pool8 32 #[] #[{ accessFlags := 2, nameIndex := 5, descriptorIndex := 6, attributes := #[] }, { accessFlags := 136, nameIndex := 247, descriptorIndex := 248, attributes := #[] }] 49 2 #[] #[{ accessFlags := 24, nameIndex := 259, descriptorIndex := 260, attributes := #[] }, { accessFlags := 26, nameIndex := 145, descriptorIndex := 130, attributes := #[] }, { accessFlags := 26, nameIndex := 129, descriptorIndex := 130, attributes := #[] }, { accessFlags := 26, nameIndex := 169, descriptorIndex := 130, attributes := #[] }])
  fields := #[{ name := "XML_DECLARATION", type := (.object "java/lang/String"), accessFlags := 24, slot := 0, constantValue := 0 }, { name := "IN_TEXT", type := (.array (.object "java/lang/String")), accessFlags := 26, slot := 1, constantValue := 0 }, { name := "IN_ATTRIBUTE", type := (.array (.object "java/lang/String")), accessFlags := 26, slot := 2, constantValue := 0 }, { name := "IN_MARKUP", type := (.array (.object "java/lang/String")), accessFlags := 26, slot := 3, constantValue := 0 }]
  methods := #[k8m0, k8m1]
  instanceTypes := #[]
  staticTypes := #[(.object "java/lang/String"), (.array (.object "java/lang/String")), (.array (.object "java/lang/String")), (.array (.object "java/lang/String"))]
  resolved := Array.replicate 290 none
  statics := none }

def pool9 : Array CpInfo := pool [(6, .class_ 8), (1, u "java/lang/Object"), (0, u "<init>"), (0, u "()V"), (1, .class_ 14), (1, u "java/lang/StringUTF16"), (31, u "$assertionsDisabled"), (0, u "Z"), (13, u "HI_BYTE_SHIFT"), (0, u "I"), (2, u "LO_BYTE_SHIFT"), (49, .methodref 12 116), (0, .nameAndType 117 118), (0, u "compress"), (0, u "([CI[BII)I"), (3, u "([CII)[B"), (138, u "coderFromArrayLen"), (0, u "([BI)B"), (106, .class_ 371), (1, u "java/lang/StringUTF16$LinesSpliterator"), (58, u "MAX_LENGTH"), (196, .class_ 628), (0, u "java/lang/StringUTF16$CodePointsSpliterator"), (0, .class_ 630), (0, u "java/lang/StringUTF16$CharsSpliterator")] 4

def k9m0 : Method := { name := "<init>", desc := "()V", sig := { parameters := [], returnType := none }, accessFlags := 0, code := none }
def k9c1 : Code := { maxStack := 2, maxLocals := 2, code := jdk_52_method_15_code, exceptionTable := #[], attributes := #[] }
def k9m1 : Method := { name := "coderFromArrayLen", desc := "([BI)B", sig := { parameters := [(.array .byte), .int], returnType := some .byte }, accessFlags := 8, code := some k9c1 }
def k9c2 : Code := { maxStack := 5, maxLocals := 6, code := jdk_52_method_16_code, exceptionTable := #[], attributes := #[] }
def k9m2 : Method := { name := "compress", desc := "([CII)[B", sig := { parameters := [(.array .char), .int, .int], returnType := some (.array .byte) }, accessFlags := 9, code := some k9c2 }
def k9c3 : Code := { maxStack := 3, maxLocals := 7, code := jdk_52_method_21_code, exceptionTable := #[], attributes := #[] }
def k9m3 : Method := { name := "compress", desc := "([CI[BII)I", sig := { parameters := [(.array .char), .int, (.array .byte), .int, .int], returnType := some .int }, accessFlags := 9, code := some k9c3 }
/-- java/lang/StringUTF16 -/
def k9 : Class := { plain "java/lang/StringUTF16" (some 0) with
  accessFlags := 48
  interfaces := #[]
  cf := some (fileOf pool9 12 #[.nestMembers #[627, 629, 369]] #[{ accessFlags := 0, nameIndex := 9, descriptorIndex := 10, attributes := #[] }, { accessFlags := 8, nameIndex := 261, descriptorIndex := 262, attributes := #[] }, { accessFlags := 9, nameIndex := 117, descriptorIndex := 122, attributes := #[] }, { accessFlags := 9, nameIndex := 117, descriptorIndex := 118, attributes := #[] }] 48 6 #[] #[{ accessFlags := 26, nameIndex := 61, descriptorIndex := 62, attributes := #[] }, { accessFlags := 26, nameIndex := 65, descriptorIndex := 62, attributes := #[] }, { accessFlags := 24, nameIndex := 430, descriptorIndex := 62, attributes := #[] }, { accessFlags := 4120, nameIndex := 46, descriptorIndex := 47, attributes := #[] }])
  fields := #[{ name := "HI_BYTE_SHIFT", type := .int, accessFlags := 26, slot := 0, constantValue := 0 }, { name := "LO_BYTE_SHIFT", type := .int, accessFlags := 26, slot := 1, constantValue := 0 }, { name := "MAX_LENGTH", type := .int, accessFlags := 24, slot := 2, constantValue := 0 }, { name := "$assertionsDisabled", type := .boolean, accessFlags := 4120, slot := 3, constantValue := 0 }]
  methods := #[k9m0, k9m1, k9m2, k9m3]
  instanceTypes := #[]
  staticTypes := #[.int, .int, .int, .boolean]
  resolved := Array.replicate 635 none
  statics := none }

def pool10 : Array CpInfo := pool [(1, .class_ 2), (0, u "java/lang/String"), (1, .class_ 6), (1, u "java/lang/Object"), (0, u "<init>"), (0, u "()V"), (0, .methodref 1 10), (0, .nameAndType 11 12), (0, u "checkIndex"), (0, u "(II)V"), (1, .class_ 16), (1, u "java/lang/StringLatin1"), (36, u "([BI)C"), (36, u "canEncode"), (14, u "(C)Z"), (15, u "$assertionsDisabled"), (0, u "Z"), (98, .class_ 223), (1, u "java/lang/StringLatin1$LinesSpliterator"), (28, u "charAt"), (127, u "toBytes"), (1, u "(C)[B"), (7, .class_ 391), (0, u "java/lang/StringLatin1$CharsSpliterator")] 3

def k10m0 : Method := { name := "<init>", desc := "()V", sig := { parameters := [], returnType := none }, accessFlags := 0, code := none }
def k10c1 : Code := { maxStack := 2, maxLocals := 2, code := jdk_43_method_2_code, exceptionTable := #[], attributes := #[] }
def k10m1 : Method := { name := "charAt", desc := "([BI)C", sig := { parameters := [(.array .byte), .int], returnType := some .char }, accessFlags := 9, code := some k10c1 }
def k10c2 : Code := { maxStack := 2, maxLocals := 1, code := jdk_43_method_3_code, exceptionTable := #[], attributes := #[] }
def k10m2 : Method := { name := "canEncode", desc := "(C)Z", sig := { parameters := [.char], returnType := some .boolean }, accessFlags := 9, code := some k10c2 }
def k10c3 : Code := { maxStack := 4, maxLocals := 1, code := jdk_43_method_46_code, exceptionTable := #[], attributes := #[] }
def k10m3 : Method := { name := "toBytes", desc := "(C)[B", sig := { parameters := [.char], returnType := some (.array .byte) }, accessFlags := 9, code := some k10c3 }
/-- java/lang/StringLatin1 -/
def k10 : Class := { plain "java/lang/StringLatin1" (some 0) with
  accessFlags := 48
  interfaces := #[]
  cf := some (fileOf pool10 14 #[.nestMembers #[390, 221]] #[{ accessFlags := 0, nameIndex := 7, descriptorIndex := 8, attributes := #[] }, { accessFlags := 9, nameIndex := 252, descriptorIndex := 53, attributes := #[] }, { accessFlags := 9, nameIndex := 90, descriptorIndex := 105, attributes := #[] }, { accessFlags := 9, nameIndex := 380, descriptorIndex := 382, attributes := #[] }] 48 4 #[] #[{ accessFlags := 4120, nameIndex := 121, descriptorIndex := 122, attributes := #[] }])
  fields := #[{ name := "$assertionsDisabled", type := .boolean, accessFlags := 4120, slot := 0, constantValue := 0 }]
  methods := #[k10m0, k10m1, k10m2, k10m3]
  instanceTypes := #[]
  staticTypes := #[.boolean]
  resolved := Array.replicate 395 none
  statics := none }

def pool11 : Array CpInfo := pool [(2, .class_ 4), (1, u "java/lang/Object"), (0, u "<init>"), (0, u "()V"), (17, .class_ 26), (1, u "jdk/internal/util/Preconditions"), (6, u "checkIndex"), (21, .class_ 56), (0, u "jdk/internal/util/Preconditions$4"), (57, .class_ 115), (0, u "jdk/internal/util/Preconditions$1"), (7, u "SIOOBE_FORMATTER"), (0, u "Ljava/util/function/BiFunction;"), (0, .class_ 126), (0, u "jdk/internal/util/Preconditions$2"), (3, u "AIOOBE_FORMATTER"), (0, .class_ 132), (0, u "jdk/internal/util/Preconditions$3"), (3, u "IOOBE_FORMATTER"), (41, u "(IILjava/util/function/BiFunction;)I")] 15

def k11m0 : Method := { name := "<init>", desc := "()V", sig := { parameters := [], returnType := none }, accessFlags := 1, code := none }
def k11c1 : Code := { maxStack := 3, maxLocals := 3, code := jdk_41_method_11_code, exceptionTable := #[], attributes := #[] }
def k11m1 : Method := { name := "checkIndex", desc := "(IILjava/util/function/BiFunction;)I", sig := { parameters := [.int, .int, (.object "java/util/function/BiFunction")], returnType := some .int }, accessFlags := 9, code := some k11c1 }
/-- jdk/internal/util/Preconditions -/
def k11 : Class := { plain "jdk/internal/util/Preconditions" (some 0) with
  accessFlags := 33
  interfaces := #[]
  cf := some (fileOf pool11 24 #[.nestMembers #[55, 131, 125, 114]] #[{ accessFlags := 1, nameIndex := 5, descriptorIndex := 6, attributes := #[] }, { accessFlags := 9, nameIndex := 33, descriptorIndex := 178, attributes := #[] }] 33 2 #[] #[{ accessFlags := 25, nameIndex := 123, descriptorIndex := 124, attributes := #[] }, { accessFlags := 25, nameIndex := 130, descriptorIndex := 124, attributes := #[] }, { accessFlags := 25, nameIndex := 136, descriptorIndex := 124, attributes := #[] }])
  fields := #[{ name := "SIOOBE_FORMATTER", type := (.object "java/util/function/BiFunction"), accessFlags := 25, slot := 0, constantValue := 0 }, { name := "AIOOBE_FORMATTER", type := (.object "java/util/function/BiFunction"), accessFlags := 25, slot := 1, constantValue := 0 }, { name := "IOOBE_FORMATTER", type := (.object "java/util/function/BiFunction"), accessFlags := 25, slot := 2, constantValue := 0 }]
  methods := #[k11m0, k11m1]
  instanceTypes := #[]
  staticTypes := #[(.object "java/util/function/BiFunction"), (.object "java/util/function/BiFunction"), (.object "java/util/function/BiFunction")]
  resolved := Array.replicate 194 none
  statics := some 1 }

def pool12 : Array CpInfo := pool [(9, u "<init>"), (6, .class_ 18), (1, u "java/lang/Object"), (0, u "()V"), (1, .class_ 23), (1, u "jdk/internal/util/ArraysSupport"), (0, u "LOG2_ARRAY_LONG_INDEX_SCALE"), (0, u "I"), (2, u "U"), (0, u "Ljdk/internal/misc/Unsafe;"), (8, u "BIG_ENDIAN"), (0, u "Z"), (8, u "LOG2_BYTE_BIT_SIZE"), (4, u "LOG2_ARRAY_INT_INDEX_SCALE"), (54, u "JLA"), (0, u "Ljdk/internal/access/JavaLangAccess;"), (11, u "LOG2_ARRAY_BOOLEAN_INDEX_SCALE"), (9, u "LOG2_ARRAY_BYTE_INDEX_SCALE"), (5, u "LOG2_ARRAY_CHAR_INDEX_SCALE"), (5, u "LOG2_ARRAY_SHORT_INDEX_SCALE"), (18, u "LOG2_ARRAY_FLOAT_INDEX_SCALE"), (24, u "LOG2_ARRAY_DOUBLE_INDEX_SCALE"), (89, u "T_BOOLEAN"), (2, u "T_CHAR"), (1, u "T_FLOAT"), (1, u "T_DOUBLE"), (1, u "T_BYTE"), (1, u "T_SHORT"), (1, u "T_INT"), (1, u "T_LONG"), (1, u "SOFT_MAX_ARRAY_LENGTH")] 83

def k12m0 : Method := { name := "<init>", desc := "()V", sig := { parameters := [], returnType := none }, accessFlags := 2, code := none }
/-- jdk/internal/util/ArraysSupport -/
def k12 : Class := { plain "jdk/internal/util/ArraysSupport" (some 0) with
  accessFlags := 33
  interfaces := #[]
  cf := some (fileOf pool12 21 #[] #[{ accessFlags := 2, nameIndex := 9, descriptorIndex := 19, attributes := #[] }] 33 16 #[] #[{ accessFlags := 24, nameIndex := 28, descriptorIndex := 29, attributes := #[] }, { accessFlags := 26, nameIndex := 38, descriptorIndex := 39, attributes := #[] }, { accessFlags := 25, nameIndex := 121, descriptorIndex := 25, attributes := #[] }, { accessFlags := 25, nameIndex := 131, descriptorIndex := 25, attributes := #[] }, { accessFlags := 25, nameIndex := 137, descriptorIndex := 25, attributes := #[] }, { accessFlags := 25, nameIndex := 143, descriptorIndex := 25, attributes := #[] }, { accessFlags := 25, nameIndex := 53, descriptorIndex := 25, attributes := #[] }, { accessFlags := 25, nameIndex := 24, descriptorIndex := 25, attributes := #[] }, { accessFlags := 25, nameIndex := 162, descriptorIndex := 25, attributes := #[] }, { accessFlags := 25, nameIndex := 187, descriptorIndex := 25, attributes := #[] }, { accessFlags := 26, nameIndex := 48, descriptorIndex := 25, attributes := #[] }, { accessFlags := 25, nameIndex := 277, descriptorIndex := 25, attributes := #[] }, { accessFlags := 25, nameIndex := 280, descriptorIndex := 25, attributes := #[] }, { accessFlags := 25, nameIndex := 282, descriptorIndex := 25, attributes := #[] }, { accessFlags := 25, nameIndex := 284, descriptorIndex := 25, attributes := #[] }, { accessFlags := 25, nameIndex := 286, descriptorIndex := 25, attributes := #[] }, { accessFlags := 25, nameIndex := 288, descriptorIndex := 25, attributes := #[] }, { accessFlags := 25, nameIndex := 290, descriptorIndex := 25, attributes := #[] }, { accessFlags := 25, nameIndex := 292, descriptorIndex := 25, attributes := #[] }, { accessFlags := 26, nameIndex := 108, descriptorIndex := 109, attributes := #[] }, { accessFlags := 25, nameIndex := 294, descriptorIndex := 25, attributes := #[] }])
  fields := #[{ name := "U", type := (.object "jdk/internal/misc/Unsafe"), accessFlags := 24, slot := 0, constantValue := 0 }, { name := "BIG_ENDIAN", type := .boolean, accessFlags := 26, slot := 1, constantValue := 0 }, { name := "LOG2_ARRAY_BOOLEAN_INDEX_SCALE", type := .int, accessFlags := 25, slot := 2, constantValue := 0 }, { name := "LOG2_ARRAY_BYTE_INDEX_SCALE", type := .int, accessFlags := 25, slot := 3, constantValue := 0 }, { name := "LOG2_ARRAY_CHAR_INDEX_SCALE", type := .int, accessFlags := 25, slot := 4, constantValue := 0 }, { name := "LOG2_ARRAY_SHORT_INDEX_SCALE", type := .int, accessFlags := 25, slot := 5, constantValue := 0 }, { name := "LOG2_ARRAY_INT_INDEX_SCALE", type := .int, accessFlags := 25, slot := 6, constantValue := 0 }, { name := "LOG2_ARRAY_LONG_INDEX_SCALE", type := .int, accessFlags := 25, slot := 7, constantValue := 0 }, { name := "LOG2_ARRAY_FLOAT_INDEX_SCALE", type := .int, accessFlags := 25, slot := 8, constantValue := 0 }, { name := "LOG2_ARRAY_DOUBLE_INDEX_SCALE", type := .int, accessFlags := 25, slot := 9, constantValue := 0 }, { name := "LOG2_BYTE_BIT_SIZE", type := .int, accessFlags := 26, slot := 10, constantValue := 0 }, { name := "T_BOOLEAN", type := .int, accessFlags := 25, slot := 11, constantValue := 0 }, { name := "T_CHAR", type := .int, accessFlags := 25, slot := 12, constantValue := 0 }, { name := "T_FLOAT", type := .int, accessFlags := 25, slot := 13, constantValue := 0 }, { name := "T_DOUBLE", type := .int, accessFlags := 25, slot := 14, constantValue := 0 }, { name := "T_BYTE", type := .int, accessFlags := 25, slot := 15, constantValue := 0 }, { name := "T_SHORT", type := .int, accessFlags := 25, slot := 16, constantValue := 0 }, { name := "T_INT", type := .int, accessFlags := 25, slot := 17, constantValue := 0 }, { name := "T_LONG", type := .int, accessFlags := 25, slot := 18, constantValue := 0 }, { name := "JLA", type := (.object "jdk/internal/access/JavaLangAccess"), accessFlags := 26, slot := 19, constantValue := 0 }, { name := "SOFT_MAX_ARRAY_LENGTH", type := .int, accessFlags := 25, slot := 20, constantValue := 0 }]
  methods := #[k12m0]
  instanceTypes := #[]
  staticTypes := #[(.object "jdk/internal/misc/Unsafe"), .boolean, .int, .int, .int, .int, .int, .int, .int, .int, .int, .int, .int, .int, .int, .int, .int, .int, .int, (.object "jdk/internal/access/JavaLangAccess"), .int]
  resolved := Array.replicate 378 none
  statics := none }

def pool13 : Array CpInfo := pool [(1, u "java/lang/Cloneable"), (0, .class_ 1), (0, u "java/lang/Object"), (0, .class_ 3)] 3

/-- java/lang/Cloneable -/
def k13 : Class := { plain "java/lang/Cloneable" (some 0) with
  accessFlags := 1537
  interfaces := #[]
  cf := some (fileOf pool13 2 #[] #[] 1537 4 #[] #[])
  fields := #[]
  methods := #[]
  instanceTypes := #[]
  staticTypes := #[]
  resolved := Array.replicate 8 none
  statics := none }

/-- the primitive byte -/
def k14 : Class := { plain "byte" none with kind := .primitive 'B', accessFlags := 0x411 }
/-- [B -/
def k15 : Class := { plain "[B" (some 0) with kind := .array 14 .byte, interfaces := #[13, 2], accessFlags := 1041 }

/-- the primitive char -/
def k16 : Class := { plain "char" none with kind := .primitive 'C', accessFlags := 0x411 }
/-- [C -/
def k17 : Class := { plain "[C" (some 0) with kind := .array 16 .char, interfaces := #[13, 2], accessFlags := 1041 }

/-- the primitive int -/
def k18 : Class := { plain "int" none with kind := .primitive 'I', accessFlags := 0x411 }
/-- [I -/
def k19 : Class := { plain "[I" (some 0) with kind := .array 18 .int, interfaces := #[13, 2], accessFlags := 1041 }

/-- [Ljava/lang/String; -/
def k20 : Class := { plain "[Ljava/lang/String;" (some 0) with kind := .array 7 (.object "java/lang/String"), interfaces := #[13, 2], accessFlags := 1041 }

def heap : Heap := #[{ cls := 7, slots := #[.long 0, .int 1, .null, .int 0, .null, .int 0, .int 0], vm := .statics 7 },
  { cls := 11, slots := #[.ref 2, .null, .null], vm := .statics 11 },
  { cls := 0, slots := #[], vm := .none }]
def classes : Array Class := #[k0, k1, k2, k3, k4, k5, k6, k7, k8, k9, k10, k11, k12, k13, k14, k15, k16, k17, k18, k19, k20]
def interned : List (Array UInt16 × Addr) := []
def slotsUsed : Nat := 10
def theMethod : MethodId := ⟨1, 1⟩
def args0 : Array Value := #[.int 2, .int 65, .int 66, .int 67, .int 66]
def aboutOver (below : List Frame) : State where
  vm := { classes := classes, interned := interned.toArray }
  heap := heap
  slotsUsed := slotsUsed
  threads := #[{ frames := .invoking theMethod args0 :: below }]
def below0 : List Frame := [.native { method := ⟨0, 0⟩, args := #[] }]
def about1 : State := aboutOver below0
def p0 : Program := .bare "" "" ""
def e0 : Env := launch0.env 0 0 0
theorem w_frames : about1.frames = Frame.invoking theMethod args0 :: below0 := rfl
set_option maxRecDepth 65536 in
theorem w_args : argsFit about1.vm theMethod args0 = true := by decide +kernel
set_option maxRecDepth 65536 in
theorem w_heap : heapFits about1 = true := by decide +kernel
set_option maxRecDepth 65536 in
theorem w_runnable : about1.curStatus? = some .runnable := by decide +kernel
set_option maxRecDepth 65536 in
theorem w_alone : about1.alone = true := by decide +kernel
set_option maxRecDepth 65536 in
theorem w_named : about1.methodNamed? x = some theMethod := by decide +kernel
set_option maxRecDepth 65536 in
theorem w_hears : about1.hears theMethod below0 = true := by decide +kernel
set_option maxRecDepth 65536 in
theorem w_ripe : about1.ripe theMethod args0 below0 = true := by decide +kernel
theorem w_running : about1.status = .running := rfl
set_option maxRecDepth 65536 in
theorem w_room : about1.hasRoom e0.platform room_1 = true :=
  launch0.hasRoom_least _ room_1 (by decide +kernel) (by decide +kernel) (by decide +kernel) (by decide +kernel) (by decide +kernel) (by decide +kernel)
theorem allAtoms_all (ts : List Jvm.Cond) (a : Array Jvm.Value) (st : Jvm.State) : (allAtoms ts).before a st = ts.all (fun c => c.before a st) := by
  induction ts with
  | nil => rfl
  | cons c t ih =>
    show (Jvm.Cond.and c (allAtoms t)).before a st = _
    rw [Jvm.Cond.before_and, ih, List.all_cons]
def words1 : List Jvm.Cond := Jvm.Cond.code x code maxLocals ret :: tables_1
/-- a 'code' word, met by the world's own term for the bytes: nothing is compared byte by byte -/
theorem code_word {y : MethodName} {bytes : ByteArray} {mx : Nat} {rt : Option FieldType} {a : Array Value} {s : State} {m : MethodId} {meth : Method} {c : Code} (h1 : s.methodNamed? y = some m) (h2 : s.vm.method? m = some meth) (h3 : meth.code = some c) (h4 : c.code = bytes)
    (h5 : (c.maxLocals == mx && c.exceptionTable.isEmpty && decide (c.maxStack ≤ mostOperands) && decide (meth.sig.returnType = rt) && !meth.locks && decide (parseMethodDescriptor y.desc = some meth.sig)) = true) : (Jvm.Cond.code y bytes mx rt).before a s = true := by
  simp only [Bool.and_eq_true, beq_iff_eq, Bool.not_eq_true', decide_eq_true_eq] at h5
  obtain ⟨⟨⟨⟨⟨g1, g2⟩, g3⟩, g4⟩, g5⟩, g6⟩ := h5
  simp [Cond.before, Cond.holds, Cond.value, h1, h2, h3, h4, g1, g2, g3, g4, g5, g6]
def isCode : Jvm.Cond → Bool
  | .code _ _ _ _ => true
  | _ => false
theorem all_split {L : List Jvm.Cond} {P : Jvm.Cond → Bool} (h1 : L.all (fun c => isCode c || P c) = true) (h2 : ∀ c ∈ L.filter isCode, P c = true) : L.all P = true := by
  refine List.all_eq_true.mpr fun c hc => ?_
  have h := List.all_eq_true.mp h1 c hc
  rcases Bool.eq_false_or_eq_true (isCode c) with hi | hi
  · exact h2 c (List.mem_filter.mpr ⟨hc, hi⟩)
  · simpa [hi] using h
set_option maxRecDepth 65536 in
theorem w_c0 : (Jvm.Cond.code x code maxLocals ret).before args0 about1 = true := code_word (m := ⟨1, 1⟩) (meth := k1m1) (c := k1c1) (by decide +kernel) rfl rfl rfl (by decide +kernel)
set_option maxRecDepth 65536 in
theorem w_c1 : (Jvm.Cond.code ({ cls := "com/example/issuerd/issuerd/xml/Dom", name := "references", desc := "(Ljava/lang/String;[Ljava/lang/String;)[Ljava/lang/String;" } : Jvm.MethodName) prog_48_method_10_code (4 : Nat) (Option.some (Jvm.ClassFile.FieldType.array (Jvm.ClassFile.FieldType.object "java/lang/String")))).before args0 about1 = true := code_word (m := ⟨8, 1⟩) (meth := k8m1) (c := k8c1) (by decide +kernel) rfl rfl rfl (by decide +kernel)
set_option maxRecDepth 65536 in
theorem w_c2 : (Jvm.Cond.code ({ cls := "java/lang/String", name := "isEmpty", desc := "()Z" } : Jvm.MethodName) jdk_42_method_55_code (1 : Nat) (Option.some Jvm.ClassFile.FieldType.boolean)).before args0 about1 = true := code_word (m := ⟨7, 3⟩) (meth := k7m3) (c := k7c3) (by decide +kernel) rfl rfl rfl (by decide +kernel)
set_option maxRecDepth 65536 in
theorem w_c3 : (Jvm.Cond.code ({ cls := "java/lang/String", name := "length", desc := "()I" } : Jvm.MethodName) jdk_42_method_54_code (1 : Nat) (Option.some Jvm.ClassFile.FieldType.int)).before args0 about1 = true := code_word (m := ⟨7, 2⟩) (meth := k7m2) (c := k7c2) (by decide +kernel) rfl rfl rfl (by decide +kernel)
set_option maxRecDepth 65536 in
theorem w_c4 : (Jvm.Cond.code ({ cls := "java/lang/String", name := "coder", desc := "()B" } : Jvm.MethodName) jdk_42_method_152_code (1 : Nat) (Option.some Jvm.ClassFile.FieldType.byte)).before args0 about1 = true := code_word (m := ⟨7, 8⟩) (meth := k7m8) (c := k7c8) (by decide +kernel) rfl rfl rfl (by decide +kernel)
set_option maxRecDepth 65536 in
theorem w_c5 : (Jvm.Cond.code ({ cls := "java/lang/String", name := "<init>", desc := "([C)V" } : Jvm.MethodName) jdk_42_method_3_code (2 : Nat) (Option.none : Option Jvm.ClassFile.FieldType)).before args0 about1 = true := code_word (m := ⟨7, 1⟩) (meth := k7m1) (c := k7c1) (by decide +kernel) rfl rfl rfl (by decide +kernel)
set_option maxRecDepth 65536 in
theorem w_c6 : (Jvm.Cond.code ({ cls := "java/lang/String", name := "<init>", desc := "([CIILjava/lang/Void;)V" } : Jvm.MethodName) jdk_42_method_149_code (6 : Nat) (Option.none : Option Jvm.ClassFile.FieldType)).before args0 about1 = true := code_word (m := ⟨7, 6⟩) (meth := k7m6) (c := k7c6) (by decide +kernel) rfl rfl rfl (by decide +kernel)
set_option maxRecDepth 65536 in
theorem w_c7 : (Jvm.Cond.code ({ cls := "java/lang/Object", name := "<init>", desc := "()V" } : Jvm.MethodName) object_method_1_code (1 : Nat) (Option.none : Option Jvm.ClassFile.FieldType)).before args0 about1 = true := code_word (m := ⟨0, 0⟩) (meth := k0m0) (c := k0c0) (by decide +kernel) rfl rfl rfl (by decide +kernel)
set_option maxRecDepth 65536 in
theorem w_c8 : (Jvm.Cond.code ({ cls := "java/lang/StringUTF16", name := "compress", desc := "([CII)[B" } : Jvm.MethodName) jdk_52_method_16_code (6 : Nat) (Option.some (Jvm.ClassFile.FieldType.array Jvm.ClassFile.FieldType.byte))).before args0 about1 = true := code_word (m := ⟨9, 2⟩) (meth := k9m2) (c := k9c2) (by decide +kernel) rfl rfl rfl (by decide +kernel)
set_option maxRecDepth 65536 in
theorem w_c9 : (Jvm.Cond.code ({ cls := "java/lang/StringUTF16", name := "compress", desc := "([CI[BII)I" } : Jvm.MethodName) jdk_52_method_21_code (7 : Nat) (Option.some Jvm.ClassFile.FieldType.int)).before args0 about1 = true := code_word (m := ⟨9, 3⟩) (meth := k9m3) (c := k9c3) (by decide +kernel) rfl rfl rfl (by decide +kernel)
set_option maxRecDepth 65536 in
theorem w_c10 : (Jvm.Cond.code ({ cls := "java/lang/StringUTF16", name := "coderFromArrayLen", desc := "([BI)B" } : Jvm.MethodName) jdk_52_method_15_code (2 : Nat) (Option.some Jvm.ClassFile.FieldType.byte)).before args0 about1 = true := code_word (m := ⟨9, 1⟩) (meth := k9m1) (c := k9c1) (by decide +kernel) rfl rfl rfl (by decide +kernel)
set_option maxRecDepth 65536 in
theorem w_c11 : (Jvm.Cond.code ({ cls := "java/lang/String", name := "charAt", desc := "(I)C" } : Jvm.MethodName) jdk_42_method_56_code (2 : Nat) (Option.some Jvm.ClassFile.FieldType.char)).before args0 about1 = true := code_word (m := ⟨7, 4⟩) (meth := k7m4) (c := k7c4) (by decide +kernel) rfl rfl rfl (by decide +kernel)
set_option maxRecDepth 65536 in
theorem w_c12 : (Jvm.Cond.code ({ cls := "java/lang/String", name := "isLatin1", desc := "()Z" } : Jvm.MethodName) jdk_42_method_154_code (1 : Nat) (Option.some Jvm.ClassFile.FieldType.boolean)).before args0 about1 = true := code_word (m := ⟨7, 9⟩) (meth := k7m9) (c := k7c9) (by decide +kernel) rfl rfl rfl (by decide +kernel)
set_option maxRecDepth 65536 in
theorem w_c13 : (Jvm.Cond.code ({ cls := "java/lang/StringLatin1", name := "charAt", desc := "([BI)C" } : Jvm.MethodName) jdk_43_method_2_code (2 : Nat) (Option.some Jvm.ClassFile.FieldType.char)).before args0 about1 = true := code_word (m := ⟨10, 1⟩) (meth := k10m1) (c := k10c1) (by decide +kernel) rfl rfl rfl (by decide +kernel)
set_option maxRecDepth 65536 in
theorem w_c14 : (Jvm.Cond.code ({ cls := "java/lang/String", name := "checkIndex", desc := "(II)V" } : Jvm.MethodName) jdk_42_method_155_code (2 : Nat) (Option.none : Option Jvm.ClassFile.FieldType)).before args0 about1 = true := code_word (m := ⟨7, 10⟩) (meth := k7m10) (c := k7c10) (by decide +kernel) rfl rfl rfl (by decide +kernel)
set_option maxRecDepth 65536 in
theorem w_c15 : (Jvm.Cond.code ({ cls := "jdk/internal/util/Preconditions", name := "checkIndex", desc := "(IILjava/util/function/BiFunction;)I" } : Jvm.MethodName) jdk_41_method_11_code (3 : Nat) (Option.some Jvm.ClassFile.FieldType.int)).before args0 about1 = true := code_word (m := ⟨11, 1⟩) (meth := k11m1) (c := k11c1) (by decide +kernel) rfl rfl rfl (by decide +kernel)
set_option maxRecDepth 65536 in
theorem w_c16 : (Jvm.Cond.code ({ cls := "com/example/issuerd/issuerd/xml/DomReferencesPinLaw", name := "expected", desc := "(IICCC)Ljava/lang/String;" } : Jvm.MethodName) method_3_code (6 : Nat) (Option.some (Jvm.ClassFile.FieldType.object "java/lang/String"))).before args0 about1 = true := code_word (m := ⟨1, 2⟩) (meth := k1m2) (c := k1c2) (by decide +kernel) rfl rfl rfl (by decide +kernel)
set_option maxRecDepth 65536 in
theorem w_c17 : (Jvm.Cond.code ({ cls := "java/lang/String", name := "valueOf", desc := "(C)Ljava/lang/String;" } : Jvm.MethodName) jdk_42_method_139_code (1 : Nat) (Option.some (Jvm.ClassFile.FieldType.object "java/lang/String"))).before args0 about1 = true := code_word (m := ⟨7, 5⟩) (meth := k7m5) (c := k7c5) (by decide +kernel) rfl rfl rfl (by decide +kernel)
set_option maxRecDepth 65536 in
theorem w_c18 : (Jvm.Cond.code ({ cls := "java/lang/StringLatin1", name := "canEncode", desc := "(C)Z" } : Jvm.MethodName) jdk_43_method_3_code (1 : Nat) (Option.some Jvm.ClassFile.FieldType.boolean)).before args0 about1 = true := code_word (m := ⟨10, 2⟩) (meth := k10m2) (c := k10c2) (by decide +kernel) rfl rfl rfl (by decide +kernel)
set_option maxRecDepth 65536 in
theorem w_c19 : (Jvm.Cond.code ({ cls := "java/lang/StringLatin1", name := "toBytes", desc := "(C)[B" } : Jvm.MethodName) jdk_43_method_46_code (1 : Nat) (Option.some (Jvm.ClassFile.FieldType.array Jvm.ClassFile.FieldType.byte))).before args0 about1 = true := code_word (m := ⟨10, 3⟩) (meth := k10m3) (c := k10c3) (by decide +kernel) rfl rfl rfl (by decide +kernel)
set_option maxRecDepth 65536 in
theorem w_c20 : (Jvm.Cond.code ({ cls := "java/lang/String", name := "<init>", desc := "([BB)V" } : Jvm.MethodName) jdk_42_method_151_code (3 : Nat) (Option.none : Option Jvm.ClassFile.FieldType)).before args0 about1 = true := code_word (m := ⟨7, 7⟩) (meth := k7m7) (c := k7c7) (by decide +kernel) rfl rfl rfl (by decide +kernel)
def codes1 : List Jvm.Cond := [Jvm.Cond.code x code maxLocals ret, Jvm.Cond.code ({ cls := "com/example/issuerd/issuerd/xml/Dom", name := "references", desc := "(Ljava/lang/String;[Ljava/lang/String;)[Ljava/lang/String;" } : Jvm.MethodName) prog_48_method_10_code (4 : Nat) (Option.some (Jvm.ClassFile.FieldType.array (Jvm.ClassFile.FieldType.object "java/lang/String"))), Jvm.Cond.code ({ cls := "java/lang/String", name := "isEmpty", desc := "()Z" } : Jvm.MethodName) jdk_42_method_55_code (1 : Nat) (Option.some Jvm.ClassFile.FieldType.boolean), Jvm.Cond.code ({ cls := "java/lang/String", name := "length", desc := "()I" } : Jvm.MethodName) jdk_42_method_54_code (1 : Nat) (Option.some Jvm.ClassFile.FieldType.int), Jvm.Cond.code ({ cls := "java/lang/String", name := "coder", desc := "()B" } : Jvm.MethodName) jdk_42_method_152_code (1 : Nat) (Option.some Jvm.ClassFile.FieldType.byte), Jvm.Cond.code ({ cls := "java/lang/String", name := "<init>", desc := "([C)V" } : Jvm.MethodName) jdk_42_method_3_code (2 : Nat) (Option.none : Option Jvm.ClassFile.FieldType), Jvm.Cond.code ({ cls := "java/lang/String", name := "<init>", desc := "([CIILjava/lang/Void;)V" } : Jvm.MethodName) jdk_42_method_149_code (6 : Nat) (Option.none : Option Jvm.ClassFile.FieldType), Jvm.Cond.code ({ cls := "java/lang/Object", name := "<init>", desc := "()V" } : Jvm.MethodName) object_method_1_code (1 : Nat) (Option.none : Option Jvm.ClassFile.FieldType), Jvm.Cond.code ({ cls := "java/lang/StringUTF16", name := "compress", desc := "([CII)[B" } : Jvm.MethodName) jdk_52_method_16_code (6 : Nat) (Option.some (Jvm.ClassFile.FieldType.array Jvm.ClassFile.FieldType.byte)), Jvm.Cond.code ({ cls := "java/lang/StringUTF16", name := "compress", desc := "([CI[BII)I" } : Jvm.MethodName) jdk_52_method_21_code (7 : Nat) (Option.some Jvm.ClassFile.FieldType.int), Jvm.Cond.code ({ cls := "java/lang/StringUTF16", name := "coderFromArrayLen", desc := "([BI)B" } : Jvm.MethodName) jdk_52_method_15_code (2 : Nat) (Option.some Jvm.ClassFile.FieldType.byte), Jvm.Cond.code ({ cls := "java/lang/String", name := "charAt", desc := "(I)C" } : Jvm.MethodName) jdk_42_method_56_code (2 : Nat) (Option.some Jvm.ClassFile.FieldType.char), Jvm.Cond.code ({ cls := "java/lang/String", name := "isLatin1", desc := "()Z" } : Jvm.MethodName) jdk_42_method_154_code (1 : Nat) (Option.some Jvm.ClassFile.FieldType.boolean), Jvm.Cond.code ({ cls := "java/lang/StringLatin1", name := "charAt", desc := "([BI)C" } : Jvm.MethodName) jdk_43_method_2_code (2 : Nat) (Option.some Jvm.ClassFile.FieldType.char), Jvm.Cond.code ({ cls := "java/lang/String", name := "checkIndex", desc := "(II)V" } : Jvm.MethodName) jdk_42_method_155_code (2 : Nat) (Option.none : Option Jvm.ClassFile.FieldType), Jvm.Cond.code ({ cls := "jdk/internal/util/Preconditions", name := "checkIndex", desc := "(IILjava/util/function/BiFunction;)I" } : Jvm.MethodName) jdk_41_method_11_code (3 : Nat) (Option.some Jvm.ClassFile.FieldType.int), Jvm.Cond.code ({ cls := "com/example/issuerd/issuerd/xml/DomReferencesPinLaw", name := "expected", desc := "(IICCC)Ljava/lang/String;" } : Jvm.MethodName) method_3_code (6 : Nat) (Option.some (Jvm.ClassFile.FieldType.object "java/lang/String")), Jvm.Cond.code ({ cls := "java/lang/String", name := "valueOf", desc := "(C)Ljava/lang/String;" } : Jvm.MethodName) jdk_42_method_139_code (1 : Nat) (Option.some (Jvm.ClassFile.FieldType.object "java/lang/String")), Jvm.Cond.code ({ cls := "java/lang/StringLatin1", name := "canEncode", desc := "(C)Z" } : Jvm.MethodName) jdk_43_method_3_code (1 : Nat) (Option.some Jvm.ClassFile.FieldType.boolean), Jvm.Cond.code ({ cls := "java/lang/StringLatin1", name := "toBytes", desc := "(C)[B" } : Jvm.MethodName) jdk_43_method_46_code (1 : Nat) (Option.some (Jvm.ClassFile.FieldType.array Jvm.ClassFile.FieldType.byte)), Jvm.Cond.code ({ cls := "java/lang/String", name := "<init>", desc := "([BB)V" } : Jvm.MethodName) jdk_42_method_151_code (3 : Nat) (Option.none : Option Jvm.ClassFile.FieldType)]
set_option maxRecDepth 65536 in
theorem codes_eq : words1.filter isCode = codes1 := rfl
theorem w_codes : ∀ c ∈ words1.filter isCode, c.before args0 about1 = true := by
  rw [codes_eq]
  intro c hc
  simp only [codes1, List.mem_cons, List.not_mem_nil, or_false] at hc
  rcases hc with rfl | rfl | rfl | rfl | rfl | rfl | rfl | rfl | rfl | rfl | rfl | rfl | rfl | rfl | rfl | rfl | rfl | rfl | rfl | rfl | rfl
  · exact w_c0
  · exact w_c1
  · exact w_c2
  · exact w_c3
  · exact w_c4
  · exact w_c5
  · exact w_c6
  · exact w_c7
  · exact w_c8
  · exact w_c9
  · exact w_c10
  · exact w_c11
  · exact w_c12
  · exact w_c13
  · exact w_c14
  · exact w_c15
  · exact w_c16
  · exact w_c17
  · exact w_c18
  · exact w_c19
  · exact w_c20
set_option maxRecDepth 65536 in
theorem w_t1 : (words1.take 24).all (fun c => isCode c || c.before args0 about1) = true := by decide +kernel
set_option maxRecDepth 65536 in
theorem w_t2 : ((words1.drop 24).take 24).all (fun c => isCode c || c.before args0 about1) = true := by decide +kernel
set_option maxRecDepth 65536 in
theorem w_t3 : (((words1.drop 24).drop 24).take 24).all (fun c => isCode c || c.before args0 about1) = true := by decide +kernel
set_option maxRecDepth 65536 in
theorem w_t4 : ((((words1.drop 24).drop 24).drop 24).take 24).all (fun c => isCode c || c.before args0 about1) = true := by decide +kernel
set_option maxRecDepth 65536 in
theorem w_t5 : ((((words1.drop 24).drop 24).drop 24).drop 24).all (fun c => isCode c || c.before args0 about1) = true := by decide +kernel
theorem w_tables : (allAtoms (Jvm.Cond.code x code maxLocals ret :: tables_1)).before args0 about1 = true := by
  rw [allAtoms_all]
  show words1.all (fun c => c.before args0 about1) = true
  refine all_split ?_ w_codes
  rw [← List.take_append_drop 24 words1, List.all_append, w_t1, ← List.take_append_drop 24 (words1.drop 24), List.all_append, w_t2, ← List.take_append_drop 24 ((words1.drop 24).drop 24), List.all_append, w_t3, ← List.take_append_drop 24 (((words1.drop 24).drop 24).drop 24), List.all_append, w_t4, w_t5]
  rfl
set_option maxRecDepth 65536 in
theorem w_rest : rest_1_c.before args0 about1 = true := by decide +kernel
set_option maxRecDepth 65536 in
theorem w_case : (Jvm.Cond.and given_1 narrow_1).before args0 about1 = true := by decide +kernel
set_option maxRecDepth 65536 in
theorem w_consts : constsHeld consts_1 about1 := Jvm.Lit.constsHeldB_iff.mp (by decide +kernel)
theorem w_applies : (headSpec (Jvm.Cond.code x code maxLocals ret :: tables_1) room_1).applies x e0.platform about1 = true :=
  (Spec.applies_iff w_frames).mpr ⟨w_running, w_runnable, w_alone, w_named, w_hears, w_ripe, w_room, w_tables⟩
theorem atStart : AtStart classFile x code maxLocals ret World_1 tables_1 room_1 Calls_1 rest_1 Pre_1 launch0 p0 e0 about1 theMethod args0 below0 :=
  ⟨lists_1, trivial, launch0.admits_env _ _ _, launch0.least_env, fairChoices_fair.cas, fairChoices_fair.clock, w_frames, w_args, w_heap, w_applies, ⟨w_consts, trivial⟩, w_rest, w_case⟩
end start1
theorem witness_1 : WitnessClaimed_1 := ⟨start1.p0, start1.e0, start1.about1, start1.theMethod, start1.args0, start1.below0, start1.atStart⟩
end Jvm.Pilot.@@N@@
