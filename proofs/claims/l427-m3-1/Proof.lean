import JvmDerived
import JvmDerived.Pilot.@@N@@Statement
import JvmDerived.Pilot.@@N@@Code
set_option linter.unusedVariables false
set_option linter.unusedSimpArgs false
@@BLOCK:NumsL.lean.txt@@
/- laws to paste: Road.backV, Road.lenW, Road.chN, Road.codOf (cut by pick.py; bodies as the Statement names them) -/
namespace Jvm.Pilot.@@N@@
namespace StrChars
open Jvm Sem ClassFile Op Lib Jvm.Stand Jvm.Free.XT Jvm.Free.ALB Jvm.Free.JM Jvm.Free
open Jvm.Lib.Cold (StaticIs)
/-- a char array whose places are chars -/
def Ch (a : Addr) (A : Cell) (U : State) : Prop := Arr .char a A U ∧ Typed .char A
theorem Ch.mv {a : Addr} {A : Cell} {U U' : State} (h : Ch a A U) (hal : U.vm.Alike U'.vm) (hh : U'.heap = U.heap) : Ch a A U' := ⟨h.1.mv hal hh, h.2⟩
theorem Ch.keep {a : Addr} {A : Cell} {U U' : State} (h : Ch a A U) (hal : U.vm.Alike U'.vm) (hk : U'.heap[a]? = some A) : Ch a A U' := ⟨h.1.keep hal hk, h.2⟩
/-- what place i of a char[]'s cell holds -/
def cv (A : Cell) (i : Nat) : Int32 := match A.slots[i]? with | some (.int x) => x | _ => 0
theorem Ch.get {a : Addr} {A : Cell} {U : State} (h : Ch a A U) {i : Nat} (hi : i < A.slots.size) : A.slots[i]? = some (.int (cv A i)) := by
  have e := Array.getElem?_eq_getElem hi
  have f := h.2 i _ e
  unfold cv; rw [e]
  generalize A.slots[i] = v at f
  cases v <;> simp [fits] at f ⊢
/-- the byte that i2b leaves of a char -/
def lo8 (x : Int32) : Int32 := x.toInt8.toInt32
theorem fits_lo8 (y : Int32) : fits .byte (.int (lo8 y)) = true := by
  have h1 := y.toInt8.le_toInt
  have h2 := y.toInt8.toInt_lt
  simp only [lo8, fits, Bool.and_eq_true, decide_eq_true_eq, Int32.le_iff_toInt_le, Int8.toInt_toInt32, show (-128 : Int32).toInt = -128 from by decide, show (127 : Int32).toInt = 127 from by decide]
  omega
/-- A' is A but that each place j of lo .. hi - 1 holds f j -/
def Laid (A A' : Cell) (lo hi : Nat) (f : Nat → Value) : Prop := A'.cls = A.cls ∧ A'.vm = A.vm ∧ A'.slots.size = A.slots.size ∧ ∀ i, A'.slots[i]? = if lo ≤ i ∧ i < hi then some (f i) else A.slots[i]?
theorem Laid.zero (A : Cell) (lo : Nat) (f : Nat → Value) : Laid A A lo (lo + 0) f := ⟨rfl, rfl, rfl, fun i => by rw [if_neg (by omega)]⟩
theorem Laid.step {A Ak : Cell} {lo k : Nat} {f : Nat → Value} {v : Value} (h : Laid A Ak lo k f) (hlo : lo ≤ k) (hk : k < Ak.slots.size) (hv : v = f k) : Laid A (Ak.setSlot k v) lo (k + 1) f := by
  refine ⟨h.1, h.2.1, by simpa [Cell.setSlot] using h.2.2.1, fun i => ?_⟩
  by_cases e : k = i
  · subst e; rw [Cell.slots_setSlot_self v hk, if_pos (by omega), hv]
  · rw [Cell.slots_setSlot_ne v e, h.2.2.2 i]
    by_cases q : lo ≤ i ∧ i < k
    · rw [if_pos q, if_pos (by omega)]
    · rw [if_neg q, if_neg (by omega)]
def U16 : String := "java/lang/StringUTF16"
namespace Cmp5
def yN : MethodName := ⟨"java/lang/StringUTF16", "compress", "([CI[BII)I"⟩
abbrev yB : ByteArray := jdk_52_method_21_code
theorem d0 : decode yB 0 = .ok (.iconst 0, 1) := by decide +kernel
theorem d1 : decode yB 1 = .ok (.istore 5, 2) := by decide +kernel
theorem d3 : decode yB 3 = .ok (.iload 5, 2) := by decide +kernel
theorem d5 : decode yB 5 = .ok (.iload 4, 2) := by decide +kernel
theorem d7 : decode yB 7 = .ok (.if_icmp (.ge) 37, 3) := by decide +kernel
theorem d10 : decode yB 10 = .ok (.aload_n 0, 1) := by decide +kernel
theorem d11 : decode yB 11 = .ok (.iload_n 1, 1) := by decide +kernel
theorem d12 : decode yB 12 = .ok (.caload, 1) := by decide +kernel
theorem d13 : decode yB 13 = .ok (.istore 6, 2) := by decide +kernel
theorem d15 : decode yB 15 = .ok (.iload 6, 2) := by decide +kernel
theorem d17 : decode yB 17 = .ok (.sipush 255, 3) := by decide +kernel
theorem d20 : decode yB 20 = .ok (.if_icmp (.le) 6, 3) := by decide +kernel
theorem d26 : decode yB 26 = .ok (.aload_n 2, 1) := by decide +kernel
theorem d27 : decode yB 27 = .ok (.iload_n 3, 1) := by decide +kernel
theorem d28 : decode yB 28 = .ok (.iload 6, 2) := by decide +kernel
theorem d30 : decode yB 30 = .ok (.i2b, 1) := by decide +kernel
theorem d31 : decode yB 31 = .ok (.bastore, 1) := by decide +kernel
theorem d32 : decode yB 32 = .ok (.iinc 1 1, 3) := by decide +kernel
theorem d35 : decode yB 35 = .ok (.iinc 3 1, 3) := by decide +kernel
theorem d38 : decode yB 38 = .ok (.iinc 5 1, 3) := by decide +kernel
theorem d41 : decode yB 41 = .ok (.goto (-38), 3) := by decide +kernel
theorem d44 : decode yB 44 = .ok (.iload 4, 2) := by decide +kernel
theorem d46 : decode yB 46 = .ok (.ireturn, 1) := by decide +kernel
def site : List Cond := []
def tab : Cond := tabOf yN yB 7 (some .int) site
def P (b : Addr) (A : Cell) (d : Addr) (B : Cell) (o q len : Nat) (args : Array Value) (s : State) : Prop := args = #[.ref b, .int (Int32.ofNat o), .ref d, .int (Int32.ofNat q), .int (Int32.ofNat len)] ∧ Ch b A s ∧ Arr .byte d B s ∧ b ≠ d ∧ o + len ≤ A.slots.size ∧ q + len ≤ B.slots.size ∧ ∀ i, i < len → ¬ 255 < cv A (o + i)
def E (b : Addr) (A : Cell) (d : Addr) (B : Cell) (o q len : Nat) (r : Option Value) (s u : State) : Prop := r = some (.int (Int32.ofNat len)) ∧ ∃ B', Put d B' s u ∧ Laid B B' q (q + len) (fun j => Value.int (lo8 (cv A (o + (j - q)))))
/-- no char of the range above 255: len; the places written hold each char's low byte -/
theorem law (l : Launch) (b : Addr) (A : Cell) (d : Addr) (B : Cell) (o q len : Nat) : Law l yN 5 5 0 0 yB 7 (some .int) site (P b A d B o q len) (E b A d B o q len) (copyLocs d q len) 0 0 := by
  refine Law.of_walk (plainFor_of_name (by decide +kernel)) (by decide +kernel) (by decide +kernel) (by decide) (fun _ _ h => by rw [h.1]; rfl) (fun _ U U' hal hh h => ⟨h.1, h.2.1.mv hal hh, h.2.2.1.mv hal hh, h.2.2.2⟩) (fun r U U' V V' h1 hal h2 h => ⟨h.1, h.2.elim fun B' q => ⟨B', q.1.mv h1 h2, q.2⟩⟩) ?_
  intro p e s m args below meth c s₁ X0 hexec hbytes hml hret hlk hnm hown hh0 W hP
  obtain ⟨rfl, hA, hB, hne, l1, l2, hp⟩ := hP
  have c1 : Steps p.tables e below (s₁.setTop (entryFrame m #[.ref b, .int (Int32.ofNat o), .ref d, .int (Int32.ofNat q), .int (Int32.ofNat len)] 7)) (s₁.setTop (mkF m 0 #[.val (.ref b), .val (.int (Int32.ofNat o)), .val (.ref d), .val (.int (Int32.ofNat q)), .val (.int (Int32.ofNat len)), .unset, .unset] [])) := entry rfl
  have hA0 := hA.1.mv X0.warmed.alike hh0
  have hB0 := hB.mv X0.warmed.alike hh0
  have a31 := hA.1.2.2.2
  have c2 : Steps p.tables e below (s₁.setTop (entryFrame m #[.ref b, .int (Int32.ofNat o), .ref d, .int (Int32.ofNat q), .int (Int32.ofNat len)] 7)) (s₁.setTop (mkF m 3 #[.val (.ref b), .val (.int (Int32.ofNat o)), .val (.ref d), .val (.int (Int32.ofNat q)), .val (.int (Int32.ofNat len)), .val (.int 0), .unset] [])) := c1.trans (by
    refine iconstV X0.here hexec rfl 0 (hb hbytes d0) (by decide) ?_
    refine XS.istore X0.here hexec rfl (hb hbytes d1) rfl rfl ?_
    exact Steps.refl _)
  have loop : ∀ (r i : Nat), i + r = len → ∀ (z : Slot), (z = .unset ∨ ∃ w, z = .val w ∧ w.category = 1) → ∀ (Tl : State) (Bk : Cell), Stand p l e { frames := 0, locals := 0, cells := 0, slots := 0 } s m #[.ref b, .int (Int32.ofNat o), .ref d, .int (Int32.ofNat q), .int (Int32.ofNat len)] below meth c Tl ([] ++ copyLocs d q i) 0 0 → Put d Bk s₁ Tl → Laid B Bk q (q + i) (fun j => Value.int (lo8 (cv A (o + (j - q))))) →
      Steps p.tables e below (s₁.setTop (entryFrame m #[.ref b, .int (Int32.ofNat o), .ref d, .int (Int32.ofNat q), .int (Int32.ofNat len)] 7)) (Tl.setTop (mkF m 3 #[.val (.ref b), .val (.int (Int32.ofNat (o + i))), .val (.ref d), .val (.int (Int32.ofNat (q + i))), .val (.int (Int32.ofNat len)), .val (.int (Int32.ofNat i)), z] [])) → ∃ (T' : State) (B' : Cell) (z' : Slot), Stand p l e { frames := 0, locals := 0, cells := 0, slots := 0 } s m #[.ref b, .int (Int32.ofNat o), .ref d, .int (Int32.ofNat q), .int (Int32.ofNat len)] below meth c T' ([] ++ copyLocs d q len) 0 0 ∧ Put d B' s₁ T' ∧ Laid B B' q (q + len) (fun j => Value.int (lo8 (cv A (o + (j - q))))) ∧
      Steps p.tables e below (s₁.setTop (entryFrame m #[.ref b, .int (Int32.ofNat o), .ref d, .int (Int32.ofNat q), .int (Int32.ofNat len)] 7)) (T'.setTop (mkF m 3 #[.val (.ref b), .val (.int (Int32.ofNat (o + len))), .val (.ref d), .val (.int (Int32.ofNat (q + len))), .val (.int (Int32.ofNat len)), .val (.int (Int32.ofNat len)), z'] [])) := by
    intro r
    induction r with
    | zero =>
      intro i hi z hz Tl Bk Xl pl fl cl
      have hil : i = len := by omega
      rw [hil] at Xl fl cl
      exact ⟨Tl, Bk, z, Xl, pl, fl, cl⟩
    | succ r ih =>
      intro i hi z hz Tl Bk Xl pl fl cl
      have all := X0.warmed.alike.symm.trans Xl.warmed.alike
      have hAl := hA0.keep all (pl.other hne hA0.1)
      have hBk := hB0.like all pl.1 fl.1 fl.2.1 fl.2.2.1
      have hlt : q + i < Bk.slots.size := by rw [fl.2.2.1]; omega
      have c3 : Steps p.tables e below (s₁.setTop (entryFrame m #[.ref b, .int (Int32.ofNat o), .ref d, .int (Int32.ofNat q), .int (Int32.ofNat len)] 7)) (Tl.setTop (mkF m 12 #[.val (.ref b), .val (.int (Int32.ofNat (o + i))), .val (.ref d), .val (.int (Int32.ofNat (q + i))), .val (.int (Int32.ofNat len)), .val (.int (Int32.ofNat i)), z] [.int (Int32.ofNat (o + i)), .ref b])) := cl.trans (by
        refine XS.iload Xl.here hexec rfl (hb hbytes d3) rfl ?_
        refine XS.iload Xl.here hexec rfl (hb hbytes d5) rfl ?_
        refine XS.icmpNo Xl.here hexec rfl (hb hbytes d7) rfl (ii_ge_f (lt32 (by omega) (by omega))) ?_
        refine XS.aloadN Xl.here hexec rfl (hb hbytes d10) rfl rfl ?_
        refine XS.iloadN Xl.here hexec rfl (hb hbytes d11) rfl ?_
        exact Steps.refl _)
      have c4 : Steps p.tables e below (s₁.setTop (entryFrame m #[.ref b, .int (Int32.ofNat o), .ref d, .int (Int32.ofNat q), .int (Int32.ofNat len)] 7)) (Tl.setTop (mkF m 13 #[.val (.ref b), .val (.int (Int32.ofNat (o + i))), .val (.ref d), .val (.int (Int32.ofNat (q + i))), .val (.int (Int32.ofNat len)), .val (.int (Int32.ofNat i)), z] [.int (cv A (o + i))])) := c3.trans (by
        refine Xl.aget hexec hAl rfl (hA.get (i := o + i) (by omega)) rfl rfl (hb hbytes d12) ?_
        exact Steps.refl _)
      have c5 : Steps p.tables e below (s₁.setTop (entryFrame m #[.ref b, .int (Int32.ofNat o), .ref d, .int (Int32.ofNat q), .int (Int32.ofNat len)] 7)) (Tl.setTop (mkF m 15 #[.val (.ref b), .val (.int (Int32.ofNat (o + i))), .val (.ref d), .val (.int (Int32.ofNat (q + i))), .val (.int (Int32.ofNat len)), .val (.int (Int32.ofNat i)), .val (.int (cv A (o + i)))] [])) := c4.trans (by
        refine XS.istoreS Xl.here hexec rfl (hb hbytes d13) rfl rfl hz ?_
        exact Steps.refl _)
      have c6 : Steps p.tables e below (s₁.setTop (entryFrame m #[.ref b, .int (Int32.ofNat o), .ref d, .int (Int32.ofNat q), .int (Int32.ofNat len)] 7)) (Tl.setTop (mkF m 31 #[.val (.ref b), .val (.int (Int32.ofNat (o + i))), .val (.ref d), .val (.int (Int32.ofNat (q + i))), .val (.int (Int32.ofNat len)), .val (.int (Int32.ofNat i)), .val (.int (cv A (o + i)))] [.int (lo8 (cv A (o + i))), .int (Int32.ofNat (q + i)), .ref d])) := c5.trans (by
        refine XS.iload Xl.here hexec rfl (hb hbytes d15) rfl ?_
        refine sipushV Xl.here hexec rfl 255 (hb hbytes d17) (by decide) ?_
        refine XS.icmpYes Xl.here hexec rfl (pc0 := 20) rfl (hb hbytes d20) rfl (ii_le_t (hp i (by omega))) (by decide) rfl ?_
        refine XS.aloadN Xl.here hexec rfl (hb hbytes d26) rfl rfl ?_
        refine XS.iloadN Xl.here hexec rfl (hb hbytes d27) rfl ?_
        refine XS.iload Xl.here hexec rfl (hb hbytes d28) rfl ?_
        refine i2b Xl.here hexec rfl (hb hbytes d30) rfl ?_
        exact Steps.refl _)
      obtain ⟨T7, X7, p7, st7⟩ := Xl.aput hexec hBk rfl hlt rfl (fits_lo8 (cv A (o + i))) (g := (mkF m 31 #[.val (.ref b), .val (.int (Int32.ofNat (o + i))), .val (.ref d), .val (.int (Int32.ofNat (q + i))), .val (.int (Int32.ofNat len)), .val (.int (Int32.ofNat i)), .val (.int (cv A (o + i)))] [.int (lo8 (cv A (o + i))), .int (Int32.ofNat (q + i)), .ref d])) rfl (rest := []) rfl (hb hbytes d31)
      have c8 : Steps p.tables e below (s₁.setTop (entryFrame m #[.ref b, .int (Int32.ofNat o), .ref d, .int (Int32.ofNat q), .int (Int32.ofNat len)] 7)) (T7.setTop (mkF m 32 #[.val (.ref b), .val (.int (Int32.ofNat (o + i))), .val (.ref d), .val (.int (Int32.ofNat (q + i))), .val (.int (Int32.ofNat len)), .val (.int (Int32.ofNat i)), .val (.int (cv A (o + i)))] [])) := c6.trans (st7 _ (Steps.refl _))
      have c9 : Steps p.tables e below (s₁.setTop (entryFrame m #[.ref b, .int (Int32.ofNat o), .ref d, .int (Int32.ofNat q), .int (Int32.ofNat len)] 7)) (T7.setTop (mkF m 3 #[.val (.ref b), .val (.int (Int32.ofNat (o + i) + 1)), .val (.ref d), .val (.int (Int32.ofNat (q + i) + 1)), .val (.int (Int32.ofNat len)), .val (.int (Int32.ofNat i + 1)), .val (.int (cv A (o + i)))] [])) := c8.trans (by
        refine iincV X7.here hexec rfl 1 (hb hbytes d32) (by decide) rfl rfl ?_
        refine iincV X7.here hexec rfl 1 (hb hbytes d35) (by decide) rfl rfl ?_
        refine iincV X7.here hexec rfl 1 (hb hbytes d38) (by decide) rfl rfl ?_
        refine XS.goto X7.here hexec rfl (pc0 := 41) rfl (hb hbytes d41) (by decide) rfl ?_
        exact Steps.refl _)
      have c10 : Steps p.tables e below (s₁.setTop (entryFrame m #[.ref b, .int (Int32.ofNat o), .ref d, .int (Int32.ofNat q), .int (Int32.ofNat len)] 7)) (T7.setTop (mkF m 3 #[.val (.ref b), .val (.int (Int32.ofNat (o + (i + 1)))), .val (.ref d), .val (.int (Int32.ofNat (q + (i + 1)))), .val (.int (Int32.ofNat len)), .val (.int (Int32.ofNat (i + 1))), .val (.int (cv A (o + i)))] [])) := by
        have := c9
        rw [succ32, succ32, succ32] at this
        exact this
      exact ih (i + 1) (by omega) _ (Or.inr ⟨_, rfl, rfl⟩) T7 _ (by rw [copyLocs_step, ← List.append_assoc]; exact X7) (pl.trans p7) (fl.step (by omega) hlt (by simp)) c10
  obtain ⟨T9, B9, z9, X9, p9, f9, g9⟩ := loop len 0 (by omega) .unset (Or.inl rfl) s₁ B (by simpa [copyLocs] using X0) ⟨hB0.1, fun _ _ => rfl, rfl⟩ (Laid.zero _ _ _) c2
  have c11 : Steps p.tables e below (s₁.setTop (entryFrame m #[.ref b, .int (Int32.ofNat o), .ref d, .int (Int32.ofNat q), .int (Int32.ofNat len)] 7)) (T9.setTop (mkF m 46 #[.val (.ref b), .val (.int (Int32.ofNat (o + len))), .val (.ref d), .val (.int (Int32.ofNat (q + len))), .val (.int (Int32.ofNat len)), .val (.int (Int32.ofNat len)), z9] [.int (Int32.ofNat len)])) := g9.trans (by
    refine XS.iload X9.here hexec rfl (hb hbytes d3) rfl ?_
    refine XS.iload X9.here hexec rfl (hb hbytes d5) rfl ?_
    refine XS.icmpYes X9.here hexec rfl (pc0 := 7) rfl (hb hbytes d7) rfl (ii_ge_t (nlt32 (by omega) (Nat.le_refl _))) (by decide) rfl ?_
    refine XS.iload X9.here hexec rfl (hb hbytes d44) rfl ?_
    exact Steps.refl _)
  exact ⟨T9, some (.int (Int32.ofNat len)), _, _, _, X9, by simp, rfl, rfl, (fun h => by cases h), ⟨rfl, B9, p9.from hh0, f9⟩, fun fs hl => c11.trans (X9.ireturnOut hexec hret rfl (Or.inl rfl) (hb hbytes d46) hl)⟩
end Cmp5
namespace Cmp3
def yN : MethodName := ⟨"java/lang/StringUTF16", "compress", "([CII)[B"⟩
abbrev yB : ByteArray := jdk_52_method_16_code
theorem d0 : decode yB 0 = .ok (.iload_n 2, 1) := by decide +kernel
theorem d1 : decode yB 1 = .ok (.newarray .byte, 2) := by decide +kernel
theorem d3 : decode yB 3 = .ok (.astore_n 3, 1) := by decide +kernel
theorem d4 : decode yB 4 = .ok (.aload_n 0, 1) := by decide +kernel
theorem d5 : decode yB 5 = .ok (.iload_n 1, 1) := by decide +kernel
theorem d6 : decode yB 6 = .ok (.aload_n 3, 1) := by decide +kernel
theorem d7 : decode yB 7 = .ok (.iconst 0, 1) := by decide +kernel
theorem d8 : decode yB 8 = .ok (.iload_n 2, 1) := by decide +kernel
theorem d9 : decode yB 9 = .ok (.invokestatic 115, 3) := by decide +kernel
theorem d12 : decode yB 12 = .ok (.istore 4, 2) := by decide +kernel
theorem d14 : decode yB 14 = .ok (.iload 4, 2) := by decide +kernel
theorem d16 : decode yB 16 = .ok (.iload_n 2, 1) := by decide +kernel
theorem d17 : decode yB 17 = .ok (.if_icmp (.eq) 40, 3) := by decide +kernel
theorem d57 : decode yB 57 = .ok (.aload_n 3, 1) := by decide +kernel
theorem d58 : decode yB 58 = .ok (.areturn, 1) := by decide +kernel
def site : List Cond := [.arrayClass .byte, Cmp5.tab] ++ staticW U16 115 Cmp5.yN
def tab : Cond := tabOf yN yB 6 (some (.array .byte)) site
def P (b : Addr) (A : Cell) (o len : Nat) (args : Array Value) (s : State) : Prop := args = #[.ref b, .int (Int32.ofNat o), .int (Int32.ofNat len)] ∧ Ch b A s ∧ o + len ≤ A.slots.size ∧ len ≤ 536870912 ∧ ∀ i, i < len → ¬ 255 < cv A (o + i)
def E (b : Addr) (A : Cell) (o len : Nat) (r : Option Value) (s u : State) : Prop := NewArr .byte "[B" len (fun j => .int (lo8 (cv A (o + j)))) r s u ∧ u.heap.size = s.heap.size + 1
/-- no char of the range above 255: a new byte[] of their low bytes -/
theorem law (l : Launch) (b : Addr) (A : Cell) (o len : Nat) : Law l yN 3 3 1 18 yB 6 (some (.array .byte)) site (P b A o len) (E b A o len) [] 1 len := by
  refine Law.of_walk (plainFor_of_name (by decide +kernel)) (by decide +kernel) (by decide +kernel) (by decide) (fun _ _ h => by rw [h.1]; rfl) (fun _ U U' hal hh h => ⟨h.1, h.2.1.mv hal hh, h.2.2⟩) (fun r U U' V V' h1 hal h2 h => ⟨NewArr.mv r U U' V V' h1 hal h2 h.1, by rw [h1, h2]; exact h.2⟩) ?_
  intro p e s m args below meth c s₁ X0 hexec hbytes hml hret hlk hnm hown hh0 W hP
  obtain ⟨rfl, hA, l1, l2, hp⟩ := hP
  have a31 := hA.1.2.2.2
  have c1 : Steps p.tables e below (s₁.setTop (entryFrame m #[.ref b, .int (Int32.ofNat o), .int (Int32.ofNat len)] 6)) (s₁.setTop (mkF m 0 #[.val (.ref b), .val (.int (Int32.ofNat o)), .val (.int (Int32.ofNat len)), .unset, .unset, .unset] [])) := entry rfl
  have c2 : Steps p.tables e below (s₁.setTop (entryFrame m #[.ref b, .int (Int32.ofNat o), .int (Int32.ofNat len)] 6)) (s₁.setTop (mkF m 1 #[.val (.ref b), .val (.int (Int32.ofNat o)), .val (.int (Int32.ofNat len)), .unset, .unset, .unset] [.int (Int32.ofNat len)])) := c1.trans (by
    refine XS.iloadN X0.here hexec rfl (hb hbytes d0) rfl ?_
    exact Steps.refl _)
  obtain ⟨T3, B3, X3, ba3, bs3, bv3, bh3, bf3, st3⟩ := X0.anew hexec (atype := .byte) (wk W (.arrayClass .byte)) rfl (by show len * 1 ≤ _; omega) (by omega) (g := (mkF m 1 #[.val (.ref b), .val (.int (Int32.ofNat o)), .val (.int (Int32.ofNat len)), .unset, .unset, .unset] [.int (Int32.ofNat len)])) rfl (hb hbytes d1) (rest := []) rfl (Nat.le_refl _) (by show 0 + len ≤ len; omega)
  rw [hh0] at ba3 st3
  have kp3 : XT.Kept s T3 := (XT.Kept.of_eq hh0).push bh3
  have hA3 := hA.keep X3.warmed.alike (kp3 _ _ hA.1.1)
  have hne : b ≠ s.heap.size := hA.1.ne
  have c4 : Steps p.tables e below (s₁.setTop (entryFrame m #[.ref b, .int (Int32.ofNat o), .int (Int32.ofNat len)] 6)) (T3.setTop (mkF m 3 #[.val (.ref b), .val (.int (Int32.ofNat o)), .val (.int (Int32.ofNat len)), .unset, .unset, .unset] [.ref s.heap.size])) := c2.trans (st3 _ (Steps.refl _))
  have c5 : Steps p.tables e below (s₁.setTop (entryFrame m #[.ref b, .int (Int32.ofNat o), .int (Int32.ofNat len)] 6)) (T3.setTop (mkF m 9 #[.val (.ref b), .val (.int (Int32.ofNat o)), .val (.int (Int32.ofNat len)), .val (.ref s.heap.size), .unset, .unset] [.int (Int32.ofNat len), .int 0, .ref s.heap.size, .int (Int32.ofNat o), .ref b])) := c4.trans (by
    refine XS.astoreN X3.here hexec rfl (hb hbytes d3) rfl rfl rfl ?_
    refine XS.aloadN X3.here hexec rfl (hb hbytes d4) rfl rfl ?_
    refine XS.iloadN X3.here hexec rfl (hb hbytes d5) rfl ?_
    refine XS.aloadN X3.here hexec rfl (hb hbytes d6) rfl rfl ?_
    refine iconstV X3.here hexec rfl 0 (hb hbytes d7) (by decide) ?_
    refine XS.iloadN X3.here hexec rfl (hb hbytes d8) rfl ?_
    exact Steps.refl _)
  obtain ⟨v6, T6, X6, E6, g6⟩ := X3.callS hexec (Cmp5.law l b A s.heap.size B3 o 0 len) hown (wks W (staticW U16 115 Cmp5.yN)) (wk W Cmp5.tab) (W := 0) (Nat.le_of_ble_eq_true rfl) (Nat.le_of_ble_eq_true rfl) (Nat.le_refl _) (by show 0 + len + 0 ≤ len; omega) (g := (mkF m 9 #[.val (.ref b), .val (.int (Int32.ofNat o)), .val (.int (Int32.ofNat len)), .val (.ref s.heap.size), .unset, .unset] [.int (Int32.ofNat len), .int (Int32.ofNat 0), .ref s.heap.size, .int (Int32.ofNat o), .ref b])) rfl (by rw [hml]; rfl) c5 (argsL := [.ref b, .int (Int32.ofNat o), .ref s.heap.size, .int (Int32.ofNat 0), .int (Int32.ofNat len)]) (rest := []) rfl rfl (by show 2 * 0 + 0 ≤ _; decide) (hb hbytes d9) (⟨rfl, hA3, ba3, hne, l1, by rw [bs3]; simp, hp⟩)
  obtain ⟨rfl, B6, p6, f6⟩ := E6
  have c7 : Steps p.tables e below (s₁.setTop (entryFrame m #[.ref b, .int (Int32.ofNat o), .int (Int32.ofNat len)] 6)) (T6.setTop (mkF m 12 #[.val (.ref b), .val (.int (Int32.ofNat o)), .val (.int (Int32.ofNat len)), .val (.ref s.heap.size), .unset, .unset] [.int (Int32.ofNat len)])) := g6
  have c8 : Steps p.tables e below (s₁.setTop (entryFrame m #[.ref b, .int (Int32.ofNat o), .int (Int32.ofNat len)] 6)) (T6.setTop (mkF m 58 #[.val (.ref b), .val (.int (Int32.ofNat o)), .val (.int (Int32.ofNat len)), .val (.ref s.heap.size), .val (.int (Int32.ofNat len)), .unset] [.ref s.heap.size])) := c7.trans (by
    refine XS.istore X6.here hexec rfl (hb hbytes d12) rfl rfl ?_
    refine XS.iload X6.here hexec rfl (hb hbytes d14) rfl ?_
    refine XS.iloadN X6.here hexec rfl (hb hbytes d16) rfl ?_
    refine XS.icmpYes X6.here hexec rfl (pc0 := 17) rfl (hb hbytes d17) rfl (ii_eq_t rfl) (by decide) rfl ?_
    refine XS.aloadN X6.here hexec rfl (hb hbytes d57) rfl rfl ?_
    exact Steps.refl _)
  have X8 := X6.wide (L' := []) (cells' := 1) (slots' := len) (fun x hx hlt => by
    simp only [List.nil_append, copyLocs, List.mem_map, List.mem_range] at hx
    obtain ⟨i, -, rfl⟩ := hx
    exact absurd hlt (Nat.lt_irrefl _)) (Nat.le_refl _) (by omega)
  exact ⟨T6, some (.ref s.heap.size), _, _, _, X8, rfl, rfl, rfl, (fun h => by cases h), ⟨⟨rfl, B6, ba3.like (X3.warmed.alike.symm.trans X6.warmed.alike) p6.1 f6.1 f6.2.1 f6.2.2.1, f6.2.1.trans bv3, by rw [X6.warmed.alike.findClass, f6.1]; exact bf3, by rw [f6.2.2.1, bs3]; simp, fun j hj => by rw [f6.2.2.2 j, if_pos (by omega)]; rfl, kp3.put p6 (Nat.le_refl _)⟩, by rw [p6.2.2, bh3, hh0]; simp⟩, fun fs hl => c8.trans (X8.areturnOut hexec rfl hret rfl (hb hbytes d58) hl)⟩
end Cmp3
namespace CodL
def yN : MethodName := ⟨"java/lang/StringUTF16", "coderFromArrayLen", "([BI)B"⟩
abbrev yB : ByteArray := jdk_52_method_15_code
theorem d0 : decode yB 0 = .ok (.iload_n 1, 1) := by decide +kernel
theorem d1 : decode yB 1 = .ok (.aload_n 0, 1) := by decide +kernel
theorem d2 : decode yB 2 = .ok (.arraylength, 1) := by decide +kernel
theorem d3 : decode yB 3 = .ok (.isub, 1) := by decide +kernel
theorem d4 : decode yB 4 = .ok (.bipush 31, 2) := by decide +kernel
theorem d6 : decode yB 6 = .ok (.iushr, 1) := by decide +kernel
theorem d7 : decode yB 7 = .ok (.i2b, 1) := by decide +kernel
theorem d8 : decode yB 8 = .ok (.ireturn, 1) := by decide +kernel
def site : List Cond := []
def tab : Cond := tabOf yN yB 2 (some .byte) site
def P (d : Addr) (B : Cell) (args : Array Value) (s : State) : Prop := args = #[.ref d, .int (Int32.ofNat B.slots.size)] ∧ Arr .byte d B s
def E (r : Option Value) (s u : State) : Prop := XT.PureE (some (.int 0)) r s u
/-- an array as long as the number of chars: LATIN1 -/
theorem law (l : Launch) (d : Addr) (B : Cell) : Law l yN 2 2 0 0 yB 2 (some .byte) site (P d B) E [] 0 0 := by
  refine Law.of_walk (plainFor_of_name (by decide +kernel)) (by decide +kernel) (by decide +kernel) (by decide) (fun _ _ h => by rw [h.1]; rfl) (fun _ U U' hal hh h => ⟨h.1, h.2.mv hal hh⟩) (fun r U U' V V' h1 hal h2 h => XT.PureE.mv r U U' V V' h1 hal h2 h) ?_
  intro p e s m args below meth c s₁ X0 hexec hbytes hml hret hlk hnm hown hh0 W hP
  obtain ⟨rfl, hB⟩ := hP
  have hB0 := hB.mv X0.warmed.alike hh0
  have c1 : Steps p.tables e below (s₁.setTop (entryFrame m #[.ref d, .int (Int32.ofNat B.slots.size)] 2)) (s₁.setTop (mkF m 0 #[.val (.ref d), .val (.int (Int32.ofNat B.slots.size))] [])) := entry rfl
  have c2 : Steps p.tables e below (s₁.setTop (entryFrame m #[.ref d, .int (Int32.ofNat B.slots.size)] 2)) (s₁.setTop (mkF m 2 #[.val (.ref d), .val (.int (Int32.ofNat B.slots.size))] [.ref d, .int (Int32.ofNat B.slots.size)])) := c1.trans (by
    refine XS.iloadN X0.here hexec rfl (hb hbytes d0) rfl ?_
    refine XS.aloadN X0.here hexec rfl (hb hbytes d1) rfl rfl ?_
    exact Steps.refl _)
  have c3 : Steps p.tables e below (s₁.setTop (entryFrame m #[.ref d, .int (Int32.ofNat B.slots.size)] 2)) (s₁.setTop (mkF m 8 #[.val (.ref d), .val (.int (Int32.ofNat B.slots.size))] [.int (lo8 (ushr (Int32.ofNat B.slots.size - Int32.ofNat B.slots.size) 31))])) := c2.trans (by
    refine X0.alen hexec hB0 rfl rfl (hb hbytes d2) ?_
    refine XS.isub X0.here hexec rfl (hb hbytes d3) rfl ?_
    refine bipushV X0.here hexec rfl 31 (hb hbytes d4) (by decide) ?_
    refine iushr X0.here hexec rfl (hb hbytes d6) rfl ?_
    refine i2b X0.here hexec rfl (hb hbytes d7) rfl ?_
    exact Steps.refl _)
  have e0 : lo8 (ushr (Int32.ofNat B.slots.size - Int32.ofNat B.slots.size) 31) = 0 := by rw [Int32.sub_self]; decide
  rw [e0] at c3
  exact ⟨s₁, some (.int 0), _, _, _, X0, rfl, rfl, rfl, (fun h => by cases h), ⟨rfl, hh0⟩, fun fs hl => c3.trans (X0.ireturnOut hexec hret rfl (Or.inr (Or.inr (Or.inl rfl))) (hb hbytes d8) hl)⟩
end CodL
/-- the String at a is Latin-1 over a new byte[] (the heap's one new cell): the low bytes of the len chars of A from o on; every cell but a is kept -/
def Got (a : Addr) (D : Cell) (fV fC : Field) (A : Cell) (o len : Nat) (r : Option Value) (s u : State) : Prop := r = none ∧ ∃ D' V : Cell, Blank "java/lang/String" a D' u ∧ Same D D' [fV.slot, fC.slot] ∧ D'.slots[fV.slot]? = some (.ref s.heap.size) ∧ D'.slots[fC.slot]? = some (.int 0) ∧ Arr .byte s.heap.size V u ∧ V.vm = .none ∧ u.vm.findClass "[B" = some V.cls ∧ V.slots.size = len ∧ (∀ j, j < len → V.slots[j]? = some (.int (lo8 (cv A (o + j))))) ∧ (∀ (y : Addr) (c : Cell), y ≠ a → s.heap[y]? = some c → u.heap[y]? = some c) ∧ u.heap.size = s.heap.size + 1
theorem Got.mv {a : Addr} {D A : Cell} {fV fC : Field} {o len : Nat} : ∀ r (U U' V V' : State), U'.heap = U.heap → V.vm.Alike V'.vm → V'.heap = V.heap → Got a D fV fC A o len r U V → Got a D fV fC A o len r U' V' :=
  fun r U U' V V' h1 hal h2 ⟨e0, D', X, a1, a2, a3, a4, a5, a6, a7, a8, a9, a10, a11⟩ => ⟨e0, D', X, a1.mv hal h2, a2, by rw [h1]; exact a3, a4, by rw [h1]; exact a5.mv hal h2, a6, by rw [hal.findClass]; exact a7, a8, a9, by rw [h1, h2]; exact a10, by rw [h1, h2]; exact a11⟩
namespace New4
def yN : MethodName := ⟨"java/lang/String", "<init>", "([CIILjava/lang/Void;)V"⟩
abbrev yB : ByteArray := jdk_42_method_149_code
theorem d0 : decode yB 0 = .ok (.aload_n 0, 1) := by decide +kernel
theorem d1 : decode yB 1 = .ok (.invokespecial 1, 3) := by decide +kernel
theorem d4 : decode yB 4 = .ok (.iload_n 3, 1) := by decide +kernel
theorem d5 : decode yB 5 = .ok (.ifCond (.ne) 22, 3) := by decide +kernel
theorem d27 : decode yB 27 = .ok (.getstatic 38, 3) := by decide +kernel
theorem d30 : decode yB 30 = .ok (.ifCond (.eq) 28, 3) := by decide +kernel
theorem d33 : decode yB 33 = .ok (.aload_n 1, 1) := by decide +kernel
theorem d34 : decode yB 34 = .ok (.iload_n 2, 1) := by decide +kernel
theorem d35 : decode yB 35 = .ok (.iload_n 3, 1) := by decide +kernel
theorem d36 : decode yB 36 = .ok (.invokestatic 177, 3) := by decide +kernel
theorem d39 : decode yB 39 = .ok (.astore 5, 2) := by decide +kernel
theorem d41 : decode yB 41 = .ok (.aload_n 0, 1) := by decide +kernel
theorem d42 : decode yB 42 = .ok (.aload 5, 2) := by decide +kernel
theorem d44 : decode yB 44 = .ok (.iload_n 3, 1) := by decide +kernel
theorem d45 : decode yB 45 = .ok (.invokestatic 47, 3) := by decide +kernel
theorem d48 : decode yB 48 = .ok (.putfield 15, 3) := by decide +kernel
theorem d51 : decode yB 51 = .ok (.aload_n 0, 1) := by decide +kernel
theorem d52 : decode yB 52 = .ok (.aload 5, 2) := by decide +kernel
theorem d54 : decode yB 54 = .ok (.putfield 9, 3) := by decide +kernel
theorem d57 : decode yB 57 = .ok (.return_, 1) := by decide +kernel
def site : List Cond := [.fieldLink "java/lang/String" 38 "java/lang/String" "COMPACT_STRINGS" "Z", Cmp3.tab, CodL.tab, .laysFinal "java/lang/String" "java/lang/String" "value" "[B", .fieldLink "java/lang/String" 9 "java/lang/String" "value" "[B", .laysFinal "java/lang/String" "java/lang/String" "coder" "B", .fieldLink "java/lang/String" 15 "java/lang/String" "coder" "B"] ++ objW "java/lang/String" 1 ++ staticW "java/lang/String" 177 Cmp3.yN ++ staticW "java/lang/String" 47 CodL.yN
def tab : Cond := tabOf yN yB 6 none site
def P (a : Addr) (D : Cell) (fV fC : Field) (b : Addr) (A : Cell) (z : Int32) (o len : Nat) (args : Array Value) (s : State) : Prop := args = #[.ref a, .ref b, .int (Int32.ofNat o), .int (Int32.ofNat len), .null] ∧ Blank "java/lang/String" a D s ∧ Found "java/lang/String" "value" "[B" fV s ∧ Found "java/lang/String" "coder" "B" fC s ∧ Ch b A s ∧ StaticIs s "java/lang/String" "COMPACT_STRINGS" "Z" (.int z) ∧ ¬ z = 0 ∧ 0 < len ∧ o + len ≤ A.slots.size ∧ len ≤ 536870912 ∧ ∀ i, i < len → ¬ 255 < cv A (o + i)
def E (a : Addr) (D : Cell) (fV fC : Field) (A : Cell) (o len : Nat) (r : Option Value) (s u : State) : Prop := Got a D fV fC A o len r s u
/-- len > 0, no char of the range above 255: a Latin-1 String of their low bytes -/
theorem law (l : Launch) (a : Addr) (D : Cell) (fV fC : Field) (b : Addr) (A : Cell) (z : Int32) (o len : Nat) : Law l yN 5 4 2 35 yB 6 none site (P a D fV fC b A z o len) (E a D fV fC A o len) [⟨a, fC.slot⟩, ⟨a, fV.slot⟩] 1 len := by
  refine Law.of_walk (plainFor_of_name (by decide +kernel)) (by decide +kernel) (by decide +kernel) (by decide) (fun _ _ h => by rw [h.1]; rfl) (fun _ U U' hal hh h => ⟨h.1, h.2.1.mv hal hh, h.2.2.1.al hal, h.2.2.2.1.al hal, h.2.2.2.2.1.mv hal hh, h.2.2.2.2.2.1.there hal hh, h.2.2.2.2.2.2⟩) (fun r U U' V V' h1 hal h2 h => Got.mv r U U' V V' h1 hal h2 h) ?_
  intro p e s m args below meth c s₁ X0 hexec hbytes hml hret hlk hnm hown hh0 W hP
  obtain ⟨rfl, hB, f1, f2, hA, s1, hz, l0, l1, l2, hp⟩ := hP
  have a31 := hA.1.2.2.2
  have c1 : Steps p.tables e below (s₁.setTop (entryFrame m #[.ref a, .ref b, .int (Int32.ofNat o), .int (Int32.ofNat len), .null] 6)) (s₁.setTop (mkF m 0 #[.val (.ref a), .val (.ref b), .val (.int (Int32.ofNat o)), .val (.int (Int32.ofNat len)), .val .null, .unset] [])) := entry rfl
  have c2 : Steps p.tables e below (s₁.setTop (entryFrame m #[.ref a, .ref b, .int (Int32.ofNat o), .int (Int32.ofNat len), .null] 6)) (s₁.setTop (mkF m 1 #[.val (.ref a), .val (.ref b), .val (.int (Int32.ofNat o)), .val (.int (Int32.ofNat len)), .val .null, .unset] [.ref a])) := c1.trans (by
    refine XS.aloadN X0.here hexec rfl (hb hbytes d0) rfl rfl ?_
    exact Steps.refl _)
  obtain ⟨T3, X3, q3, st3⟩ := X0.oinit hexec hown (wks W (objW "java/lang/String" 1)) (g := (mkF m 1 #[.val (.ref a), .val (.ref b), .val (.int (Int32.ofNat o)), .val (.int (Int32.ofNat len)), .val .null, .unset] [.ref a])) rfl (by rw [hml]; rfl) (rest := []) rfl (hb hbytes d1) (W := 0) (by show 2 * 0 + 0 ≤ _; decide) (Nat.le_of_ble_eq_true rfl) (Nat.le_of_ble_eq_true rfl)
  have hh3 := q3.trans hh0
  have c4 : Steps p.tables e below (s₁.setTop (entryFrame m #[.ref a, .ref b, .int (Int32.ofNat o), .int (Int32.ofNat len), .null] 6)) (T3.setTop (mkF m 27 #[.val (.ref a), .val (.ref b), .val (.int (Int32.ofNat o)), .val (.int (Int32.ofNat len)), .val .null, .unset] [])) := (c2.trans (st3 _ (Steps.refl _))).trans (by
    refine XS.iloadN X3.here hexec rfl (hb hbytes d4) rfl ?_
    refine XS.ifYes X3.here hexec rfl (pc0 := 5) rfl (hb hbytes d5) rfl (i0_ne_t (nz32 (by omega) l0)) (by decide) rfl ?_
    exact Steps.refl _)
  obtain ⟨T5, X5, q5, st5⟩ := X3.sget hexec hown (wk W (.fieldLink "java/lang/String" 38 "java/lang/String" "COMPACT_STRINGS" "Z")) s1 (fun _ _ h => by rw [hh3]; exact h) (g := (mkF m 27 #[.val (.ref a), .val (.ref b), .val (.int (Int32.ofNat o)), .val (.int (Int32.ofNat len)), .val .null, .unset] [])) rfl (hb hbytes d27)
  have hh5 := q5.trans hh3
  have c6 : Steps p.tables e below (s₁.setTop (entryFrame m #[.ref a, .ref b, .int (Int32.ofNat o), .int (Int32.ofNat len), .null] 6)) (T5.setTop (mkF m 30 #[.val (.ref a), .val (.ref b), .val (.int (Int32.ofNat o)), .val (.int (Int32.ofNat len)), .val .null, .unset] [.int z])) := c4.trans (st5 _ (Steps.refl _))
  have c7 : Steps p.tables e below (s₁.setTop (entryFrame m #[.ref a, .ref b, .int (Int32.ofNat o), .int (Int32.ofNat len), .null] 6)) (T5.setTop (mkF m 36 #[.val (.ref a), .val (.ref b), .val (.int (Int32.ofNat o)), .val (.int (Int32.ofNat len)), .val .null, .unset] [.int (Int32.ofNat len), .int (Int32.ofNat o), .ref b])) := c6.trans (by
    refine XS.ifNo X5.here hexec rfl (hb hbytes d30) rfl (i0_eq_f hz) ?_
    refine XS.aloadN X5.here hexec rfl (hb hbytes d33) rfl rfl ?_
    refine XS.iloadN X5.here hexec rfl (hb hbytes d34) rfl ?_
    refine XS.iloadN X5.here hexec rfl (hb hbytes d35) rfl ?_
    exact Steps.refl _)
  obtain ⟨v8, T8, X8, E8, g8⟩ := X5.callS hexec (Cmp3.law l b A o len) hown (wks W (staticW "java/lang/String" 177 Cmp3.yN)) (wk W Cmp3.tab) (W := 0) (Nat.le_of_ble_eq_true rfl) (Nat.le_of_ble_eq_true rfl) (Nat.le_refl _) (by show 0 + len ≤ len; omega) (g := (mkF m 36 #[.val (.ref a), .val (.ref b), .val (.int (Int32.ofNat o)), .val (.int (Int32.ofNat len)), .val .null, .unset] [.int (Int32.ofNat len), .int (Int32.ofNat o), .ref b])) rfl (by rw [hml]; rfl) c7 (argsL := [.ref b, .int (Int32.ofNat o), .int (Int32.ofNat len)]) (rest := []) rfl rfl (by show 2 * 0 + 0 ≤ _; decide) (hb hbytes d36) (⟨rfl, hA.mv X5.warmed.alike hh5, l1, l2, hp⟩)
  obtain ⟨e8, z8⟩ := E8
  obtain ⟨rfl, N, n1, n2, n3, n4, n5, n6⟩ := NewArr.mv _ T5 s _ _ hh5.symm (Vm.Alike.refl _) rfl e8
  rw [hh5] at z8
  have hB1 := hB.keep X8.warmed.alike (n6 _ _ hB.1)
  have hne : s.heap.size ≠ a := (Nat.ne_of_lt (Array.getElem?_eq_some_iff.mp hB.1).1).symm
  have c9 : Steps p.tables e below (s₁.setTop (entryFrame m #[.ref a, .ref b, .int (Int32.ofNat o), .int (Int32.ofNat len), .null] 6)) (T8.setTop (mkF m 39 #[.val (.ref a), .val (.ref b), .val (.int (Int32.ofNat o)), .val (.int (Int32.ofNat len)), .val .null, .unset] [.ref s.heap.size])) := g8
  have c10 : Steps p.tables e below (s₁.setTop (entryFrame m #[.ref a, .ref b, .int (Int32.ofNat o), .int (Int32.ofNat len), .null] 6)) (T8.setTop (mkF m 45 #[.val (.ref a), .val (.ref b), .val (.int (Int32.ofNat o)), .val (.int (Int32.ofNat len)), .val .null, .val (.ref s.heap.size)] [.int (Int32.ofNat N.slots.size), .ref s.heap.size, .ref a])) := by
    have hc : Steps p.tables e below (s₁.setTop (entryFrame m #[.ref a, .ref b, .int (Int32.ofNat o), .int (Int32.ofNat len), .null] 6)) (T8.setTop (mkF m 45 #[.val (.ref a), .val (.ref b), .val (.int (Int32.ofNat o)), .val (.int (Int32.ofNat len)), .val .null, .val (.ref s.heap.size)] [.int (Int32.ofNat len), .ref s.heap.size, .ref a])) := c9.trans (by
      refine XS.astore X8.here hexec rfl (hb hbytes d39) rfl rfl rfl ?_
      refine XS.aloadN X8.here hexec rfl (hb hbytes d41) rfl rfl ?_
      refine XS.aload X8.here hexec rfl (hb hbytes d42) rfl rfl ?_
      refine XS.iloadN X8.here hexec rfl (hb hbytes d44) rfl ?_
      exact Steps.refl _)
    rw [n4]; exact hc
  obtain ⟨v11, T11, X11, E11, g11⟩ := X8.callS hexec (CodL.law l s.heap.size N) hown (wks W (staticW "java/lang/String" 47 CodL.yN)) (wk W CodL.tab) (W := 1) (Nat.le_of_ble_eq_true rfl) (Nat.le_of_ble_eq_true rfl) (Nat.le_refl _) (by show 0 + len + 0 ≤ len; omega) (g := (mkF m 45 #[.val (.ref a), .val (.ref b), .val (.int (Int32.ofNat o)), .val (.int (Int32.ofNat len)), .val .null, .val (.ref s.heap.size)] [.int (Int32.ofNat N.slots.size), .ref s.heap.size, .ref a])) rfl (by rw [hml]; rfl) c10 (argsL := [.ref s.heap.size, .int (Int32.ofNat N.slots.size)]) (rest := [.ref a]) rfl rfl (by show 2 * 0 + (1 + 0) ≤ _; decide) (hb hbytes d45) (⟨rfl, n1⟩)
  obtain ⟨rfl, q11⟩ := E11
  have hB11 := hB1.mv (X8.warmed.alike.symm.trans X11.warmed.alike) q11
  have c12 : Steps p.tables e below (s₁.setTop (entryFrame m #[.ref a, .ref b, .int (Int32.ofNat o), .int (Int32.ofNat len), .null] 6)) (T11.setTop (mkF m 48 #[.val (.ref a), .val (.ref b), .val (.int (Int32.ofNat o)), .val (.int (Int32.ofNat len)), .val .null, .val (.ref s.heap.size)] [.int 0, .ref a])) := g11
  obtain ⟨T13, X13, p13, bl13, sl13, st13⟩ := X11.finit hexec hown (wk W (.fieldLink "java/lang/String" 15 "java/lang/String" "coder" "B")) (Or.inr ⟨_, (wk W (.laysFinal "java/lang/String" "java/lang/String" "coder" "B"))⟩) (Or.inl ⟨rfl, hnm⟩) f2 (Or.inl rfl) hB11 (t := .byte) (by decide +kernel) rfl (g := (mkF m 48 #[.val (.ref a), .val (.ref b), .val (.int (Int32.ofNat o)), .val (.int (Int32.ofNat len)), .val .null, .val (.ref s.heap.size)] [.int 0, .ref a])) rfl (rest := []) rfl (hb hbytes d48)
  have c14 : Steps p.tables e below (s₁.setTop (entryFrame m #[.ref a, .ref b, .int (Int32.ofNat o), .int (Int32.ofNat len), .null] 6)) (T13.setTop (mkF m 54 #[.val (.ref a), .val (.ref b), .val (.int (Int32.ofNat o)), .val (.int (Int32.ofNat len)), .val .null, .val (.ref s.heap.size)] [.ref s.heap.size, .ref a])) := (c12.trans (st13 _ (Steps.refl _))).trans (by
    refine XS.aloadN X13.here hexec rfl (hb hbytes d51) rfl rfl ?_
    refine XS.aload X13.here hexec rfl (hb hbytes d52) rfl rfl ?_
    exact Steps.refl _)
  obtain ⟨T15, X15, p15, bl15, sl15, st15⟩ := X13.finit hexec hown (wk W (.fieldLink "java/lang/String" 9 "java/lang/String" "value" "[B")) (Or.inr ⟨_, (wk W (.laysFinal "java/lang/String" "java/lang/String" "value" "[B"))⟩) (Or.inl ⟨rfl, hnm⟩) f1 (Or.inl rfl) bl13 (t := (.array .byte)) (by decide +kernel) rfl (g := (mkF m 54 #[.val (.ref a), .val (.ref b), .val (.int (Int32.ofNat o)), .val (.int (Int32.ofNat len)), .val .null, .val (.ref s.heap.size)] [.ref s.heap.size, .ref a])) rfl (rest := []) rfl (hb hbytes d54)
  have c16 : Steps p.tables e below (s₁.setTop (entryFrame m #[.ref a, .ref b, .int (Int32.ofNat o), .int (Int32.ofNat len), .null] 6)) (T15.setTop (mkF m 57 #[.val (.ref a), .val (.ref b), .val (.int (Int32.ofNat o)), .val (.int (Int32.ofNat len)), .val .null, .val (.ref s.heap.size)] [])) := c14.trans (st15 _ (Steps.refl _))
  have ap := apart (Or.inr ⟨_, (wk W (.laysFinal "java/lang/String" "java/lang/String" "value" "[B"))⟩) (Or.inr ⟨_, (wk W (.laysFinal "java/lang/String" "java/lang/String" "coder" "B"))⟩) f1 f2 (t₁ := .array .byte) (t₂ := .byte) (by decide +kernel) (by decide +kernel) (by decide)
  have al := X8.warmed.alike.symm.trans X15.warmed.alike
  have n7 : T11.heap[s.heap.size]? = some N := by rw [q11]; exact n1.1
  exact ⟨T15, none, _, _, _, X15, by simp, rfl, by omega, (fun _ => rfl), ⟨rfl, _, N, bl15, ((Same.refl D _).set _ (by simp)).set _ (by simp), sl15, (Cell.slots_setSlot_ne _ ap).trans sl13, n1.keep al (p15.other hne (p13.other hne n7)), n2, by rw [al.findClass]; exact n3, n4, n5, fun y c h1 h2 => p15.other h1 (p13.other h1 (by rw [q11]; exact n6 y c h2)), by rw [p15.2.2, p13.2.2, q11]; exact z8⟩, fun fs hl => c16.trans (X15.returnOut hexec hret (hb hbytes d57) hl)⟩
end New4
namespace New1
def yN : MethodName := ⟨"java/lang/String", "<init>", "([C)V"⟩
abbrev yB : ByteArray := jdk_42_method_3_code
theorem d0 : decode yB 0 = .ok (.aload_n 0, 1) := by decide +kernel
theorem d1 : decode yB 1 = .ok (.aload_n 1, 1) := by decide +kernel
theorem d2 : decode yB 2 = .ok (.iconst 0, 1) := by decide +kernel
theorem d3 : decode yB 3 = .ok (.aload_n 1, 1) := by decide +kernel
theorem d4 : decode yB 4 = .ok (.arraylength, 1) := by decide +kernel
theorem d5 : decode yB 5 = .ok (.aconst_null, 1) := by decide +kernel
theorem d6 : decode yB 6 = .ok (.invokespecial 27, 3) := by decide +kernel
theorem d9 : decode yB 9 = .ok (.return_, 1) := by decide +kernel
def site : List Cond := [New4.tab] ++ initW "java/lang/String" 27 New4.yN
def tab : Cond := tabOf yN yB 2 none site
def P (a : Addr) (D : Cell) (fV fC : Field) (b : Addr) (A : Cell) (z : Int32) (args : Array Value) (s : State) : Prop := args = #[.ref a, .ref b] ∧ Blank "java/lang/String" a D s ∧ Found "java/lang/String" "value" "[B" fV s ∧ Found "java/lang/String" "coder" "B" fC s ∧ Ch b A s ∧ StaticIs s "java/lang/String" "COMPACT_STRINGS" "Z" (.int z) ∧ ¬ z = 0 ∧ 0 < A.slots.size ∧ A.slots.size ≤ 536870912 ∧ ∀ i, i < A.slots.size → ¬ 255 < cv A i
def E (a : Addr) (D : Cell) (fV fC : Field) (A : Cell) (r : Option Value) (s u : State) : Prop := Got a D fV fC A 0 A.slots.size r s u
/-- new String(chars), not empty, no char above 255: a Latin-1 String of their low bytes -/
theorem law (l : Launch) (a : Addr) (D : Cell) (fV fC : Field) (b : Addr) (A : Cell) (z : Int32) : Law l yN 2 1 3 52 yB 2 none site (P a D fV fC b A z) (E a D fV fC A) [⟨a, fC.slot⟩, ⟨a, fV.slot⟩] 1 A.slots.size := by
  refine Law.of_walk (plainFor_of_name (by decide +kernel)) (by decide +kernel) (by decide +kernel) (by decide) (fun _ _ h => by rw [h.1]; rfl) (fun _ U U' hal hh h => ⟨h.1, h.2.1.mv hal hh, h.2.2.1.al hal, h.2.2.2.1.al hal, h.2.2.2.2.1.mv hal hh, h.2.2.2.2.2.1.there hal hh, h.2.2.2.2.2.2⟩) (fun r U U' V V' h1 hal h2 h => Got.mv r U U' V V' h1 hal h2 h) ?_
  intro p e s m args below meth c s₁ X0 hexec hbytes hml hret hlk hnm hown hh0 W hP
  obtain ⟨rfl, hB, f1, f2, hA, s1, hz, l0, l2, hp⟩ := hP
  have c1 : Steps p.tables e below (s₁.setTop (entryFrame m #[.ref a, .ref b] 2)) (s₁.setTop (mkF m 0 #[.val (.ref a), .val (.ref b)] [])) := entry rfl
  have c2 : Steps p.tables e below (s₁.setTop (entryFrame m #[.ref a, .ref b] 2)) (s₁.setTop (mkF m 6 #[.val (.ref a), .val (.ref b)] [.null, .int (Int32.ofNat A.slots.size), .int 0, .ref b, .ref a])) := c1.trans (by
    refine XS.aloadN X0.here hexec rfl (hb hbytes d0) rfl rfl ?_
    refine XS.aloadN X0.here hexec rfl (hb hbytes d1) rfl rfl ?_
    refine iconstV X0.here hexec rfl 0 (hb hbytes d2) (by decide) ?_
    refine XS.aloadN X0.here hexec rfl (hb hbytes d3) rfl rfl ?_
    refine X0.alen hexec (hA.1.mv X0.warmed.alike hh0) rfl rfl (hb hbytes d4) ?_
    refine XS.aconstNull X0.here hexec rfl (hb hbytes d5) ?_
    exact Steps.refl _)
  obtain ⟨v3, T3, X3, E3, g3⟩ := X0.callN hexec (New4.law l a D fV fC b A z 0 A.slots.size) rfl hown (wks W (initW "java/lang/String" 27 New4.yN)) (W New4.tab (by simp only [site, List.mem_cons, List.mem_append, true_or, or_true])) (W := 0) (Nat.le_of_ble_eq_true rfl) (Nat.le_of_ble_eq_true rfl) (Nat.le_refl _) (by show 0 + A.slots.size ≤ A.slots.size; omega) (g := (mkF m 6 #[.val (.ref a), .val (.ref b)] [.null, .int (Int32.ofNat A.slots.size), .int (Int32.ofNat 0), .ref b, .ref a])) rfl (by rw [hml]; rfl) c2 (argsL := [.ref b, .int (Int32.ofNat 0), .int (Int32.ofNat A.slots.size), .null]) (rest := []) rfl rfl (by show 2 * 0 + 0 ≤ _; decide) (hb hbytes d6) (⟨rfl, hB.mv X0.warmed.alike hh0, f1.al X0.warmed.alike, f2.al X0.warmed.alike, hA.mv X0.warmed.alike hh0, s1.there X0.warmed.alike hh0, hz, l0, by omega, l2, fun i hi => by rw [Nat.zero_add]; exact hp i hi⟩)
  have e0 := Got.mv _ s₁ s _ _ hh0.symm (Vm.Alike.refl _) rfl E3
  obtain rfl := e0.1
  have c4 : Steps p.tables e below (s₁.setTop (entryFrame m #[.ref a, .ref b] 2)) (T3.setTop (mkF m 9 #[.val (.ref a), .val (.ref b)] [])) := g3
  exact ⟨T3, none, _, _, _, X3, by simp, rfl, by omega, (fun _ => rfl), e0, fun fs hl => c4.trans (X3.returnOut hexec hret (hb hbytes d9) hl)⟩
theorem pays {l : Launch} {R : Room} {p : Program} {e : Env} {below : List Frame} {s : State} {sargs : Array Value} {len W : Nat} (a : Addr) (D : Cell) (fV fC : Field) (b : Addr) (A : Cell) (z : Int32) (htab : tab.before sargs s = true) (hfr : 4 ≤ R.frames) (hlo : W + 65 ≤ R.locals) :
    Back l R p e below s sargs yN len W (fun A₁ a₁ => A₁.cells + 1 ≤ R.cells ∧ A₁.slots + A.slots.size ≤ R.slots ∧ P a D fV fC b A z a₁ A₁.U) (fun A₁ _ v₁ B₁ => E a D fV fC A v₁ A₁.U B₁.U ∧ B₁.locs = A₁.locs ++ [⟨a, fC.slot⟩, ⟨a, fV.slot⟩] ∧ B₁.cells = A₁.cells + 1 ∧ B₁.slots = A₁.slots + A.slots.size) :=
  (law l a D fV fC b A z).pays htab hfr (by omega)
end New1
/-- the byte, read back as charAt reads it, is the char -/
theorem lo8_mask {x : Int32} (h0 : ¬ x < 0) (h1 : ¬ 255 < x) : lo8 x &&& 255 = x := by
  have t : ∀ k : Fin 256, lo8 (Int32.ofNat k.val) &&& 255 = Int32.ofNat k.val := by decide +kernel
  rw [Int32.lt_iff_toInt_lt] at h0 h1
  have e0 : (0 : Int32).toInt = 0 := rfl
  have e1 : (255 : Int32).toInt = 255 := rfl
  obtain ⟨k, hk⟩ : ∃ k : Nat, x.toInt = k := ⟨x.toInt.toNat, by omega⟩
  have hx : x = Int32.ofNat k := Int32.toInt_inj.mp (by rw [hk, Int32.toInt_ofNat_small (by omega)])
  rw [hx]
  exact t ⟨k, by omega⟩
end StrChars
namespace StrChars.Road
open Jvm Sem ClassFile Op Lib Jvm.Stand Jvm.Free Jvm.Free.XT
open Jvm.Lib.Cold (StaticIs)
abbrev ST : String := "java/lang/String"
/-- every table word that New1's law asks, flat -/
abbrev words : List Jvm.Cond := [.code New1.yN New1.yB 2 none, .initialized ST, .methodLink ST 27 New4.yN, .instanceMethod New4.yN,
  .code New4.yN New4.yB 6 none, .fieldLink ST 38 ST "COMPACT_STRINGS" "Z", .laysFinal ST ST "value" "[B", .fieldLink ST 9 ST "value" "[B", .laysFinal ST ST "coder" "B", .fieldLink ST 15 ST "coder" "B",
  .methodLink ST 1 Lib.objectInit, .instanceMethod Lib.objectInit, .code Lib.objectInit ⟨#[0xb1]⟩ 1 none, .methodLink ST 177 Cmp3.yN, .static Cmp3.yN, .methodLink ST 47 CodL.yN, .static CodL.yN,
  .code Cmp3.yN Cmp3.yB 6 (some (.array .byte)), .initialized U16, .arrayClass .byte, .methodLink U16 115 Cmp5.yN, .static Cmp5.yN, .code Cmp5.yN Cmp5.yB 7 (some .int), .code CodL.yN CodL.yB 2 (some .byte)]
theorem tab_of {a : Array Value} {s : State} (h : ∀ w ∈ words, w.before a s = true) : New1.tab.before a s = true := by
  have h5 : Cmp5.tab.before a s = true := unparts (wk h (.code Cmp5.yN Cmp5.yB 7 (some .int))) (wks h (.initialized Cmp5.yN.cls :: Cmp5.site))
  have hc : CodL.tab.before a s = true := unparts (wk h (.code CodL.yN CodL.yB 2 (some .byte))) (wks h (.initialized CodL.yN.cls :: CodL.site))
  have q5 : ∀ w ∈ Cmp5.tab :: words, w.before a s = true := fun w hw => (List.mem_cons.mp hw).elim (fun e => e ▸ h5) (h w)
  have h3 : Cmp3.tab.before a s = true := unparts (wk q5 (.code Cmp3.yN Cmp3.yB 6 (some (.array .byte)))) (wks q5 (.initialized Cmp3.yN.cls :: Cmp3.site))
  have q3 : ∀ w ∈ Cmp3.tab :: CodL.tab :: words, w.before a s = true := fun w hw => (List.mem_cons.mp hw).elim (fun e => e ▸ h3) fun hw => (List.mem_cons.mp hw).elim (fun e => e ▸ hc) (h w)
  have h4 : New4.tab.before a s = true := unparts (wk q3 (.code New4.yN New4.yB 6 none)) (wks q3 (.initialized New4.yN.cls :: New4.site))
  have q4 : ∀ w ∈ New4.tab :: words, w.before a s = true := fun w hw => (List.mem_cons.mp hw).elim (fun e => e ▸ h4) (h w)
  exact unparts (wk q4 (.code New1.yN New1.yB 2 none)) (wks q4 (.initialized New1.yN.cls :: New1.site))
/-- the words ride from the start Z to the walk's own state -/
theorem moved {Z s : State} {a0 args : Array Value} (hZ : Z.Warmed39 s.vm) (hw : ∀ d ∈ words, d.before a0 Z = true) : ∀ d ∈ words, d.before args s = true := fun d hd => by
  have q := hw d hd
  have t : ∀ d ∈ words, d = .arrayClass .byte ∨ (d.onTables && d.keepsFace) = true := by decide +kernel
  rcases t d hd with rfl | t
  · exact RoadKit.mvA hZ q
  · exact RoadKit.mv hZ q t
/-- WHAT COMES BACK, over the tables of the start Z: h the heap at the call, h' behind it -/
def Q (Z : State) (x : Addr) (A : Cell) (h : Heap) (v : Option Value) (h' : Heap) (L : List Loc) : Prop := v = none ∧ (∀ y ∈ L, y.base = x) ∧ RoadKit.Keep h h' [x] ∧ h'.size = h.size + 1 ∧ RoadKit.Exa Z h' x ST ∧ RoadKit.Fld Z h' x ST "value" "[B" (.ref h.size) ∧ RoadKit.Fld Z h' x ST "coder" "B" (.int 0) ∧
  (∃ V : Cell, RoadKit.Arr Z h' h.size V .byte ∧ V.vm = .none ∧ Z.vm.findClass "[B" = some V.cls ∧ V.slots.size = A.slots.size ∧ ∀ j, j < A.slots.size → V.slots[j]? = some (.int (lo8 (cv A j)))) ∧
  ∀ (O n d : String) (w : Value), RoadKit.Fld Z h x O n d w → RoadKit.slotOf Z O n d ≠ RoadKit.slotOf Z ST "value" "[B" → RoadKit.slotOf Z O n d ≠ RoadKit.slotOf Z ST "coder" "B" → RoadKit.Fld Z h' x O n d w
/-- **new String(chars) AT A CALL, IN THE ROAD'S FORM**: for specialBack behind newO: x the fresh String, b the char[] with the cell A -/
theorem back {p : Program} {l : Launch} {e : Env} {R : Room} {s : State} {args : Array Value} {below : List Frame} {len W : Nat} {Z : State} {a0 : Array Value} {h : Heap} (hZ : Z.Warmed39 s.vm) (hw : ∀ d ∈ words, d.before a0 Z = true) {kI : Nat} (wi : (Jvm.Cond.instantiable ST kI).before a0 Z = true)
    {x b : Addr} {A : Cell} {z : Int32} {v0 c0 : Value} (E : RoadKit.Exa Z h x ST) (V : RoadKit.Fld Z h x ST "value" "[B" v0) (C : RoadKit.Fld Z h x ST "coder" "B" c0) (K : RoadKit.Arr Z h b A .char) (hty : Typed .char A) (S : RoadKit.Sta Z h ST "COMPACT_STRINGS" "Z" (.int z)) (hz : ¬ z = 0)
    (l0 : 0 < A.slots.size) (l2 : A.slots.size ≤ 536870912) (hp : ∀ i, i < A.slots.size → ¬ 255 < cv A i) (hfr : 4 ≤ R.frames) (hlo : W + 65 ≤ R.locals) :
    Back l R p e below s args New1.yN len W (fun P a => a = #[.ref x, .ref b] ∧ P.U.heap = h ∧ P.cells + 1 ≤ R.cells ∧ P.slots + A.slots.size ≤ R.slots)
      (fun P _ v B => ∃ L, Q Z x A h v B.U.heap L ∧ B.locs = P.locs ++ L ∧ B.cells = P.cells + 1 ∧ B.slots = P.slots + A.slots.size) := by
  intro m meth c P g ig mk a X hg hsize hdg hW hn hp'
  obtain ⟨rfl, rfl, r1, r2⟩ := hp'
  have al : Z.vm.Alike P.U.vm := hZ.alike.trans X.warmed.alike
  obtain ⟨D, cfV, kV, iV, fV, hD, gV, stV, knV, obV, asV, slV⟩ := id V
  obtain ⟨D', cfC, kC, iC, fC, hD', gC, stC, -, -, asC, slC⟩ := id C
  cases hD.symm.trans hD'
  obtain ⟨D2, kD, e1, e2, e3, e4, e5⟩ := id E
  cases hD.symm.trans e1
  obtain ⟨c2, k2, i1, i2, i3, -⟩ := Cond.instantiable_spec wi
  cases e2.symm.trans i1
  cases e3.symm.trans i2
  obtain ⟨kU, u1, u2⟩ := al.2.2 _ _ e3
  have hB : Blank ST x D P.U := ⟨hD, ⟨knV, fun q hq => by rw [hq] at obV; cases obV⟩, by rw [al.findClass]; exact e2, kU, u1, by rw [u2]; exact i3, by rw [u2]; exact e5 i3⟩
  have F1 : Found ST "value" "[B" fV P.U := ⟨SBG.found_only al ⟨cfV, kV, iV, gV⟩, stV⟩
  have F2 : Found ST "coder" "B" fC P.U := ⟨SBG.found_only al ⟨cfC, kC, iC, gC⟩, stC⟩
  have hA : Ch b A P.U := ⟨⟨K.1, State.isArrayOf_alike al K.2.1, K.2.2, by omega⟩, hty⟩
  have hS : StaticIs P.U ST "COMPACT_STRINGS" "Z" (.int z) := by
    obtain ⟨cfS, iS, kS, fS, st, cS, t1, t2, t3, t4, t5, t6, t7⟩ := S
    exact StaticIs.there (s := { Z with heap := P.U.heap }) ⟨cfS, iS, kS, fS, st, cS, t1, t2, t3, t4, t5, (fun q => by rw [q] at t6; cases t6), t7⟩ al rfl
  obtain ⟨v, B, X', ⟨⟨hv, E', V', q1, q2, q3, q4, q5, q6, q7, q8, q9, q10, q11⟩, hl, hc, hs⟩, st⟩ := New1.pays x D fV fC b A z (tab_of (moved hZ hw)) hfr hlo m meth c P g ig mk _ X hg hsize hdg hW hn ⟨r1, r2, rfl, hB, F1, F2, hA, hS, hz, l0, l2, hp⟩
  have al' : Z.vm.Alike B.U.vm := hZ.alike.trans X'.warmed.alike
  have hsz : E'.slots.size = D.slots.size := by
    obtain ⟨-, -, -, kB, w1, w2, w3⟩ := q1
    obtain ⟨kB', y1, y2⟩ := al'.2.2 _ _ e3
    rw [q2.2.1] at w1
    cases w1.symm.trans y1
    rw [w3, e5 i3, y2]
  refine ⟨v, B, X', ⟨_, ⟨hv, ?_, ⟨by omega, fun y cy hy hn' => q10 y cy (by simpa using hn') hy, fun y cy hy => ?_⟩, q11, ⟨E', _, q1.1, by rw [q2.2.1]; exact e2, by rw [q2.2.1]; exact e3, by rw [q2.1]; exact obV, fun _ => by rw [hsz]; exact e5 i3⟩,
    ⟨E', cfV, kV, iV, fV, q1.1, gV, stV, by rw [q2.1]; exact knV, by rw [q2.1]; exact obV, by rw [q2.2.1]; exact asV, q3⟩, ⟨E', cfC, kC, iC, fC, q1.1, gC, stC, by rw [q2.1]; exact knV, by rw [q2.1]; exact obV, by rw [q2.2.1]; exact asC, q4⟩,
    ⟨V', ⟨q5.1, State.isArrayOf_alike al'.symm q5.2.1, q5.2.2.1⟩, q6, by rw [← al'.findClass]; exact q7, q8, fun j hj => by have := q9 j hj; rwa [Nat.zero_add] at this⟩, fun O n d w F n1 n2 => ?_⟩, hl, hc, hs⟩, st⟩
  · intro y hy
    simp only [List.mem_cons, List.not_mem_nil, or_false] at hy
    rcases hy with rfl | rfl <;> rfl
  · by_cases q : y = x
    · subst q
      cases hD.symm.trans hy
      exact ⟨E', q1.1, q2.2.1, q2.1, hsz⟩
    · exact ⟨cy, q10 y cy q hy, rfl, rfl, rfl⟩
  · obtain ⟨D3, cf, k, i, f, g1, g2, g3, g4, g5, g6, g7⟩ := F
    cases hD.symm.trans g1
    simp only [RoadKit.slotOf, g2, gV, gC, Option.map_some, Option.getD_some] at n1 n2
    exact ⟨E', cf, k, i, f, q1.1, g2, g3, by rw [q2.1]; exact g4, by rw [q2.1]; exact g5, by rw [q2.2.1]; exact g6, by rw [q2.2.2 f.slot (by simp [n1, n2])]; exact g7⟩
end StrChars.Road
namespace StrChars.Road
open Jvm Sem ClassFile Op Lib Jvm.Stand Jvm.Free Jvm.Free.XT
/-- WHAT COMES BACK, the byte[] as a list of values -/
def QA (Z : State) (x : Addr) (zn : Int32) (cs : List Int32) (h : Heap) (v : Option Value) (h' : Heap) (L : List Loc) : Prop := v = none ∧ (∀ y ∈ L, y.base = x) ∧ RoadKit.Keep h h' [x] ∧ h'.size = h.size + 1 ∧ RoadKit.Exa Z h' x ST ∧ RoadKit.Fld Z h' x ST "value" "[B" (.ref h.size) ∧ RoadKit.Fld Z h' x ST "coder" "B" (.int 0) ∧
  (∃ kb, Z.vm.findClass "[B" = some kb ∧ RoadKit.Arv Z h' h.size kb .byte zn (cs.map fun c => .int (lo8 c)) (.int 0)) ∧
  ∀ (O n d : String) (w : Value), RoadKit.Fld Z h x O n d w → RoadKit.slotOf Z O n d ≠ RoadKit.slotOf Z ST "value" "[B" → RoadKit.slotOf Z O n d ≠ RoadKit.slotOf Z ST "coder" "B" → RoadKit.Fld Z h' x O n d w
/-- **new String(chars) AT A CALL, THE ARRAYS AS LISTS**: the char[] at b holds cs, not empty, no char above 255 -/
theorem backArv {p : Program} {l : Launch} {e : Env} {R : Room} {s : State} {args : Array Value} {below : List Frame} {len W : Nat} {Z : State} {a0 : Array Value} {h : Heap} (hZ : Z.Warmed39 s.vm) (hw : ∀ d ∈ words, d.before a0 Z = true) {kI : Nat} (wi : (Jvm.Cond.instantiable ST kI).before a0 Z = true)
    {x b : Addr} {k : ClassId} {zn z : Int32} {cs : List Int32} {dv v0 c0 : Value} (E : RoadKit.Exa Z h x ST) (V : RoadKit.Fld Z h x ST "value" "[B" v0) (C : RoadKit.Fld Z h x ST "coder" "B" c0) (K : RoadKit.Arv Z h b k .char zn (cs.map Value.int) dv) (S : RoadKit.Sta Z h ST "COMPACT_STRINGS" "Z" (.int z)) (hz : ¬ z = 0)
    (hlen : zn.toNatClampNeg = cs.length) (h0 : 0 < cs.length) (hbig : cs.length ≤ 536870912) (hall : ∀ c ∈ cs, ¬ 255 < c) (hfr : 4 ≤ R.frames) (hlo : W + 65 ≤ R.locals) :
    Back l R p e below s args New1.yN len W (fun P a => a = #[.ref x, .ref b] ∧ P.U.heap = h ∧ P.cells + 1 ≤ R.cells ∧ P.slots + cs.length ≤ R.slots)
      (fun P _ v B => ∃ L, QA Z x zn cs h v B.U.heap L ∧ B.locs = P.locs ++ L ∧ B.cells = P.cells + 1 ∧ B.slots = P.slots + cs.length) := by
  obtain ⟨A, K1, K2, K3, K4, K5, K6⟩ := K
  have e : A.slots.size = cs.length := K3.trans hlen
  have hat : ∀ (i : Nat) (hi : i < cs.length), A.slots[i]? = some (.int cs[i]) := fun i hi => by rw [K5 i (by omega)]; simp [List.getD_eq_getElem?_getD, hi]
  have hcv : ∀ (i : Nat) (hi : i < cs.length), cv A i = cs[i] := fun i hi => by unfold cv; rw [hat i hi]
  have hty : Typed .char A := fun i v hv => by
    have hi : i < A.slots.size := (Array.getElem?_eq_some_iff.mp hv).1
    have q := K5 i hi
    rw [hv] at q
    rw [Option.some.inj q]
    exact K6 i hi
  refine Back.mono (back hZ hw wi E V C K1 hty S hz (by omega) (by omega) (fun i hi => by rw [hcv i (by omega)]; exact hall _ (List.getElem_mem _)) hfr hlo) (fun P a hp => ⟨hp.1, hp.2.1, hp.2.2.1, by rw [e]; exact hp.2.2.2⟩) (fun P a v B hp hq => ?_)
  obtain ⟨L, ⟨q1, q2, q3, q4, q5, q6, q7, ⟨V', v1, v2, v3, v4, v5⟩, q9⟩, hl, hc, hs⟩ := hq
  refine ⟨L, ⟨q1, q2, q3, q4, q5, q6, q7, ⟨V'.cls, v3, V', v1, rfl, by rw [v4, e, hlen], K4, fun i hi => ?_, fun i hi => ?_⟩, q9⟩, hl, hc, by rw [hs, e]⟩
  · have hi' : i < cs.length := by omega
    rw [v5 i (by omega), hcv i hi']; simp [List.getD_eq_getElem?_getD, hi']
  · have hi' : i < cs.length := by omega
    simp only [List.getD_eq_getElem?_getD, List.getElem?_map, List.getElem?_eq_getElem hi', Option.map_some, Option.getD_some]
    exact fits_lo8 _
end StrChars.Road
namespace StrChars.Road
open Jvm Sem ClassFile Op Lib Jvm.Stand Jvm.Free Jvm.Free.XT
/-- WHAT COMES BACK, in the writer's own shape -/
def QV (Z : State) (x : Addr) (N : Int32) (bs : List Int32) (h : Heap) (n0 : Nat) (v : Option Value) (h' : Heap) (L : List Loc) : Prop := v = none ∧ RoadKit.Fr n0 L ∧ RoadKit.Keep h h' [x] ∧ RoadKit.Exa Z h' x ST ∧ RoadKit.Fld Z h' x ST "coder" "B" (.int 0) ∧
  ∃ (t : Addr) (kb : ClassId), n0 ≤ t ∧ h.size ≤ t ∧ ¬ t = x ∧ RoadKit.Fld Z h' x ST "value" "[B" (.ref t) ∧ RoadKit.Arv Z h' t kb .byte N (bs.map Value.int) (.int 0)
/-- **new String(chars) AT A CALL, FOR THE WRITER**: a char[] of n known ints, each 0 to 255 -/
theorem backV {p : Program} {l : Launch} {e : Env} {R : Room} {s : State} {args : Array Value} {below : List Frame} {len W : Nat} {Z : State} {a0 : Array Value} {h : Heap} (hZ : Z.Warmed39 s.vm) (hw : ∀ d ∈ words, d.before a0 Z = true) {kI : Nat} (wi : (Jvm.Cond.instantiable ST kI).before a0 Z = true)
    {x b : Addr} {kC : ClassId} {cs bs : List Int32} {d v0 c0 : Value} {z N : Int32} {n n0 : Nat} (hx0 : n0 ≤ x) (hh0 : n0 ≤ h.size) (E : RoadKit.Exa Z h x ST) (V : RoadKit.Fld Z h x ST "value" "[B" v0) (C : RoadKit.Fld Z h x ST "coder" "B" c0) (K : RoadKit.Arv Z h b kC .char N (cs.map Value.int) d) (S : RoadKit.Sta Z h ST "COMPACT_STRINGS" "Z" (.int z)) (hz : ¬ z = 0)
    (hn : cs.length = n) (hN : N = Int32.ofNat n) (l0 : 0 < n) (l2 : n ≤ 4000) (hp : ∀ c ∈ cs, ¬ c < 0 ∧ ¬ (255 : Int32) < c) (hb : bs = cs.map (fun c => c.toInt8.toInt32)) (hfr : 4 ≤ R.frames) (hlo : W + 65 ≤ R.locals) :
    Back l R p e below s args (⟨"java/lang/String", "<init>", "([C)V"⟩ : MethodName) len W (fun P a => a = #[.ref x, .ref b] ∧ P.U.heap = h ∧ P.cells + 1 ≤ R.cells ∧ P.slots + n ≤ R.slots)
      (fun P _ v B => ∃ L, QV Z x N bs h n0 v B.U.heap L ∧ B.locs = P.locs ++ L ∧ B.cells = P.cells + 1 ∧ B.slots = P.slots + n) := by
  subst hn hN hb
  refine Back.mono (backArv hZ hw wi E V C K S hz (n32 (by omega)) l0 (by omega) (fun c hc => (hp c hc).2) hfr hlo) (fun P a hp => hp) (fun P a v B hp hq => ?_)
  obtain ⟨L, ⟨q1, q2, q3, q4, q5, q6, q7, ⟨kb, v1, v2⟩, q9⟩, hl, hc, hs⟩ := hq
  exact ⟨L, ⟨q1, fun y hy => by rw [q2 y hy]; exact hx0, q3, q5, q7, h.size, kb, hh0, Nat.le_refl _, Nat.ne_of_gt E.lt, q6, by rw [List.map_map]; exact v2⟩, hl, hc, hs⟩
end StrChars.Road
namespace StrChars
open Jvm Sem ClassFile Op Lib Jvm.Stand Jvm.Free.XT Jvm.Free.ALB Jvm.Free.JM Jvm.Free
open Jvm.Lib.Cold (StaticIs)
def hi8 (x : Int32) : Int32 := lo8 (x >>> ((8 : Int32) &&& 31))
/-- what StringUTF16.getChar makes of two bytes -/
def pairCh (u v : Int32) : Int32 := (((u &&& 255) <<< ((0 : Int32) &&& 31)) ||| ((v &&& 255) <<< ((8 : Int32) &&& 31))).toUInt32.toUInt16.toUInt32.toInt32
theorem shr0 (c : Int32) : c >>> ((0 : Int32) &&& 31) = c := by
  have e : ((0 : Int32) &&& 31) = 0 := by decide
  rw [e]
  apply Int32.toBitVec_inj.mp
  rw [Int32.toBitVec_shiftRight]
  have e1 : ((0 : Int32).toBitVec.smod 32) = 0#32 := by decide
  rw [e1, BitVec.sshiftRight_eq']
  exact BitVec.sshiftRight_zero
theorem lo8_and (x : Int32) : (lo8 x &&& 255).toBitVec.toNat = x.toBitVec.toNat % 256 := by
  have h : (lo8 x).toBitVec = (x.toBitVec.signExtend 8).signExtend 32 := by rw [lo8, Int8.toBitVec_toInt32, Int32.toBitVec_toInt8]
  rw [Int32.toBitVec_and, BitVec.toNat_and, h]
  have e : ((x.toBitVec.signExtend 8).signExtend 32).toNat % 256 = x.toBitVec.toNat % 256 := by
    rw [BitVec.toNat_signExtend]
    have hlt := x.toBitVec.isLt
    simp only [BitVec.toNat_setWidth, BitVec.toNat_signExtend]
    split <;> split <;> omega
  rw [← e]
  exact Nat.and_two_pow_sub_one_eq_mod _ 8
theorem pair_says {c : Int32} (h0 : ¬ c < 0) (h1 : ¬ 65535 < c) : pairCh (lo8 c) (hi8 c) = c := by
  rw [Int32.lt_iff_toInt_lt] at h0 h1
  have e0 : (0 : Int32).toInt = 0 := rfl
  have e1 : (65535 : Int32).toInt = 65535 := rfl
  have hc : c.toInt = c.toBitVec.toNat := by
    have := c.toBitVec.isLt
    have e : c.toInt = c.toBitVec.toInt := rfl
    rw [e] at h0 h1
    rw [e]
    rw [BitVec.toInt_eq_toNat_cond] at h0 h1 ⊢
    split at h0 <;> split <;> omega
  have hn : c.toBitVec.toNat < 65536 := by omega
  have a1 := lo8_and c
  have a2 : (hi8 c &&& 255).toBitVec.toNat = c.toBitVec.toNat / 256 := by
    rw [hi8, lo8_and]
    have e : ((8 : Int32) &&& 31) = 8 := by decide
    rw [e, Int32.toBitVec_shiftRight]
    have e2 : ((8 : Int32).toBitVec.smod 32) = 8#32 := by decide
    rw [e2, BitVec.sshiftRight_eq', BitVec.toNat_sshiftRight_of_msb_false (by rw [BitVec.msb_eq_false_iff_two_mul_lt]; omega)]
    show c.toBitVec.toNat >>> 8 % 256 = _
    rw [Nat.shiftRight_eq_div_pow]
    omega
  unfold pairCh
  apply Int32.toBitVec_inj.mp
  apply BitVec.eq_of_toNat_eq
  have f0 : ((0 : Int32) &&& 31) = 0 := by decide
  have f8 : ((8 : Int32) &&& 31) = 8 := by decide
  rw [f0, f8]
  have g : (((lo8 c &&& 255) <<< (0 : Int32)) ||| ((hi8 c &&& 255) <<< (8 : Int32))).toBitVec.toNat = c.toBitVec.toNat := by
    rw [Int32.toBitVec_or, Int32.toBitVec_shiftLeft, Int32.toBitVec_shiftLeft]
    have s0 : ((0 : Int32).toBitVec.smod 32) = 0#32 := by decide
    have s8 : ((8 : Int32).toBitVec.smod 32) = 8#32 := by decide
    rw [s0, s8, BitVec.toNat_or]
    simp only [BitVec.shiftLeft_eq', BitVec.toNat_shiftLeft, a1, a2]
    show (c.toBitVec.toNat % 256) <<< 0 % 2 ^ 32 ||| (c.toBitVec.toNat / 256) <<< 8 % 2 ^ 32 = _
    rw [Nat.shiftLeft_zero, Nat.mod_eq_of_lt (show c.toBitVec.toNat % 256 < 2 ^ 32 by omega), Nat.mod_eq_of_lt (show (c.toBitVec.toNat / 256) <<< 8 < 2 ^ 32 by rw [Nat.shiftLeft_eq]; omega), Nat.or_comm, ← Nat.shiftLeft_add_eq_or_of_lt (by omega), Nat.shiftLeft_eq]
    omega
  show BitVec.toNat (((((lo8 c &&& 255) <<< (0 : Int32)) ||| ((hi8 c &&& 255) <<< (8 : Int32))).toBitVec.setWidth 16).setWidth 32) = _
  rw [BitVec.toNat_setWidth, BitVec.toNat_setWidth, g]
  omega
end StrChars
namespace StrChars
open Jvm Sem ClassFile Op Lib Jvm.Stand Jvm.Free.XT Jvm.Free.ALB Jvm.Free.JM Jvm.Free
open Jvm.Lib.Cold (StaticIs)
theorem shr1 {n : Nat} (h : 2 * n < 2 ^ 31) : Int32.ofNat (2 * n) >>> ((1 : Int32) &&& 31) = Int32.ofNat n := by
  have e : ((1 : Int32) &&& 31) = 1 := by decide
  rw [e]
  apply Int32.toBitVec_inj.mp
  rw [Int32.toBitVec_shiftRight]
  have e1 : ((1 : Int32).toBitVec.smod 32) = 1#32 := by decide
  have hm : (BitVec.ofNat 32 (2 * n)).toNat = 2 * n := by rw [BitVec.toNat_ofNat, Nat.mod_eq_of_lt (by omega)]
  rw [e1, BitVec.sshiftRight_eq']
  apply BitVec.eq_of_toNat_eq
  show ((BitVec.ofNat 32 (2 * n)).sshiftRight 1).toNat = (BitVec.ofNat 32 n).toNat
  rw [BitVec.toNat_sshiftRight_of_msb_false (by rw [BitVec.msb_eq_false_iff_two_mul_lt, hm]; omega), hm, BitVec.toNat_ofNat, Nat.shiftRight_eq_div_pow]
  omega
/-- charAt's cast of a byte read back -/
def chr8 (u : Int32) : Int32 := (u &&& 255).toUInt32.toUInt16.toUInt32.toInt32
theorem chr8_lo8 {c : Int32} (h0 : ¬ c < 0) (h1 : ¬ 255 < c) : chr8 (lo8 c) = c := by
  have t : ∀ k : Fin 256, (Int32.ofNat k.val).toUInt32.toUInt16.toUInt32.toInt32 = Int32.ofNat k.val := by decide +kernel
  unfold chr8
  rw [lo8_mask h0 h1]
  rw [Int32.lt_iff_toInt_lt] at h0 h1
  have e0 : (0 : Int32).toInt = 0 := rfl
  have e1 : (255 : Int32).toInt = 255 := rfl
  obtain ⟨k, hk⟩ : ∃ k : Nat, c.toInt = k := ⟨c.toInt.toNat, by omega⟩
  have hx : c = Int32.ofNat k := Int32.toInt_inj.mp (by rw [hk, Int32.toInt_ofNat_small (by omega)])
  rw [hx]
  exact t ⟨k, by omega⟩
theorem narrow_ch {c : Int32} (h0 : ¬ c < 0) (h1 : ¬ 65535 < c) : narrow .char (.int c) = .int c := by
  have q : narrow .char (.int (pairCh (lo8 c) (hi8 c))) = .int (pairCh (lo8 c) (hi8 c)) := narrow_c _
  rwa [pair_says h0 h1] at q
/-- the array's cell V codes the n chars f 0 .. f (n - 1) by the coder cd, as the JDK does: coder 1 just where some char is above 255 -/
def Cod (cd : Int32) (n : Nat) (f : Nat → Int32) (V : Cell) : Prop := (cd = 0 ∧ V.slots.size = n ∧ ∀ j, j < n → V.slots[j]? = some (.int (lo8 (f j))) ∧ ¬ 255 < f j) ∨ (cd = 1 ∧ V.slots.size = 2 * n ∧ (∀ j, j < n → V.slots[2 * j]? = some (.int (lo8 (f j))) ∧ V.slots[2 * j + 1]? = some (.int (hi8 (f j)))) ∧ ∃ j, j < n ∧ 255 < f j)
theorem Cod.cd {cd : Int32} {n : Nat} {f : Nat → Int32} {V : Cell} (h : Cod cd n f V) : cd = 0 ∨ cd = 1 := h.imp (fun q => q.1) fun q => q.1
theorem Cod.len {cd : Int32} {n : Nat} {f : Nat → Int32} {V : Cell} (h : Cod cd n f V) (hs : V.slots.size < 2 ^ 31) : Int32.ofNat V.slots.size >>> (cd &&& 31) = Int32.ofNat n := by
  rcases h with ⟨rfl, h, -⟩ | ⟨rfl, h, -⟩
  · rw [shr0, h]
  · rw [h, shr1 (by omega)]
/-- **x is a String of the n chars f 0 .. f (n - 1)**, Latin-1 or UTF-16; its array at t has the cell V -/
def Txt (x t : Addr) (V : Cell) (cd : Int32) (n : Nat) (f : Nat → Int32) (U : State) : Prop := Exact "java/lang/String" x U ∧ Has x "java/lang/String" "value" "[B" (.ref t) U ∧ Has x "java/lang/String" "coder" "B" (.int cd) U ∧ XT.Arr .byte t V U ∧ Cod cd n f V ∧ ∀ j, j < n → ¬ f j < 0 ∧ ¬ 65535 < f j
theorem Txt.mv {x t : Addr} {V : Cell} {cd : Int32} {n : Nat} {f : Nat → Int32} {U U' : State} (h : Txt x t V cd n f U) (hal : U.vm.Alike U'.vm) (hh : U'.heap = U.heap) : Txt x t V cd n f U' := ⟨h.1.mv hal hh, h.2.1.mv hal hh, h.2.2.1.mv hal hh, h.2.2.2.1.mv hal hh, h.2.2.2.2⟩
namespace Cdr
def yN : MethodName := ⟨"java/lang/String", "coder", "()B"⟩
abbrev yB : ByteArray := jdk_42_method_152_code
theorem d0 : decode yB 0 = .ok (.getstatic 38, 3) := by decide +kernel
theorem d3 : decode yB 3 = .ok (.ifCond (.eq) 10, 3) := by decide +kernel
theorem d6 : decode yB 6 = .ok (.aload_n 0, 1) := by decide +kernel
theorem d7 : decode yB 7 = .ok (.getfield 15, 3) := by decide +kernel
theorem d10 : decode yB 10 = .ok (.goto 4, 3) := by decide +kernel
theorem d14 : decode yB 14 = .ok (.ireturn, 1) := by decide +kernel
def site : List Cond := [.fieldLink "java/lang/String" 38 "java/lang/String" "COMPACT_STRINGS" "Z", .fieldLink "java/lang/String" 15 "java/lang/String" "coder" "B"]
def tab : Cond := tabOf yN yB 1 (some .byte) site
def P (x : Addr) (cd z : Int32) (args : Array Value) (s : State) : Prop := args = #[.ref x] ∧ Has x "java/lang/String" "coder" "B" (.int cd) s ∧ (cd = 0 ∨ cd = 1) ∧ StaticIs s "java/lang/String" "COMPACT_STRINGS" "Z" (.int z) ∧ ¬ z = 0
def E (cd : Int32) (r : Option Value) (s u : State) : Prop := XT.PureE (some (.int cd)) r s u
theorem law (l : Launch) (x : Addr) (cd z : Int32) : Law l yN 1 0 0 0 yB 1 (some .byte) site (P x cd z) (E cd) [] 0 0 := by
  refine Law.of_walk (plainFor_of_name (by decide +kernel)) (by decide +kernel) (by decide +kernel) (by decide) (fun _ _ h => by rw [h.1]; rfl) (fun _ U U' hal hh h => ⟨h.1, h.2.1.mv hal hh, h.2.2.1, h.2.2.2.1.there hal hh, h.2.2.2.2⟩) (fun r U U' V V' h1 hal h2 h => XT.PureE.mv r U U' V V' h1 hal h2 h) ?_
  intro p e s m args below meth c s₁ X0 hexec hbytes hml hret hlk hnm hown hh0 W hP
  obtain ⟨rfl, hx, hc, s1, hz⟩ := hP
  have c1 : Steps p.tables e below (s₁.setTop (entryFrame m #[.ref x] 1)) (s₁.setTop (mkF m 0 #[.val (.ref x)] [])) := entry rfl
  obtain ⟨T2, X2, q2, st2⟩ := X0.sget hexec hown (wk W (.fieldLink "java/lang/String" 38 "java/lang/String" "COMPACT_STRINGS" "Z")) s1 (fun _ _ h => by rw [hh0]; exact h) (g := (mkF m 0 #[.val (.ref x)] [])) rfl (hb hbytes d0)
  have hh2 := q2.trans hh0
  have c3 : Steps p.tables e below (s₁.setTop (entryFrame m #[.ref x] 1)) (T2.setTop (mkF m 7 #[.val (.ref x)] [.ref x])) := (c1.trans (st2 _ (Steps.refl _))).trans (by
    refine XS.ifNo X2.here hexec rfl (hb hbytes d3) rfl (i0_eq_f hz) ?_
    refine XS.aloadN X2.here hexec rfl (hb hbytes d6) rfl rfl ?_
    exact Steps.refl _)
  obtain ⟨T4, X4, q4, st4⟩ := X2.hget hexec hown (wk W (.fieldLink "java/lang/String" 15 "java/lang/String" "coder" "B")) (hx.mv X2.warmed.alike hh2) (g := (mkF m 7 #[.val (.ref x)] [.ref x])) rfl (rest := []) rfl (hb hbytes d7)
  have c5 : Steps p.tables e below (s₁.setTop (entryFrame m #[.ref x] 1)) (T4.setTop (mkF m 14 #[.val (.ref x)] [.int cd])) := (c3.trans (st4 _ (Steps.refl _))).trans (by
    refine XS.goto X4.here hexec rfl (pc0 := 10) rfl (hb hbytes d10) (by decide) rfl ?_
    exact Steps.refl _)
  exact ⟨T4, some (.int cd), _, _, _, X4, rfl, rfl, rfl, (fun h => by cases h), ⟨rfl, q4.trans hh2⟩, fun fs hl => c5.trans (X4.ireturnOut hexec hret (by rcases hc with rfl | rfl <;> rfl) (Or.inr (Or.inr (Or.inl rfl))) (hb hbytes d14) hl)⟩
end Cdr
namespace Len
def yN : MethodName := ⟨"java/lang/String", "length", "()I"⟩
abbrev yB : ByteArray := jdk_42_method_54_code
theorem d0 : decode yB 0 = .ok (.aload_n 0, 1) := by decide +kernel
theorem d1 : decode yB 1 = .ok (.getfield 9, 3) := by decide +kernel
theorem d4 : decode yB 4 = .ok (.arraylength, 1) := by decide +kernel
theorem d5 : decode yB 5 = .ok (.aload_n 0, 1) := by decide +kernel
theorem d6 : decode yB 6 = .ok (.invokevirtual 335, 3) := by decide +kernel
theorem d9 : decode yB 9 = .ok (.ishr, 1) := by decide +kernel
theorem d10 : decode yB 10 = .ok (.ireturn, 1) := by decide +kernel
def site : List Cond := [.fieldLink "java/lang/String" 9 "java/lang/String" "value" "[B", Cdr.tab] ++ virtW "java/lang/String" 335 "java/lang/String" Cdr.yN Cdr.yN
def tab : Cond := tabOf yN yB 1 (some .int) site
def P (x t : Addr) (V : Cell) (cd : Int32) (n : Nat) (f : Nat → Int32) (z : Int32) (args : Array Value) (s : State) : Prop := args = #[.ref x] ∧ Txt x t V cd n f s ∧ StaticIs s "java/lang/String" "COMPACT_STRINGS" "Z" (.int z) ∧ ¬ z = 0
def E (n : Nat) (r : Option Value) (s u : State) : Prop := XT.PureE (some (.int (Int32.ofNat n))) r s u
/-- length() of a String of n chars, in either coding -/
theorem law (l : Launch) (x t : Addr) (V : Cell) (cd : Int32) (n : Nat) (f : Nat → Int32) (z : Int32) : Law l yN 1 0 1 13 yB 1 (some .int) site (P x t V cd n f z) (E n) [] 0 0 := by
  refine Law.of_walk (plainFor_of_name (by decide +kernel)) (by decide +kernel) (by decide +kernel) (by decide) (fun _ _ h => by rw [h.1]; rfl) (fun _ U U' hal hh h => ⟨h.1, h.2.1.mv hal hh, h.2.2.1.there hal hh, h.2.2.2⟩) (fun r U U' V V' h1 hal h2 h => XT.PureE.mv r U U' V V' h1 hal h2 h) ?_
  intro p e s m args below meth c s₁ X0 hexec hbytes hml hret hlk hnm hown hh0 W hP
  obtain ⟨rfl, hx, s1, hz⟩ := hP
  have v31 := hx.2.2.2.1.2.2.2
  have c1 : Steps p.tables e below (s₁.setTop (entryFrame m #[.ref x] 1)) (s₁.setTop (mkF m 1 #[.val (.ref x)] [.ref x])) := Steps.trans (entry rfl) (by
    show Steps p.tables e below (s₁.setTop (mkF m 0 #[.val (.ref x)] [])) _
    refine XS.aloadN X0.here hexec rfl (hb hbytes d0) rfl rfl ?_
    exact Steps.refl _)
  obtain ⟨T2, X2, q2, st2⟩ := X0.hget hexec hown (wk W (.fieldLink "java/lang/String" 9 "java/lang/String" "value" "[B")) (hx.mv X0.warmed.alike hh0).2.1 (g := (mkF m 1 #[.val (.ref x)] [.ref x])) rfl (rest := []) rfl (hb hbytes d1)
  have hh2 := q2.trans hh0
  have hx2 := hx.mv X2.warmed.alike hh2
  have c3 : Steps p.tables e below (s₁.setTop (entryFrame m #[.ref x] 1)) (T2.setTop (mkF m 6 #[.val (.ref x)] [.ref x, .int (Int32.ofNat V.slots.size)])) := (c1.trans (st2 _ (Steps.refl _))).trans (by
    refine X2.alen hexec hx2.2.2.2.1 rfl rfl (hb hbytes d4) ?_
    refine XS.aloadN X2.here hexec rfl (hb hbytes d5) rfl rfl ?_
    exact Steps.refl _)
  obtain ⟨v4, T4, X4, E4, g4⟩ := X2.callV hexec (Cdr.law l x cd z) hown (wks W (virtW "java/lang/String" 335 "java/lang/String" Cdr.yN Cdr.yN)) rfl (by decide) (wk W Cdr.tab) (W := 1) (Nat.le_of_ble_eq_true rfl) (Nat.le_of_ble_eq_true rfl) (Nat.le_refl _) (Nat.le_refl _) (hx2.1.fc X2.warmed.alike) hx2.1.is (g := (mkF m 6 #[.val (.ref x)] [.ref x, .int (Int32.ofNat V.slots.size)])) rfl (by rw [hml]; rfl) c3 (argsL := []) (rest := [.int (Int32.ofNat V.slots.size)]) rfl rfl (by show 2 * 0 + (1 + 0) ≤ _; decide) (hb hbytes d6) (⟨rfl, hx2.2.2.1, hx.2.2.2.2.1.cd, s1.there X2.warmed.alike hh2, hz⟩)
  obtain ⟨rfl, q4⟩ := E4
  have c5 : Steps p.tables e below (s₁.setTop (entryFrame m #[.ref x] 1)) (T4.setTop (mkF m 10 #[.val (.ref x)] [.int (Int32.ofNat V.slots.size >>> (cd &&& 31))])) := Steps.trans g4 (by
    refine ishr X4.here hexec rfl (hb hbytes d9) rfl ?_
    exact Steps.refl _)
  rw [hx.2.2.2.2.1.len v31] at c5
  exact ⟨T4, some (.int (Int32.ofNat n)), _, _, _, X4, rfl, rfl, rfl, (fun h => by cases h), ⟨rfl, q4.trans hh2⟩, fun fs hl => c5.trans (X4.ireturnOut hexec hret rfl (Or.inl rfl) (hb hbytes d10) hl)⟩
theorem pays {l : Launch} {R : Room} {p : Program} {e : Env} {below : List Frame} {s : State} {sargs : Array Value} {len W : Nat} (x t : Addr) (V : Cell) (cd : Int32) (n : Nat) (f : Nat → Int32) (z : Int32) (htab : tab.before sargs s = true) (hfr : 2 ≤ R.frames) (hlo : W + 25 ≤ R.locals) :
    Back l R p e below s sargs yN len W (fun A₁ a₁ => A₁.cells + 0 ≤ R.cells ∧ A₁.slots + 0 ≤ R.slots ∧ P x t V cd n f z a₁ A₁.U) (fun A₁ _ v₁ B₁ => E n v₁ A₁.U B₁.U ∧ B₁.locs = A₁.locs ++ [] ∧ B₁.cells = A₁.cells + 0 ∧ B₁.slots = A₁.slots + 0) :=
  (law l x t V cd n f z).pays htab hfr (by omega)
end Len
namespace IsL
def yN : MethodName := ⟨"java/lang/String", "isLatin1", "()Z"⟩
abbrev yB : ByteArray := jdk_42_method_154_code
theorem d0 : decode yB 0 = .ok (.getstatic 38, 3) := by decide +kernel
theorem d3 : decode yB 3 = .ok (.ifCond (.eq) 14, 3) := by decide +kernel
theorem d6 : decode yB 6 = .ok (.aload_n 0, 1) := by decide +kernel
theorem d7 : decode yB 7 = .ok (.getfield 15, 3) := by decide +kernel
theorem d10 : decode yB 10 = .ok (.ifCond (.ne) 7, 3) := by decide +kernel
theorem d13 : decode yB 13 = .ok (.iconst 1, 1) := by decide +kernel
theorem d14 : decode yB 14 = .ok (.goto 4, 3) := by decide +kernel
theorem d17 : decode yB 17 = .ok (.iconst 0, 1) := by decide +kernel
theorem d18 : decode yB 18 = .ok (.ireturn, 1) := by decide +kernel
def site : List Cond := [.fieldLink "java/lang/String" 38 "java/lang/String" "COMPACT_STRINGS" "Z", .fieldLink "java/lang/String" 15 "java/lang/String" "coder" "B"]
def tab : Cond := tabOf yN yB 1 (some .boolean) site
def P (x : Addr) (cd z : Int32) (args : Array Value) (s : State) : Prop := args = #[.ref x] ∧ Has x "java/lang/String" "coder" "B" (.int cd) s ∧ (cd = 0 ∨ cd = 1) ∧ StaticIs s "java/lang/String" "COMPACT_STRINGS" "Z" (.int z) ∧ ¬ z = 0
def E (cd : Int32) (r : Option Value) (s u : State) : Prop := XT.PureE (some (.int (1 - cd))) r s u
theorem law (l : Launch) (x : Addr) (cd z : Int32) : Law l yN 1 0 0 0 yB 1 (some .boolean) site (P x cd z) (E cd) [] 0 0 := by
  refine Law.of_walk (plainFor_of_name (by decide +kernel)) (by decide +kernel) (by decide +kernel) (by decide) (fun _ _ h => by rw [h.1]; rfl) (fun _ U U' hal hh h => ⟨h.1, h.2.1.mv hal hh, h.2.2.1, h.2.2.2.1.there hal hh, h.2.2.2.2⟩) (fun r U U' V V' h1 hal h2 h => XT.PureE.mv r U U' V V' h1 hal h2 h) ?_
  intro p e s m args below meth c s₁ X0 hexec hbytes hml hret hlk hnm hown hh0 W hP
  obtain ⟨rfl, hx, hc, s1, hz⟩ := hP
  have c1 : Steps p.tables e below (s₁.setTop (entryFrame m #[.ref x] 1)) (s₁.setTop (mkF m 0 #[.val (.ref x)] [])) := entry rfl
  obtain ⟨T2, X2, q2, st2⟩ := X0.sget hexec hown (wk W (.fieldLink "java/lang/String" 38 "java/lang/String" "COMPACT_STRINGS" "Z")) s1 (fun _ _ h => by rw [hh0]; exact h) (g := (mkF m 0 #[.val (.ref x)] [])) rfl (hb hbytes d0)
  have hh2 := q2.trans hh0
  have c3 : Steps p.tables e below (s₁.setTop (entryFrame m #[.ref x] 1)) (T2.setTop (mkF m 7 #[.val (.ref x)] [.ref x])) := (c1.trans (st2 _ (Steps.refl _))).trans (by
    refine XS.ifNo X2.here hexec rfl (hb hbytes d3) rfl (i0_eq_f hz) ?_
    refine XS.aloadN X2.here hexec rfl (hb hbytes d6) rfl rfl ?_
    exact Steps.refl _)
  obtain ⟨T4, X4, q4, st4⟩ := X2.hget hexec hown (wk W (.fieldLink "java/lang/String" 15 "java/lang/String" "coder" "B")) (hx.mv X2.warmed.alike hh2) (g := (mkF m 7 #[.val (.ref x)] [.ref x])) rfl (rest := []) rfl (hb hbytes d7)
  have c5 : Steps p.tables e below (s₁.setTop (entryFrame m #[.ref x] 1)) (T4.setTop (mkF m 10 #[.val (.ref x)] [.int cd])) := c3.trans (st4 _ (Steps.refl _))
  have c6 : Steps p.tables e below (s₁.setTop (entryFrame m #[.ref x] 1)) (T4.setTop (mkF m 18 #[.val (.ref x)] [.int (1 - cd)])) := by
    rcases hc with rfl | rfl
    · exact c5.trans (by
        refine XS.ifNo X4.here hexec rfl (hb hbytes d10) rfl (i0_ne_f rfl) ?_
        refine iconstV X4.here hexec rfl 1 (hb hbytes d13) (by decide) ?_
        refine XS.goto X4.here hexec rfl (pc0 := 14) rfl (hb hbytes d14) (by decide) rfl ?_
        exact Steps.refl _)
    · exact c5.trans (by
        refine XS.ifYes X4.here hexec rfl (pc0 := 10) rfl (hb hbytes d10) rfl (i0_ne_t (by decide)) (by decide) rfl ?_
        refine iconstV X4.here hexec rfl 0 (hb hbytes d17) (by decide) ?_
        exact Steps.refl _)
  exact ⟨T4, some (.int (1 - cd)), _, _, _, X4, rfl, rfl, rfl, (fun h => by cases h), ⟨rfl, q4.trans hh2⟩, fun fs hl => c6.trans (X4.ireturnOut hexec hret (by rcases hc with rfl | rfl <;> rfl) (Or.inr (Or.inl rfl)) (hb hbytes d18) hl)⟩
end IsL
namespace LChA
def yN : MethodName := ⟨"java/lang/StringLatin1", "charAt", "([BI)C"⟩
abbrev yB : ByteArray := jdk_43_method_2_code
theorem d0 : decode yB 0 = .ok (.iload_n 1, 1) := by decide +kernel
theorem d1 : decode yB 1 = .ok (.aload_n 0, 1) := by decide +kernel
theorem d2 : decode yB 2 = .ok (.arraylength, 1) := by decide +kernel
theorem d3 : decode yB 3 = .ok (.invokestatic 9, 3) := by decide +kernel
theorem d6 : decode yB 6 = .ok (.aload_n 0, 1) := by decide +kernel
theorem d7 : decode yB 7 = .ok (.iload_n 1, 1) := by decide +kernel
theorem d8 : decode yB 8 = .ok (.baload, 1) := by decide +kernel
theorem d9 : decode yB 9 = .ok (.sipush 255, 3) := by decide +kernel
theorem d12 : decode yB 12 = .ok (.iand, 1) := by decide +kernel
theorem d13 : decode yB 13 = .ok (.i2c, 1) := by decide +kernel
theorem d14 : decode yB 14 = .ok (.ireturn, 1) := by decide +kernel
def site : List Cond := [JO.Str_checkIndex.tab] ++ staticW "java/lang/StringLatin1" 9 JO.Str_checkIndex.yN
def tab : Cond := tabOf yN yB 2 (some .char) site
def P (t : Addr) (V : Cell) (i : Nat) (u : Int32) (fm : Value) (args : Array Value) (s : State) : Prop := args = #[.ref t, .int (Int32.ofNat i)] ∧ XT.Arr .byte t V s ∧ V.slots[i]? = some (.int u) ∧ (StaticIs s "jdk/internal/util/Preconditions" "SIOOBE_FORMATTER" "Ljava/util/function/BiFunction;" fm ∧ fm.isRef = true)
def E (u : Int32) (r : Option Value) (s w : State) : Prop := XT.PureE (some (.int (chr8 u))) r s w
theorem law (l : Launch) (t : Addr) (V : Cell) (i : Nat) (u : Int32) (fm : Value) : Law l yN 2 2 2 27 yB 2 (some .char) site (P t V i u fm) (E u) [] 0 0 := by
  refine Law.of_walk (plainFor_of_name (by decide +kernel)) (by decide +kernel) (by decide +kernel) (by decide) (fun _ _ h => by rw [h.1]; rfl) (fun _ U U' hal hh h => ⟨h.1, h.2.1.mv hal hh, h.2.2.1, h.2.2.2.1.there hal hh, h.2.2.2.2⟩) (fun r U U' V V' h1 hal h2 h => XT.PureE.mv r U U' V V' h1 hal h2 h) ?_
  intro p e s m args below meth c s₁ X0 hexec hbytes hml hret hlk hnm hown hh0 W hP
  obtain ⟨rfl, hV, hu, s1, rf⟩ := hP
  have v31 := hV.2.2.2
  have hi : i < V.slots.size := (Array.getElem?_eq_some_iff.mp hu).1
  have c1 : Steps p.tables e below (s₁.setTop (entryFrame m #[.ref t, .int (Int32.ofNat i)] 2)) (s₁.setTop (mkF m 0 #[.val (.ref t), .val (.int (Int32.ofNat i))] [])) := entry rfl
  have c2 : Steps p.tables e below (s₁.setTop (entryFrame m #[.ref t, .int (Int32.ofNat i)] 2)) (s₁.setTop (mkF m 3 #[.val (.ref t), .val (.int (Int32.ofNat i))] [.int (Int32.ofNat V.slots.size), .int (Int32.ofNat i)])) := c1.trans (by
    refine XS.iloadN X0.here hexec rfl (hb hbytes d0) rfl ?_
    refine XS.aloadN X0.here hexec rfl (hb hbytes d1) rfl rfl ?_
    refine X0.alen hexec (hV.mv X0.warmed.alike hh0) rfl rfl (hb hbytes d2) ?_
    exact Steps.refl _)
  obtain ⟨v3, T3, X3, E3, g3⟩ := X0.callS hexec (JO.Str_checkIndex.law l (Int32.ofNat i) (Int32.ofNat V.slots.size) fm) hown (wks W (staticW "java/lang/StringLatin1" 9 JO.Str_checkIndex.yN)) (wk W JO.Str_checkIndex.tab) (W := 0) (Nat.le_of_ble_eq_true rfl) (Nat.le_of_ble_eq_true rfl) (Nat.le_refl _) (Nat.le_refl _) (g := (mkF m 3 #[.val (.ref t), .val (.int (Int32.ofNat i))] [.int (Int32.ofNat V.slots.size), .int (Int32.ofNat i)])) rfl (by rw [hml]; rfl) c2 (argsL := [.int (Int32.ofNat i), .int (Int32.ofNat V.slots.size)]) (rest := []) rfl rfl (by show 2 * 0 + 0 ≤ _; decide) (hb hbytes d3) (⟨rfl, rf, s1.there X0.warmed.alike hh0, Int32.ofNat_not_neg (by omega), lt32 v31 hi⟩)
  obtain ⟨rfl, q3⟩ := E3
  have hh3 := q3.trans hh0
  have c4 : Steps p.tables e below (s₁.setTop (entryFrame m #[.ref t, .int (Int32.ofNat i)] 2)) (T3.setTop (mkF m 14 #[.val (.ref t), .val (.int (Int32.ofNat i))] [.int (chr8 u)])) := Steps.trans g3 (by
    refine XS.aloadN X3.here hexec rfl (hb hbytes d6) rfl rfl ?_
    refine XS.iloadN X3.here hexec rfl (hb hbytes d7) rfl ?_
    refine X3.aget hexec (hV.mv X3.warmed.alike hh3) rfl hu rfl rfl (hb hbytes d8) ?_
    refine sipushV X3.here hexec rfl 255 (hb hbytes d9) (by decide) ?_
    refine XS.iand X3.here hexec rfl (hb hbytes d12) rfl ?_
    refine i2c X3.here hexec rfl (hb hbytes d13) rfl ?_
    exact Steps.refl _)
  exact ⟨T3, some (.int (chr8 u)), _, _, _, X3, rfl, rfl, rfl, (fun h => by cases h), ⟨rfl, hh3⟩, fun fs hl => c4.trans (X3.ireturnOut hexec hret (narrow_c _) (Or.inr (Or.inr (Or.inr (Or.inl rfl)))) (hb hbytes d14) hl)⟩
end LChA
end StrChars
namespace StrChars.Road
open Jvm Sem ClassFile Op Lib Jvm.Stand Jvm.Free Jvm.Free.XT
open Jvm.Lib.Cold (StaticIs)
theorem consq {a : Array Value} {s : State} {c : Jvm.Cond} {L : List Jvm.Cond} (h0 : c.before a s = true) (h : ∀ w ∈ L, w.before a s = true) : ∀ w ∈ c :: L, w.before a s = true := fun w hw => (List.mem_cons.mp hw).elim (fun e => e ▸ h0) (h w)
/-- the words of String.length(), either coding -/
abbrev wordsLen : List Jvm.Cond := [.code Len.yN Len.yB 1 (some .int), .initialized ST, .fieldLink ST 9 ST "value" "[B", .fieldLink ST 38 ST "COMPACT_STRINGS" "Z", .fieldLink ST 15 ST "coder" "B", .code Cdr.yN Cdr.yB 1 (some .byte), .methodLink ST 335 Cdr.yN, .declares Cdr.yN, .selects ST Cdr.yN Cdr.yN, .instanceMethod Cdr.yN]
theorem tabLen_of {a : Array Value} {s : State} (h : ∀ w ∈ wordsLen, w.before a s = true) : Len.tab.before a s = true := by
  have hc : Cdr.tab.before a s = true := unparts (wk h (.code Cdr.yN Cdr.yB 1 (some .byte))) (wks h (.initialized Cdr.yN.cls :: Cdr.site))
  have q := consq hc h
  exact unparts (wk q (.code Len.yN Len.yB 1 (some .int))) (wks q (.initialized Len.yN.cls :: Len.site))
theorem movedLen {Z s : State} {a0 args : Array Value} (hZ : Z.Warmed39 s.vm) (hw : ∀ d ∈ wordsLen, d.before a0 Z = true) : ∀ d ∈ wordsLen, d.before args s = true := fun d hd => by
  have q := hw d hd
  have t : ∀ d ∈ wordsLen, d = .arrayClass .byte ∨ (d.onTables && d.keepsFace) = true := by decide +kernel
  rcases t d hd with rfl | t
  · exact RoadKit.mvA hZ q
  · exact RoadKit.mv hZ q t
/-- the bytes of the chars cs, low before high -/
def wideBytes : List Int32 → List Value
  | [] => []
  | c :: cs => .int (lo8 c) :: .int (hi8 c) :: wideBytes cs
theorem wide_lo (d : Value) : ∀ (cs : List Int32) (j : Nat), j < cs.length → (wideBytes cs).getD (2 * j) d = .int (lo8 (cs.getD j 0))
  | [], j, h => absurd h (Nat.not_lt_zero j)
  | c :: cs, 0, _ => rfl
  | c :: cs, j + 1, h => by
    have q := wide_lo d cs j (by simpa using h)
    rw [show 2 * (j + 1) = 2 * j + 1 + 1 from by omega]
    simpa [wideBytes] using q
theorem wide_hi (d : Value) : ∀ (cs : List Int32) (j : Nat), j < cs.length → (wideBytes cs).getD (2 * j + 1) d = .int (hi8 (cs.getD j 0))
  | [], j, h => absurd h (Nat.not_lt_zero j)
  | c :: cs, 0, _ => rfl
  | c :: cs, j + 1, h => by
    have q := wide_hi d cs j (by simpa using h)
    rw [show 2 * (j + 1) + 1 = 2 * j + 1 + 1 + 1 from by omega]
    simpa [wideBytes] using q
theorem low_at (d : Value) (cs : List Int32) (j : Nat) (h : j < cs.length) : (cs.map fun c => Value.int (lo8 c)).getD j d = .int (lo8 (cs.getD j 0)) := by
  simp [List.getD_eq_getElem?_getD, h]
/-- an array of N2 bytes vs codes the chars cs by the coder cd -/
def CodA (cs : List Int32) (cd N2 : Int32) (vs : List Value) : Prop := (cd = 0 ∧ N2 = Int32.ofNat cs.length ∧ vs = (cs.map fun c => Value.int (lo8 c)) ∧ ∀ c ∈ cs, ¬ 255 < c) ∨ (cd = 1 ∧ N2 = Int32.ofNat (2 * cs.length) ∧ vs = wideBytes cs ∧ ∃ c ∈ cs, 255 < c)
theorem CodA.cod {cs : List Int32} {cd N2 : Int32} {vs : List Value} {V : Cell} (h : CodA cs cd N2 vs) (hn : 2 * cs.length < 2 ^ 31) (hs : V.slots.size = N2.toNatClampNeg) (hv : RoadKit.Has V vs (.int 0)) : Cod cd cs.length (fun j => cs.getD j 0) V := by
  rcases h with ⟨rfl, rfl, rfl, h⟩ | ⟨rfl, rfl, rfl, c, hc, hw⟩
  · rw [n32 (by omega)] at hs
    exact Or.inl ⟨rfl, hs, fun j hj => ⟨by rw [hv j (by omega), low_at _ _ _ hj], by
      have e : cs.getD j 0 = cs[j] := by simp [List.getD_eq_getElem?_getD, hj]
      show ¬ 255 < cs.getD j 0
      rw [e]; exact h _ (List.getElem_mem _)⟩⟩
  · rw [n32 (by omega)] at hs
    obtain ⟨j, hj, rfl⟩ := List.getElem_of_mem hc
    exact Or.inr ⟨rfl, hs, fun j hj => ⟨by rw [hv _ (by omega), wide_lo _ _ _ hj], by rw [hv _ (by omega), wide_hi _ _ _ hj]⟩, j, hj, by
      have e : cs.getD j 0 = cs[j] := by simp [List.getD_eq_getElem?_getD, hj]
      show 255 < cs.getD j 0
      rw [e]; exact hw⟩
/-- an object of exactly java/lang/String, its two fields found: as the laws ask it -/
theorem strObj {Z U : State} {a0 : Array Value} {kI : Nat} (wi : (Jvm.Cond.instantiable ST kI).before a0 Z = true) (al : Z.vm.Alike U.vm) {x : Addr} {v0 c0 : Value} (E : RoadKit.Exa Z U.heap x ST) (V : RoadKit.Fld Z U.heap x ST "value" "[B" v0) (C : RoadKit.Fld Z U.heap x ST "coder" "B" c0) :
    ∃ (D : Cell) (fV fC : Field), Blank ST x D U ∧ Found ST "value" "[B" fV U ∧ Found ST "coder" "B" fC U ∧ D.slots[fV.slot]? = some v0 ∧ D.slots[fC.slot]? = some c0 ∧ RoadKit.slotOf Z ST "value" "[B" = fV.slot ∧ RoadKit.slotOf Z ST "coder" "B" = fC.slot := by
  obtain ⟨D, cfV, kV, iV, fV, hD, gV, stV, knV, obV, asV, slV⟩ := V
  obtain ⟨D', cfC, kC, iC, fC, hD', gC, stC, -, -, asC, slC⟩ := C
  cases hD.symm.trans hD'
  obtain ⟨D2, kD, e1, e2, e3, e4, e5⟩ := E
  cases hD.symm.trans e1
  obtain ⟨c2, k2, i1, i2, i3, -⟩ := Cond.instantiable_spec wi
  cases e2.symm.trans i1
  cases e3.symm.trans i2
  obtain ⟨kU, u1, u2⟩ := al.2.2 _ _ e3
  exact ⟨D, fV, fC, ⟨hD, ⟨knV, fun q hq => by rw [hq] at obV; cases obV⟩, by rw [al.findClass]; exact e2, kU, u1, by rw [u2]; exact i3, by rw [u2]; exact e5 i3⟩, ⟨SBG.found_only al ⟨cfV, kV, iV, gV⟩, stV⟩, ⟨SBG.found_only al ⟨cfC, kC, iC, gC⟩, stC⟩, slV, slC, by simp [RoadKit.slotOf, gV], by simp [RoadKit.slotOf, gC]⟩
theorem sta_is {Z U : State} (al : Z.vm.Alike U.vm) {C n d : String} {v : Value} (S : RoadKit.Sta Z U.heap C n d v) : StaticIs U C n d v := by
  obtain ⟨cfS, iS, kS, fS, st, cS, t1, t2, t3, t4, t5, t6, t7⟩ := S
  exact StaticIs.there (s := { Z with heap := U.heap }) ⟨cfS, iS, kS, fS, st, cS, t1, t2, t3, t4, t5, (fun q => by rw [q] at t6; cases t6), t7⟩ al rfl
/-- **length() OF SUCH A STRING** -/
theorem lenW {p : Program} {l : Launch} {e : Env} {R : Room} {s : State} {args : Array Value} {below : List Frame} {len W : Nat} {Z : State} {a0 : Array Value} {h : Heap} (hZ : Z.Warmed39 s.vm) (hw : ∀ d ∈ wordsLen, d.before a0 Z = true) {kI : Nat} (wi : (Jvm.Cond.instantiable ST kI).before a0 Z = true)
    {x t : Addr} {kb : ClassId} {cs : List Int32} {cd N2 z : Int32} {vs : List Value} (E : RoadKit.Exa Z h x ST) (V : RoadKit.Fld Z h x ST "value" "[B" (.ref t)) (C : RoadKit.Fld Z h x ST "coder" "B" (.int cd)) (K : RoadKit.Arv Z h t kb .byte N2 vs (.int 0)) (hc : CodA cs cd N2 vs) (hb : ∀ c ∈ cs, ¬ c < 0 ∧ ¬ (65535 : Int32) < c)
    (S : RoadKit.Sta Z h ST "COMPACT_STRINGS" "Z" (.int z)) (hz : ¬ z = 0) (l2 : cs.length ≤ 4000) (hfr : 2 ≤ R.frames) (hlo : W + 25 ≤ R.locals) :
    Back l R p e below s args (⟨"java/lang/String", "length", "()I"⟩ : MethodName) len W (fun P a => a = #[.ref x] ∧ P.U.heap = h ∧ P.cells + 0 ≤ R.cells ∧ P.slots + 0 ≤ R.slots)
      (fun P _ v B => ∃ L, (v = some (.int (Int32.ofNat cs.length)) ∧ L = [] ∧ B.U.heap = h) ∧ B.locs = P.locs ++ L ∧ B.cells = P.cells + 0 ∧ B.slots = P.slots + 0) := by
  obtain ⟨A, K1, K2, K3, K4, K5, K6⟩ := K
  have hcod := hc.cod (by omega) K3 K5
  intro m meth c P g ig mk a X hg hsize hdg hW hn hp'
  obtain ⟨rfl, rfl, r1, r2⟩ := hp'
  have al : Z.vm.Alike P.U.vm := hZ.alike.trans X.warmed.alike
  obtain ⟨D, fV, fC, hB, F1, F2, g1, g2, -, -⟩ := strObj wi al E V C
  have hx : Txt x t A cd cs.length (fun j => cs.getD j 0) P.U := ⟨⟨_, hB.2.2.1, D, hB.1, rfl, by cases q : D.vm <;> first | rfl | exact absurd q (hB.2.1.2 _)⟩, Has.of hB F1 g1, Has.of hB F2 g2, ⟨K1.1, State.isArrayOf_alike al K1.2.1, K1.2.2, by rcases hcod with ⟨-, q, -⟩ | ⟨-, q, -⟩ <;> omega⟩, hcod, fun j hj => by
    have e : cs.getD j 0 = cs[j] := by simp [List.getD_eq_getElem?_getD, hj]
    show ¬ cs.getD j 0 < 0 ∧ ¬ 65535 < cs.getD j 0
    rw [e]; exact hb _ (List.getElem_mem _)⟩
  obtain ⟨v, B, X', ⟨⟨hv, hh⟩, hl, hk, hs⟩, st⟩ := Len.pays x t A cd cs.length (fun j => cs.getD j 0) z (tabLen_of (movedLen hZ hw)) hfr hlo m meth c P g ig mk _ X hg hsize hdg hW hn ⟨r1, r2, rfl, hx, sta_is al S, hz⟩
  exact ⟨v, B, X', ⟨[], ⟨hv, rfl, hh⟩, hl, hk, hs⟩, st⟩
end StrChars.Road
namespace StrChars.Road
open Jvm Sem ClassFile Op Lib Jvm.Stand Jvm.Free Jvm.Free.XT
open Jvm.Lib.Cold (StaticIs)
/-- the road's facts of a String, as the laws ask it -/
theorem txt_of {Z U : State} {a0 : Array Value} {kI : Nat} (wi : (Jvm.Cond.instantiable ST kI).before a0 Z = true) (al : Z.vm.Alike U.vm) {x t : Addr} {kb : ClassId} {cs : List Int32} {cd N2 : Int32} {vs : List Value} (E : RoadKit.Exa Z U.heap x ST) (V : RoadKit.Fld Z U.heap x ST "value" "[B" (.ref t)) (C : RoadKit.Fld Z U.heap x ST "coder" "B" (.int cd)) (K : RoadKit.Arv Z U.heap t kb .byte N2 vs (.int 0)) (hc : CodA cs cd N2 vs) (hb : ∀ c ∈ cs, ¬ c < 0 ∧ ¬ (65535 : Int32) < c) (l2 : cs.length ≤ 4000) :
    ∃ A, Txt x t A cd cs.length (fun j => cs.getD j 0) U := by
  obtain ⟨A, K1, K2, K3, K4, K5, K6⟩ := K
  have hcod := hc.cod (by omega) K3 K5
  obtain ⟨D, fV, fC, hB, F1, F2, g1, g2, -, -⟩ := strObj wi al E V C
  exact ⟨A, ⟨_, hB.2.2.1, D, hB.1, rfl, by cases q : D.vm <;> first | rfl | exact absurd q (hB.2.1.2 _)⟩, Has.of hB F1 g1, Has.of hB F2 g2, ⟨K1.1, State.isArrayOf_alike al K1.2.1, K1.2.2, by rcases hcod with ⟨-, q, -⟩ | ⟨-, q, -⟩ <;> omega⟩, hcod, fun j hj => by
    have e : cs.getD j 0 = cs[j] := by simp [List.getD_eq_getElem?_getD, hj]
    show ¬ cs.getD j 0 < 0 ∧ ¬ 65535 < cs.getD j 0
    rw [e]; exact hb _ (List.getElem_mem _)⟩
end StrChars.Road
namespace StrChars
open Jvm Sem ClassFile Op Lib Jvm.Stand Jvm.Free.XT Jvm.Free.ALB Jvm.Free.JM Jvm.Free
open Jvm.Lib.Cold (StaticIs)
namespace ChN
def yN : MethodName := ⟨"java/lang/String", "charAt", "(I)C"⟩
abbrev yB : ByteArray := jdk_42_method_56_code
theorem d0 : decode yB 0 = .ok (.aload_n 0, 1) := by decide +kernel
theorem d1 : decode yB 1 = .ok (.invokevirtual 492, 3) := by decide +kernel
theorem d4 : decode yB 4 = .ok (.ifCond (.eq) 12, 3) := by decide +kernel
theorem d7 : decode yB 7 = .ok (.aload_n 0, 1) := by decide +kernel
theorem d8 : decode yB 8 = .ok (.getfield 9, 3) := by decide +kernel
theorem d11 : decode yB 11 = .ok (.iload_n 1, 1) := by decide +kernel
theorem d12 : decode yB 12 = .ok (.invokestatic 495, 3) := by decide +kernel
theorem d15 : decode yB 15 = .ok (.ireturn, 1) := by decide +kernel
def site : List Cond := [.fieldLink "java/lang/String" 9 "java/lang/String" "value" "[B", IsL.tab, LChA.tab] ++ virtW "java/lang/String" 492 "java/lang/String" IsL.yN IsL.yN ++ staticW "java/lang/String" 495 LChA.yN
def tab : Cond := tabOf yN yB 2 (some .char) site
def P (x t : Addr) (V : Cell) (n : Nat) (f : Nat → Int32) (z : Int32) (fm : Value) (i : Nat) (args : Array Value) (s : State) : Prop := args = #[.ref x, .int (Int32.ofNat i)] ∧ Txt x t V 0 n f s ∧ i < n ∧ StaticIs s "java/lang/String" "COMPACT_STRINGS" "Z" (.int z) ∧ ¬ z = 0 ∧ StaticIs s "jdk/internal/util/Preconditions" "SIOOBE_FORMATTER" "Ljava/util/function/BiFunction;" fm ∧ fm.isRef = true
def E (f : Nat → Int32) (i : Nat) (r : Option Value) (s u : State) : Prop := XT.PureE (some (.int (f i))) r s u
/-- charAt(i) of a Latin-1 String of n chars, i < n: f i -/
theorem law (l : Launch) (x t : Addr) (V : Cell) (n : Nat) (f : Nat → Int32) (z : Int32) (fm : Value) (i : Nat) : Law l yN 2 1 3 40 yB 2 (some .char) site (P x t V n f z fm i) (E f i) [] 0 0 := by
  refine Law.of_walk (plainFor_of_name (by decide +kernel)) (by decide +kernel) (by decide +kernel) (by decide) (fun _ _ h => by rw [h.1]; rfl) (fun _ U U' hal hh h => ⟨h.1, h.2.1.mv hal hh, h.2.2.1, h.2.2.2.1.there hal hh, h.2.2.2.2.1, h.2.2.2.2.2.1.there hal hh, h.2.2.2.2.2.2⟩) (fun r U U' V V' h1 hal h2 h => XT.PureE.mv r U U' V V' h1 hal h2 h) ?_
  intro p e s m args below meth c s₁ X0 hexec hbytes hml hret hlk hnm hown hh0 W hP
  obtain ⟨rfl, hx, hi, s1, hz, s3, rf⟩ := hP
  have v31 := hx.2.2.2.1.2.2.2
  have hr := hx.2.2.2.2.2 i hi
  have hx0 := hx.mv X0.warmed.alike hh0
  have c1 : Steps p.tables e below (s₁.setTop (entryFrame m #[.ref x, .int (Int32.ofNat i)] 2)) (s₁.setTop (mkF m 1 #[.val (.ref x), .val (.int (Int32.ofNat i))] [.ref x])) := Steps.trans (entry rfl) (by
    show Steps p.tables e below (s₁.setTop (mkF m 0 #[.val (.ref x), .val (.int (Int32.ofNat i))] [])) _
    refine XS.aloadN X0.here hexec rfl (hb hbytes d0) rfl rfl ?_
    exact Steps.refl _)
  obtain ⟨v2, T2, X2, E2, g2⟩ := X0.callV hexec (IsL.law l x 0 z) hown (wks W (virtW "java/lang/String" 492 "java/lang/String" IsL.yN IsL.yN)) rfl (by decide) (wk W IsL.tab) (W := 0) (Nat.le_of_ble_eq_true rfl) (Nat.le_of_ble_eq_true rfl) (Nat.le_refl _) (Nat.le_refl _) (hx0.1.fc X0.warmed.alike) hx0.1.is (g := (mkF m 1 #[.val (.ref x), .val (.int (Int32.ofNat i))] [.ref x])) rfl (by rw [hml]; rfl) c1 (argsL := []) (rest := []) rfl rfl (by show 2 * 0 + 0 ≤ _; decide) (hb hbytes d1) (⟨rfl, hx0.2.2.1, hx.2.2.2.2.1.cd, s1.there X0.warmed.alike hh0, hz⟩)
  obtain ⟨rfl, q2⟩ := E2
  have hh2 := q2.trans hh0
  have hx2 := hx.mv X2.warmed.alike hh2
  obtain ⟨-, k1, k2⟩ | ⟨k0, -⟩ := hx.2.2.2.2.1
  · have c3 : Steps p.tables e below (s₁.setTop (entryFrame m #[.ref x, .int (Int32.ofNat i)] 2)) (T2.setTop (mkF m 8 #[.val (.ref x), .val (.int (Int32.ofNat i))] [.ref x])) := Steps.trans g2 (by
      refine XS.ifNo X2.here hexec rfl (hb hbytes d4) rfl (i0_eq_f (by decide)) ?_
      refine XS.aloadN X2.here hexec rfl (hb hbytes d7) rfl rfl ?_
      exact Steps.refl _)
    obtain ⟨T4, X4, q4, st4⟩ := X2.hget hexec hown (wk W (.fieldLink "java/lang/String" 9 "java/lang/String" "value" "[B")) hx2.2.1 (g := (mkF m 8 #[.val (.ref x), .val (.int (Int32.ofNat i))] [.ref x])) rfl (rest := []) rfl (hb hbytes d8)
    have hh4 := q4.trans hh2
    have c5 : Steps p.tables e below (s₁.setTop (entryFrame m #[.ref x, .int (Int32.ofNat i)] 2)) (T4.setTop (mkF m 12 #[.val (.ref x), .val (.int (Int32.ofNat i))] [.int (Int32.ofNat i), .ref t])) := (c3.trans (st4 _ (Steps.refl _))).trans (by
      refine XS.iloadN X4.here hexec rfl (hb hbytes d11) rfl ?_
      exact Steps.refl _)
    obtain ⟨v6, T6, X6, E6, g6⟩ := X4.callS hexec (LChA.law l t V i (lo8 (f i)) fm) hown (wks W (staticW "java/lang/String" 495 LChA.yN)) (wk W LChA.tab) (W := 0) (Nat.le_of_ble_eq_true rfl) (Nat.le_of_ble_eq_true rfl) (Nat.le_refl _) (Nat.le_refl _) (g := (mkF m 12 #[.val (.ref x), .val (.int (Int32.ofNat i))] [.int (Int32.ofNat i), .ref t])) rfl (by rw [hml]; rfl) c5 (argsL := [.ref t, .int (Int32.ofNat i)]) (rest := []) rfl rfl (by show 2 * 0 + 0 ≤ _; decide) (hb hbytes d12) (⟨rfl, hx.2.2.2.1.mv X4.warmed.alike hh4, (k2 i hi).1, s3.there X4.warmed.alike hh4, rf⟩)
    obtain ⟨rfl, q6⟩ := E6
    rw [chr8_lo8 hr.1 (k2 i hi).2] at g6
    exact ⟨T6, some (.int (f i)), _, _, _, X6, rfl, rfl, rfl, (fun h => by cases h), ⟨rfl, q6.trans hh4⟩, fun fs hl => Steps.trans g6 (X6.ireturnOut hexec hret (narrow_ch hr.1 hr.2) (Or.inr (Or.inr (Or.inr (Or.inl rfl)))) (hb hbytes d15) hl)⟩
  · exact absurd k0 (by decide)
theorem pays {l : Launch} {R : Room} {p : Program} {e : Env} {below : List Frame} {s : State} {sargs : Array Value} {len W : Nat} (x t : Addr) (V : Cell) (n : Nat) (f : Nat → Int32) (z : Int32) (fm : Value) (i : Nat) (htab : tab.before sargs s = true) (hfr : 4 ≤ R.frames) (hlo : W + 53 ≤ R.locals) :
    Back l R p e below s sargs yN len W (fun A₁ a₁ => A₁.cells + 0 ≤ R.cells ∧ A₁.slots + 0 ≤ R.slots ∧ P x t V n f z fm i a₁ A₁.U) (fun A₁ _ v₁ B₁ => E f i v₁ A₁.U B₁.U ∧ B₁.locs = A₁.locs ++ [] ∧ B₁.cells = A₁.cells + 0 ∧ B₁.slots = A₁.slots + 0) :=
  (law l x t V n f z fm i).pays htab hfr (by omega)
end ChN
end StrChars
namespace StrChars.Road
open Jvm Sem ClassFile Op Lib Jvm.Stand Jvm.Free Jvm.Free.XT
open Jvm.Lib.Cold (StaticIs)
/-- the words of String.charAt(int), the Latin-1 road alone -/
abbrev wordsChN : List Jvm.Cond := [.code ChN.yN ChN.yB 2 (some .char), .initialized ST, .fieldLink ST 9 ST "value" "[B", .fieldLink ST 38 ST "COMPACT_STRINGS" "Z", .fieldLink ST 15 ST "coder" "B", .code IsL.yN IsL.yB 1 (some .boolean), .methodLink ST 492 IsL.yN, .declares IsL.yN, .selects ST IsL.yN IsL.yN, .instanceMethod IsL.yN,
  .methodLink ST 495 LChA.yN, .static LChA.yN, .code LChA.yN LChA.yB 2 (some .char), .initialized "java/lang/StringLatin1", .methodLink "java/lang/StringLatin1" 9 JO.Str_checkIndex.yN, .static JO.Str_checkIndex.yN, .code JO.Str_checkIndex.yN JO.Str_checkIndex.yB 2 none,
  .fieldLink ST 1053 "jdk/internal/util/Preconditions" "SIOOBE_FORMATTER" "Ljava/util/function/BiFunction;", .methodLink ST 1059 JC.PreCheck.yN, .static JC.PreCheck.yN, .code JC.PreCheck.yN JC.PreCheck.yB 3 (some .int), .initialized "jdk/internal/util/Preconditions"]
theorem tabChN_of {a : Array Value} {s : State} (h : ∀ w ∈ wordsChN, w.before a s = true) : ChN.tab.before a s = true := by
  have hp : JC.PreCheck.tab.before a s = true := unparts (wk h (.code JC.PreCheck.yN JC.PreCheck.yB 3 (some .int))) (wks h (.initialized JC.PreCheck.yN.cls :: JC.PreCheck.site))
  have qk := consq hp h
  have hk : JO.Str_checkIndex.tab.before a s = true := unparts (wk qk (.code JO.Str_checkIndex.yN JO.Str_checkIndex.yB 2 none)) (wks qk (.initialized JO.Str_checkIndex.yN.cls :: JO.Str_checkIndex.site))
  have ql := consq hk h
  have hl : LChA.tab.before a s = true := unparts (wk ql (.code LChA.yN LChA.yB 2 (some .char))) (wks ql (.initialized LChA.yN.cls :: LChA.site))
  have hi : IsL.tab.before a s = true := unparts (wk h (.code IsL.yN IsL.yB 1 (some .boolean))) (wks h (.initialized IsL.yN.cls :: IsL.site))
  have q := consq hi (consq hl h)
  exact unparts (wk q (.code ChN.yN ChN.yB 2 (some .char))) (wks q (.initialized ChN.yN.cls :: ChN.site))
theorem movedChN {Z s : State} {a0 args : Array Value} (hZ : Z.Warmed39 s.vm) (hw : ∀ d ∈ wordsChN, d.before a0 Z = true) : ∀ d ∈ wordsChN, d.before args s = true := fun d hd => by
  have t : ∀ d ∈ wordsChN, (d.onTables && d.keepsFace) = true := by decide +kernel
  exact RoadKit.mv hZ (hw d hd) (t d hd)
/-- **charAt(i) OF A LATIN-1 STRING**, i < n: the char -/
theorem chN {p : Program} {l : Launch} {e : Env} {R : Room} {s : State} {args : Array Value} {below : List Frame} {len W : Nat} {Z : State} {a0 : Array Value} {h : Heap} (hZ : Z.Warmed39 s.vm) (hw : ∀ d ∈ wordsChN, d.before a0 Z = true) {kI : Nat} (wi : (Jvm.Cond.instantiable ST kI).before a0 Z = true)
    {x t : Addr} {kb : ClassId} {cs : List Int32} {N2 z : Int32} {vs : List Value} {fm : Value} {i : Nat} {j : Int32} (E : RoadKit.Exa Z h x ST) (V : RoadKit.Fld Z h x ST "value" "[B" (.ref t)) (C : RoadKit.Fld Z h x ST "coder" "B" (.int 0)) (K : RoadKit.Arv Z h t kb .byte N2 vs (.int 0)) (hc : CodA cs 0 N2 vs) (hb : ∀ c ∈ cs, ¬ c < 0 ∧ ¬ (65535 : Int32) < c)
    (S : RoadKit.Sta Z h ST "COMPACT_STRINGS" "Z" (.int z)) (hz : ¬ z = 0) (F : RoadKit.Sta Z h "jdk/internal/util/Preconditions" "SIOOBE_FORMATTER" "Ljava/util/function/BiFunction;" fm) (rf : fm.isRef = true) (l2 : cs.length ≤ 4000) (hi : i < cs.length) (hj : j = Int32.ofNat i) (hfr : 4 ≤ R.frames) (hlo : W + 53 ≤ R.locals) :
    Back l R p e below s args (⟨"java/lang/String", "charAt", "(I)C"⟩ : MethodName) len W (fun P a => a = #[.ref x, .int j] ∧ P.U.heap = h ∧ P.cells + 0 ≤ R.cells ∧ P.slots + 0 ≤ R.slots)
      (fun P _ v B => ∃ L, (v = some (.int (cs.getD i 0)) ∧ L = [] ∧ B.U.heap = h) ∧ B.locs = P.locs ++ L ∧ B.cells = P.cells + 0 ∧ B.slots = P.slots + 0) := by
  subst hj
  intro m meth c P g ig mk a X hg hsize hdg hW hn hp'
  obtain ⟨rfl, rfl, r1, r2⟩ := hp'
  have al : Z.vm.Alike P.U.vm := hZ.alike.trans X.warmed.alike
  obtain ⟨A, hx⟩ := txt_of wi al E V C K hc hb l2
  obtain ⟨v, B, X', ⟨⟨hv, hh⟩, hl, hk, hs⟩, st⟩ := ChN.pays x t A cs.length (fun j => cs.getD j 0) z fm i (tabChN_of (movedChN hZ hw)) hfr hlo m meth c P g ig mk _ X hg hsize hdg hW hn ⟨r1, r2, rfl, hx, hi, sta_is al S, hz, sta_is al F, rf⟩
  exact ⟨v, B, X', ⟨[], ⟨hv, rfl, hh⟩, hl, hk, hs⟩, st⟩
/-- what backV says of its String, as the contracts of this text ask it: cs's low bytes, coder 0 -/
theorem codOf {cs : List Int32} {n : Nat} (hn : cs.length = n) (hb : ∀ c ∈ cs, ¬ 255 < c) : CodA cs 0 (Int32.ofNat n) ((cs.map lo8).map Value.int) := Or.inl ⟨rfl, by rw [hn], by simp [List.map_map, Function.comp_def], hb⟩
end StrChars.Road
end Jvm.Pilot.@@N@@
namespace Jvm.Pilot.@@N@@
open Jvm Jvm.ClassFile Sem Op Lib Jvm.Free Jvm.Stand Jvm.LawKit Jvm.RoadKit Bundle Jvm.Pilot.@@N@@.Jvm.D
/-! general: a run that comes to its end with what Q says -/
def own_G (tb : Tables) (e : Env) (below : List Frame) (S : State) (s : State) (C N : Nat) (Q : Option Value → Heap → List Loc → Prop) : Prop :=
  ∃ t o, Steps tb e below S t ∧ t.status = .running ∧ Ended t below o ∧ ∃ v L, o = .returned v ∧ Q v t.heap L ∧ FrameEnd s o t L C N
def own_P (n0 : Nat) (h0 : Heap) (w : Option Value) (v : Option Value) (h : Heap) (L : List Loc) : Prop := v = w ∧ Fr n0 L ∧ h = h0
section Own
variable {tb : Tables} {p : Program} {l : Launch} {e : Env} {R : Room} {s : State} {m : MethodId} {args : Array Value} {below : List Frame} {meth : Method} {c : Code} {T S S' : State} {locs : List Loc} {cells slots C N n0 : Nat} {h0 : Heap} {Q : Option Value → Heap → List Loc → Prop}
theorem own_go (h : ∀ t, Steps tb e below S' t → Steps tb e below S t) (k : own_G tb e below S' s C N Q) : own_G tb e below S s C N Q := by
  obtain ⟨t, o, a, b⟩ := k
  exact ⟨t, o, h t a, b⟩
theorem own_tr (h : Steps tb e below S S') (k : own_G tb e below S' s C N Q) : own_G tb e below S s C N Q := by
  obtain ⟨t, o, a, b⟩ := k
  exact ⟨t, o, h.trans a, b⟩
theorem own_itI {P : Prop} [Decidable P] {A B : Int32} (h : P) (k : own_G tb e below S s C N (own_P n0 h0 (some (.int A)))) : own_G tb e below S s C N (own_P n0 h0 (some (.int (if P then A else B)))) := by rw [if_pos h]; exact k
theorem own_ifI {P : Prop} [Decidable P] {A B : Int32} (h : ¬ P) (k : own_G tb e below S s C N (own_P n0 h0 (some (.int B)))) : own_G tb e below S s C N (own_P n0 h0 (some (.int (if P then A else B)))) := by rw [if_neg h]; exact k
theorem own_itJ {P : Prop} [Decidable P] {A B : Int64} (h : P) (k : own_G tb e below S s C N (own_P n0 h0 (some (.long A)))) : own_G tb e below S s C N (own_P n0 h0 (some (.long (if P then A else B)))) := by rw [if_pos h]; exact k
theorem own_ifJ {P : Prop} [Decidable P] {A B : Int64} (h : ¬ P) (k : own_G tb e below S s C N (own_P n0 h0 (some (.long B)))) : own_G tb e below S s C N (own_P n0 h0 (some (.long (if P then A else B)))) := by rw [if_neg h]; exact k
theorem own_endO {w : Value} {t : FieldType} {i : Instr} (X : Stand p l e R s m args below meth c T locs cells slots) (hx : p.tables.exec = Jvm.exec) (hlk : meth.locks = false) {pc : Nat} {Ls : Array Slot} {rest : List Value} (hret : meth.sig.returnType = some t) (hn : narrow t w = w)
    (hi : (i = .ireturn ∧ (t = .int ∨ t = .boolean ∨ t = .byte ∨ t = .char ∨ t = .short) ∧ ∃ z, w = .int z) ∨ (i = .lreturn ∧ t = .long ∧ ∃ z, w = .long z) ∨ (i = .dreturn ∧ t = .double ∧ ∃ z, w = .double z) ∨ (i = .freturn ∧ t = .float ∧ ∃ z, w = .float z) ∨ (i = .areturn ∧ t.isReference = true ∧ w.isRef = true))
    (hd : decode c.code pc = .ok (i, 1)) (hC : cells ≤ C) (hN : slots ≤ N) (hQ : Q (some w) T.heap locs) : own_G p.tables e below (T.setTop (mkF m pc Ls (w :: rest))) s C N Q := by
  obtain ⟨fs, hr, hrun, hended, hW, hsame⟩ := X.leave (v := some w) (fun h => by rw [hret] at h; cases h) hlk
  exact ⟨_, _, retOut X hx hret hn hi hd hr, hrun, hended, _, _, rfl, hQ, ⟨_, rfl⟩, hW, hsame.mono hC hN⟩
theorem own_endI {z : Int32} (X : Stand p l e R s m args below meth c T locs cells slots) (hx : p.tables.exec = Jvm.exec) (hlk : meth.locks = false) {pc : Nat} {Ls : Array Slot} {rest : List Value} (hret : meth.sig.returnType = some .int)
    (hd : decode c.code pc = .ok (.ireturn, 1)) (hC : cells ≤ C) (hN : slots ≤ N) (hQ : Q (some (.int z)) T.heap locs) : own_G p.tables e below (T.setTop (mkF m pc Ls (.int z :: rest))) s C N Q :=
  own_endO X hx hlk hret rfl (Or.inl ⟨rfl, Or.inl rfl, z, rfl⟩) hd hC hN hQ
theorem own_endJ {z : Int64} (X : Stand p l e R s m args below meth c T locs cells slots) (hx : p.tables.exec = Jvm.exec) (hlk : meth.locks = false) {pc : Nat} {Ls : Array Slot} {rest : List Value} (hret : meth.sig.returnType = some .long)
    (hd : decode c.code pc = .ok (.lreturn, 1)) (hC : cells ≤ C) (hN : slots ≤ N) (hQ : Q (some (.long z)) T.heap locs) : own_G p.tables e below (T.setTop (mkF m pc Ls (.long z :: rest))) s C N Q :=
  own_endO X hx hlk hret rfl (Or.inr (Or.inl ⟨rfl, rfl, z, rfl⟩)) hd hC hN hQ
theorem own_endR {w : Value} {t : FieldType} (X : Stand p l e R s m args below meth c T locs cells slots) (hx : p.tables.exec = Jvm.exec) (hlk : meth.locks = false) {pc : Nat} {Ls : Array Slot} {rest : List Value} (hret : meth.sig.returnType = some t) (hn : narrow t w = w) (ht : t.isReference = true) (hw : w.isRef = true)
    (hd : decode c.code pc = .ok (.areturn, 1)) (hC : cells ≤ C) (hN : slots ≤ N) (hQ : Q (some w) T.heap locs) : own_G p.tables e below (T.setTop (mkF m pc Ls (w :: rest))) s C N Q :=
  own_endO X hx hlk hret hn (Or.inr (Or.inr (Or.inr (Or.inr ⟨rfl, ht, hw⟩)))) hd hC hN hQ
theorem own_endN {z : Int32} {t : FieldType} (X : Stand p l e R s m args below meth c T locs cells slots) (hx : p.tables.exec = Jvm.exec) (hlk : meth.locks = false) {pc : Nat} {Ls : Array Slot} {rest : List Value} (hret : meth.sig.returnType = some t) (ht : t = .boolean ∨ t = .byte ∨ t = .char ∨ t = .short)
    (hd : decode c.code pc = .ok (.ireturn, 1)) (hC : cells ≤ C) (hN : slots ≤ N) (hQ : Q (some (.int (nar t z))) T.heap locs) : own_G p.tables e below (T.setTop (mkF m pc Ls (.int z :: rest))) s C N Q := by
  obtain ⟨fs, hr, hrun, hended, hW, hsame⟩ := X.leave (v := some (.int (nar t z))) (fun h => by rw [hret] at h; cases h) hlk
  exact ⟨_, _, retN X hx hret ht hd hr, hrun, hended, _, _, rfl, hQ, ⟨_, rfl⟩, hW, hsame.mono hC hN⟩
theorem own_endV (X : Stand p l e R s m args below meth c T locs cells slots) (hx : p.tables.exec = Jvm.exec) (hlk : meth.locks = false) {pc : Nat} {Ls : Array Slot} (hret : meth.sig.returnType = none)
    (hd : decode c.code pc = .ok (.return_, 1)) (hC : cells ≤ C) (hN : slots ≤ N) (hQ : Q none T.heap locs) : own_G p.tables e below (T.setTop (mkF m pc Ls [])) s C N Q := by
  obtain ⟨fs, hr, hrun, hended, hW, hsame⟩ := X.leave (v := none) (fun _ => rfl) hlk
  exact ⟨_, _, X.returnOut hx hret hd hr, hrun, hended, _, _, rfl, hQ, ⟨_, rfl⟩, hW, hsame.mono hC hN⟩
end Own
section OwnW
variable {tb : Tables} {p : Program} {l : Launch} {e : Env} {R : Room} {s Z : State} {EL : List (String × Nat)} {vm0 : Vm} {m : MethodId} {args : Array Value} {below : List Frame} {meth : Method} {c : Code} {T S S' : State} {locs : List Loc} {cells slots C N n0 k0 : Nat} {h0 : Heap} {Q : Option Value → Heap → List Loc → Prop}
/-- the same for a run that may load a literal -/
def own_GW (tb : Tables) (e : Env) (below : List Frame) (S : State) (s : State) (C N : Nat) (Z : State) (EL : List (String × Nat)) (Q : Option Value → Heap → List Loc → Prop) : Prop :=
  ∃ t o, Steps tb e below S t ∧ t.status = .running ∧ Ended t below o ∧ ∃ v L, o = .returned v ∧ Q v t.heap L ∧ CHr Z EL s.vm s.heap t.vm t.heap ∧ ReturnedEndW s o t L C N
theorem own_goW (h : ∀ t, Steps tb e below S' t → Steps tb e below S t) (k : own_GW tb e below S' s C N Z EL Q) : own_GW tb e below S s C N Z EL Q := by
  obtain ⟨t, o, a, b⟩ := k
  exact ⟨t, o, h t a, b⟩
theorem own_trW (h : Steps tb e below S S') (k : own_GW tb e below S' s C N Z EL Q) : own_GW tb e below S s C N Z EL Q := by
  obtain ⟨t, o, a, b⟩ := k
  exact ⟨t, o, h.trans a, b⟩
theorem own_monoW {o : Outcome} {t : State} {L : List Loc} {k n k' n' : Nat} (h : ReturnedEndW s o t L k n) (hk : k ≤ k') (hn : n ≤ n') : ReturnedEndW s o t L k' n' := ⟨h.1, h.2.1, h.2.2.1, h.2.2.2.mono hk hn⟩
theorem own_endWO {w : Value} {t : FieldType} {i : Instr} (X : Stand p l e R (s.setVm vm0) m args below meth c T locs cells slots) (hx : p.tables.exec = Jvm.exec) (hlk : meth.locks = false) {pc : Nat} {Ls : Array Slot} {rest : List Value} (hret : meth.sig.returnType = some t) (hn : narrow t w = w)
    (hi : (i = .ireturn ∧ (t = .int ∨ t = .boolean ∨ t = .byte ∨ t = .char ∨ t = .short) ∧ ∃ z, w = .int z) ∨ (i = .lreturn ∧ t = .long ∧ ∃ z, w = .long z) ∨ (i = .dreturn ∧ t = .double ∧ ∃ z, w = .double z) ∨ (i = .freturn ∧ t = .float ∧ ∃ z, w = .float z) ∨ (i = .areturn ∧ t.isReference = true ∧ w.isRef = true))
    (hd : decode c.code pc = .ok (i, 1)) (hS : s.Since vm0 k0) (hk : k0 ≤ T.heap.size) (hC : cells ≤ C) (hN : slots ≤ N) (hR : CHr Z EL s.vm s.heap T.vm T.heap) (hQ : Q (some w) T.heap locs) : own_GW p.tables e below (T.setTop (mkF m pc Ls (w :: rest))) s C N Z EL Q := by
  obtain ⟨fs, hr, hrun, hended, hW⟩ := X.leaveW hS hk (v := some w) (fun h => by rw [hret] at h; cases h) hlk
  exact ⟨_, _, retOut X hx hret hn hi hd hr, hrun, hended, _, _, rfl, hQ, hR, own_monoW hW hC hN⟩
theorem own_endWN {z : Int32} {t : FieldType} (X : Stand p l e R (s.setVm vm0) m args below meth c T locs cells slots) (hx : p.tables.exec = Jvm.exec) (hlk : meth.locks = false) {pc : Nat} {Ls : Array Slot} {rest : List Value} (hret : meth.sig.returnType = some t) (ht : t = .boolean ∨ t = .byte ∨ t = .char ∨ t = .short)
    (hd : decode c.code pc = .ok (.ireturn, 1)) (hS : s.Since vm0 k0) (hk : k0 ≤ T.heap.size) (hC : cells ≤ C) (hN : slots ≤ N) (hR : CHr Z EL s.vm s.heap T.vm T.heap) (hQ : Q (some (.int (nar t z))) T.heap locs) : own_GW p.tables e below (T.setTop (mkF m pc Ls (.int z :: rest))) s C N Z EL Q := by
  obtain ⟨fs, hr, hrun, hended, hW⟩ := X.leaveW hS hk (v := some (.int (nar t z))) (fun h => by rw [hret] at h; cases h) hlk
  exact ⟨_, _, retN X hx hret ht hd hr, hrun, hended, _, _, rfl, hQ, hR, own_monoW hW hC hN⟩
theorem own_endWV (X : Stand p l e R (s.setVm vm0) m args below meth c T locs cells slots) (hx : p.tables.exec = Jvm.exec) (hlk : meth.locks = false) {pc : Nat} {Ls : Array Slot} (hret : meth.sig.returnType = none)
    (hd : decode c.code pc = .ok (.return_, 1)) (hS : s.Since vm0 k0) (hk : k0 ≤ T.heap.size) (hC : cells ≤ C) (hN : slots ≤ N) (hR : CHr Z EL s.vm s.heap T.vm T.heap) (hQ : Q none T.heap locs) : own_GW p.tables e below (T.setTop (mkF m pc Ls [])) s C N Z EL Q := by
  obtain ⟨fs, hr, hrun, hended, hW⟩ := X.leaveW hS hk (v := none) (fun _ => rfl) hlk
  exact ⟨_, _, X.returnOut hx hret hd hr, hrun, hended, _, _, rfl, hQ, hR, own_monoW hW hC hN⟩
end OwnW

/-! a String of known chars -/
theorem own_up (cs : List Int32) (h : ∀ c ∈ cs, ¬ c < 0 ∧ ¬ (255 : Int32) < c) : ∀ c ∈ cs, ¬ c < 0 ∧ ¬ (65535 : Int32) < c := fun c hc => ⟨(h c hc).1, fun q => (h c hc).2 (by
  simp only [Int32.lt_iff_toInt_lt, Int32.reduceToInt] at q ⊢
  omega)⟩
def own_Str (Z : State) (h : Heap) (x : Addr) (cs : List Int32) : Prop := ∃ (t : Addr) (kb : ClassId), Exa Z h x "java/lang/String" ∧ Fld Z h x "java/lang/String" "coder" "B" (.int 0) ∧ Fld Z h x "java/lang/String" "value" "[B" (.ref t) ∧ Arv Z h t kb .byte (Int32.ofNat cs.length) ((cs.map (fun c => c.toInt8.toInt32)).map Value.int) (.int 0) ∧ (∀ c ∈ cs, ¬ c < 0 ∧ ¬ (255 : Int32) < c) ∧ cs.length ≤ 4000
theorem own_Str.ext {Z : State} {h h' : Heap} {x : Addr} {cs : List Int32} (F : own_Str Z h x cs) (E : Ext h h') : own_Str Z h' x cs := by
  obtain ⟨t, kb, a, b, c, d, r⟩ := F
  exact ⟨t, kb, a.ext E, b.ext E, c.ext E, d.ext E, r⟩
theorem own_Str.keep {Z : State} {h h' : Heap} {x : Addr} {cs : List Int32} (F : own_Str Z h x cs) (K : Keep h h' []) : own_Str Z h' x cs := by
  obtain ⟨t, kb, a, b, c, d, r⟩ := F
  exact ⟨t, kb, a.keep K, b.keep K nin0, c.keep K nin0, d.keep K nin0, r⟩

def own_EL : List (String × Nat) := [("com/example/floe/floe/rest/FramingLinesQuotedStringEndPinLaw", 27)]
theorem own_EW {Z : State} {a0 : Array Value} (hw : ∀ d ∈ tables_1, d.before a0 Z = true) : EW Z a0 own_EL := EW.cons (hw _ (List.mem_of_getElem? (i := 85) rfl)) (by decide) EW.nil
theorem own_wS {Z : State} {a0 : Array Value} (hw : ∀ d ∈ tables_1, d.before a0 Z = true) : ∀ a ∈ Bundle.stringAtoms, a.before a0 Z = true := fun d hd => hw d ((by decide +kernel : ∀ d ∈ Bundle.stringAtoms, d ∈ tables_1) d hd)
theorem own_words : ∀ d ∈ StrChars.Road.words, d ∈ tables_1 := by decide +kernel
theorem own_wLen {Z : State} {a0 : Array Value} (hw : ∀ d ∈ tables_1, d.before a0 Z = true) : ∀ d ∈ StrChars.Road.wordsLen, d.before a0 Z = true := fun d hd => hw d ((by decide +kernel : ∀ d ∈ StrChars.Road.wordsLen, d ∈ tables_1) d hd)
theorem own_wCh {Z : State} {a0 : Array Value} (hw : ∀ d ∈ tables_1, d.before a0 Z = true) : ∀ d ∈ StrChars.Road.wordsChN, d.before a0 Z = true := fun d hd => hw d ((by decide +kernel : ∀ d ∈ StrChars.Road.wordsChN, d ∈ tables_1) d hd)
theorem d1_0 : decode method_3_code 0 = .ok (.iload_n 0, 1) := by decide +kernel
theorem d1_1 : decode method_3_code 1 = .ok (.sipush 255, 3) := by decide +kernel
theorem d1_4 : decode method_3_code 4 = .ok (.iand, 1) := by decide +kernel
theorem d1_5 : decode method_3_code 5 = .ok (.istore_n 2, 1) := by decide +kernel
theorem d1_6 : decode method_3_code 6 = .ok (.iload_n 1, 1) := by decide +kernel
theorem d1_7 : decode method_3_code 7 = .ok (.iconst 1, 1) := by decide +kernel
theorem d1_8 : decode method_3_code 8 = .ok (.iand, 1) := by decide +kernel
theorem d1_9 : decode method_3_code 9 = .ok (.ifCond .ne 6, 3) := by decide +kernel
theorem d1_12 : decode method_3_code 12 = .ok (.iload_n 2, 1) := by decide +kernel
theorem d1_13 : decode method_3_code 13 = .ok (.i2c, 1) := by decide +kernel
theorem d1_14 : decode method_3_code 14 = .ok (.ireturn, 1) := by decide +kernel
theorem d1_15 : decode method_3_code 15 = .ok (.iload_n 2, 1) := by decide +kernel
theorem d1_16 : decode method_3_code 16 = .ok (.bipush 7, 2) := by decide +kernel
theorem d1_18 : decode method_3_code 18 = .ok (.iand, 1) := by decide +kernel
theorem d1_19 : decode method_3_code 19 = .ok (.istore_n 3, 1) := by decide +kernel
theorem d1_20 : decode method_3_code 20 = .ok (.iload_n 3, 1) := by decide +kernel
theorem d1_21 : decode method_3_code 21 = .ok (.ifCond .ne 6, 3) := by decide +kernel
theorem d1_24 : decode method_3_code 24 = .ok (.bipush 34, 2) := by decide +kernel
theorem d1_26 : decode method_3_code 26 = .ok (.ireturn, 1) := by decide +kernel
theorem d1_27 : decode method_3_code 27 = .ok (.iload_n 3, 1) := by decide +kernel
theorem d1_28 : decode method_3_code 28 = .ok (.iconst 1, 1) := by decide +kernel
theorem d1_29 : decode method_3_code 29 = .ok (.if_icmp .ne 6, 3) := by decide +kernel
theorem d1_32 : decode method_3_code 32 = .ok (.bipush 92, 2) := by decide +kernel
theorem d1_34 : decode method_3_code 34 = .ok (.ireturn, 1) := by decide +kernel
theorem d1_35 : decode method_3_code 35 = .ok (.iload_n 3, 1) := by decide +kernel
theorem d1_36 : decode method_3_code 36 = .ok (.iconst 2, 1) := by decide +kernel
theorem d1_37 : decode method_3_code 37 = .ok (.if_icmp .ne 6, 3) := by decide +kernel
theorem d1_40 : decode method_3_code 40 = .ok (.bipush 9, 2) := by decide +kernel
theorem d1_42 : decode method_3_code 42 = .ok (.ireturn, 1) := by decide +kernel
theorem d1_43 : decode method_3_code 43 = .ok (.iload_n 3, 1) := by decide +kernel
theorem d1_44 : decode method_3_code 44 = .ok (.iconst 3, 1) := by decide +kernel
theorem d1_45 : decode method_3_code 45 = .ok (.if_icmp .ne 6, 3) := by decide +kernel
theorem d1_48 : decode method_3_code 48 = .ok (.bipush 127, 2) := by decide +kernel
theorem d1_50 : decode method_3_code 50 = .ok (.ireturn, 1) := by decide +kernel
theorem d1_51 : decode method_3_code 51 = .ok (.iload_n 3, 1) := by decide +kernel
theorem d1_52 : decode method_3_code 52 = .ok (.iconst 4, 1) := by decide +kernel
theorem d1_53 : decode method_3_code 53 = .ok (.if_icmp .ne 6, 3) := by decide +kernel
theorem d1_56 : decode method_3_code 56 = .ok (.bipush 97, 2) := by decide +kernel
theorem d1_58 : decode method_3_code 58 = .ok (.ireturn, 1) := by decide +kernel
theorem d1_59 : decode method_3_code 59 = .ok (.iload_n 3, 1) := by decide +kernel
theorem d1_60 : decode method_3_code 60 = .ok (.iconst 5, 1) := by decide +kernel
theorem d1_61 : decode method_3_code 61 = .ok (.if_icmp .ne 6, 3) := by decide +kernel
theorem d1_64 : decode method_3_code 64 = .ok (.bipush 31, 2) := by decide +kernel
theorem d1_66 : decode method_3_code 66 = .ok (.ireturn, 1) := by decide +kernel
theorem d1_67 : decode method_3_code 67 = .ok (.iload_n 3, 1) := by decide +kernel
theorem d1_68 : decode method_3_code 68 = .ok (.bipush 6, 2) := by decide +kernel
theorem d1_70 : decode method_3_code 70 = .ok (.if_icmp .ne 5, 3) := by decide +kernel
theorem d1_73 : decode method_3_code 73 = .ok (.iconst 0, 1) := by decide +kernel
theorem d1_74 : decode method_3_code 74 = .ok (.ireturn, 1) := by decide +kernel
theorem d1_75 : decode method_3_code 75 = .ok (.bipush 32, 2) := by decide +kernel
theorem d1_77 : decode method_3_code 77 = .ok (.ireturn, 1) := by decide +kernel
def own_draw (p0 : Int32) (p1 : Int32) : Int32 := (if (p1 &&& (1 : Int32)) = (0 : Int32) then (nar .char (p0 &&& (255 : Int32)).toUInt32.toUInt16.toUInt32.toInt32) else (if ((p0 &&& (255 : Int32)) &&& (7 : Int32)) = (0 : Int32) then (nar .char (34 : Int32)) else (if ((p0 &&& (255 : Int32)) &&& (7 : Int32)) = (1 : Int32) then (nar .char (92 : Int32)) else (if ((p0 &&& (255 : Int32)) &&& (7 : Int32)) = (2 : Int32) then (nar .char (9 : Int32)) else (if ((p0 &&& (255 : Int32)) &&& (7 : Int32)) = (3 : Int32) then (nar .char (127 : Int32)) else (if ((p0 &&& (255 : Int32)) &&& (7 : Int32)) = (4 : Int32) then (nar .char (97 : Int32)) else (if ((p0 &&& (255 : Int32)) &&& (7 : Int32)) = (5 : Int32) then (nar .char (31 : Int32)) else (if ((p0 &&& (255 : Int32)) &&& (7 : Int32)) = (6 : Int32) then (0 : Int32) else (nar .char (32 : Int32))))))))))
theorem pn_0 : plainName "com/example/floe/floe/rest/FramingLinesQuotedStringEndPinLaw" = true := by first | (simp [plainName, overriddenIn]; done) | decide +kernel
theorem ef_1 (m : MethodId) (p0 : Int32) (p1 : Int32) : entryFrame m #[(.int p0), (.int p1)] 4 = mkF m 0 #[.val (.int p0), .val (.int p1), .unset, .unset] [] := by first | (simp [entryFrame, mkF, argsToLocals, Value.category]; done) | rfl
set_option maxRecDepth 65536 in
set_option maxHeartbeats 40000000 in
theorem rm1 (l : Launch) (Z : State) (a0 : Array Value) (hw : ∀ d ∈ tables_1, d.before a0 Z = true) (ws : List Jvm.Cond) (p0 : Int32) (p1 : Int32) (h0 : Heap) (n0 : Nat) :
    MetFree l (⟨"com/example/floe/floe/rest/FramingLinesQuotedStringEndPinLaw", "draw", "(II)C"⟩ : MethodName) (head1 (Jvm.Cond.code (⟨"com/example/floe/floe/rest/FramingLinesQuotedStringEndPinLaw", "draw", "(II)C"⟩ : MethodName) method_3_code 4 (some .char) :: ws) ({ frames := 0, cells := 0, slots := 0, locals := 0 } : Room)) (fun a U => a = #[(.int p0), (.int p1)] ∧ Z.Warmed39 U.vm ∧ U.heap = h0) (fun _ _ _ _ _ => True) (fun _ U o U' => ∃ v L, o = .returned v ∧ (own_P n0 h0 (some (.int (own_draw p0 p1)))) v U'.heap L ∧ FrameEnd U o U' L ({ frames := 0, cells := 0, slots := 0, locals := 0 } : Room).cells ({ frames := 0, cells := 0, slots := 0, locals := 0 } : Room).slots) := by
  refine MetFree.of_bodySF (plainFor_of_name pn_0) hisR ?_
  intro p e s m args below meth c s₁ Bd hml0 hP hK
  obtain ⟨rfl, hZ, hh⟩ := hP
  have hx := Bd.exec
  have hby := Bd.bytes
  have hml : c.maxLocals = 4 := hml0
  have hown : s.vm.findClass "com/example/floe/floe/rest/FramingLinesQuotedStringEndPinLaw" = some m.cls := findClass_of_methodNamed Bd.named
  have hnm := (name_of_methodNamed Bd.named Bd.method).1
  have hlk : meth.locks = false := BodyLoose.notSynchronized Bd
  have X0 : Stand p l e ({ frames := 0, cells := 0, slots := 0, locals := 0 } : Room) s m #[(.int p0), (.int p1)] below meth c s₁ [] 0 0 := Stand.of_body Bd
  have e0 : s₁.heap = h0 := by rw [← hh, Bd.state]; rfl
  have N0 := Fr.nil n0
  show own_G p.tables e below (s₁.setTop (entryFrame m #[(.int p0), (.int p1)] 4)) s ({ frames := 0, cells := 0, slots := 0, locals := 0 } : Room).cells ({ frames := 0, cells := 0, slots := 0, locals := 0 } : Room).slots (own_P n0 h0 (some (.int ((if (p1 &&& (1 : Int32)) = (0 : Int32) then (nar .char (p0 &&& (255 : Int32)).toUInt32.toUInt16.toUInt32.toInt32) else (if ((p0 &&& (255 : Int32)) &&& (7 : Int32)) = (0 : Int32) then (nar .char (34 : Int32)) else (if ((p0 &&& (255 : Int32)) &&& (7 : Int32)) = (1 : Int32) then (nar .char (92 : Int32)) else (if ((p0 &&& (255 : Int32)) &&& (7 : Int32)) = (2 : Int32) then (nar .char (9 : Int32)) else (if ((p0 &&& (255 : Int32)) &&& (7 : Int32)) = (3 : Int32) then (nar .char (127 : Int32)) else (if ((p0 &&& (255 : Int32)) &&& (7 : Int32)) = (4 : Int32) then (nar .char (97 : Int32)) else (if ((p0 &&& (255 : Int32)) &&& (7 : Int32)) = (5 : Int32) then (nar .char (31 : Int32)) else (if ((p0 &&& (255 : Int32)) &&& (7 : Int32)) = (6 : Int32) then (0 : Int32) else (nar .char (32 : Int32))))))))))))))
  refine own_go (fun _ k => castTop (ef_1 m p0 p1) k) ?_
  refine own_go (fun _ k => XS.iloadN X0.here hx rfl (hb hby d1_0) rfl k) ?_
  show own_G _ _ _ (s₁.setTop (mkF m 1 #[.val (.int p0), .val (.int p1), .unset, .unset] [(.int p0)])) _ _ _ _
  refine own_go (fun _ k => XS.sipush X0.here hx rfl (hb hby d1_1) k) ?_
  show own_G _ _ _ (s₁.setTop (mkF m 4 #[.val (.int p0), .val (.int p1), .unset, .unset] [(.int (255 : Int32)), (.int p0)])) _ _ _ _
  refine own_go (fun _ k => XS.iand X0.here hx rfl (hb hby d1_4) rfl k) ?_
  show own_G _ _ _ (s₁.setTop (mkF m 5 #[.val (.int p0), .val (.int p1), .unset, .unset] [(.int (p0 &&& (255 : Int32)))])) _ _ _ _
  refine own_go (fun _ k => XS.istoreN X0.here hx rfl (hb hby d1_5) rfl (l' := #[.val (.int p0), .val (.int p1), .val (.int (p0 &&& (255 : Int32))), .unset]) rfl k) ?_
  show own_G _ _ _ (s₁.setTop (mkF m 6 #[.val (.int p0), .val (.int p1), .val (.int (p0 &&& (255 : Int32))), .unset] [])) _ _ _ _
  refine own_go (fun _ k => XS.iloadN X0.here hx rfl (hb hby d1_6) rfl k) ?_
  show own_G _ _ _ (s₁.setTop (mkF m 7 #[.val (.int p0), .val (.int p1), .val (.int (p0 &&& (255 : Int32))), .unset] [(.int p1)])) _ _ _ _
  refine own_go (fun _ k => XS.iconst X0.here hx rfl (hb hby d1_7) k) ?_
  show own_G _ _ _ (s₁.setTop (mkF m 8 #[.val (.int p0), .val (.int p1), .val (.int (p0 &&& (255 : Int32))), .unset] [(.int (1 : Int32)), (.int p1)])) _ _ _ _
  refine own_go (fun _ k => XS.iand X0.here hx rfl (hb hby d1_8) rfl k) ?_
  show own_G _ _ _ (s₁.setTop (mkF m 9 #[.val (.int p0), .val (.int p1), .val (.int (p0 &&& (255 : Int32))), .unset] [(.int (p1 &&& (1 : Int32)))])) _ _ _ _
  by_cases hc1 : (p1 &&& (1 : Int32)) = (0 : Int32)
  · refine own_itI hc1 ?_
    refine own_go (fun _ k => XS.ifNo X0.here hx rfl (hb hby d1_9) rfl ((if0 _ _).trans (teq hc1).2) k) ?_
    show own_G _ _ _ (s₁.setTop (mkF m 12 #[.val (.int p0), .val (.int p1), .val (.int (p0 &&& (255 : Int32))), .unset] [])) _ _ _ _
    refine own_go (fun _ k => XS.iloadN X0.here hx rfl (hb hby d1_12) rfl k) ?_
    show own_G _ _ _ (s₁.setTop (mkF m 13 #[.val (.int p0), .val (.int p1), .val (.int (p0 &&& (255 : Int32))), .unset] [(.int (p0 &&& (255 : Int32)))])) _ _ _ _
    refine own_go (fun _ k => XS.i2c X0.here hx rfl (hb hby d1_13) rfl k) ?_
    show own_G _ _ _ (s₁.setTop (mkF m 14 #[.val (.int p0), .val (.int p1), .val (.int (p0 &&& (255 : Int32))), .unset] [(.int (p0 &&& (255 : Int32)).toUInt32.toUInt16.toUInt32.toInt32)])) _ _ _ _
    exact own_endN X0 hx hlk (t := .char) Bd.returns (by simp) (hb hby d1_14) (by decide) (by decide) ⟨rfl, N0, e0⟩
  · refine own_ifI hc1 ?_
    refine own_go (fun _ k => XS.ifYes X0.here hx rfl (pc0 := 9) (pc' := 15) rfl (hb hby d1_9) rfl ((if0 _ _).trans (feq hc1).2) (by decide) (by decide) k) ?_
    show own_G _ _ _ (s₁.setTop (mkF m 15 #[.val (.int p0), .val (.int p1), .val (.int (p0 &&& (255 : Int32))), .unset] [])) _ _ _ _
    refine own_go (fun _ k => XS.iloadN X0.here hx rfl (hb hby d1_15) rfl k) ?_
    show own_G _ _ _ (s₁.setTop (mkF m 16 #[.val (.int p0), .val (.int p1), .val (.int (p0 &&& (255 : Int32))), .unset] [(.int (p0 &&& (255 : Int32)))])) _ _ _ _
    refine own_go (fun _ k => XS.bipush X0.here hx rfl (hb hby d1_16) k) ?_
    show own_G _ _ _ (s₁.setTop (mkF m 18 #[.val (.int p0), .val (.int p1), .val (.int (p0 &&& (255 : Int32))), .unset] [(.int (7 : Int32)), (.int (p0 &&& (255 : Int32)))])) _ _ _ _
    refine own_go (fun _ k => XS.iand X0.here hx rfl (hb hby d1_18) rfl k) ?_
    show own_G _ _ _ (s₁.setTop (mkF m 19 #[.val (.int p0), .val (.int p1), .val (.int (p0 &&& (255 : Int32))), .unset] [(.int ((p0 &&& (255 : Int32)) &&& (7 : Int32)))])) _ _ _ _
    refine own_go (fun _ k => XS.istoreN X0.here hx rfl (hb hby d1_19) rfl (l' := #[.val (.int p0), .val (.int p1), .val (.int (p0 &&& (255 : Int32))), .val (.int ((p0 &&& (255 : Int32)) &&& (7 : Int32)))]) rfl k) ?_
    show own_G _ _ _ (s₁.setTop (mkF m 20 #[.val (.int p0), .val (.int p1), .val (.int (p0 &&& (255 : Int32))), .val (.int ((p0 &&& (255 : Int32)) &&& (7 : Int32)))] [])) _ _ _ _
    refine own_go (fun _ k => XS.iloadN X0.here hx rfl (hb hby d1_20) rfl k) ?_
    show own_G _ _ _ (s₁.setTop (mkF m 21 #[.val (.int p0), .val (.int p1), .val (.int (p0 &&& (255 : Int32))), .val (.int ((p0 &&& (255 : Int32)) &&& (7 : Int32)))] [(.int ((p0 &&& (255 : Int32)) &&& (7 : Int32)))])) _ _ _ _
    by_cases hc2 : ((p0 &&& (255 : Int32)) &&& (7 : Int32)) = (0 : Int32)
    · refine own_itI hc2 ?_
      refine own_go (fun _ k => XS.ifNo X0.here hx rfl (hb hby d1_21) rfl ((if0 _ _).trans (teq hc2).2) k) ?_
      show own_G _ _ _ (s₁.setTop (mkF m 24 #[.val (.int p0), .val (.int p1), .val (.int (p0 &&& (255 : Int32))), .val (.int ((p0 &&& (255 : Int32)) &&& (7 : Int32)))] [])) _ _ _ _
      refine own_go (fun _ k => XS.bipush X0.here hx rfl (hb hby d1_24) k) ?_
      show own_G _ _ _ (s₁.setTop (mkF m 26 #[.val (.int p0), .val (.int p1), .val (.int (p0 &&& (255 : Int32))), .val (.int ((p0 &&& (255 : Int32)) &&& (7 : Int32)))] [(.int (34 : Int32))])) _ _ _ _
      exact own_endN X0 hx hlk (t := .char) Bd.returns (by simp) (hb hby d1_26) (by decide) (by decide) ⟨rfl, N0, e0⟩
    · refine own_ifI hc2 ?_
      refine own_go (fun _ k => XS.ifYes X0.here hx rfl (pc0 := 21) (pc' := 27) rfl (hb hby d1_21) rfl ((if0 _ _).trans (feq hc2).2) (by decide) (by decide) k) ?_
      show own_G _ _ _ (s₁.setTop (mkF m 27 #[.val (.int p0), .val (.int p1), .val (.int (p0 &&& (255 : Int32))), .val (.int ((p0 &&& (255 : Int32)) &&& (7 : Int32)))] [])) _ _ _ _
      refine own_go (fun _ k => XS.iloadN X0.here hx rfl (hb hby d1_27) rfl k) ?_
      show own_G _ _ _ (s₁.setTop (mkF m 28 #[.val (.int p0), .val (.int p1), .val (.int (p0 &&& (255 : Int32))), .val (.int ((p0 &&& (255 : Int32)) &&& (7 : Int32)))] [(.int ((p0 &&& (255 : Int32)) &&& (7 : Int32)))])) _ _ _ _
      refine own_go (fun _ k => XS.iconst X0.here hx rfl (hb hby d1_28) k) ?_
      show own_G _ _ _ (s₁.setTop (mkF m 29 #[.val (.int p0), .val (.int p1), .val (.int (p0 &&& (255 : Int32))), .val (.int ((p0 &&& (255 : Int32)) &&& (7 : Int32)))] [(.int (1 : Int32)), (.int ((p0 &&& (255 : Int32)) &&& (7 : Int32)))])) _ _ _ _
      by_cases hc3 : ((p0 &&& (255 : Int32)) &&& (7 : Int32)) = (1 : Int32)
      · refine own_itI hc3 ?_
        refine own_go (fun _ k => XS.icmpNo X0.here hx rfl (hb hby d1_29) rfl (teq hc3).2 k) ?_
        show own_G _ _ _ (s₁.setTop (mkF m 32 #[.val (.int p0), .val (.int p1), .val (.int (p0 &&& (255 : Int32))), .val (.int ((p0 &&& (255 : Int32)) &&& (7 : Int32)))] [])) _ _ _ _
        refine own_go (fun _ k => XS.bipush X0.here hx rfl (hb hby d1_32) k) ?_
        show own_G _ _ _ (s₁.setTop (mkF m 34 #[.val (.int p0), .val (.int p1), .val (.int (p0 &&& (255 : Int32))), .val (.int ((p0 &&& (255 : Int32)) &&& (7 : Int32)))] [(.int (92 : Int32))])) _ _ _ _
        exact own_endN X0 hx hlk (t := .char) Bd.returns (by simp) (hb hby d1_34) (by decide) (by decide) ⟨rfl, N0, e0⟩
      · refine own_ifI hc3 ?_
        refine own_go (fun _ k => XS.icmpYes X0.here hx rfl (pc0 := 29) (pc' := 35) rfl (hb hby d1_29) rfl (feq hc3).2 (by decide) (by decide) k) ?_
        show own_G _ _ _ (s₁.setTop (mkF m 35 #[.val (.int p0), .val (.int p1), .val (.int (p0 &&& (255 : Int32))), .val (.int ((p0 &&& (255 : Int32)) &&& (7 : Int32)))] [])) _ _ _ _
        refine own_go (fun _ k => XS.iloadN X0.here hx rfl (hb hby d1_35) rfl k) ?_
        show own_G _ _ _ (s₁.setTop (mkF m 36 #[.val (.int p0), .val (.int p1), .val (.int (p0 &&& (255 : Int32))), .val (.int ((p0 &&& (255 : Int32)) &&& (7 : Int32)))] [(.int ((p0 &&& (255 : Int32)) &&& (7 : Int32)))])) _ _ _ _
        refine own_go (fun _ k => XS.iconst X0.here hx rfl (hb hby d1_36) k) ?_
        show own_G _ _ _ (s₁.setTop (mkF m 37 #[.val (.int p0), .val (.int p1), .val (.int (p0 &&& (255 : Int32))), .val (.int ((p0 &&& (255 : Int32)) &&& (7 : Int32)))] [(.int (2 : Int32)), (.int ((p0 &&& (255 : Int32)) &&& (7 : Int32)))])) _ _ _ _
        by_cases hc4 : ((p0 &&& (255 : Int32)) &&& (7 : Int32)) = (2 : Int32)
        · refine own_itI hc4 ?_
          refine own_go (fun _ k => XS.icmpNo X0.here hx rfl (hb hby d1_37) rfl (teq hc4).2 k) ?_
          show own_G _ _ _ (s₁.setTop (mkF m 40 #[.val (.int p0), .val (.int p1), .val (.int (p0 &&& (255 : Int32))), .val (.int ((p0 &&& (255 : Int32)) &&& (7 : Int32)))] [])) _ _ _ _
          refine own_go (fun _ k => XS.bipush X0.here hx rfl (hb hby d1_40) k) ?_
          show own_G _ _ _ (s₁.setTop (mkF m 42 #[.val (.int p0), .val (.int p1), .val (.int (p0 &&& (255 : Int32))), .val (.int ((p0 &&& (255 : Int32)) &&& (7 : Int32)))] [(.int (9 : Int32))])) _ _ _ _
          exact own_endN X0 hx hlk (t := .char) Bd.returns (by simp) (hb hby d1_42) (by decide) (by decide) ⟨rfl, N0, e0⟩
        · refine own_ifI hc4 ?_
          refine own_go (fun _ k => XS.icmpYes X0.here hx rfl (pc0 := 37) (pc' := 43) rfl (hb hby d1_37) rfl (feq hc4).2 (by decide) (by decide) k) ?_
          show own_G _ _ _ (s₁.setTop (mkF m 43 #[.val (.int p0), .val (.int p1), .val (.int (p0 &&& (255 : Int32))), .val (.int ((p0 &&& (255 : Int32)) &&& (7 : Int32)))] [])) _ _ _ _
          refine own_go (fun _ k => XS.iloadN X0.here hx rfl (hb hby d1_43) rfl k) ?_
          show own_G _ _ _ (s₁.setTop (mkF m 44 #[.val (.int p0), .val (.int p1), .val (.int (p0 &&& (255 : Int32))), .val (.int ((p0 &&& (255 : Int32)) &&& (7 : Int32)))] [(.int ((p0 &&& (255 : Int32)) &&& (7 : Int32)))])) _ _ _ _
          refine own_go (fun _ k => XS.iconst X0.here hx rfl (hb hby d1_44) k) ?_
          show own_G _ _ _ (s₁.setTop (mkF m 45 #[.val (.int p0), .val (.int p1), .val (.int (p0 &&& (255 : Int32))), .val (.int ((p0 &&& (255 : Int32)) &&& (7 : Int32)))] [(.int (3 : Int32)), (.int ((p0 &&& (255 : Int32)) &&& (7 : Int32)))])) _ _ _ _
          by_cases hc5 : ((p0 &&& (255 : Int32)) &&& (7 : Int32)) = (3 : Int32)
          · refine own_itI hc5 ?_
            refine own_go (fun _ k => XS.icmpNo X0.here hx rfl (hb hby d1_45) rfl (teq hc5).2 k) ?_
            show own_G _ _ _ (s₁.setTop (mkF m 48 #[.val (.int p0), .val (.int p1), .val (.int (p0 &&& (255 : Int32))), .val (.int ((p0 &&& (255 : Int32)) &&& (7 : Int32)))] [])) _ _ _ _
            refine own_go (fun _ k => XS.bipush X0.here hx rfl (hb hby d1_48) k) ?_
            show own_G _ _ _ (s₁.setTop (mkF m 50 #[.val (.int p0), .val (.int p1), .val (.int (p0 &&& (255 : Int32))), .val (.int ((p0 &&& (255 : Int32)) &&& (7 : Int32)))] [(.int (127 : Int32))])) _ _ _ _
            exact own_endN X0 hx hlk (t := .char) Bd.returns (by simp) (hb hby d1_50) (by decide) (by decide) ⟨rfl, N0, e0⟩
          · refine own_ifI hc5 ?_
            refine own_go (fun _ k => XS.icmpYes X0.here hx rfl (pc0 := 45) (pc' := 51) rfl (hb hby d1_45) rfl (feq hc5).2 (by decide) (by decide) k) ?_
            show own_G _ _ _ (s₁.setTop (mkF m 51 #[.val (.int p0), .val (.int p1), .val (.int (p0 &&& (255 : Int32))), .val (.int ((p0 &&& (255 : Int32)) &&& (7 : Int32)))] [])) _ _ _ _
            refine own_go (fun _ k => XS.iloadN X0.here hx rfl (hb hby d1_51) rfl k) ?_
            show own_G _ _ _ (s₁.setTop (mkF m 52 #[.val (.int p0), .val (.int p1), .val (.int (p0 &&& (255 : Int32))), .val (.int ((p0 &&& (255 : Int32)) &&& (7 : Int32)))] [(.int ((p0 &&& (255 : Int32)) &&& (7 : Int32)))])) _ _ _ _
            refine own_go (fun _ k => XS.iconst X0.here hx rfl (hb hby d1_52) k) ?_
            show own_G _ _ _ (s₁.setTop (mkF m 53 #[.val (.int p0), .val (.int p1), .val (.int (p0 &&& (255 : Int32))), .val (.int ((p0 &&& (255 : Int32)) &&& (7 : Int32)))] [(.int (4 : Int32)), (.int ((p0 &&& (255 : Int32)) &&& (7 : Int32)))])) _ _ _ _
            by_cases hc6 : ((p0 &&& (255 : Int32)) &&& (7 : Int32)) = (4 : Int32)
            · refine own_itI hc6 ?_
              refine own_go (fun _ k => XS.icmpNo X0.here hx rfl (hb hby d1_53) rfl (teq hc6).2 k) ?_
              show own_G _ _ _ (s₁.setTop (mkF m 56 #[.val (.int p0), .val (.int p1), .val (.int (p0 &&& (255 : Int32))), .val (.int ((p0 &&& (255 : Int32)) &&& (7 : Int32)))] [])) _ _ _ _
              refine own_go (fun _ k => XS.bipush X0.here hx rfl (hb hby d1_56) k) ?_
              show own_G _ _ _ (s₁.setTop (mkF m 58 #[.val (.int p0), .val (.int p1), .val (.int (p0 &&& (255 : Int32))), .val (.int ((p0 &&& (255 : Int32)) &&& (7 : Int32)))] [(.int (97 : Int32))])) _ _ _ _
              exact own_endN X0 hx hlk (t := .char) Bd.returns (by simp) (hb hby d1_58) (by decide) (by decide) ⟨rfl, N0, e0⟩
            · refine own_ifI hc6 ?_
              refine own_go (fun _ k => XS.icmpYes X0.here hx rfl (pc0 := 53) (pc' := 59) rfl (hb hby d1_53) rfl (feq hc6).2 (by decide) (by decide) k) ?_
              show own_G _ _ _ (s₁.setTop (mkF m 59 #[.val (.int p0), .val (.int p1), .val (.int (p0 &&& (255 : Int32))), .val (.int ((p0 &&& (255 : Int32)) &&& (7 : Int32)))] [])) _ _ _ _
              refine own_go (fun _ k => XS.iloadN X0.here hx rfl (hb hby d1_59) rfl k) ?_
              show own_G _ _ _ (s₁.setTop (mkF m 60 #[.val (.int p0), .val (.int p1), .val (.int (p0 &&& (255 : Int32))), .val (.int ((p0 &&& (255 : Int32)) &&& (7 : Int32)))] [(.int ((p0 &&& (255 : Int32)) &&& (7 : Int32)))])) _ _ _ _
              refine own_go (fun _ k => XS.iconst X0.here hx rfl (hb hby d1_60) k) ?_
              show own_G _ _ _ (s₁.setTop (mkF m 61 #[.val (.int p0), .val (.int p1), .val (.int (p0 &&& (255 : Int32))), .val (.int ((p0 &&& (255 : Int32)) &&& (7 : Int32)))] [(.int (5 : Int32)), (.int ((p0 &&& (255 : Int32)) &&& (7 : Int32)))])) _ _ _ _
              by_cases hc7 : ((p0 &&& (255 : Int32)) &&& (7 : Int32)) = (5 : Int32)
              · refine own_itI hc7 ?_
                refine own_go (fun _ k => XS.icmpNo X0.here hx rfl (hb hby d1_61) rfl (teq hc7).2 k) ?_
                show own_G _ _ _ (s₁.setTop (mkF m 64 #[.val (.int p0), .val (.int p1), .val (.int (p0 &&& (255 : Int32))), .val (.int ((p0 &&& (255 : Int32)) &&& (7 : Int32)))] [])) _ _ _ _
                refine own_go (fun _ k => XS.bipush X0.here hx rfl (hb hby d1_64) k) ?_
                show own_G _ _ _ (s₁.setTop (mkF m 66 #[.val (.int p0), .val (.int p1), .val (.int (p0 &&& (255 : Int32))), .val (.int ((p0 &&& (255 : Int32)) &&& (7 : Int32)))] [(.int (31 : Int32))])) _ _ _ _
                exact own_endN X0 hx hlk (t := .char) Bd.returns (by simp) (hb hby d1_66) (by decide) (by decide) ⟨rfl, N0, e0⟩
              · refine own_ifI hc7 ?_
                refine own_go (fun _ k => XS.icmpYes X0.here hx rfl (pc0 := 61) (pc' := 67) rfl (hb hby d1_61) rfl (feq hc7).2 (by decide) (by decide) k) ?_
                show own_G _ _ _ (s₁.setTop (mkF m 67 #[.val (.int p0), .val (.int p1), .val (.int (p0 &&& (255 : Int32))), .val (.int ((p0 &&& (255 : Int32)) &&& (7 : Int32)))] [])) _ _ _ _
                refine own_go (fun _ k => XS.iloadN X0.here hx rfl (hb hby d1_67) rfl k) ?_
                show own_G _ _ _ (s₁.setTop (mkF m 68 #[.val (.int p0), .val (.int p1), .val (.int (p0 &&& (255 : Int32))), .val (.int ((p0 &&& (255 : Int32)) &&& (7 : Int32)))] [(.int ((p0 &&& (255 : Int32)) &&& (7 : Int32)))])) _ _ _ _
                refine own_go (fun _ k => XS.bipush X0.here hx rfl (hb hby d1_68) k) ?_
                show own_G _ _ _ (s₁.setTop (mkF m 70 #[.val (.int p0), .val (.int p1), .val (.int (p0 &&& (255 : Int32))), .val (.int ((p0 &&& (255 : Int32)) &&& (7 : Int32)))] [(.int (6 : Int32)), (.int ((p0 &&& (255 : Int32)) &&& (7 : Int32)))])) _ _ _ _
                by_cases hc8 : ((p0 &&& (255 : Int32)) &&& (7 : Int32)) = (6 : Int32)
                · refine own_itI hc8 ?_
                  refine own_go (fun _ k => XS.icmpNo X0.here hx rfl (hb hby d1_70) rfl (teq hc8).2 k) ?_
                  show own_G _ _ _ (s₁.setTop (mkF m 73 #[.val (.int p0), .val (.int p1), .val (.int (p0 &&& (255 : Int32))), .val (.int ((p0 &&& (255 : Int32)) &&& (7 : Int32)))] [])) _ _ _ _
                  refine own_go (fun _ k => XS.iconst X0.here hx rfl (hb hby d1_73) k) ?_
                  show own_G _ _ _ (s₁.setTop (mkF m 74 #[.val (.int p0), .val (.int p1), .val (.int (p0 &&& (255 : Int32))), .val (.int ((p0 &&& (255 : Int32)) &&& (7 : Int32)))] [(.int (0 : Int32))])) _ _ _ _
                  exact own_endN X0 hx hlk (t := .char) Bd.returns (by simp) (hb hby d1_74) (by decide) (by decide) ⟨rfl, N0, e0⟩
                · refine own_ifI hc8 ?_
                  refine own_go (fun _ k => XS.icmpYes X0.here hx rfl (pc0 := 70) (pc' := 75) rfl (hb hby d1_70) rfl (feq hc8).2 (by decide) (by decide) k) ?_
                  show own_G _ _ _ (s₁.setTop (mkF m 75 #[.val (.int p0), .val (.int p1), .val (.int (p0 &&& (255 : Int32))), .val (.int ((p0 &&& (255 : Int32)) &&& (7 : Int32)))] [])) _ _ _ _
                  refine own_go (fun _ k => XS.bipush X0.here hx rfl (hb hby d1_75) k) ?_
                  show own_G _ _ _ (s₁.setTop (mkF m 77 #[.val (.int p0), .val (.int p1), .val (.int (p0 &&& (255 : Int32))), .val (.int ((p0 &&& (255 : Int32)) &&& (7 : Int32)))] [(.int (32 : Int32))])) _ _ _ _
                  exact own_endN X0 hx hlk (t := .char) Bd.returns (by simp) (hb hby d1_77) (by decide) (by decide) ⟨rfl, N0, e0⟩
theorem d20_0 : decode method_5_code 0 = .ok (.iload_n 0, 1) := by decide +kernel
theorem d20_1 : decode method_5_code 1 = .ok (.bipush 32, 2) := by decide +kernel
theorem d20_3 : decode method_5_code 3 = .ok (.if_icmp .ge 9, 3) := by decide +kernel
theorem d20_6 : decode method_5_code 6 = .ok (.iload_n 0, 1) := by decide +kernel
theorem d20_7 : decode method_5_code 7 = .ok (.bipush 9, 2) := by decide +kernel
theorem d20_9 : decode method_5_code 9 = .ok (.if_icmp .ne 9, 3) := by decide +kernel
theorem d20_12 : decode method_5_code 12 = .ok (.iload_n 0, 1) := by decide +kernel
theorem d20_13 : decode method_5_code 13 = .ok (.bipush 127, 2) := by decide +kernel
theorem d20_15 : decode method_5_code 15 = .ok (.if_icmp .ne 7, 3) := by decide +kernel
theorem d20_18 : decode method_5_code 18 = .ok (.iconst 1, 1) := by decide +kernel
theorem d20_19 : decode method_5_code 19 = .ok (.goto 4, 3) := by decide +kernel
theorem d20_22 : decode method_5_code 22 = .ok (.iconst 0, 1) := by decide +kernel
theorem d20_23 : decode method_5_code 23 = .ok (.ireturn, 1) := by decide +kernel
def own_ctl_23 (p0 : Int32) (w0 : Int32) : Int32 := (w0 &&& 1)
def own_ctl_18 (p0 : Int32)  : Int32 := (own_ctl_23 p0 (1 : Int32))
def own_ctl_12 (p0 : Int32)  : Int32 := (if p0 = (127 : Int32) then (own_ctl_18 p0 ) else (own_ctl_23 p0 (0 : Int32)))
def own_ctl (p0 : Int32) : Int32 := (if p0 < (32 : Int32) then (if p0 = (9 : Int32) then (own_ctl_12 p0 ) else (own_ctl_18 p0 )) else (own_ctl_12 p0 ))
theorem ef_20 (m : MethodId) (p0 : Int32) : entryFrame m #[(.int p0)] 1 = mkF m 0 #[.val (.int p0)] [] := by first | (simp [entryFrame, mkF, argsToLocals, Value.category]; done) | rfl
set_option maxRecDepth 65536 in
set_option maxHeartbeats 40000000 in
theorem rm20 (l : Launch) (Z : State) (a0 : Array Value) (hw : ∀ d ∈ tables_1, d.before a0 Z = true) (ws : List Jvm.Cond) (p0 : Int32) (h0 : Heap) (n0 : Nat) :
    MetFree l (⟨"com/example/floe/floe/rest/FramingLinesQuotedStringEndPinLaw", "ctl", "(C)Z"⟩ : MethodName) (head1 (Jvm.Cond.code (⟨"com/example/floe/floe/rest/FramingLinesQuotedStringEndPinLaw", "ctl", "(C)Z"⟩ : MethodName) method_5_code 1 (some .boolean) :: ws) ({ frames := 0, cells := 0, slots := 0, locals := 0 } : Room)) (fun a U => a = #[(.int p0)] ∧ Z.Warmed39 U.vm ∧ U.heap = h0) (fun _ _ _ _ _ => True) (fun _ U o U' => ∃ v L, o = .returned v ∧ (own_P n0 h0 (some (.int (own_ctl p0)))) v U'.heap L ∧ FrameEnd U o U' L ({ frames := 0, cells := 0, slots := 0, locals := 0 } : Room).cells ({ frames := 0, cells := 0, slots := 0, locals := 0 } : Room).slots) := by
  refine MetFree.of_bodySF (plainFor_of_name pn_0) hisR ?_
  intro p e s m args below meth c s₁ Bd hml0 hP hK
  obtain ⟨rfl, hZ, hh⟩ := hP
  have hx := Bd.exec
  have hby := Bd.bytes
  have hml : c.maxLocals = 1 := hml0
  have hown : s.vm.findClass "com/example/floe/floe/rest/FramingLinesQuotedStringEndPinLaw" = some m.cls := findClass_of_methodNamed Bd.named
  have hnm := (name_of_methodNamed Bd.named Bd.method).1
  have hlk : meth.locks = false := BodyLoose.notSynchronized Bd
  have X0 : Stand p l e ({ frames := 0, cells := 0, slots := 0, locals := 0 } : Room) s m #[(.int p0)] below meth c s₁ [] 0 0 := Stand.of_body Bd
  have e0 : s₁.heap = h0 := by rw [← hh, Bd.state]; rfl
  have N0 := Fr.nil n0
  have J23 : ∀ (T : State) (Lc : List Loc) (X : Stand p l e ({ frames := 0, cells := 0, slots := 0, locals := 0 } : Room) s m #[(.int p0)] below meth c T Lc 0 0) (eT : T.heap = h0) (N : Fr n0 Lc) (w0 : Int32) , own_G p.tables e below (T.setTop (mkF m 23 #[.val (.int p0)] [(.int w0)])) s ({ frames := 0, cells := 0, slots := 0, locals := 0 } : Room).cells ({ frames := 0, cells := 0, slots := 0, locals := 0 } : Room).slots (own_P n0 h0 (some (.int (own_ctl_23 p0 w0)))) := by
    intro T Lc X eT N w0 
    show own_G _ _ _ _ _ _ _ (own_P n0 h0 (some (.int ((w0 &&& 1)))))
    exact own_endN X hx hlk (t := .boolean) Bd.returns (by simp) (hb hby d20_23) (by decide) (by decide) ⟨rfl, N, eT⟩
  have J18 : ∀ (T : State) (Lc : List Loc) (X : Stand p l e ({ frames := 0, cells := 0, slots := 0, locals := 0 } : Room) s m #[(.int p0)] below meth c T Lc 0 0) (eT : T.heap = h0) (N : Fr n0 Lc)  , own_G p.tables e below (T.setTop (mkF m 18 #[.val (.int p0)] [])) s ({ frames := 0, cells := 0, slots := 0, locals := 0 } : Room).cells ({ frames := 0, cells := 0, slots := 0, locals := 0 } : Room).slots (own_P n0 h0 (some (.int (own_ctl_18 p0 )))) := by
    intro T Lc X eT N  
    show own_G _ _ _ _ _ _ _ (own_P n0 h0 (some (.int ((own_ctl_23 p0 (1 : Int32))))))
    refine own_go (fun _ k => XS.iconst X.here hx rfl (hb hby d20_18) k) ?_
    show own_G _ _ _ (T.setTop (mkF m 19 #[.val (.int p0)] [(.int (1 : Int32))])) _ _ _ _
    refine own_go (fun _ k => XS.goto X.here hx rfl (pc0 := 19) (pc' := 23) rfl (hb hby d20_19) (by decide) (by decide) k) ?_
    show own_G _ _ _ (T.setTop (mkF m 23 #[.val (.int p0)] [(.int (1 : Int32))])) _ _ _ _
    exact J23 _ _ X eT N (1 : Int32) 
  have J12 : ∀ (T : State) (Lc : List Loc) (X : Stand p l e ({ frames := 0, cells := 0, slots := 0, locals := 0 } : Room) s m #[(.int p0)] below meth c T Lc 0 0) (eT : T.heap = h0) (N : Fr n0 Lc)  , own_G p.tables e below (T.setTop (mkF m 12 #[.val (.int p0)] [])) s ({ frames := 0, cells := 0, slots := 0, locals := 0 } : Room).cells ({ frames := 0, cells := 0, slots := 0, locals := 0 } : Room).slots (own_P n0 h0 (some (.int (own_ctl_12 p0 )))) := by
    intro T Lc X eT N  
    show own_G _ _ _ _ _ _ _ (own_P n0 h0 (some (.int ((if p0 = (127 : Int32) then (own_ctl_18 p0 ) else (own_ctl_23 p0 (0 : Int32)))))))
    refine own_go (fun _ k => XS.iloadN X.here hx rfl (hb hby d20_12) rfl k) ?_
    show own_G _ _ _ (T.setTop (mkF m 13 #[.val (.int p0)] [(.int p0)])) _ _ _ _
    refine own_go (fun _ k => XS.bipush X.here hx rfl (hb hby d20_13) k) ?_
    show own_G _ _ _ (T.setTop (mkF m 15 #[.val (.int p0)] [(.int (127 : Int32)), (.int p0)])) _ _ _ _
    by_cases hc1 : p0 = (127 : Int32)
    · refine own_itI hc1 ?_
      refine own_go (fun _ k => XS.icmpNo X.here hx rfl (hb hby d20_15) rfl (teq hc1).2 k) ?_
      show own_G _ _ _ (T.setTop (mkF m 18 #[.val (.int p0)] [])) _ _ _ _
      exact J18 _ _ X eT N  
    · refine own_ifI hc1 ?_
      refine own_go (fun _ k => XS.icmpYes X.here hx rfl (pc0 := 15) (pc' := 22) rfl (hb hby d20_15) rfl (feq hc1).2 (by decide) (by decide) k) ?_
      show own_G _ _ _ (T.setTop (mkF m 22 #[.val (.int p0)] [])) _ _ _ _
      refine own_go (fun _ k => XS.iconst X.here hx rfl (hb hby d20_22) k) ?_
      show own_G _ _ _ (T.setTop (mkF m 23 #[.val (.int p0)] [(.int (0 : Int32))])) _ _ _ _
      exact J23 _ _ X eT N (0 : Int32) 
  show own_G p.tables e below (s₁.setTop (entryFrame m #[(.int p0)] 1)) s ({ frames := 0, cells := 0, slots := 0, locals := 0 } : Room).cells ({ frames := 0, cells := 0, slots := 0, locals := 0 } : Room).slots (own_P n0 h0 (some (.int ((if p0 < (32 : Int32) then (if p0 = (9 : Int32) then (own_ctl_12 p0 ) else (own_ctl_18 p0 )) else (own_ctl_12 p0 ))))))
  refine own_go (fun _ k => castTop (ef_20 m p0) k) ?_
  refine own_go (fun _ k => XS.iloadN X0.here hx rfl (hb hby d20_0) rfl k) ?_
  show own_G _ _ _ (s₁.setTop (mkF m 1 #[.val (.int p0)] [(.int p0)])) _ _ _ _
  refine own_go (fun _ k => XS.bipush X0.here hx rfl (hb hby d20_1) k) ?_
  show own_G _ _ _ (s₁.setTop (mkF m 3 #[.val (.int p0)] [(.int (32 : Int32)), (.int p0)])) _ _ _ _
  by_cases hc2 : p0 < (32 : Int32)
  · refine own_itI hc2 ?_
    refine own_go (fun _ k => XS.icmpNo X0.here hx rfl (hb hby d20_3) rfl (tlt hc2).2.1 k) ?_
    show own_G _ _ _ (s₁.setTop (mkF m 6 #[.val (.int p0)] [])) _ _ _ _
    refine own_go (fun _ k => XS.iloadN X0.here hx rfl (hb hby d20_6) rfl k) ?_
    show own_G _ _ _ (s₁.setTop (mkF m 7 #[.val (.int p0)] [(.int p0)])) _ _ _ _
    refine own_go (fun _ k => XS.bipush X0.here hx rfl (hb hby d20_7) k) ?_
    show own_G _ _ _ (s₁.setTop (mkF m 9 #[.val (.int p0)] [(.int (9 : Int32)), (.int p0)])) _ _ _ _
    by_cases hc3 : p0 = (9 : Int32)
    · refine own_itI hc3 ?_
      refine own_go (fun _ k => XS.icmpNo X0.here hx rfl (hb hby d20_9) rfl (teq hc3).2 k) ?_
      show own_G _ _ _ (s₁.setTop (mkF m 12 #[.val (.int p0)] [])) _ _ _ _
      exact J12 _ _ X0 e0 N0  
    · refine own_ifI hc3 ?_
      refine own_go (fun _ k => XS.icmpYes X0.here hx rfl (pc0 := 9) (pc' := 18) rfl (hb hby d20_9) rfl (feq hc3).2 (by decide) (by decide) k) ?_
      show own_G _ _ _ (s₁.setTop (mkF m 18 #[.val (.int p0)] [])) _ _ _ _
      exact J18 _ _ X0 e0 N0  
  · refine own_ifI hc2 ?_
    refine own_go (fun _ k => XS.icmpYes X0.here hx rfl (pc0 := 3) (pc' := 12) rfl (hb hby d20_3) rfl (flt hc2).2.1 (by decide) (by decide) k) ?_
    show own_G _ _ _ (s₁.setTop (mkF m 12 #[.val (.int p0)] [])) _ _ _ _
    exact J12 _ _ X0 e0 N0  
theorem d18_0 : decode prog_33_method_11_code 0 = .ok (.iload_n 0, 1) := by decide +kernel
theorem d18_1 : decode prog_33_method_11_code 1 = .ok (.bipush 32, 2) := by decide +kernel
theorem d18_3 : decode prog_33_method_11_code 3 = .ok (.if_icmp .ge 9, 3) := by decide +kernel
theorem d18_6 : decode prog_33_method_11_code 6 = .ok (.iload_n 0, 1) := by decide +kernel
theorem d18_7 : decode prog_33_method_11_code 7 = .ok (.bipush 9, 2) := by decide +kernel
theorem d18_9 : decode prog_33_method_11_code 9 = .ok (.if_icmp .ne 9, 3) := by decide +kernel
theorem d18_12 : decode prog_33_method_11_code 12 = .ok (.iload_n 0, 1) := by decide +kernel
theorem d18_13 : decode prog_33_method_11_code 13 = .ok (.bipush 127, 2) := by decide +kernel
theorem d18_15 : decode prog_33_method_11_code 15 = .ok (.if_icmp .ne 7, 3) := by decide +kernel
theorem d18_18 : decode prog_33_method_11_code 18 = .ok (.iconst 1, 1) := by decide +kernel
theorem d18_19 : decode prog_33_method_11_code 19 = .ok (.goto 4, 3) := by decide +kernel
theorem d18_22 : decode prog_33_method_11_code 22 = .ok (.iconst 0, 1) := by decide +kernel
theorem d18_23 : decode prog_33_method_11_code 23 = .ok (.ireturn, 1) := by decide +kernel
def own_isc_23 (p0 : Int32) (w0 : Int32) : Int32 := (w0 &&& 1)
def own_isc_18 (p0 : Int32)  : Int32 := (own_isc_23 p0 (1 : Int32))
def own_isc_12 (p0 : Int32)  : Int32 := (if p0 = (127 : Int32) then (own_isc_18 p0 ) else (own_isc_23 p0 (0 : Int32)))
def own_isc (p0 : Int32) : Int32 := (if p0 < (32 : Int32) then (if p0 = (9 : Int32) then (own_isc_12 p0 ) else (own_isc_18 p0 )) else (own_isc_12 p0 ))
theorem pn_1 : plainName "com/example/floe/floe/rest/FramingLines" = true := by first | (simp [plainName, overriddenIn]; done) | decide +kernel
theorem ef_18 (m : MethodId) (p0 : Int32) : entryFrame m #[(.int p0)] 1 = mkF m 0 #[.val (.int p0)] [] := by first | (simp [entryFrame, mkF, argsToLocals, Value.category]; done) | rfl
set_option maxRecDepth 65536 in
set_option maxHeartbeats 40000000 in
theorem rm18 (l : Launch) (Z : State) (a0 : Array Value) (hw : ∀ d ∈ tables_1, d.before a0 Z = true) (ws : List Jvm.Cond) (p0 : Int32) (h0 : Heap) (n0 : Nat) :
    MetFree l (⟨"com/example/floe/floe/rest/FramingLines", "isControl", "(I)Z"⟩ : MethodName) (head1 (Jvm.Cond.code (⟨"com/example/floe/floe/rest/FramingLines", "isControl", "(I)Z"⟩ : MethodName) prog_33_method_11_code 1 (some .boolean) :: ws) ({ frames := 0, cells := 0, slots := 0, locals := 0 } : Room)) (fun a U => a = #[(.int p0)] ∧ Z.Warmed39 U.vm ∧ U.heap = h0) (fun _ _ _ _ _ => True) (fun _ U o U' => ∃ v L, o = .returned v ∧ (own_P n0 h0 (some (.int (own_isc p0)))) v U'.heap L ∧ FrameEnd U o U' L ({ frames := 0, cells := 0, slots := 0, locals := 0 } : Room).cells ({ frames := 0, cells := 0, slots := 0, locals := 0 } : Room).slots) := by
  refine MetFree.of_bodySF (plainFor_of_name pn_1) hisR ?_
  intro p e s m args below meth c s₁ Bd hml0 hP hK
  obtain ⟨rfl, hZ, hh⟩ := hP
  have hx := Bd.exec
  have hby := Bd.bytes
  have hml : c.maxLocals = 1 := hml0
  have hown : s.vm.findClass "com/example/floe/floe/rest/FramingLines" = some m.cls := findClass_of_methodNamed Bd.named
  have hnm := (name_of_methodNamed Bd.named Bd.method).1
  have hlk : meth.locks = false := BodyLoose.notSynchronized Bd
  have X0 : Stand p l e ({ frames := 0, cells := 0, slots := 0, locals := 0 } : Room) s m #[(.int p0)] below meth c s₁ [] 0 0 := Stand.of_body Bd
  have e0 : s₁.heap = h0 := by rw [← hh, Bd.state]; rfl
  have N0 := Fr.nil n0
  have J23 : ∀ (T : State) (Lc : List Loc) (X : Stand p l e ({ frames := 0, cells := 0, slots := 0, locals := 0 } : Room) s m #[(.int p0)] below meth c T Lc 0 0) (eT : T.heap = h0) (N : Fr n0 Lc) (w0 : Int32) , own_G p.tables e below (T.setTop (mkF m 23 #[.val (.int p0)] [(.int w0)])) s ({ frames := 0, cells := 0, slots := 0, locals := 0 } : Room).cells ({ frames := 0, cells := 0, slots := 0, locals := 0 } : Room).slots (own_P n0 h0 (some (.int (own_isc_23 p0 w0)))) := by
    intro T Lc X eT N w0 
    show own_G _ _ _ _ _ _ _ (own_P n0 h0 (some (.int ((w0 &&& 1)))))
    exact own_endN X hx hlk (t := .boolean) Bd.returns (by simp) (hb hby d18_23) (by decide) (by decide) ⟨rfl, N, eT⟩
  have J18 : ∀ (T : State) (Lc : List Loc) (X : Stand p l e ({ frames := 0, cells := 0, slots := 0, locals := 0 } : Room) s m #[(.int p0)] below meth c T Lc 0 0) (eT : T.heap = h0) (N : Fr n0 Lc)  , own_G p.tables e below (T.setTop (mkF m 18 #[.val (.int p0)] [])) s ({ frames := 0, cells := 0, slots := 0, locals := 0 } : Room).cells ({ frames := 0, cells := 0, slots := 0, locals := 0 } : Room).slots (own_P n0 h0 (some (.int (own_isc_18 p0 )))) := by
    intro T Lc X eT N  
    show own_G _ _ _ _ _ _ _ (own_P n0 h0 (some (.int ((own_isc_23 p0 (1 : Int32))))))
    refine own_go (fun _ k => XS.iconst X.here hx rfl (hb hby d18_18) k) ?_
    show own_G _ _ _ (T.setTop (mkF m 19 #[.val (.int p0)] [(.int (1 : Int32))])) _ _ _ _
    refine own_go (fun _ k => XS.goto X.here hx rfl (pc0 := 19) (pc' := 23) rfl (hb hby d18_19) (by decide) (by decide) k) ?_
    show own_G _ _ _ (T.setTop (mkF m 23 #[.val (.int p0)] [(.int (1 : Int32))])) _ _ _ _
    exact J23 _ _ X eT N (1 : Int32) 
  have J12 : ∀ (T : State) (Lc : List Loc) (X : Stand p l e ({ frames := 0, cells := 0, slots := 0, locals := 0 } : Room) s m #[(.int p0)] below meth c T Lc 0 0) (eT : T.heap = h0) (N : Fr n0 Lc)  , own_G p.tables e below (T.setTop (mkF m 12 #[.val (.int p0)] [])) s ({ frames := 0, cells := 0, slots := 0, locals := 0 } : Room).cells ({ frames := 0, cells := 0, slots := 0, locals := 0 } : Room).slots (own_P n0 h0 (some (.int (own_isc_12 p0 )))) := by
    intro T Lc X eT N  
    show own_G _ _ _ _ _ _ _ (own_P n0 h0 (some (.int ((if p0 = (127 : Int32) then (own_isc_18 p0 ) else (own_isc_23 p0 (0 : Int32)))))))
    refine own_go (fun _ k => XS.iloadN X.here hx rfl (hb hby d18_12) rfl k) ?_
    show own_G _ _ _ (T.setTop (mkF m 13 #[.val (.int p0)] [(.int p0)])) _ _ _ _
    refine own_go (fun _ k => XS.bipush X.here hx rfl (hb hby d18_13) k) ?_
    show own_G _ _ _ (T.setTop (mkF m 15 #[.val (.int p0)] [(.int (127 : Int32)), (.int p0)])) _ _ _ _
    by_cases hc1 : p0 = (127 : Int32)
    · refine own_itI hc1 ?_
      refine own_go (fun _ k => XS.icmpNo X.here hx rfl (hb hby d18_15) rfl (teq hc1).2 k) ?_
      show own_G _ _ _ (T.setTop (mkF m 18 #[.val (.int p0)] [])) _ _ _ _
      exact J18 _ _ X eT N  
    · refine own_ifI hc1 ?_
      refine own_go (fun _ k => XS.icmpYes X.here hx rfl (pc0 := 15) (pc' := 22) rfl (hb hby d18_15) rfl (feq hc1).2 (by decide) (by decide) k) ?_
      show own_G _ _ _ (T.setTop (mkF m 22 #[.val (.int p0)] [])) _ _ _ _
      refine own_go (fun _ k => XS.iconst X.here hx rfl (hb hby d18_22) k) ?_
      show own_G _ _ _ (T.setTop (mkF m 23 #[.val (.int p0)] [(.int (0 : Int32))])) _ _ _ _
      exact J23 _ _ X eT N (0 : Int32) 
  show own_G p.tables e below (s₁.setTop (entryFrame m #[(.int p0)] 1)) s ({ frames := 0, cells := 0, slots := 0, locals := 0 } : Room).cells ({ frames := 0, cells := 0, slots := 0, locals := 0 } : Room).slots (own_P n0 h0 (some (.int ((if p0 < (32 : Int32) then (if p0 = (9 : Int32) then (own_isc_12 p0 ) else (own_isc_18 p0 )) else (own_isc_12 p0 ))))))
  refine own_go (fun _ k => castTop (ef_18 m p0) k) ?_
  refine own_go (fun _ k => XS.iloadN X0.here hx rfl (hb hby d18_0) rfl k) ?_
  show own_G _ _ _ (s₁.setTop (mkF m 1 #[.val (.int p0)] [(.int p0)])) _ _ _ _
  refine own_go (fun _ k => XS.bipush X0.here hx rfl (hb hby d18_1) k) ?_
  show own_G _ _ _ (s₁.setTop (mkF m 3 #[.val (.int p0)] [(.int (32 : Int32)), (.int p0)])) _ _ _ _
  by_cases hc2 : p0 < (32 : Int32)
  · refine own_itI hc2 ?_
    refine own_go (fun _ k => XS.icmpNo X0.here hx rfl (hb hby d18_3) rfl (tlt hc2).2.1 k) ?_
    show own_G _ _ _ (s₁.setTop (mkF m 6 #[.val (.int p0)] [])) _ _ _ _
    refine own_go (fun _ k => XS.iloadN X0.here hx rfl (hb hby d18_6) rfl k) ?_
    show own_G _ _ _ (s₁.setTop (mkF m 7 #[.val (.int p0)] [(.int p0)])) _ _ _ _
    refine own_go (fun _ k => XS.bipush X0.here hx rfl (hb hby d18_7) k) ?_
    show own_G _ _ _ (s₁.setTop (mkF m 9 #[.val (.int p0)] [(.int (9 : Int32)), (.int p0)])) _ _ _ _
    by_cases hc3 : p0 = (9 : Int32)
    · refine own_itI hc3 ?_
      refine own_go (fun _ k => XS.icmpNo X0.here hx rfl (hb hby d18_9) rfl (teq hc3).2 k) ?_
      show own_G _ _ _ (s₁.setTop (mkF m 12 #[.val (.int p0)] [])) _ _ _ _
      exact J12 _ _ X0 e0 N0  
    · refine own_ifI hc3 ?_
      refine own_go (fun _ k => XS.icmpYes X0.here hx rfl (pc0 := 9) (pc' := 18) rfl (hb hby d18_9) rfl (feq hc3).2 (by decide) (by decide) k) ?_
      show own_G _ _ _ (s₁.setTop (mkF m 18 #[.val (.int p0)] [])) _ _ _ _
      exact J18 _ _ X0 e0 N0  
  · refine own_ifI hc2 ?_
    refine own_go (fun _ k => XS.icmpYes X0.here hx rfl (pc0 := 3) (pc' := 12) rfl (hb hby d18_3) rfl (flt hc2).2.1 (by decide) (by decide) k) ?_
    show own_G _ _ _ (s₁.setTop (mkF m 12 #[.val (.int p0)] [])) _ _ _ _
    exact J12 _ _ X0 e0 N0  
theorem own_ltn {i n : Nat} (h : Int32.ofNat i < Int32.ofNat n) (hi : i ≤ 5000) (hn : n ≤ 5000) : i < n := by
  rw [Int32.lt_iff_toInt_lt, Int32.toInt_ofNat_of_lt (by omega), Int32.toInt_ofNat_of_lt (by omega)] at h
  omega
theorem own_fin (v : Int32) (n : Nat) (h0 : 0 ≤ v.toInt) (h1 : v.toInt < n) : ∃ k : Fin n, v = Int32.ofInt (k.val : Int) :=
  ⟨⟨v.toInt.toNat, by omega⟩, by show v = Int32.ofInt ((v.toInt.toNat : Nat) : Int); rw [Int.toNat_of_nonneg h0, Int32.ofInt_toInt]⟩
theorem own_tab : ∀ k : Fin 256, nar .char (Int32.ofInt (k.val : Int)) = Int32.ofInt (k.val : Int) := by decide +kernel
theorem own_nar8 {x : Int32} (h : ¬ x < 0 ∧ ¬ (255 : Int32) < x) : nar .char x = x := by
  simp only [Int32.lt_iff_toInt_lt, Int32.reduceToInt] at h
  obtain ⟨k, rfl⟩ := own_fin x 256 (by omega) (by omega)
  exact own_tab k
theorem own_narx0 {x0 x1 x2 x3 : Int32} (h : ∀ c ∈ ([x0, x1, x2, x3] : List Int32), ¬ c < 0 ∧ ¬ (255 : Int32) < c) : nar .char x0 = x0 := own_nar8 (h _ (by simp))
theorem own_narx1 {x0 x1 x2 x3 : Int32} (h : ∀ c ∈ ([x0, x1, x2, x3] : List Int32), ¬ c < 0 ∧ ¬ (255 : Int32) < c) : nar .char x1 = x1 := own_nar8 (h _ (by simp))
theorem own_narx2 {x0 x1 x2 x3 : Int32} (h : ∀ c ∈ ([x0, x1, x2, x3] : List Int32), ¬ c < 0 ∧ ¬ (255 : Int32) < c) : nar .char x2 = x2 := own_nar8 (h _ (by simp))
theorem own_narx3 {x0 x1 x2 x3 : Int32} (h : ∀ c ∈ ([x0, x1, x2, x3] : List Int32), ¬ c < 0 ∧ ¬ (255 : Int32) < c) : nar .char x3 = x3 := own_nar8 (h _ (by simp))
theorem own_sub0 {x0 x1 x2 x3 : Int32} (h : ∀ c ∈ ([x0, x1, x2, x3] : List Int32), ¬ c < 0 ∧ ¬ (255 : Int32) < c) : ∀ c ∈ ([] : List Int32), ¬ c < 0 ∧ ¬ (255 : Int32) < c := fun c hc => nomatch hc
theorem own_sub1 {x0 x1 x2 x3 : Int32} (h : ∀ c ∈ ([x0, x1, x2, x3] : List Int32), ¬ c < 0 ∧ ¬ (255 : Int32) < c) : ∀ c ∈ ([x0] : List Int32), ¬ c < 0 ∧ ¬ (255 : Int32) < c := fun c hc => h c (by simp only [List.mem_cons, List.not_mem_nil, or_false] at hc ⊢; rcases hc with rfl; simp)
theorem own_sub2 {x0 x1 x2 x3 : Int32} (h : ∀ c ∈ ([x0, x1, x2, x3] : List Int32), ¬ c < 0 ∧ ¬ (255 : Int32) < c) : ∀ c ∈ ([x0, x1] : List Int32), ¬ c < 0 ∧ ¬ (255 : Int32) < c := fun c hc => h c (by simp only [List.mem_cons, List.not_mem_nil, or_false] at hc ⊢; rcases hc with rfl | rfl <;> simp)
theorem own_sub3 {x0 x1 x2 x3 : Int32} (h : ∀ c ∈ ([x0, x1, x2, x3] : List Int32), ¬ c < 0 ∧ ¬ (255 : Int32) < c) : ∀ c ∈ ([x0, x1, x2] : List Int32), ¬ c < 0 ∧ ¬ (255 : Int32) < c := fun c hc => h c (by simp only [List.mem_cons, List.not_mem_nil, or_false] at hc ⊢; rcases hc with rfl | rfl | rfl <;> simp)
theorem own_sub4 {x0 x1 x2 x3 : Int32} (h : ∀ c ∈ ([x0, x1, x2, x3] : List Int32), ¬ c < 0 ∧ ¬ (255 : Int32) < c) : ∀ c ∈ ([x0, x1, x2, x3] : List Int32), ¬ c < 0 ∧ ¬ (255 : Int32) < c := h
theorem own_all4 {x0 x1 x2 x3 : Int32} (h0 : ¬ x0 < 0 ∧ ¬ (255 : Int32) < x0) (h1 : ¬ x1 < 0 ∧ ¬ (255 : Int32) < x1) (h2 : ¬ x2 < 0 ∧ ¬ (255 : Int32) < x2) (h3 : ¬ x3 < 0 ∧ ¬ (255 : Int32) < x3) : ∀ c ∈ ([x0, x1, x2, x3] : List Int32), ¬ c < 0 ∧ ¬ (255 : Int32) < c := fun c hc => by
  simp only [List.mem_cons, List.not_mem_nil, or_false] at hc
  rcases hc with rfl | rfl | rfl | rfl <;> assumption
def own_at (x0 x1 x2 x3 j : Int32) : Int32 := ([x0, x1, x2, x3] : List Int32).getD j.toNatClampNeg 0
theorem own_at_eq (x0 x1 x2 x3 j : Int32) : ([(.int x0), (.int x1), (.int x2), (.int x3)] : List Value).getD j.toNatClampNeg (.int (0 : Int32)) = .int (own_at x0 x1 x2 x3 j) := by
  unfold own_at
  rcases j.toNatClampNeg with _ | _ | _ | _ | k <;> rfl
theorem own_inb {n at_ : Int32} (h4 : n.toInt ≤ 4) (h0 : 0 ≤ at_.toInt) (h : at_ < n) : ¬ at_ < 0 ∧ at_ < 4 := by
  simp only [Int32.lt_iff_toInt_lt, Int32.reduceToInt] at *
  omega
theorem own_inb1 {n at_ : Int32} (h4 : n.toInt ≤ 4) (h0 : 0 ≤ at_.toInt) (h : at_ < n) (h' : at_ + 1 < n) : ¬ at_ + 1 < 0 ∧ at_ + 1 < 4 := by
  have q : at_.toInt < 4 := by
    simp only [Int32.lt_iff_toInt_lt] at h
    omega
  have e : (at_ + 1).toInt = at_.toInt + (1 : Int32).toInt := Jvm.Kit.i32_add (by simp only [Int32.reduceToInt]; omega) (by simp only [Int32.reduceToInt]; omega)
  simp only [Int32.lt_iff_toInt_lt, Int32.reduceToInt] at *
  omega
theorem own_drw (a b : Int32) : ¬ own_draw a b < 0 ∧ ¬ (255 : Int32) < own_draw a b := by
  have e := Jvm.Kit.i32_mask a 255 (k := 8) (by decide) (by decide)
  obtain ⟨k, hk⟩ := own_fin (a &&& 255) 256 (by omega) (by omega)
  have t : ∀ k : Fin 256, ¬ nar .char ((Int32.ofInt (k.val : Int)).toUInt32.toUInt16.toUInt32.toInt32) < 0 ∧ ¬ (255 : Int32) < nar .char ((Int32.ofInt (k.val : Int)).toUInt32.toUInt16.toUInt32.toInt32) := by decide +kernel
  simp only [own_draw, hk]
  repeat' split
  all_goals first | exact t k | decide
theorem own_k8 (x : Int32) : ∃ k : Fin 8, (x &&& 7) = Int32.ofInt (k.val : Int) := by
  have e := Jvm.Kit.i32_mask x 7 (k := 3) (by decide) (by decide)
  exact own_fin (x &&& 7) 8 (by omega) (by omega)
theorem own_n5 (x : Int32) : (x &&& 7) % 5 = 0 ∨ (x &&& 7) % 5 = 1 ∨ (x &&& 7) % 5 = 2 ∨ (x &&& 7) % 5 = 3 ∨ (x &&& 7) % 5 = 4 := by
  obtain ⟨k, hk⟩ := own_k8 x
  rw [hk]
  exact (by decide +kernel : ∀ k : Fin 8, Int32.ofInt (k.val : Int) % 5 = 0 ∨ Int32.ofInt (k.val : Int) % 5 = 1 ∨ Int32.ofInt (k.val : Int) % 5 = 2 ∨ Int32.ofInt (k.val : Int) % 5 = 3 ∨ Int32.ofInt (k.val : Int) % 5 = 4) k
theorem own_s6 (x : Int32) : ∃ i0 : Nat, i0 ≤ 5 ∧ (((x.toUInt32 >>> ((3 : Int32) &&& 31).toUInt32).toInt32) &&& 7) % 6 = Int32.ofNat i0 := by
  obtain ⟨k, hk⟩ := own_k8 ((x.toUInt32 >>> ((3 : Int32) &&& 31).toUInt32).toInt32)
  rw [hk]
  have t : ∀ k : Fin 8, k.val % 6 ≤ 5 ∧ Int32.ofInt (k.val : Int) % 6 = Int32.ofNat (k.val % 6) := by decide +kernel
  exact ⟨k.val % 6, (t k).1, (t k).2⟩
theorem own_i0 {i : Nat} (h : i ≤ 5) : 0 ≤ (Int32.ofNat i).toInt ∧ (Int32.ofNat i).toInt ≤ 5 := by
  rw [Int32.toInt_ofNat_of_lt (by omega)]
  omega

theorem d2_0 : decode method_4_code 0 = .ok (.iload_n 1, 1) := by decide +kernel
theorem d2_1 : decode method_4_code 1 = .ok (.ifCond .ne 6, 3) := by decide +kernel
theorem d2_4 : decode method_4_code 4 = .ok (.ldc 27, 2) := by decide +kernel
theorem d2_6 : decode method_4_code 6 = .ok (.areturn, 1) := by decide +kernel
theorem d2_7 : decode method_4_code 7 = .ok (.iload_n 1, 1) := by decide +kernel
theorem d2_8 : decode method_4_code 8 = .ok (.iconst 1, 1) := by decide +kernel
theorem d2_9 : decode method_4_code 9 = .ok (.if_icmp .ne 20, 3) := by decide +kernel
theorem d2_12 : decode method_4_code 12 = .ok (.new 29, 3) := by decide +kernel
theorem d2_15 : decode method_4_code 15 = .ok (.dup, 1) := by decide +kernel
theorem d2_16 : decode method_4_code 16 = .ok (.iconst 1, 1) := by decide +kernel
theorem d2_17 : decode method_4_code 17 = .ok (.newarray .char, 2) := by decide +kernel
theorem d2_19 : decode method_4_code 19 = .ok (.dup, 1) := by decide +kernel
theorem d2_20 : decode method_4_code 20 = .ok (.iconst 0, 1) := by decide +kernel
theorem d2_21 : decode method_4_code 21 = .ok (.aload_n 0, 1) := by decide +kernel
theorem d2_22 : decode method_4_code 22 = .ok (.iconst 0, 1) := by decide +kernel
theorem d2_23 : decode method_4_code 23 = .ok (.caload, 1) := by decide +kernel
theorem d2_24 : decode method_4_code 24 = .ok (.castore, 1) := by decide +kernel
theorem d2_25 : decode method_4_code 25 = .ok (.invokespecial 31, 3) := by decide +kernel
theorem d2_28 : decode method_4_code 28 = .ok (.areturn, 1) := by decide +kernel
theorem d2_29 : decode method_4_code 29 = .ok (.iload_n 1, 1) := by decide +kernel
theorem d2_30 : decode method_4_code 30 = .ok (.iconst 2, 1) := by decide +kernel
theorem d2_31 : decode method_4_code 31 = .ok (.if_icmp .ne 26, 3) := by decide +kernel
theorem d2_34 : decode method_4_code 34 = .ok (.new 29, 3) := by decide +kernel
theorem d2_37 : decode method_4_code 37 = .ok (.dup, 1) := by decide +kernel
theorem d2_38 : decode method_4_code 38 = .ok (.iconst 2, 1) := by decide +kernel
theorem d2_39 : decode method_4_code 39 = .ok (.newarray .char, 2) := by decide +kernel
theorem d2_41 : decode method_4_code 41 = .ok (.dup, 1) := by decide +kernel
theorem d2_42 : decode method_4_code 42 = .ok (.iconst 0, 1) := by decide +kernel
theorem d2_43 : decode method_4_code 43 = .ok (.aload_n 0, 1) := by decide +kernel
theorem d2_44 : decode method_4_code 44 = .ok (.iconst 0, 1) := by decide +kernel
theorem d2_45 : decode method_4_code 45 = .ok (.caload, 1) := by decide +kernel
theorem d2_46 : decode method_4_code 46 = .ok (.castore, 1) := by decide +kernel
theorem d2_47 : decode method_4_code 47 = .ok (.dup, 1) := by decide +kernel
theorem d2_48 : decode method_4_code 48 = .ok (.iconst 1, 1) := by decide +kernel
theorem d2_49 : decode method_4_code 49 = .ok (.aload_n 0, 1) := by decide +kernel
theorem d2_50 : decode method_4_code 50 = .ok (.iconst 1, 1) := by decide +kernel
theorem d2_51 : decode method_4_code 51 = .ok (.caload, 1) := by decide +kernel
theorem d2_52 : decode method_4_code 52 = .ok (.castore, 1) := by decide +kernel
theorem d2_53 : decode method_4_code 53 = .ok (.invokespecial 31, 3) := by decide +kernel
theorem d2_56 : decode method_4_code 56 = .ok (.areturn, 1) := by decide +kernel
theorem d2_57 : decode method_4_code 57 = .ok (.iload_n 1, 1) := by decide +kernel
theorem d2_58 : decode method_4_code 58 = .ok (.iconst 3, 1) := by decide +kernel
theorem d2_59 : decode method_4_code 59 = .ok (.if_icmp .ne 32, 3) := by decide +kernel
theorem d2_62 : decode method_4_code 62 = .ok (.new 29, 3) := by decide +kernel
theorem d2_65 : decode method_4_code 65 = .ok (.dup, 1) := by decide +kernel
theorem d2_66 : decode method_4_code 66 = .ok (.iconst 3, 1) := by decide +kernel
theorem d2_67 : decode method_4_code 67 = .ok (.newarray .char, 2) := by decide +kernel
theorem d2_69 : decode method_4_code 69 = .ok (.dup, 1) := by decide +kernel
theorem d2_70 : decode method_4_code 70 = .ok (.iconst 0, 1) := by decide +kernel
theorem d2_71 : decode method_4_code 71 = .ok (.aload_n 0, 1) := by decide +kernel
theorem d2_72 : decode method_4_code 72 = .ok (.iconst 0, 1) := by decide +kernel
theorem d2_73 : decode method_4_code 73 = .ok (.caload, 1) := by decide +kernel
theorem d2_74 : decode method_4_code 74 = .ok (.castore, 1) := by decide +kernel
theorem d2_75 : decode method_4_code 75 = .ok (.dup, 1) := by decide +kernel
theorem d2_76 : decode method_4_code 76 = .ok (.iconst 1, 1) := by decide +kernel
theorem d2_77 : decode method_4_code 77 = .ok (.aload_n 0, 1) := by decide +kernel
theorem d2_78 : decode method_4_code 78 = .ok (.iconst 1, 1) := by decide +kernel
theorem d2_79 : decode method_4_code 79 = .ok (.caload, 1) := by decide +kernel
theorem d2_80 : decode method_4_code 80 = .ok (.castore, 1) := by decide +kernel
theorem d2_81 : decode method_4_code 81 = .ok (.dup, 1) := by decide +kernel
theorem d2_82 : decode method_4_code 82 = .ok (.iconst 2, 1) := by decide +kernel
theorem d2_83 : decode method_4_code 83 = .ok (.aload_n 0, 1) := by decide +kernel
theorem d2_84 : decode method_4_code 84 = .ok (.iconst 2, 1) := by decide +kernel
theorem d2_85 : decode method_4_code 85 = .ok (.caload, 1) := by decide +kernel
theorem d2_86 : decode method_4_code 86 = .ok (.castore, 1) := by decide +kernel
theorem d2_87 : decode method_4_code 87 = .ok (.invokespecial 31, 3) := by decide +kernel
theorem d2_90 : decode method_4_code 90 = .ok (.areturn, 1) := by decide +kernel
theorem d2_91 : decode method_4_code 91 = .ok (.new 29, 3) := by decide +kernel
theorem d2_94 : decode method_4_code 94 = .ok (.dup, 1) := by decide +kernel
theorem d2_95 : decode method_4_code 95 = .ok (.iconst 4, 1) := by decide +kernel
theorem d2_96 : decode method_4_code 96 = .ok (.newarray .char, 2) := by decide +kernel
theorem d2_98 : decode method_4_code 98 = .ok (.dup, 1) := by decide +kernel
theorem d2_99 : decode method_4_code 99 = .ok (.iconst 0, 1) := by decide +kernel
theorem d2_100 : decode method_4_code 100 = .ok (.aload_n 0, 1) := by decide +kernel
theorem d2_101 : decode method_4_code 101 = .ok (.iconst 0, 1) := by decide +kernel
theorem d2_102 : decode method_4_code 102 = .ok (.caload, 1) := by decide +kernel
theorem d2_103 : decode method_4_code 103 = .ok (.castore, 1) := by decide +kernel
theorem d2_104 : decode method_4_code 104 = .ok (.dup, 1) := by decide +kernel
theorem d2_105 : decode method_4_code 105 = .ok (.iconst 1, 1) := by decide +kernel
theorem d2_106 : decode method_4_code 106 = .ok (.aload_n 0, 1) := by decide +kernel
theorem d2_107 : decode method_4_code 107 = .ok (.iconst 1, 1) := by decide +kernel
theorem d2_108 : decode method_4_code 108 = .ok (.caload, 1) := by decide +kernel
theorem d2_109 : decode method_4_code 109 = .ok (.castore, 1) := by decide +kernel
theorem d2_110 : decode method_4_code 110 = .ok (.dup, 1) := by decide +kernel
theorem d2_111 : decode method_4_code 111 = .ok (.iconst 2, 1) := by decide +kernel
theorem d2_112 : decode method_4_code 112 = .ok (.aload_n 0, 1) := by decide +kernel
theorem d2_113 : decode method_4_code 113 = .ok (.iconst 2, 1) := by decide +kernel
theorem d2_114 : decode method_4_code 114 = .ok (.caload, 1) := by decide +kernel
theorem d2_115 : decode method_4_code 115 = .ok (.castore, 1) := by decide +kernel
theorem d2_116 : decode method_4_code 116 = .ok (.dup, 1) := by decide +kernel
theorem d2_117 : decode method_4_code 117 = .ok (.iconst 3, 1) := by decide +kernel
theorem d2_118 : decode method_4_code 118 = .ok (.aload_n 0, 1) := by decide +kernel
theorem d2_119 : decode method_4_code 119 = .ok (.iconst 3, 1) := by decide +kernel
theorem d2_120 : decode method_4_code 120 = .ok (.caload, 1) := by decide +kernel
theorem d2_121 : decode method_4_code 121 = .ok (.castore, 1) := by decide +kernel
theorem d2_122 : decode method_4_code 122 = .ok (.invokespecial 31, 3) := by decide +kernel
theorem d2_125 : decode method_4_code 125 = .ok (.areturn, 1) := by decide +kernel
theorem ef_2a (m : MethodId) (p0 : Addr) : entryFrame m #[(.ref p0), (.int (0 : Int32))] 2 = mkF m 0 #[.val (.ref p0), .val (.int (0 : Int32))] [] := by first | (simp [entryFrame, mkF, argsToLocals, Value.category]; done) | rfl
def Q2a (Z : State) (p0 : Addr) (zc : Int32) (kc : ClassId) (x0 : Int32) (x1 : Int32) (x2 : Int32) (x3 : Int32) (h0 : Heap) (n0 : Nat) (v : Option Value) (h : Heap) (L : List Loc) : Prop := ∃ (a : Addr), v = some (.ref a) ∧ Fr n0 L ∧ Keep h0 h [] ∧ own_Str Z h a ([] : List Int32)
set_option maxRecDepth 65536 in
set_option maxHeartbeats 40000000 in
theorem rm2a (l : Launch) (Z : State) (a0 : Array Value) (hw : ∀ d ∈ tables_1, d.before a0 Z = true) (ws : List Jvm.Cond) (p0 : Addr) (zc : Int32) (kc : ClassId) (x0 : Int32) (x1 : Int32) (x2 : Int32) (x3 : Int32) (h0 : Heap) (n0 : Nat) (Z0 : n0 ≤ h0.size) (P_Old : Old Z n0 h0) (P_ZS_java_lang_String_COMPACT_STRINGS : Sta Z Z.heap "java/lang/String" "COMPACT_STRINGS" "Z" (.int zc)) (hcs : ¬ zc = 0) (P_V_p0 : Arv Z h0 p0 kc .char (4 : Int32) [(.int x0), (.int x1), (.int x2), (.int x3)] (.int (0 : Int32))) (hx4 : ∀ c ∈ ([x0, x1, x2, x3] : List Int32), ¬ c < 0 ∧ ¬ (255 : Int32) < c) :
    MetFree l (⟨"com/example/floe/floe/rest/FramingLinesQuotedStringEndPinLaw", "make", "([CI)Ljava/lang/String;"⟩ : MethodName) (head1 (Jvm.Cond.code (⟨"com/example/floe/floe/rest/FramingLinesQuotedStringEndPinLaw", "make", "([CI)Ljava/lang/String;"⟩ : MethodName) method_4_code 2 (some (.object "java/lang/String")) :: ws) ({ frames := 0, cells := 2, slots := 4, locals := 0 } : Room)) (fun a U => a = #[(.ref p0), (.int (0 : Int32))] ∧ Z.Warmed39 U.vm ∧ U.heap = h0 ∧ CHv Z own_EL U.vm h0) (fun _ _ _ _ _ => True) (fun _ U o U' => ∃ v L, o = .returned v ∧ (Q2a Z p0 zc kc x0 x1 x2 x3 h0 n0) v U'.heap L ∧ CHr Z own_EL U.vm U.heap U'.vm U'.heap ∧ ReturnedEndW U o U' L ({ frames := 0, cells := 2, slots := 4, locals := 0 } : Room).cells ({ frames := 0, cells := 2, slots := 4, locals := 0 } : Room).slots) := by
  refine MetFree.of_bodySF (plainFor_of_name pn_0) hisR ?_
  intro p e s m args below meth c s₁ Bd hml0 hP hK
  obtain ⟨rfl, hZ, hh, H0⟩ := hP
  have hx := Bd.exec
  have hby := Bd.bytes
  have hml : c.maxLocals = 2 := hml0
  have hown : s.vm.findClass "com/example/floe/floe/rest/FramingLinesQuotedStringEndPinLaw" = some m.cls := findClass_of_methodNamed Bd.named
  have hnm := (name_of_methodNamed Bd.named Bd.method).1
  have hlk : meth.locks = false := BodyLoose.notSynchronized Bd
  have X0 : Stand p l e ({ frames := 0, cells := 2, slots := 4, locals := 0 } : Room) (s.setVm s.vm) m #[(.ref p0), (.int (0 : Int32))] below meth c s₁ [] 0 0 := Stand.of_body Bd
  have e0 : s₁.heap = h0 := by rw [← hh, Bd.state]; rfl
  have N0 := Fr.nil n0
  have hS0 := (State.WarmedH.refl s).since s.heap.size
  have hk0 : s.heap.size ≤ h0.size := by rw [hh]; exact Nat.le_refl _
  have CR0 : CHr Z own_EL s.vm h0 s.vm h0 := CHr.refl H0
  have KS0 : Keep h0 h0 [] := Keep.refl _ _
  have K0 : Keep h0 h0 [] := Keep.refl h0 []
  show own_GW p.tables e below (s₁.setTop (entryFrame m #[(.ref p0), (.int (0 : Int32))] 2)) s ({ frames := 0, cells := 2, slots := 4, locals := 0 } : Room).cells ({ frames := 0, cells := 2, slots := 4, locals := 0 } : Room).slots Z own_EL (Q2a Z p0 zc kc x0 x1 x2 x3 h0 n0)
  refine own_goW (fun _ k => castTop (ef_2a m p0) k) ?_
  show own_GW _ _ _ (s₁.setTop (mkF m 0 #[.val (.ref p0), .val (.int (0 : Int32))] [])) _ _ _ _ _ _
  refine own_goW (fun _ k => XS.iloadN X0.here hx rfl (hb hby d2_0) rfl k) ?_
  show own_GW _ _ _ (s₁.setTop (mkF m 1 #[.val (.ref p0), .val (.int (0 : Int32))] [(.int (0 : Int32))])) _ _ _ _ _ _
  have hc1 : (0 : Int32) = (0 : Int32) := (by decide)
  refine own_goW (fun _ k => XS.ifNo X0.here hx rfl (hb hby d2_1) rfl ((if0 _ _).trans (teq hc1).2) k) ?_
  show own_GW _ _ _ (s₁.setTop (mkF m 4 #[.val (.ref p0), .val (.int (0 : Int32))] [])) _ _ _ _ _ _
  have CQ2 := CR0.trans (CHr.keep KS0 all0 CR0.1)
  obtain ⟨a2, T2, h2, k12, b2, kb2, X2, e2, E2, hS2, hk2, hZ, hown, xa2, cd2, vl2, vb2, la2, lb2, CC2, Lt2, nea2, st2⟩ := ldcCH X0 hx hZ hown (hw _ (List.mem_of_getElem? (i := 85) rfl)) (own_wS hw) e0 hS0 (Nat.le_trans hk0 KS0.1) (own_EW hw) (by simp [own_EL]) CQ2.1 (vs := []) (z := (0 : Int32)) ⟨by decide, rfl⟩ (by decide) rfl (g := (mkF m 4 #[.val (.ref p0), .val (.int (0 : Int32))] [])) rfl (hb hby d2_4) (n := 0) (by decide) (by decide) (by decide) (by decide)
  have CR2 := CQ2.trans CC2
  have Zs2 : n0 ≤ h2.size := Nat.le_trans Z0 E2.1
  have K2_0 : Keep h0 h2 [] := K0.ext E2
  have f3 : Old Z n0 h2 := P_Old.ext E2
  have f4 : Arv Z h2 p0 kc .char (4 : Int32) [(.int x0), (.int x1), (.int x2), (.int x3)] (.int (0 : Int32)) := P_V_p0.ext E2
  have KS2 : Keep h2 h2 [] := Keep.refl _ _
  refine own_goW (fun _ k => st2 _ k) ?_
  show own_GW _ _ _ (T2.setTop (mkF m 6 #[.val (.ref p0), .val (.int (0 : Int32))] [(.ref a2)])) _ _ _ _ _ _
  have CQ5 := CR2.trans (CHr.keep KS2 all0 CR2.1)
  have CE5 : CHr Z own_EL s.vm s.heap T2.vm T2.heap := by rw [hh, show T2.heap = h2 from e2]; exact CQ5.trans (CHv.at X2 hZ (own_EW hw) CQ5.1)
  exact own_endWO X2 hx hlk Bd.returns rfl (Or.inr (Or.inr (Or.inr (Or.inr ⟨rfl, rfl, rfl⟩)))) (hb hby d2_6) hS2 (show _ ≤ T2.heap.size by rw [show T2.heap = h2 from e2]; exact (Nat.le_trans hk2 KS2.1)) (by decide) (by decide) CE5 (Q := (Q2a Z p0 zc kc x0 x1 x2 x3 h0 n0)) (by rw [e2]; exact ⟨a2, rfl, N0, K2_0, ⟨b2, kb2, xa2, cd2, vl2, vb2, own_sub0 hx4, by simp⟩⟩)
theorem pd_0 : parseMethodDescriptor "([C)V" = some ⟨[(.array .char)], none⟩ := by decide +kernel
theorem ef_2b (m : MethodId) (p0 : Addr) : entryFrame m #[(.ref p0), (.int (1 : Int32))] 2 = mkF m 0 #[.val (.ref p0), .val (.int (1 : Int32))] [] := by first | (simp [entryFrame, mkF, argsToLocals, Value.category]; done) | rfl
def Q2b (Z : State) (p0 : Addr) (zc : Int32) (kc : ClassId) (x0 : Int32) (x1 : Int32) (x2 : Int32) (x3 : Int32) (h0 : Heap) (n0 : Nat) (v : Option Value) (h : Heap) (L : List Loc) : Prop := ∃ (a : Addr), v = some (.ref a) ∧ Fr n0 L ∧ Keep h0 h [] ∧ own_Str Z h a ([x0] : List Int32)
set_option maxRecDepth 65536 in
set_option maxHeartbeats 40000000 in
theorem rm2b (l : Launch) (Z : State) (a0 : Array Value) (hw : ∀ d ∈ tables_1, d.before a0 Z = true) (ws : List Jvm.Cond) (p0 : Addr) (zc : Int32) (kc : ClassId) (x0 : Int32) (x1 : Int32) (x2 : Int32) (x3 : Int32) (h0 : Heap) (n0 : Nat) (Z0 : n0 ≤ h0.size) (P_Old : Old Z n0 h0) (P_ZS_java_lang_String_COMPACT_STRINGS : Sta Z Z.heap "java/lang/String" "COMPACT_STRINGS" "Z" (.int zc)) (hcs : ¬ zc = 0) (P_V_p0 : Arv Z h0 p0 kc .char (4 : Int32) [(.int x0), (.int x1), (.int x2), (.int x3)] (.int (0 : Int32))) (hx4 : ∀ c ∈ ([x0, x1, x2, x3] : List Int32), ¬ c < 0 ∧ ¬ (255 : Int32) < c) :
    MetFree l (⟨"com/example/floe/floe/rest/FramingLinesQuotedStringEndPinLaw", "make", "([CI)Ljava/lang/String;"⟩ : MethodName) (head1 (Jvm.Cond.code (⟨"com/example/floe/floe/rest/FramingLinesQuotedStringEndPinLaw", "make", "([CI)Ljava/lang/String;"⟩ : MethodName) method_4_code 2 (some (.object "java/lang/String")) :: ws) ({ frames := 4, cells := 3, slots := 6, locals := 66 } : Room)) (fun a U => a = #[(.ref p0), (.int (1 : Int32))] ∧ Z.Warmed39 U.vm ∧ U.heap = h0) (fun _ _ _ _ _ => True) (fun _ U o U' => ∃ v L, o = .returned v ∧ (Q2b Z p0 zc kc x0 x1 x2 x3 h0 n0) v U'.heap L ∧ FrameEnd U o U' L ({ frames := 4, cells := 3, slots := 6, locals := 66 } : Room).cells ({ frames := 4, cells := 3, slots := 6, locals := 66 } : Room).slots) := by
  refine MetFree.of_bodySF (plainFor_of_name pn_0) hisR ?_
  intro p e s m args below meth c s₁ Bd hml0 hP hK
  obtain ⟨rfl, hZ, hh⟩ := hP
  have hx := Bd.exec
  have hby := Bd.bytes
  have hml : c.maxLocals = 2 := hml0
  have hown : s.vm.findClass "com/example/floe/floe/rest/FramingLinesQuotedStringEndPinLaw" = some m.cls := findClass_of_methodNamed Bd.named
  have hnm := (name_of_methodNamed Bd.named Bd.method).1
  have hlk : meth.locks = false := BodyLoose.notSynchronized Bd
  have X0 : Stand p l e ({ frames := 4, cells := 3, slots := 6, locals := 66 } : Room) s m #[(.ref p0), (.int (1 : Int32))] below meth c s₁ [] 0 0 := Stand.of_body Bd
  have e0 : s₁.heap = h0 := by rw [← hh, Bd.state]; rfl
  have N0 := Fr.nil n0
  have K0 : Keep h0 h0 [] := Keep.refl h0 []
  show own_G p.tables e below (s₁.setTop (entryFrame m #[(.ref p0), (.int (1 : Int32))] 2)) s ({ frames := 4, cells := 3, slots := 6, locals := 66 } : Room).cells ({ frames := 4, cells := 3, slots := 6, locals := 66 } : Room).slots (Q2b Z p0 zc kc x0 x1 x2 x3 h0 n0)
  refine own_go (fun _ k => castTop (ef_2b m p0) k) ?_
  show own_G _ _ _ (s₁.setTop (mkF m 0 #[.val (.ref p0), .val (.int (1 : Int32))] [])) _ _ _ _
  refine own_go (fun _ k => XS.iloadN X0.here hx rfl (hb hby d2_0) rfl k) ?_
  show own_G _ _ _ (s₁.setTop (mkF m 1 #[.val (.ref p0), .val (.int (1 : Int32))] [(.int (1 : Int32))])) _ _ _ _
  have hc1 : ¬ ((1 : Int32) = (0 : Int32)) := (by decide)
  refine own_go (fun _ k => XS.ifYes X0.here hx rfl (pc0 := 1) (pc' := 7) rfl (hb hby d2_1) rfl ((if0 _ _).trans (feq hc1).2) (by decide) (by decide) k) ?_
  show own_G _ _ _ (s₁.setTop (mkF m 7 #[.val (.ref p0), .val (.int (1 : Int32))] [])) _ _ _ _
  refine own_go (fun _ k => XS.iloadN X0.here hx rfl (hb hby d2_7) rfl k) ?_
  show own_G _ _ _ (s₁.setTop (mkF m 8 #[.val (.ref p0), .val (.int (1 : Int32))] [(.int (1 : Int32))])) _ _ _ _
  refine own_go (fun _ k => XS.iconst X0.here hx rfl (hb hby d2_8) k) ?_
  show own_G _ _ _ (s₁.setTop (mkF m 9 #[.val (.ref p0), .val (.int (1 : Int32))] [(.int (1 : Int32)), (.int (1 : Int32))])) _ _ _ _
  have hc2 : (1 : Int32) = (1 : Int32) := (by decide)
  refine own_go (fun _ k => XS.icmpNo X0.here hx rfl (hb hby d2_9) rfl (teq hc2).2 k) ?_
  show own_G _ _ _ (s₁.setTop (mkF m 12 #[.val (.ref p0), .val (.int (1 : Int32))] [])) _ _ _ _
  obtain ⟨T3, h3, X3, e3, E3, A3, D3, -, st3⟩ := newO X0 hx hZ hown (hw _ (List.mem_of_getElem? (i := 8) rfl)) (hw _ (List.mem_of_getElem? (i := 9) rfl)) (hw _ (List.mem_of_getElem? (i := 10) rfl)) e0 (g := (mkF m 12 #[.val (.ref p0), .val (.int (1 : Int32))] [])) rfl (hb hby d2_12) (by decide) (by decide)
  obtain ⟨b3, g3⟩ : ∃ z, z = h0.size := ⟨_, rfl⟩
  rw [← g3] at A3 D3 st3
  have ne4 : p0 ≠ b3 := Nat.ne_of_lt (Nat.lt_of_lt_of_le P_V_p0.lt (Nat.le_of_eq g3.symm))
  have gg3 : n0 ≤ b3 := Nat.le_trans Z0 (Nat.le_of_eq g3.symm)
  have sz3_0 : h0.size ≤ b3 := Nat.le_trans K0.1 (Nat.le_of_eq g3.symm)
  have Zs3 : n0 ≤ h3.size := Nat.le_trans Z0 E3.1
  have K3_0 : Keep h0 h3 [] := K0.ext E3
  have f5 : Old Z n0 h3 := P_Old.ext E3
  have f6 : Arv Z h3 p0 kc .char (4 : Int32) [(.int x0), (.int x1), (.int x2), (.int x3)] (.int (0 : Int32)) := P_V_p0.ext E3
  have f7 : Exa Z h3 b3 "java/lang/String" := A3
  have f8 : Fld Z h3 b3 "java/lang/String" "coder" "B" (.int (0 : Int32)) := D3 (Or.inr (hw _ (List.mem_of_getElem? (i := 34) rfl))) (ty := .byte) (by decide)
  have f9 : Fld Z h3 b3 "java/lang/String" "value" "[B" .null := D3 (Or.inr (hw _ (List.mem_of_getElem? (i := 36) rfl))) (ty := (.array .byte)) (by decide)
  refine own_go (fun _ k => st3 _ k) ?_
  show own_G _ _ _ (T3.setTop (mkF m 15 #[.val (.ref p0), .val (.int (1 : Int32))] [(.ref b3)])) _ _ _ _
  refine own_go (fun _ k => XS.dup X3.here hx rfl (hb hby d2_15) rfl rfl k) ?_
  show own_G _ _ _ (T3.setTop (mkF m 16 #[.val (.ref p0), .val (.int (1 : Int32))] [(.ref b3), (.ref b3)])) _ _ _ _
  refine own_go (fun _ k => XS.iconst X3.here hx rfl (hb hby d2_16) k) ?_
  show own_G _ _ _ (T3.setTop (mkF m 17 #[.val (.ref p0), .val (.int (1 : Int32))] [(.int (1 : Int32)), (.ref b3), (.ref b3)])) _ _ _ _
  obtain ⟨T10, h10, k10, X10, e10, E10, A10, st10⟩ := newP X3 hx hZ (hw _ (List.mem_of_getElem? (i := 0) rfl)) e3 (g := (mkF m 17 #[.val (.ref p0), .val (.int (1 : Int32))] [(.int (1 : Int32)), (.ref b3), (.ref b3)])) rfl (hb hby d2_17) rfl (by decide) (cap := 1) (by decide) (by decide) (by decide) (by decide)
  obtain ⟨b10, g10⟩ : ∃ z, z = h3.size := ⟨_, rfl⟩
  rw [← g10] at A10 st10
  have ne11 : p0 ≠ b10 := Nat.ne_of_lt (Nat.lt_of_lt_of_le f6.lt (Nat.le_of_eq g10.symm))
  have ne12 : b3 ≠ b10 := Nat.ne_of_lt (Nat.lt_of_lt_of_le f7.lt (Nat.le_of_eq g10.symm))
  have gg10 : n0 ≤ b10 := Nat.le_trans Zs3 (Nat.le_of_eq g10.symm)
  have sz10_0 : h0.size ≤ b10 := Nat.le_trans K3_0.1 (Nat.le_of_eq g10.symm)
  have Zs10 : n0 ≤ h10.size := Nat.le_trans Zs3 E10.1
  have K10_0 : Keep h0 h10 [] := K3_0.ext E10
  have f13 : Old Z n0 h10 := f5.ext E10
  have f14 : Arv Z h10 p0 kc .char (4 : Int32) [(.int x0), (.int x1), (.int x2), (.int x3)] (.int (0 : Int32)) := f6.ext E10
  have f15 : Exa Z h10 b3 "java/lang/String" := f7.ext E10
  have f16 : Fld Z h10 b3 "java/lang/String" "coder" "B" (.int (0 : Int32)) := f8.ext E10
  have f17 : Fld Z h10 b3 "java/lang/String" "value" "[B" .null := f9.ext E10
  have f18 : Arv Z h10 b10 k10 .char (1 : Int32) [(.int (0 : Int32))] (.int (0 : Int32)) := (Arv.new A10 (by decide)).pad (pad_rep [] (.int (0 : Int32)) 1)
  refine own_go (fun _ k => st10 _ k) ?_
  show own_G _ _ _ (T10.setTop (mkF m 19 #[.val (.ref p0), .val (.int (1 : Int32))] [(.ref b10), (.ref b3), (.ref b3)])) _ _ _ _
  refine own_go (fun _ k => XS.dup X10.here hx rfl (hb hby d2_19) rfl rfl k) ?_
  show own_G _ _ _ (T10.setTop (mkF m 20 #[.val (.ref p0), .val (.int (1 : Int32))] [(.ref b10), (.ref b10), (.ref b3), (.ref b3)])) _ _ _ _
  refine own_go (fun _ k => XS.iconst X10.here hx rfl (hb hby d2_20) k) ?_
  show own_G _ _ _ (T10.setTop (mkF m 21 #[.val (.ref p0), .val (.int (1 : Int32))] [(.int (0 : Int32)), (.ref b10), (.ref b10), (.ref b3), (.ref b3)])) _ _ _ _
  refine own_go (fun _ k => XS.aloadN X10.here hx rfl (hb hby d2_21) rfl rfl k) ?_
  show own_G _ _ _ (T10.setTop (mkF m 22 #[.val (.ref p0), .val (.int (1 : Int32))] [(.ref p0), (.int (0 : Int32)), (.ref b10), (.ref b10), (.ref b3), (.ref b3)])) _ _ _ _
  refine own_go (fun _ k => XS.iconst X10.here hx rfl (hb hby d2_22) k) ?_
  show own_G _ _ _ (T10.setTop (mkF m 23 #[.val (.ref p0), .val (.int (1 : Int32))] [(.int (0 : Int32)), (.ref p0), (.int (0 : Int32)), (.ref b10), (.ref b10), (.ref b3), (.ref b3)])) _ _ _ _
  obtain ⟨cl19, Ar19, q19, S19, Ng19, H19, G19⟩ := id f14
  have in19 : ¬ ((0 : Int32) < 0 ∨ cl19.slots.size ≤ ((0 : Int32)).toNatClampNeg) := inb_of S19 ⟨by decide, by decide⟩
  have at19 : cl19.slots[((0 : Int32)).toNatClampNeg]? = some (.int x0) := H19.at in19 rfl
  refine own_go (fun _ k => X10.caload hx (j := (0 : Int32)) (v := (.int x0)) (by rw [e10]; exact Ar19.1) (State.isArrayOf_alike hZ.alike Ar19.2.1) Ar19.2.2 in19 at19 (g := (mkF m 23 #[.val (.ref p0), .val (.int (1 : Int32))] [(.int (0 : Int32)), (.ref p0), (.int (0 : Int32)), (.ref b10), (.ref b10), (.ref b3), (.ref b3)])) rfl rfl (hb hby d2_23) _ k) ?_
  show own_G _ _ _ (T10.setTop (mkF m 24 #[.val (.ref p0), .val (.int (1 : Int32))] [(.int x0), (.int (0 : Int32)), (.ref b10), (.ref b10), (.ref b3), (.ref b3)])) _ _ _ _
  obtain ⟨cl20, Ar20, q20, S20, Ng20, H20, G20⟩ := id f18
  have in20 : ¬ ((0 : Int32) < 0 ∨ cl20.slots.size ≤ ((0 : Int32)).toNatClampNeg) := inb_of S20 ⟨by decide, by decide⟩
  obtain ⟨T20, h20, X20, e20, W20, st20⟩ := stC X10 hx hZ e10 Ar20 (j := (0 : Int32)) in20 (g := (mkF m 24 #[.val (.ref p0), .val (.int (1 : Int32))] [(.int x0), (.int (0 : Int32)), (.ref b10), (.ref b10), (.ref b3), (.ref b3)])) rfl rfl (hb hby d2_24)
  have N20 := Fr.snoc X20 N0 gg10
  have Zs20 : n0 ≤ h20.size := Nat.le_trans Zs10 (Keep.of_wr W20).1
  have K20_0 : Keep h0 h20 [] := K10_0.wr W20 (Or.inr sz10_0)
  have f21 : Old Z n0 h20 := f13.wr W20 gg10
  have f22 : Arv Z h20 p0 kc .char (4 : Int32) [(.int x0), (.int x1), (.int x2), (.int x3)] (.int (0 : Int32)) := f14.other W20 ne11
  have f23 : Exa Z h20 b3 "java/lang/String" := f15.wr W20
  have f24 : Fld Z h20 b3 "java/lang/String" "coder" "B" (.int (0 : Int32)) := f16.other W20 (Or.inl ne12)
  have f25 : Fld Z h20 b3 "java/lang/String" "value" "[B" .null := f17.other W20 (Or.inl ne12)
  have f26 : Arv Z h20 b10 k10 .char (1 : Int32) [(.int x0)] (.int (0 : Int32)) := (by have q := Arv.set Ar20 q20 S20 Ng20 H20 G20 (fits_nar_char _) W20 0 rfl (Nat.le_of_ble_eq_true rfl); rw [(own_narx0 hx4)] at q; exact q)
  refine own_go (fun _ k => st20 _ k) ?_
  show own_G _ _ _ (T20.setTop (mkF m 25 #[.val (.ref p0), .val (.int (1 : Int32))] [(.ref b10), (.ref b3), (.ref b3)])) _ _ _ _
  have hp27 : ∀ c ∈ ([x0] : List Int32), ¬ c < 0 ∧ ¬ (255 : Int32) < c := own_sub1 hx4
  have hws27 : ∀ d ∈ StrChars.Road.words, d.before a0 Z = true := fun d hd => hw d (own_words d hd)
  obtain ⟨_, _, ⟨T27, L27, k27, n27⟩, -, X27, ⟨Lc27, hQ27, l27, y27, z27⟩, st27⟩ := X20.specialBack hx (y := (⟨"java/lang/String", "<init>", "([C)V"⟩ : MethodName)) rfl hown (mvT hZ (hw _ (List.mem_of_getElem? (i := 11) rfl))) (mvT hZ (hw _ (List.mem_of_getElem? (i := 12) rfl))) (mvT hZ (hw _ (List.mem_of_getElem? (i := 13) rfl))) (by decide) (StrChars.Road.backV (W := 1) hZ hws27 (kI := 4) (hw _ (List.mem_of_getElem? (i := 9) rfl)) (cs := ([x0] : List Int32)) (bs := ([x0] : List Int32).map (fun c => c.toInt8.toInt32)) (n := 1) gg3 Zs20 f23 f25 f24 f26 (P_ZS_java_lang_String_COMPACT_STRINGS.ext f21.2) hcs rfl rfl (by decide) (by decide) hp27 rfl (by decide) (by decide)) (g := (mkF m 25 #[.val (.ref p0), .val (.int (1 : Int32))] [(.ref b10), (.ref b3), (.ref b3)])) rfl (by rw [hml]; rfl) (Steps.refl _) (a := b3) (argsL := [(.ref b10)]) (rest := [(.ref b3)]) (lenOf pd_0 rfl) rfl (by show 2 * 0 + _ ≤ _; exact Nat.le_of_eq rfl) (hb hby d2_25) (fun _ _ => ⟨rfl, e20, (by decide : 2 + 1 ≤ _), (by decide : 5 + 1 ≤ _)⟩)
  dsimp only [Pt.U, Pt.locs, Pt.cells, Pt.slots] at X27 l27 y27 z27 st27 hQ27
  subst l27 y27 z27
  obtain ⟨rfl, Nq27, Kq27, xs27, cd27, t27, kb27, nt27, ht27, nx27, vl27, vb27⟩ := hQ27
  have N27 := Fr.app N20 Nq27
  have ne28 : p0 ≠ t27 := Nat.ne_of_lt (Nat.lt_of_lt_of_le f22.lt ht27)
  have ne29 : b3 ≠ t27 := Nat.ne_of_lt (Nat.lt_of_lt_of_le f23.lt ht27)
  have ne30 : b10 ≠ t27 := Nat.ne_of_lt (Nat.lt_of_lt_of_le f26.lt ht27)
  have sz_t27_0 : h0.size ≤ t27 := Nat.le_trans K20_0.1 ht27
  have f31 : Old Z n0 T27.heap := f21.keep Kq27 (allS gg3 all0)
  have f32 : Arv Z T27.heap p0 kc .char (4 : Int32) [(.int x0), (.int x1), (.int x2), (.int x3)] (.int (0 : Int32)) := f22.keep Kq27 (ninS ne4 nin0)
  have f33 : Exa Z T27.heap b3 "java/lang/String" := f23.keep Kq27
  have f34 : Arv Z T27.heap b10 k10 .char (1 : Int32) [(.int x0)] (.int (0 : Int32)) := f26.keep Kq27 (ninS (Ne.symm ne12) nin0)
  have Zs27 : n0 ≤ T27.heap.size := Nat.le_trans Zs20 Kq27.1
  have K27_0 : Keep h0 T27.heap [] := K20_0.trans Kq27 (allS (Or.inr sz3_0) all0)
  have f35 : Arv Z T27.heap t27 kb27 .byte (1 : Int32) [(.int (x0).toInt8.toInt32)] (.int (0 : Int32)) := vb27
  refine own_tr st27 ?_
  show own_G _ _ _ (T27.setTop (mkF m 28 #[.val (.ref p0), .val (.int (1 : Int32))] [(.ref b3)])) _ _ _ _
  exact own_endR X27 hx hlk Bd.returns rfl rfl rfl (hb hby d2_28) (by decide) (by decide) (Q := (Q2b Z p0 zc kc x0 x1 x2 x3 h0 n0)) ⟨b3, rfl, N27, K27_0, ⟨t27, kb27, xs27, cd27, vl27, f35, own_sub1 hx4, by simp⟩⟩
theorem ef_2c (m : MethodId) (p0 : Addr) : entryFrame m #[(.ref p0), (.int (2 : Int32))] 2 = mkF m 0 #[.val (.ref p0), .val (.int (2 : Int32))] [] := by first | (simp [entryFrame, mkF, argsToLocals, Value.category]; done) | rfl
def Q2c (Z : State) (p0 : Addr) (zc : Int32) (kc : ClassId) (x0 : Int32) (x1 : Int32) (x2 : Int32) (x3 : Int32) (h0 : Heap) (n0 : Nat) (v : Option Value) (h : Heap) (L : List Loc) : Prop := ∃ (a : Addr), v = some (.ref a) ∧ Fr n0 L ∧ Keep h0 h [] ∧ own_Str Z h a ([x0, x1] : List Int32)
set_option maxRecDepth 65536 in
set_option maxHeartbeats 40000000 in
theorem rm2c (l : Launch) (Z : State) (a0 : Array Value) (hw : ∀ d ∈ tables_1, d.before a0 Z = true) (ws : List Jvm.Cond) (p0 : Addr) (zc : Int32) (kc : ClassId) (x0 : Int32) (x1 : Int32) (x2 : Int32) (x3 : Int32) (h0 : Heap) (n0 : Nat) (Z0 : n0 ≤ h0.size) (P_Old : Old Z n0 h0) (P_ZS_java_lang_String_COMPACT_STRINGS : Sta Z Z.heap "java/lang/String" "COMPACT_STRINGS" "Z" (.int zc)) (hcs : ¬ zc = 0) (P_V_p0 : Arv Z h0 p0 kc .char (4 : Int32) [(.int x0), (.int x1), (.int x2), (.int x3)] (.int (0 : Int32))) (hx4 : ∀ c ∈ ([x0, x1, x2, x3] : List Int32), ¬ c < 0 ∧ ¬ (255 : Int32) < c) :
    MetFree l (⟨"com/example/floe/floe/rest/FramingLinesQuotedStringEndPinLaw", "make", "([CI)Ljava/lang/String;"⟩ : MethodName) (head1 (Jvm.Cond.code (⟨"com/example/floe/floe/rest/FramingLinesQuotedStringEndPinLaw", "make", "([CI)Ljava/lang/String;"⟩ : MethodName) method_4_code 2 (some (.object "java/lang/String")) :: ws) ({ frames := 4, cells := 3, slots := 8, locals := 66 } : Room)) (fun a U => a = #[(.ref p0), (.int (2 : Int32))] ∧ Z.Warmed39 U.vm ∧ U.heap = h0) (fun _ _ _ _ _ => True) (fun _ U o U' => ∃ v L, o = .returned v ∧ (Q2c Z p0 zc kc x0 x1 x2 x3 h0 n0) v U'.heap L ∧ FrameEnd U o U' L ({ frames := 4, cells := 3, slots := 8, locals := 66 } : Room).cells ({ frames := 4, cells := 3, slots := 8, locals := 66 } : Room).slots) := by
  refine MetFree.of_bodySF (plainFor_of_name pn_0) hisR ?_
  intro p e s m args below meth c s₁ Bd hml0 hP hK
  obtain ⟨rfl, hZ, hh⟩ := hP
  have hx := Bd.exec
  have hby := Bd.bytes
  have hml : c.maxLocals = 2 := hml0
  have hown : s.vm.findClass "com/example/floe/floe/rest/FramingLinesQuotedStringEndPinLaw" = some m.cls := findClass_of_methodNamed Bd.named
  have hnm := (name_of_methodNamed Bd.named Bd.method).1
  have hlk : meth.locks = false := BodyLoose.notSynchronized Bd
  have X0 : Stand p l e ({ frames := 4, cells := 3, slots := 8, locals := 66 } : Room) s m #[(.ref p0), (.int (2 : Int32))] below meth c s₁ [] 0 0 := Stand.of_body Bd
  have e0 : s₁.heap = h0 := by rw [← hh, Bd.state]; rfl
  have N0 := Fr.nil n0
  have K0 : Keep h0 h0 [] := Keep.refl h0 []
  show own_G p.tables e below (s₁.setTop (entryFrame m #[(.ref p0), (.int (2 : Int32))] 2)) s ({ frames := 4, cells := 3, slots := 8, locals := 66 } : Room).cells ({ frames := 4, cells := 3, slots := 8, locals := 66 } : Room).slots (Q2c Z p0 zc kc x0 x1 x2 x3 h0 n0)
  refine own_go (fun _ k => castTop (ef_2c m p0) k) ?_
  show own_G _ _ _ (s₁.setTop (mkF m 0 #[.val (.ref p0), .val (.int (2 : Int32))] [])) _ _ _ _
  refine own_go (fun _ k => XS.iloadN X0.here hx rfl (hb hby d2_0) rfl k) ?_
  show own_G _ _ _ (s₁.setTop (mkF m 1 #[.val (.ref p0), .val (.int (2 : Int32))] [(.int (2 : Int32))])) _ _ _ _
  have hc1 : ¬ ((2 : Int32) = (0 : Int32)) := (by decide)
  refine own_go (fun _ k => XS.ifYes X0.here hx rfl (pc0 := 1) (pc' := 7) rfl (hb hby d2_1) rfl ((if0 _ _).trans (feq hc1).2) (by decide) (by decide) k) ?_
  show own_G _ _ _ (s₁.setTop (mkF m 7 #[.val (.ref p0), .val (.int (2 : Int32))] [])) _ _ _ _
  refine own_go (fun _ k => XS.iloadN X0.here hx rfl (hb hby d2_7) rfl k) ?_
  show own_G _ _ _ (s₁.setTop (mkF m 8 #[.val (.ref p0), .val (.int (2 : Int32))] [(.int (2 : Int32))])) _ _ _ _
  refine own_go (fun _ k => XS.iconst X0.here hx rfl (hb hby d2_8) k) ?_
  show own_G _ _ _ (s₁.setTop (mkF m 9 #[.val (.ref p0), .val (.int (2 : Int32))] [(.int (1 : Int32)), (.int (2 : Int32))])) _ _ _ _
  have hc2 : ¬ ((2 : Int32) = (1 : Int32)) := (by decide)
  refine own_go (fun _ k => XS.icmpYes X0.here hx rfl (pc0 := 9) (pc' := 29) rfl (hb hby d2_9) rfl (feq hc2).2 (by decide) (by decide) k) ?_
  show own_G _ _ _ (s₁.setTop (mkF m 29 #[.val (.ref p0), .val (.int (2 : Int32))] [])) _ _ _ _
  refine own_go (fun _ k => XS.iloadN X0.here hx rfl (hb hby d2_29) rfl k) ?_
  show own_G _ _ _ (s₁.setTop (mkF m 30 #[.val (.ref p0), .val (.int (2 : Int32))] [(.int (2 : Int32))])) _ _ _ _
  refine own_go (fun _ k => XS.iconst X0.here hx rfl (hb hby d2_30) k) ?_
  show own_G _ _ _ (s₁.setTop (mkF m 31 #[.val (.ref p0), .val (.int (2 : Int32))] [(.int (2 : Int32)), (.int (2 : Int32))])) _ _ _ _
  have hc3 : (2 : Int32) = (2 : Int32) := (by decide)
  refine own_go (fun _ k => XS.icmpNo X0.here hx rfl (hb hby d2_31) rfl (teq hc3).2 k) ?_
  show own_G _ _ _ (s₁.setTop (mkF m 34 #[.val (.ref p0), .val (.int (2 : Int32))] [])) _ _ _ _
  obtain ⟨T4, h4, X4, e4, E4, A4, D4, -, st4⟩ := newO X0 hx hZ hown (hw _ (List.mem_of_getElem? (i := 8) rfl)) (hw _ (List.mem_of_getElem? (i := 9) rfl)) (hw _ (List.mem_of_getElem? (i := 10) rfl)) e0 (g := (mkF m 34 #[.val (.ref p0), .val (.int (2 : Int32))] [])) rfl (hb hby d2_34) (by decide) (by decide)
  obtain ⟨b4, g4⟩ : ∃ z, z = h0.size := ⟨_, rfl⟩
  rw [← g4] at A4 D4 st4
  have ne5 : p0 ≠ b4 := Nat.ne_of_lt (Nat.lt_of_lt_of_le P_V_p0.lt (Nat.le_of_eq g4.symm))
  have gg4 : n0 ≤ b4 := Nat.le_trans Z0 (Nat.le_of_eq g4.symm)
  have sz4_0 : h0.size ≤ b4 := Nat.le_trans K0.1 (Nat.le_of_eq g4.symm)
  have Zs4 : n0 ≤ h4.size := Nat.le_trans Z0 E4.1
  have K4_0 : Keep h0 h4 [] := K0.ext E4
  have f6 : Old Z n0 h4 := P_Old.ext E4
  have f7 : Arv Z h4 p0 kc .char (4 : Int32) [(.int x0), (.int x1), (.int x2), (.int x3)] (.int (0 : Int32)) := P_V_p0.ext E4
  have f8 : Exa Z h4 b4 "java/lang/String" := A4
  have f9 : Fld Z h4 b4 "java/lang/String" "coder" "B" (.int (0 : Int32)) := D4 (Or.inr (hw _ (List.mem_of_getElem? (i := 34) rfl))) (ty := .byte) (by decide)
  have f10 : Fld Z h4 b4 "java/lang/String" "value" "[B" .null := D4 (Or.inr (hw _ (List.mem_of_getElem? (i := 36) rfl))) (ty := (.array .byte)) (by decide)
  refine own_go (fun _ k => st4 _ k) ?_
  show own_G _ _ _ (T4.setTop (mkF m 37 #[.val (.ref p0), .val (.int (2 : Int32))] [(.ref b4)])) _ _ _ _
  refine own_go (fun _ k => XS.dup X4.here hx rfl (hb hby d2_37) rfl rfl k) ?_
  show own_G _ _ _ (T4.setTop (mkF m 38 #[.val (.ref p0), .val (.int (2 : Int32))] [(.ref b4), (.ref b4)])) _ _ _ _
  refine own_go (fun _ k => XS.iconst X4.here hx rfl (hb hby d2_38) k) ?_
  show own_G _ _ _ (T4.setTop (mkF m 39 #[.val (.ref p0), .val (.int (2 : Int32))] [(.int (2 : Int32)), (.ref b4), (.ref b4)])) _ _ _ _
  obtain ⟨T11, h11, k11, X11, e11, E11, A11, st11⟩ := newP X4 hx hZ (hw _ (List.mem_of_getElem? (i := 0) rfl)) e4 (g := (mkF m 39 #[.val (.ref p0), .val (.int (2 : Int32))] [(.int (2 : Int32)), (.ref b4), (.ref b4)])) rfl (hb hby d2_39) rfl (by decide) (cap := 2) (by decide) (by decide) (by decide) (by decide)
  obtain ⟨b11, g11⟩ : ∃ z, z = h4.size := ⟨_, rfl⟩
  rw [← g11] at A11 st11
  have ne12 : p0 ≠ b11 := Nat.ne_of_lt (Nat.lt_of_lt_of_le f7.lt (Nat.le_of_eq g11.symm))
  have ne13 : b4 ≠ b11 := Nat.ne_of_lt (Nat.lt_of_lt_of_le f8.lt (Nat.le_of_eq g11.symm))
  have gg11 : n0 ≤ b11 := Nat.le_trans Zs4 (Nat.le_of_eq g11.symm)
  have sz11_0 : h0.size ≤ b11 := Nat.le_trans K4_0.1 (Nat.le_of_eq g11.symm)
  have Zs11 : n0 ≤ h11.size := Nat.le_trans Zs4 E11.1
  have K11_0 : Keep h0 h11 [] := K4_0.ext E11
  have f14 : Old Z n0 h11 := f6.ext E11
  have f15 : Arv Z h11 p0 kc .char (4 : Int32) [(.int x0), (.int x1), (.int x2), (.int x3)] (.int (0 : Int32)) := f7.ext E11
  have f16 : Exa Z h11 b4 "java/lang/String" := f8.ext E11
  have f17 : Fld Z h11 b4 "java/lang/String" "coder" "B" (.int (0 : Int32)) := f9.ext E11
  have f18 : Fld Z h11 b4 "java/lang/String" "value" "[B" .null := f10.ext E11
  have f19 : Arv Z h11 b11 k11 .char (2 : Int32) [(.int (0 : Int32)), (.int (0 : Int32))] (.int (0 : Int32)) := (Arv.new A11 (by decide)).pad (pad_rep [] (.int (0 : Int32)) 2)
  refine own_go (fun _ k => st11 _ k) ?_
  show own_G _ _ _ (T11.setTop (mkF m 41 #[.val (.ref p0), .val (.int (2 : Int32))] [(.ref b11), (.ref b4), (.ref b4)])) _ _ _ _
  refine own_go (fun _ k => XS.dup X11.here hx rfl (hb hby d2_41) rfl rfl k) ?_
  show own_G _ _ _ (T11.setTop (mkF m 42 #[.val (.ref p0), .val (.int (2 : Int32))] [(.ref b11), (.ref b11), (.ref b4), (.ref b4)])) _ _ _ _
  refine own_go (fun _ k => XS.iconst X11.here hx rfl (hb hby d2_42) k) ?_
  show own_G _ _ _ (T11.setTop (mkF m 43 #[.val (.ref p0), .val (.int (2 : Int32))] [(.int (0 : Int32)), (.ref b11), (.ref b11), (.ref b4), (.ref b4)])) _ _ _ _
  refine own_go (fun _ k => XS.aloadN X11.here hx rfl (hb hby d2_43) rfl rfl k) ?_
  show own_G _ _ _ (T11.setTop (mkF m 44 #[.val (.ref p0), .val (.int (2 : Int32))] [(.ref p0), (.int (0 : Int32)), (.ref b11), (.ref b11), (.ref b4), (.ref b4)])) _ _ _ _
  refine own_go (fun _ k => XS.iconst X11.here hx rfl (hb hby d2_44) k) ?_
  show own_G _ _ _ (T11.setTop (mkF m 45 #[.val (.ref p0), .val (.int (2 : Int32))] [(.int (0 : Int32)), (.ref p0), (.int (0 : Int32)), (.ref b11), (.ref b11), (.ref b4), (.ref b4)])) _ _ _ _
  obtain ⟨cl20, Ar20, q20, S20, Ng20, H20, G20⟩ := id f15
  have in20 : ¬ ((0 : Int32) < 0 ∨ cl20.slots.size ≤ ((0 : Int32)).toNatClampNeg) := inb_of S20 ⟨by decide, by decide⟩
  have at20 : cl20.slots[((0 : Int32)).toNatClampNeg]? = some (.int x0) := H20.at in20 rfl
  refine own_go (fun _ k => X11.caload hx (j := (0 : Int32)) (v := (.int x0)) (by rw [e11]; exact Ar20.1) (State.isArrayOf_alike hZ.alike Ar20.2.1) Ar20.2.2 in20 at20 (g := (mkF m 45 #[.val (.ref p0), .val (.int (2 : Int32))] [(.int (0 : Int32)), (.ref p0), (.int (0 : Int32)), (.ref b11), (.ref b11), (.ref b4), (.ref b4)])) rfl rfl (hb hby d2_45) _ k) ?_
  show own_G _ _ _ (T11.setTop (mkF m 46 #[.val (.ref p0), .val (.int (2 : Int32))] [(.int x0), (.int (0 : Int32)), (.ref b11), (.ref b11), (.ref b4), (.ref b4)])) _ _ _ _
  obtain ⟨cl21, Ar21, q21, S21, Ng21, H21, G21⟩ := id f19
  have in21 : ¬ ((0 : Int32) < 0 ∨ cl21.slots.size ≤ ((0 : Int32)).toNatClampNeg) := inb_of S21 ⟨by decide, by decide⟩
  obtain ⟨T21, h21, X21, e21, W21, st21⟩ := stC X11 hx hZ e11 Ar21 (j := (0 : Int32)) in21 (g := (mkF m 46 #[.val (.ref p0), .val (.int (2 : Int32))] [(.int x0), (.int (0 : Int32)), (.ref b11), (.ref b11), (.ref b4), (.ref b4)])) rfl rfl (hb hby d2_46)
  have N21 := Fr.snoc X21 N0 gg11
  have Zs21 : n0 ≤ h21.size := Nat.le_trans Zs11 (Keep.of_wr W21).1
  have K21_0 : Keep h0 h21 [] := K11_0.wr W21 (Or.inr sz11_0)
  have f22 : Old Z n0 h21 := f14.wr W21 gg11
  have f23 : Arv Z h21 p0 kc .char (4 : Int32) [(.int x0), (.int x1), (.int x2), (.int x3)] (.int (0 : Int32)) := f15.other W21 ne12
  have f24 : Exa Z h21 b4 "java/lang/String" := f16.wr W21
  have f25 : Fld Z h21 b4 "java/lang/String" "coder" "B" (.int (0 : Int32)) := f17.other W21 (Or.inl ne13)
  have f26 : Fld Z h21 b4 "java/lang/String" "value" "[B" .null := f18.other W21 (Or.inl ne13)
  have f27 : Arv Z h21 b11 k11 .char (2 : Int32) [(.int x0), (.int (0 : Int32))] (.int (0 : Int32)) := (by have q := Arv.set Ar21 q21 S21 Ng21 H21 G21 (fits_nar_char _) W21 0 rfl (Nat.le_of_ble_eq_true rfl); rw [(own_narx0 hx4)] at q; exact q)
  refine own_go (fun _ k => st21 _ k) ?_
  show own_G _ _ _ (T21.setTop (mkF m 47 #[.val (.ref p0), .val (.int (2 : Int32))] [(.ref b11), (.ref b4), (.ref b4)])) _ _ _ _
  refine own_go (fun _ k => XS.dup X21.here hx rfl (hb hby d2_47) rfl rfl k) ?_
  show own_G _ _ _ (T21.setTop (mkF m 48 #[.val (.ref p0), .val (.int (2 : Int32))] [(.ref b11), (.ref b11), (.ref b4), (.ref b4)])) _ _ _ _
  refine own_go (fun _ k => XS.iconst X21.here hx rfl (hb hby d2_48) k) ?_
  show own_G _ _ _ (T21.setTop (mkF m 49 #[.val (.ref p0), .val (.int (2 : Int32))] [(.int (1 : Int32)), (.ref b11), (.ref b11), (.ref b4), (.ref b4)])) _ _ _ _
  refine own_go (fun _ k => XS.aloadN X21.here hx rfl (hb hby d2_49) rfl rfl k) ?_
  show own_G _ _ _ (T21.setTop (mkF m 50 #[.val (.ref p0), .val (.int (2 : Int32))] [(.ref p0), (.int (1 : Int32)), (.ref b11), (.ref b11), (.ref b4), (.ref b4)])) _ _ _ _
  refine own_go (fun _ k => XS.iconst X21.here hx rfl (hb hby d2_50) k) ?_
  show own_G _ _ _ (T21.setTop (mkF m 51 #[.val (.ref p0), .val (.int (2 : Int32))] [(.int (1 : Int32)), (.ref p0), (.int (1 : Int32)), (.ref b11), (.ref b11), (.ref b4), (.ref b4)])) _ _ _ _
  obtain ⟨cl28, Ar28, q28, S28, Ng28, H28, G28⟩ := id f23
  have in28 : ¬ ((1 : Int32) < 0 ∨ cl28.slots.size ≤ ((1 : Int32)).toNatClampNeg) := inb_of S28 ⟨by decide, by decide⟩
  have at28 : cl28.slots[((1 : Int32)).toNatClampNeg]? = some (.int x1) := H28.at in28 rfl
  refine own_go (fun _ k => X21.caload hx (j := (1 : Int32)) (v := (.int x1)) (by rw [e21]; exact Ar28.1) (State.isArrayOf_alike hZ.alike Ar28.2.1) Ar28.2.2 in28 at28 (g := (mkF m 51 #[.val (.ref p0), .val (.int (2 : Int32))] [(.int (1 : Int32)), (.ref p0), (.int (1 : Int32)), (.ref b11), (.ref b11), (.ref b4), (.ref b4)])) rfl rfl (hb hby d2_51) _ k) ?_
  show own_G _ _ _ (T21.setTop (mkF m 52 #[.val (.ref p0), .val (.int (2 : Int32))] [(.int x1), (.int (1 : Int32)), (.ref b11), (.ref b11), (.ref b4), (.ref b4)])) _ _ _ _
  obtain ⟨cl29, Ar29, q29, S29, Ng29, H29, G29⟩ := id f27
  have in29 : ¬ ((1 : Int32) < 0 ∨ cl29.slots.size ≤ ((1 : Int32)).toNatClampNeg) := inb_of S29 ⟨by decide, by decide⟩
  obtain ⟨T29, h29, X29, e29, W29, st29⟩ := stC X21 hx hZ e21 Ar29 (j := (1 : Int32)) in29 (g := (mkF m 52 #[.val (.ref p0), .val (.int (2 : Int32))] [(.int x1), (.int (1 : Int32)), (.ref b11), (.ref b11), (.ref b4), (.ref b4)])) rfl rfl (hb hby d2_52)
  have N29 := Fr.snoc X29 N21 gg11
  have Zs29 : n0 ≤ h29.size := Nat.le_trans Zs21 (Keep.of_wr W29).1
  have K29_0 : Keep h0 h29 [] := K21_0.wr W29 (Or.inr sz11_0)
  have f30 : Old Z n0 h29 := f22.wr W29 gg11
  have f31 : Arv Z h29 p0 kc .char (4 : Int32) [(.int x0), (.int x1), (.int x2), (.int x3)] (.int (0 : Int32)) := f23.other W29 ne12
  have f32 : Exa Z h29 b4 "java/lang/String" := f24.wr W29
  have f33 : Fld Z h29 b4 "java/lang/String" "coder" "B" (.int (0 : Int32)) := f25.other W29 (Or.inl ne13)
  have f34 : Fld Z h29 b4 "java/lang/String" "value" "[B" .null := f26.other W29 (Or.inl ne13)
  have f35 : Arv Z h29 b11 k11 .char (2 : Int32) [(.int x0), (.int x1)] (.int (0 : Int32)) := (by have q := Arv.set Ar29 q29 S29 Ng29 H29 G29 (fits_nar_char _) W29 1 rfl (Nat.le_of_ble_eq_true rfl); rw [(own_narx1 hx4)] at q; exact q)
  refine own_go (fun _ k => st29 _ k) ?_
  show own_G _ _ _ (T29.setTop (mkF m 53 #[.val (.ref p0), .val (.int (2 : Int32))] [(.ref b11), (.ref b4), (.ref b4)])) _ _ _ _
  have hp36 : ∀ c ∈ ([x0, x1] : List Int32), ¬ c < 0 ∧ ¬ (255 : Int32) < c := own_sub2 hx4
  have hws36 : ∀ d ∈ StrChars.Road.words, d.before a0 Z = true := fun d hd => hw d (own_words d hd)
  obtain ⟨_, _, ⟨T36, L36, k36, n36⟩, -, X36, ⟨Lc36, hQ36, l36, y36, z36⟩, st36⟩ := X29.specialBack hx (y := (⟨"java/lang/String", "<init>", "([C)V"⟩ : MethodName)) rfl hown (mvT hZ (hw _ (List.mem_of_getElem? (i := 11) rfl))) (mvT hZ (hw _ (List.mem_of_getElem? (i := 12) rfl))) (mvT hZ (hw _ (List.mem_of_getElem? (i := 13) rfl))) (by decide) (StrChars.Road.backV (W := 1) hZ hws36 (kI := 4) (hw _ (List.mem_of_getElem? (i := 9) rfl)) (cs := ([x0, x1] : List Int32)) (bs := ([x0, x1] : List Int32).map (fun c => c.toInt8.toInt32)) (n := 2) gg4 Zs29 f32 f34 f33 f35 (P_ZS_java_lang_String_COMPACT_STRINGS.ext f30.2) hcs rfl rfl (by decide) (by decide) hp36 rfl (by decide) (by decide)) (g := (mkF m 53 #[.val (.ref p0), .val (.int (2 : Int32))] [(.ref b11), (.ref b4), (.ref b4)])) rfl (by rw [hml]; rfl) (Steps.refl _) (a := b4) (argsL := [(.ref b11)]) (rest := [(.ref b4)]) (lenOf pd_0 rfl) rfl (by show 2 * 0 + _ ≤ _; exact Nat.le_of_eq rfl) (hb hby d2_53) (fun _ _ => ⟨rfl, e29, (by decide : 2 + 1 ≤ _), (by decide : 6 + 2 ≤ _)⟩)
  dsimp only [Pt.U, Pt.locs, Pt.cells, Pt.slots] at X36 l36 y36 z36 st36 hQ36
  subst l36 y36 z36
  obtain ⟨rfl, Nq36, Kq36, xs36, cd36, t36, kb36, nt36, ht36, nx36, vl36, vb36⟩ := hQ36
  have N36 := Fr.app N29 Nq36
  have ne37 : p0 ≠ t36 := Nat.ne_of_lt (Nat.lt_of_lt_of_le f31.lt ht36)
  have ne38 : b4 ≠ t36 := Nat.ne_of_lt (Nat.lt_of_lt_of_le f32.lt ht36)
  have ne39 : b11 ≠ t36 := Nat.ne_of_lt (Nat.lt_of_lt_of_le f35.lt ht36)
  have sz_t36_0 : h0.size ≤ t36 := Nat.le_trans K29_0.1 ht36
  have f40 : Old Z n0 T36.heap := f30.keep Kq36 (allS gg4 all0)
  have f41 : Arv Z T36.heap p0 kc .char (4 : Int32) [(.int x0), (.int x1), (.int x2), (.int x3)] (.int (0 : Int32)) := f31.keep Kq36 (ninS ne5 nin0)
  have f42 : Exa Z T36.heap b4 "java/lang/String" := f32.keep Kq36
  have f43 : Arv Z T36.heap b11 k11 .char (2 : Int32) [(.int x0), (.int x1)] (.int (0 : Int32)) := f35.keep Kq36 (ninS (Ne.symm ne13) nin0)
  have Zs36 : n0 ≤ T36.heap.size := Nat.le_trans Zs29 Kq36.1
  have K36_0 : Keep h0 T36.heap [] := K29_0.trans Kq36 (allS (Or.inr sz4_0) all0)
  have f44 : Arv Z T36.heap t36 kb36 .byte (2 : Int32) [(.int (x0).toInt8.toInt32), (.int (x1).toInt8.toInt32)] (.int (0 : Int32)) := vb36
  refine own_tr st36 ?_
  show own_G _ _ _ (T36.setTop (mkF m 56 #[.val (.ref p0), .val (.int (2 : Int32))] [(.ref b4)])) _ _ _ _
  exact own_endR X36 hx hlk Bd.returns rfl rfl rfl (hb hby d2_56) (by decide) (by decide) (Q := (Q2c Z p0 zc kc x0 x1 x2 x3 h0 n0)) ⟨b4, rfl, N36, K36_0, ⟨t36, kb36, xs36, cd36, vl36, f44, own_sub2 hx4, by simp⟩⟩
theorem ef_2d (m : MethodId) (p0 : Addr) : entryFrame m #[(.ref p0), (.int (3 : Int32))] 2 = mkF m 0 #[.val (.ref p0), .val (.int (3 : Int32))] [] := by first | (simp [entryFrame, mkF, argsToLocals, Value.category]; done) | rfl
def Q2d (Z : State) (p0 : Addr) (zc : Int32) (kc : ClassId) (x0 : Int32) (x1 : Int32) (x2 : Int32) (x3 : Int32) (h0 : Heap) (n0 : Nat) (v : Option Value) (h : Heap) (L : List Loc) : Prop := ∃ (a : Addr), v = some (.ref a) ∧ Fr n0 L ∧ Keep h0 h [] ∧ own_Str Z h a ([x0, x1, x2] : List Int32)
set_option maxRecDepth 65536 in
set_option maxHeartbeats 40000000 in
theorem rm2d (l : Launch) (Z : State) (a0 : Array Value) (hw : ∀ d ∈ tables_1, d.before a0 Z = true) (ws : List Jvm.Cond) (p0 : Addr) (zc : Int32) (kc : ClassId) (x0 : Int32) (x1 : Int32) (x2 : Int32) (x3 : Int32) (h0 : Heap) (n0 : Nat) (Z0 : n0 ≤ h0.size) (P_Old : Old Z n0 h0) (P_ZS_java_lang_String_COMPACT_STRINGS : Sta Z Z.heap "java/lang/String" "COMPACT_STRINGS" "Z" (.int zc)) (hcs : ¬ zc = 0) (P_V_p0 : Arv Z h0 p0 kc .char (4 : Int32) [(.int x0), (.int x1), (.int x2), (.int x3)] (.int (0 : Int32))) (hx4 : ∀ c ∈ ([x0, x1, x2, x3] : List Int32), ¬ c < 0 ∧ ¬ (255 : Int32) < c) :
    MetFree l (⟨"com/example/floe/floe/rest/FramingLinesQuotedStringEndPinLaw", "make", "([CI)Ljava/lang/String;"⟩ : MethodName) (head1 (Jvm.Cond.code (⟨"com/example/floe/floe/rest/FramingLinesQuotedStringEndPinLaw", "make", "([CI)Ljava/lang/String;"⟩ : MethodName) method_4_code 2 (some (.object "java/lang/String")) :: ws) ({ frames := 4, cells := 3, slots := 10, locals := 66 } : Room)) (fun a U => a = #[(.ref p0), (.int (3 : Int32))] ∧ Z.Warmed39 U.vm ∧ U.heap = h0) (fun _ _ _ _ _ => True) (fun _ U o U' => ∃ v L, o = .returned v ∧ (Q2d Z p0 zc kc x0 x1 x2 x3 h0 n0) v U'.heap L ∧ FrameEnd U o U' L ({ frames := 4, cells := 3, slots := 10, locals := 66 } : Room).cells ({ frames := 4, cells := 3, slots := 10, locals := 66 } : Room).slots) := by
  refine MetFree.of_bodySF (plainFor_of_name pn_0) hisR ?_
  intro p e s m args below meth c s₁ Bd hml0 hP hK
  obtain ⟨rfl, hZ, hh⟩ := hP
  have hx := Bd.exec
  have hby := Bd.bytes
  have hml : c.maxLocals = 2 := hml0
  have hown : s.vm.findClass "com/example/floe/floe/rest/FramingLinesQuotedStringEndPinLaw" = some m.cls := findClass_of_methodNamed Bd.named
  have hnm := (name_of_methodNamed Bd.named Bd.method).1
  have hlk : meth.locks = false := BodyLoose.notSynchronized Bd
  have X0 : Stand p l e ({ frames := 4, cells := 3, slots := 10, locals := 66 } : Room) s m #[(.ref p0), (.int (3 : Int32))] below meth c s₁ [] 0 0 := Stand.of_body Bd
  have e0 : s₁.heap = h0 := by rw [← hh, Bd.state]; rfl
  have N0 := Fr.nil n0
  have K0 : Keep h0 h0 [] := Keep.refl h0 []
  show own_G p.tables e below (s₁.setTop (entryFrame m #[(.ref p0), (.int (3 : Int32))] 2)) s ({ frames := 4, cells := 3, slots := 10, locals := 66 } : Room).cells ({ frames := 4, cells := 3, slots := 10, locals := 66 } : Room).slots (Q2d Z p0 zc kc x0 x1 x2 x3 h0 n0)
  refine own_go (fun _ k => castTop (ef_2d m p0) k) ?_
  show own_G _ _ _ (s₁.setTop (mkF m 0 #[.val (.ref p0), .val (.int (3 : Int32))] [])) _ _ _ _
  refine own_go (fun _ k => XS.iloadN X0.here hx rfl (hb hby d2_0) rfl k) ?_
  show own_G _ _ _ (s₁.setTop (mkF m 1 #[.val (.ref p0), .val (.int (3 : Int32))] [(.int (3 : Int32))])) _ _ _ _
  have hc1 : ¬ ((3 : Int32) = (0 : Int32)) := (by decide)
  refine own_go (fun _ k => XS.ifYes X0.here hx rfl (pc0 := 1) (pc' := 7) rfl (hb hby d2_1) rfl ((if0 _ _).trans (feq hc1).2) (by decide) (by decide) k) ?_
  show own_G _ _ _ (s₁.setTop (mkF m 7 #[.val (.ref p0), .val (.int (3 : Int32))] [])) _ _ _ _
  refine own_go (fun _ k => XS.iloadN X0.here hx rfl (hb hby d2_7) rfl k) ?_
  show own_G _ _ _ (s₁.setTop (mkF m 8 #[.val (.ref p0), .val (.int (3 : Int32))] [(.int (3 : Int32))])) _ _ _ _
  refine own_go (fun _ k => XS.iconst X0.here hx rfl (hb hby d2_8) k) ?_
  show own_G _ _ _ (s₁.setTop (mkF m 9 #[.val (.ref p0), .val (.int (3 : Int32))] [(.int (1 : Int32)), (.int (3 : Int32))])) _ _ _ _
  have hc2 : ¬ ((3 : Int32) = (1 : Int32)) := (by decide)
  refine own_go (fun _ k => XS.icmpYes X0.here hx rfl (pc0 := 9) (pc' := 29) rfl (hb hby d2_9) rfl (feq hc2).2 (by decide) (by decide) k) ?_
  show own_G _ _ _ (s₁.setTop (mkF m 29 #[.val (.ref p0), .val (.int (3 : Int32))] [])) _ _ _ _
  refine own_go (fun _ k => XS.iloadN X0.here hx rfl (hb hby d2_29) rfl k) ?_
  show own_G _ _ _ (s₁.setTop (mkF m 30 #[.val (.ref p0), .val (.int (3 : Int32))] [(.int (3 : Int32))])) _ _ _ _
  refine own_go (fun _ k => XS.iconst X0.here hx rfl (hb hby d2_30) k) ?_
  show own_G _ _ _ (s₁.setTop (mkF m 31 #[.val (.ref p0), .val (.int (3 : Int32))] [(.int (2 : Int32)), (.int (3 : Int32))])) _ _ _ _
  have hc3 : ¬ ((3 : Int32) = (2 : Int32)) := (by decide)
  refine own_go (fun _ k => XS.icmpYes X0.here hx rfl (pc0 := 31) (pc' := 57) rfl (hb hby d2_31) rfl (feq hc3).2 (by decide) (by decide) k) ?_
  show own_G _ _ _ (s₁.setTop (mkF m 57 #[.val (.ref p0), .val (.int (3 : Int32))] [])) _ _ _ _
  refine own_go (fun _ k => XS.iloadN X0.here hx rfl (hb hby d2_57) rfl k) ?_
  show own_G _ _ _ (s₁.setTop (mkF m 58 #[.val (.ref p0), .val (.int (3 : Int32))] [(.int (3 : Int32))])) _ _ _ _
  refine own_go (fun _ k => XS.iconst X0.here hx rfl (hb hby d2_58) k) ?_
  show own_G _ _ _ (s₁.setTop (mkF m 59 #[.val (.ref p0), .val (.int (3 : Int32))] [(.int (3 : Int32)), (.int (3 : Int32))])) _ _ _ _
  have hc4 : (3 : Int32) = (3 : Int32) := (by decide)
  refine own_go (fun _ k => XS.icmpNo X0.here hx rfl (hb hby d2_59) rfl (teq hc4).2 k) ?_
  show own_G _ _ _ (s₁.setTop (mkF m 62 #[.val (.ref p0), .val (.int (3 : Int32))] [])) _ _ _ _
  obtain ⟨T5, h5, X5, e5, E5, A5, D5, -, st5⟩ := newO X0 hx hZ hown (hw _ (List.mem_of_getElem? (i := 8) rfl)) (hw _ (List.mem_of_getElem? (i := 9) rfl)) (hw _ (List.mem_of_getElem? (i := 10) rfl)) e0 (g := (mkF m 62 #[.val (.ref p0), .val (.int (3 : Int32))] [])) rfl (hb hby d2_62) (by decide) (by decide)
  obtain ⟨b5, g5⟩ : ∃ z, z = h0.size := ⟨_, rfl⟩
  rw [← g5] at A5 D5 st5
  have ne6 : p0 ≠ b5 := Nat.ne_of_lt (Nat.lt_of_lt_of_le P_V_p0.lt (Nat.le_of_eq g5.symm))
  have gg5 : n0 ≤ b5 := Nat.le_trans Z0 (Nat.le_of_eq g5.symm)
  have sz5_0 : h0.size ≤ b5 := Nat.le_trans K0.1 (Nat.le_of_eq g5.symm)
  have Zs5 : n0 ≤ h5.size := Nat.le_trans Z0 E5.1
  have K5_0 : Keep h0 h5 [] := K0.ext E5
  have f7 : Old Z n0 h5 := P_Old.ext E5
  have f8 : Arv Z h5 p0 kc .char (4 : Int32) [(.int x0), (.int x1), (.int x2), (.int x3)] (.int (0 : Int32)) := P_V_p0.ext E5
  have f9 : Exa Z h5 b5 "java/lang/String" := A5
  have f10 : Fld Z h5 b5 "java/lang/String" "coder" "B" (.int (0 : Int32)) := D5 (Or.inr (hw _ (List.mem_of_getElem? (i := 34) rfl))) (ty := .byte) (by decide)
  have f11 : Fld Z h5 b5 "java/lang/String" "value" "[B" .null := D5 (Or.inr (hw _ (List.mem_of_getElem? (i := 36) rfl))) (ty := (.array .byte)) (by decide)
  refine own_go (fun _ k => st5 _ k) ?_
  show own_G _ _ _ (T5.setTop (mkF m 65 #[.val (.ref p0), .val (.int (3 : Int32))] [(.ref b5)])) _ _ _ _
  refine own_go (fun _ k => XS.dup X5.here hx rfl (hb hby d2_65) rfl rfl k) ?_
  show own_G _ _ _ (T5.setTop (mkF m 66 #[.val (.ref p0), .val (.int (3 : Int32))] [(.ref b5), (.ref b5)])) _ _ _ _
  refine own_go (fun _ k => XS.iconst X5.here hx rfl (hb hby d2_66) k) ?_
  show own_G _ _ _ (T5.setTop (mkF m 67 #[.val (.ref p0), .val (.int (3 : Int32))] [(.int (3 : Int32)), (.ref b5), (.ref b5)])) _ _ _ _
  obtain ⟨T12, h12, k12, X12, e12, E12, A12, st12⟩ := newP X5 hx hZ (hw _ (List.mem_of_getElem? (i := 0) rfl)) e5 (g := (mkF m 67 #[.val (.ref p0), .val (.int (3 : Int32))] [(.int (3 : Int32)), (.ref b5), (.ref b5)])) rfl (hb hby d2_67) rfl (by decide) (cap := 3) (by decide) (by decide) (by decide) (by decide)
  obtain ⟨b12, g12⟩ : ∃ z, z = h5.size := ⟨_, rfl⟩
  rw [← g12] at A12 st12
  have ne13 : p0 ≠ b12 := Nat.ne_of_lt (Nat.lt_of_lt_of_le f8.lt (Nat.le_of_eq g12.symm))
  have ne14 : b5 ≠ b12 := Nat.ne_of_lt (Nat.lt_of_lt_of_le f9.lt (Nat.le_of_eq g12.symm))
  have gg12 : n0 ≤ b12 := Nat.le_trans Zs5 (Nat.le_of_eq g12.symm)
  have sz12_0 : h0.size ≤ b12 := Nat.le_trans K5_0.1 (Nat.le_of_eq g12.symm)
  have Zs12 : n0 ≤ h12.size := Nat.le_trans Zs5 E12.1
  have K12_0 : Keep h0 h12 [] := K5_0.ext E12
  have f15 : Old Z n0 h12 := f7.ext E12
  have f16 : Arv Z h12 p0 kc .char (4 : Int32) [(.int x0), (.int x1), (.int x2), (.int x3)] (.int (0 : Int32)) := f8.ext E12
  have f17 : Exa Z h12 b5 "java/lang/String" := f9.ext E12
  have f18 : Fld Z h12 b5 "java/lang/String" "coder" "B" (.int (0 : Int32)) := f10.ext E12
  have f19 : Fld Z h12 b5 "java/lang/String" "value" "[B" .null := f11.ext E12
  have f20 : Arv Z h12 b12 k12 .char (3 : Int32) [(.int (0 : Int32)), (.int (0 : Int32)), (.int (0 : Int32))] (.int (0 : Int32)) := (Arv.new A12 (by decide)).pad (pad_rep [] (.int (0 : Int32)) 3)
  refine own_go (fun _ k => st12 _ k) ?_
  show own_G _ _ _ (T12.setTop (mkF m 69 #[.val (.ref p0), .val (.int (3 : Int32))] [(.ref b12), (.ref b5), (.ref b5)])) _ _ _ _
  refine own_go (fun _ k => XS.dup X12.here hx rfl (hb hby d2_69) rfl rfl k) ?_
  show own_G _ _ _ (T12.setTop (mkF m 70 #[.val (.ref p0), .val (.int (3 : Int32))] [(.ref b12), (.ref b12), (.ref b5), (.ref b5)])) _ _ _ _
  refine own_go (fun _ k => XS.iconst X12.here hx rfl (hb hby d2_70) k) ?_
  show own_G _ _ _ (T12.setTop (mkF m 71 #[.val (.ref p0), .val (.int (3 : Int32))] [(.int (0 : Int32)), (.ref b12), (.ref b12), (.ref b5), (.ref b5)])) _ _ _ _
  refine own_go (fun _ k => XS.aloadN X12.here hx rfl (hb hby d2_71) rfl rfl k) ?_
  show own_G _ _ _ (T12.setTop (mkF m 72 #[.val (.ref p0), .val (.int (3 : Int32))] [(.ref p0), (.int (0 : Int32)), (.ref b12), (.ref b12), (.ref b5), (.ref b5)])) _ _ _ _
  refine own_go (fun _ k => XS.iconst X12.here hx rfl (hb hby d2_72) k) ?_
  show own_G _ _ _ (T12.setTop (mkF m 73 #[.val (.ref p0), .val (.int (3 : Int32))] [(.int (0 : Int32)), (.ref p0), (.int (0 : Int32)), (.ref b12), (.ref b12), (.ref b5), (.ref b5)])) _ _ _ _
  obtain ⟨cl21, Ar21, q21, S21, Ng21, H21, G21⟩ := id f16
  have in21 : ¬ ((0 : Int32) < 0 ∨ cl21.slots.size ≤ ((0 : Int32)).toNatClampNeg) := inb_of S21 ⟨by decide, by decide⟩
  have at21 : cl21.slots[((0 : Int32)).toNatClampNeg]? = some (.int x0) := H21.at in21 rfl
  refine own_go (fun _ k => X12.caload hx (j := (0 : Int32)) (v := (.int x0)) (by rw [e12]; exact Ar21.1) (State.isArrayOf_alike hZ.alike Ar21.2.1) Ar21.2.2 in21 at21 (g := (mkF m 73 #[.val (.ref p0), .val (.int (3 : Int32))] [(.int (0 : Int32)), (.ref p0), (.int (0 : Int32)), (.ref b12), (.ref b12), (.ref b5), (.ref b5)])) rfl rfl (hb hby d2_73) _ k) ?_
  show own_G _ _ _ (T12.setTop (mkF m 74 #[.val (.ref p0), .val (.int (3 : Int32))] [(.int x0), (.int (0 : Int32)), (.ref b12), (.ref b12), (.ref b5), (.ref b5)])) _ _ _ _
  obtain ⟨cl22, Ar22, q22, S22, Ng22, H22, G22⟩ := id f20
  have in22 : ¬ ((0 : Int32) < 0 ∨ cl22.slots.size ≤ ((0 : Int32)).toNatClampNeg) := inb_of S22 ⟨by decide, by decide⟩
  obtain ⟨T22, h22, X22, e22, W22, st22⟩ := stC X12 hx hZ e12 Ar22 (j := (0 : Int32)) in22 (g := (mkF m 74 #[.val (.ref p0), .val (.int (3 : Int32))] [(.int x0), (.int (0 : Int32)), (.ref b12), (.ref b12), (.ref b5), (.ref b5)])) rfl rfl (hb hby d2_74)
  have N22 := Fr.snoc X22 N0 gg12
  have Zs22 : n0 ≤ h22.size := Nat.le_trans Zs12 (Keep.of_wr W22).1
  have K22_0 : Keep h0 h22 [] := K12_0.wr W22 (Or.inr sz12_0)
  have f23 : Old Z n0 h22 := f15.wr W22 gg12
  have f24 : Arv Z h22 p0 kc .char (4 : Int32) [(.int x0), (.int x1), (.int x2), (.int x3)] (.int (0 : Int32)) := f16.other W22 ne13
  have f25 : Exa Z h22 b5 "java/lang/String" := f17.wr W22
  have f26 : Fld Z h22 b5 "java/lang/String" "coder" "B" (.int (0 : Int32)) := f18.other W22 (Or.inl ne14)
  have f27 : Fld Z h22 b5 "java/lang/String" "value" "[B" .null := f19.other W22 (Or.inl ne14)
  have f28 : Arv Z h22 b12 k12 .char (3 : Int32) [(.int x0), (.int (0 : Int32)), (.int (0 : Int32))] (.int (0 : Int32)) := (by have q := Arv.set Ar22 q22 S22 Ng22 H22 G22 (fits_nar_char _) W22 0 rfl (Nat.le_of_ble_eq_true rfl); rw [(own_narx0 hx4)] at q; exact q)
  refine own_go (fun _ k => st22 _ k) ?_
  show own_G _ _ _ (T22.setTop (mkF m 75 #[.val (.ref p0), .val (.int (3 : Int32))] [(.ref b12), (.ref b5), (.ref b5)])) _ _ _ _
  refine own_go (fun _ k => XS.dup X22.here hx rfl (hb hby d2_75) rfl rfl k) ?_
  show own_G _ _ _ (T22.setTop (mkF m 76 #[.val (.ref p0), .val (.int (3 : Int32))] [(.ref b12), (.ref b12), (.ref b5), (.ref b5)])) _ _ _ _
  refine own_go (fun _ k => XS.iconst X22.here hx rfl (hb hby d2_76) k) ?_
  show own_G _ _ _ (T22.setTop (mkF m 77 #[.val (.ref p0), .val (.int (3 : Int32))] [(.int (1 : Int32)), (.ref b12), (.ref b12), (.ref b5), (.ref b5)])) _ _ _ _
  refine own_go (fun _ k => XS.aloadN X22.here hx rfl (hb hby d2_77) rfl rfl k) ?_
  show own_G _ _ _ (T22.setTop (mkF m 78 #[.val (.ref p0), .val (.int (3 : Int32))] [(.ref p0), (.int (1 : Int32)), (.ref b12), (.ref b12), (.ref b5), (.ref b5)])) _ _ _ _
  refine own_go (fun _ k => XS.iconst X22.here hx rfl (hb hby d2_78) k) ?_
  show own_G _ _ _ (T22.setTop (mkF m 79 #[.val (.ref p0), .val (.int (3 : Int32))] [(.int (1 : Int32)), (.ref p0), (.int (1 : Int32)), (.ref b12), (.ref b12), (.ref b5), (.ref b5)])) _ _ _ _
  obtain ⟨cl29, Ar29, q29, S29, Ng29, H29, G29⟩ := id f24
  have in29 : ¬ ((1 : Int32) < 0 ∨ cl29.slots.size ≤ ((1 : Int32)).toNatClampNeg) := inb_of S29 ⟨by decide, by decide⟩
  have at29 : cl29.slots[((1 : Int32)).toNatClampNeg]? = some (.int x1) := H29.at in29 rfl
  refine own_go (fun _ k => X22.caload hx (j := (1 : Int32)) (v := (.int x1)) (by rw [e22]; exact Ar29.1) (State.isArrayOf_alike hZ.alike Ar29.2.1) Ar29.2.2 in29 at29 (g := (mkF m 79 #[.val (.ref p0), .val (.int (3 : Int32))] [(.int (1 : Int32)), (.ref p0), (.int (1 : Int32)), (.ref b12), (.ref b12), (.ref b5), (.ref b5)])) rfl rfl (hb hby d2_79) _ k) ?_
  show own_G _ _ _ (T22.setTop (mkF m 80 #[.val (.ref p0), .val (.int (3 : Int32))] [(.int x1), (.int (1 : Int32)), (.ref b12), (.ref b12), (.ref b5), (.ref b5)])) _ _ _ _
  obtain ⟨cl30, Ar30, q30, S30, Ng30, H30, G30⟩ := id f28
  have in30 : ¬ ((1 : Int32) < 0 ∨ cl30.slots.size ≤ ((1 : Int32)).toNatClampNeg) := inb_of S30 ⟨by decide, by decide⟩
  obtain ⟨T30, h30, X30, e30, W30, st30⟩ := stC X22 hx hZ e22 Ar30 (j := (1 : Int32)) in30 (g := (mkF m 80 #[.val (.ref p0), .val (.int (3 : Int32))] [(.int x1), (.int (1 : Int32)), (.ref b12), (.ref b12), (.ref b5), (.ref b5)])) rfl rfl (hb hby d2_80)
  have N30 := Fr.snoc X30 N22 gg12
  have Zs30 : n0 ≤ h30.size := Nat.le_trans Zs22 (Keep.of_wr W30).1
  have K30_0 : Keep h0 h30 [] := K22_0.wr W30 (Or.inr sz12_0)
  have f31 : Old Z n0 h30 := f23.wr W30 gg12
  have f32 : Arv Z h30 p0 kc .char (4 : Int32) [(.int x0), (.int x1), (.int x2), (.int x3)] (.int (0 : Int32)) := f24.other W30 ne13
  have f33 : Exa Z h30 b5 "java/lang/String" := f25.wr W30
  have f34 : Fld Z h30 b5 "java/lang/String" "coder" "B" (.int (0 : Int32)) := f26.other W30 (Or.inl ne14)
  have f35 : Fld Z h30 b5 "java/lang/String" "value" "[B" .null := f27.other W30 (Or.inl ne14)
  have f36 : Arv Z h30 b12 k12 .char (3 : Int32) [(.int x0), (.int x1), (.int (0 : Int32))] (.int (0 : Int32)) := (by have q := Arv.set Ar30 q30 S30 Ng30 H30 G30 (fits_nar_char _) W30 1 rfl (Nat.le_of_ble_eq_true rfl); rw [(own_narx1 hx4)] at q; exact q)
  refine own_go (fun _ k => st30 _ k) ?_
  show own_G _ _ _ (T30.setTop (mkF m 81 #[.val (.ref p0), .val (.int (3 : Int32))] [(.ref b12), (.ref b5), (.ref b5)])) _ _ _ _
  refine own_go (fun _ k => XS.dup X30.here hx rfl (hb hby d2_81) rfl rfl k) ?_
  show own_G _ _ _ (T30.setTop (mkF m 82 #[.val (.ref p0), .val (.int (3 : Int32))] [(.ref b12), (.ref b12), (.ref b5), (.ref b5)])) _ _ _ _
  refine own_go (fun _ k => XS.iconst X30.here hx rfl (hb hby d2_82) k) ?_
  show own_G _ _ _ (T30.setTop (mkF m 83 #[.val (.ref p0), .val (.int (3 : Int32))] [(.int (2 : Int32)), (.ref b12), (.ref b12), (.ref b5), (.ref b5)])) _ _ _ _
  refine own_go (fun _ k => XS.aloadN X30.here hx rfl (hb hby d2_83) rfl rfl k) ?_
  show own_G _ _ _ (T30.setTop (mkF m 84 #[.val (.ref p0), .val (.int (3 : Int32))] [(.ref p0), (.int (2 : Int32)), (.ref b12), (.ref b12), (.ref b5), (.ref b5)])) _ _ _ _
  refine own_go (fun _ k => XS.iconst X30.here hx rfl (hb hby d2_84) k) ?_
  show own_G _ _ _ (T30.setTop (mkF m 85 #[.val (.ref p0), .val (.int (3 : Int32))] [(.int (2 : Int32)), (.ref p0), (.int (2 : Int32)), (.ref b12), (.ref b12), (.ref b5), (.ref b5)])) _ _ _ _
  obtain ⟨cl37, Ar37, q37, S37, Ng37, H37, G37⟩ := id f32
  have in37 : ¬ ((2 : Int32) < 0 ∨ cl37.slots.size ≤ ((2 : Int32)).toNatClampNeg) := inb_of S37 ⟨by decide, by decide⟩
  have at37 : cl37.slots[((2 : Int32)).toNatClampNeg]? = some (.int x2) := H37.at in37 rfl
  refine own_go (fun _ k => X30.caload hx (j := (2 : Int32)) (v := (.int x2)) (by rw [e30]; exact Ar37.1) (State.isArrayOf_alike hZ.alike Ar37.2.1) Ar37.2.2 in37 at37 (g := (mkF m 85 #[.val (.ref p0), .val (.int (3 : Int32))] [(.int (2 : Int32)), (.ref p0), (.int (2 : Int32)), (.ref b12), (.ref b12), (.ref b5), (.ref b5)])) rfl rfl (hb hby d2_85) _ k) ?_
  show own_G _ _ _ (T30.setTop (mkF m 86 #[.val (.ref p0), .val (.int (3 : Int32))] [(.int x2), (.int (2 : Int32)), (.ref b12), (.ref b12), (.ref b5), (.ref b5)])) _ _ _ _
  obtain ⟨cl38, Ar38, q38, S38, Ng38, H38, G38⟩ := id f36
  have in38 : ¬ ((2 : Int32) < 0 ∨ cl38.slots.size ≤ ((2 : Int32)).toNatClampNeg) := inb_of S38 ⟨by decide, by decide⟩
  obtain ⟨T38, h38, X38, e38, W38, st38⟩ := stC X30 hx hZ e30 Ar38 (j := (2 : Int32)) in38 (g := (mkF m 86 #[.val (.ref p0), .val (.int (3 : Int32))] [(.int x2), (.int (2 : Int32)), (.ref b12), (.ref b12), (.ref b5), (.ref b5)])) rfl rfl (hb hby d2_86)
  have N38 := Fr.snoc X38 N30 gg12
  have Zs38 : n0 ≤ h38.size := Nat.le_trans Zs30 (Keep.of_wr W38).1
  have K38_0 : Keep h0 h38 [] := K30_0.wr W38 (Or.inr sz12_0)
  have f39 : Old Z n0 h38 := f31.wr W38 gg12
  have f40 : Arv Z h38 p0 kc .char (4 : Int32) [(.int x0), (.int x1), (.int x2), (.int x3)] (.int (0 : Int32)) := f32.other W38 ne13
  have f41 : Exa Z h38 b5 "java/lang/String" := f33.wr W38
  have f42 : Fld Z h38 b5 "java/lang/String" "coder" "B" (.int (0 : Int32)) := f34.other W38 (Or.inl ne14)
  have f43 : Fld Z h38 b5 "java/lang/String" "value" "[B" .null := f35.other W38 (Or.inl ne14)
  have f44 : Arv Z h38 b12 k12 .char (3 : Int32) [(.int x0), (.int x1), (.int x2)] (.int (0 : Int32)) := (by have q := Arv.set Ar38 q38 S38 Ng38 H38 G38 (fits_nar_char _) W38 2 rfl (Nat.le_of_ble_eq_true rfl); rw [(own_narx2 hx4)] at q; exact q)
  refine own_go (fun _ k => st38 _ k) ?_
  show own_G _ _ _ (T38.setTop (mkF m 87 #[.val (.ref p0), .val (.int (3 : Int32))] [(.ref b12), (.ref b5), (.ref b5)])) _ _ _ _
  have hp45 : ∀ c ∈ ([x0, x1, x2] : List Int32), ¬ c < 0 ∧ ¬ (255 : Int32) < c := own_sub3 hx4
  have hws45 : ∀ d ∈ StrChars.Road.words, d.before a0 Z = true := fun d hd => hw d (own_words d hd)
  obtain ⟨_, _, ⟨T45, L45, k45, n45⟩, -, X45, ⟨Lc45, hQ45, l45, y45, z45⟩, st45⟩ := X38.specialBack hx (y := (⟨"java/lang/String", "<init>", "([C)V"⟩ : MethodName)) rfl hown (mvT hZ (hw _ (List.mem_of_getElem? (i := 11) rfl))) (mvT hZ (hw _ (List.mem_of_getElem? (i := 12) rfl))) (mvT hZ (hw _ (List.mem_of_getElem? (i := 13) rfl))) (by decide) (StrChars.Road.backV (W := 1) hZ hws45 (kI := 4) (hw _ (List.mem_of_getElem? (i := 9) rfl)) (cs := ([x0, x1, x2] : List Int32)) (bs := ([x0, x1, x2] : List Int32).map (fun c => c.toInt8.toInt32)) (n := 3) gg5 Zs38 f41 f43 f42 f44 (P_ZS_java_lang_String_COMPACT_STRINGS.ext f39.2) hcs rfl rfl (by decide) (by decide) hp45 rfl (by decide) (by decide)) (g := (mkF m 87 #[.val (.ref p0), .val (.int (3 : Int32))] [(.ref b12), (.ref b5), (.ref b5)])) rfl (by rw [hml]; rfl) (Steps.refl _) (a := b5) (argsL := [(.ref b12)]) (rest := [(.ref b5)]) (lenOf pd_0 rfl) rfl (by show 2 * 0 + _ ≤ _; exact Nat.le_of_eq rfl) (hb hby d2_87) (fun _ _ => ⟨rfl, e38, (by decide : 2 + 1 ≤ _), (by decide : 7 + 3 ≤ _)⟩)
  dsimp only [Pt.U, Pt.locs, Pt.cells, Pt.slots] at X45 l45 y45 z45 st45 hQ45
  subst l45 y45 z45
  obtain ⟨rfl, Nq45, Kq45, xs45, cd45, t45, kb45, nt45, ht45, nx45, vl45, vb45⟩ := hQ45
  have N45 := Fr.app N38 Nq45
  have ne46 : p0 ≠ t45 := Nat.ne_of_lt (Nat.lt_of_lt_of_le f40.lt ht45)
  have ne47 : b5 ≠ t45 := Nat.ne_of_lt (Nat.lt_of_lt_of_le f41.lt ht45)
  have ne48 : b12 ≠ t45 := Nat.ne_of_lt (Nat.lt_of_lt_of_le f44.lt ht45)
  have sz_t45_0 : h0.size ≤ t45 := Nat.le_trans K38_0.1 ht45
  have f49 : Old Z n0 T45.heap := f39.keep Kq45 (allS gg5 all0)
  have f50 : Arv Z T45.heap p0 kc .char (4 : Int32) [(.int x0), (.int x1), (.int x2), (.int x3)] (.int (0 : Int32)) := f40.keep Kq45 (ninS ne6 nin0)
  have f51 : Exa Z T45.heap b5 "java/lang/String" := f41.keep Kq45
  have f52 : Arv Z T45.heap b12 k12 .char (3 : Int32) [(.int x0), (.int x1), (.int x2)] (.int (0 : Int32)) := f44.keep Kq45 (ninS (Ne.symm ne14) nin0)
  have Zs45 : n0 ≤ T45.heap.size := Nat.le_trans Zs38 Kq45.1
  have K45_0 : Keep h0 T45.heap [] := K38_0.trans Kq45 (allS (Or.inr sz5_0) all0)
  have f53 : Arv Z T45.heap t45 kb45 .byte (3 : Int32) [(.int (x0).toInt8.toInt32), (.int (x1).toInt8.toInt32), (.int (x2).toInt8.toInt32)] (.int (0 : Int32)) := vb45
  refine own_tr st45 ?_
  show own_G _ _ _ (T45.setTop (mkF m 90 #[.val (.ref p0), .val (.int (3 : Int32))] [(.ref b5)])) _ _ _ _
  exact own_endR X45 hx hlk Bd.returns rfl rfl rfl (hb hby d2_90) (by decide) (by decide) (Q := (Q2d Z p0 zc kc x0 x1 x2 x3 h0 n0)) ⟨b5, rfl, N45, K45_0, ⟨t45, kb45, xs45, cd45, vl45, f53, own_sub3 hx4, by simp⟩⟩
theorem ef_2e (m : MethodId) (p0 : Addr) : entryFrame m #[(.ref p0), (.int (4 : Int32))] 2 = mkF m 0 #[.val (.ref p0), .val (.int (4 : Int32))] [] := by first | (simp [entryFrame, mkF, argsToLocals, Value.category]; done) | rfl
def Q2e (Z : State) (p0 : Addr) (zc : Int32) (kc : ClassId) (x0 : Int32) (x1 : Int32) (x2 : Int32) (x3 : Int32) (h0 : Heap) (n0 : Nat) (v : Option Value) (h : Heap) (L : List Loc) : Prop := ∃ (a : Addr), v = some (.ref a) ∧ Fr n0 L ∧ Keep h0 h [] ∧ own_Str Z h a ([x0, x1, x2, x3] : List Int32)
set_option maxRecDepth 65536 in
set_option maxHeartbeats 40000000 in
theorem rm2e (l : Launch) (Z : State) (a0 : Array Value) (hw : ∀ d ∈ tables_1, d.before a0 Z = true) (ws : List Jvm.Cond) (p0 : Addr) (zc : Int32) (kc : ClassId) (x0 : Int32) (x1 : Int32) (x2 : Int32) (x3 : Int32) (h0 : Heap) (n0 : Nat) (Z0 : n0 ≤ h0.size) (P_Old : Old Z n0 h0) (P_ZS_java_lang_String_COMPACT_STRINGS : Sta Z Z.heap "java/lang/String" "COMPACT_STRINGS" "Z" (.int zc)) (hcs : ¬ zc = 0) (P_V_p0 : Arv Z h0 p0 kc .char (4 : Int32) [(.int x0), (.int x1), (.int x2), (.int x3)] (.int (0 : Int32))) (hx4 : ∀ c ∈ ([x0, x1, x2, x3] : List Int32), ¬ c < 0 ∧ ¬ (255 : Int32) < c) :
    MetFree l (⟨"com/example/floe/floe/rest/FramingLinesQuotedStringEndPinLaw", "make", "([CI)Ljava/lang/String;"⟩ : MethodName) (head1 (Jvm.Cond.code (⟨"com/example/floe/floe/rest/FramingLinesQuotedStringEndPinLaw", "make", "([CI)Ljava/lang/String;"⟩ : MethodName) method_4_code 2 (some (.object "java/lang/String")) :: ws) ({ frames := 4, cells := 3, slots := 12, locals := 66 } : Room)) (fun a U => a = #[(.ref p0), (.int (4 : Int32))] ∧ Z.Warmed39 U.vm ∧ U.heap = h0) (fun _ _ _ _ _ => True) (fun _ U o U' => ∃ v L, o = .returned v ∧ (Q2e Z p0 zc kc x0 x1 x2 x3 h0 n0) v U'.heap L ∧ FrameEnd U o U' L ({ frames := 4, cells := 3, slots := 12, locals := 66 } : Room).cells ({ frames := 4, cells := 3, slots := 12, locals := 66 } : Room).slots) := by
  refine MetFree.of_bodySF (plainFor_of_name pn_0) hisR ?_
  intro p e s m args below meth c s₁ Bd hml0 hP hK
  obtain ⟨rfl, hZ, hh⟩ := hP
  have hx := Bd.exec
  have hby := Bd.bytes
  have hml : c.maxLocals = 2 := hml0
  have hown : s.vm.findClass "com/example/floe/floe/rest/FramingLinesQuotedStringEndPinLaw" = some m.cls := findClass_of_methodNamed Bd.named
  have hnm := (name_of_methodNamed Bd.named Bd.method).1
  have hlk : meth.locks = false := BodyLoose.notSynchronized Bd
  have X0 : Stand p l e ({ frames := 4, cells := 3, slots := 12, locals := 66 } : Room) s m #[(.ref p0), (.int (4 : Int32))] below meth c s₁ [] 0 0 := Stand.of_body Bd
  have e0 : s₁.heap = h0 := by rw [← hh, Bd.state]; rfl
  have N0 := Fr.nil n0
  have K0 : Keep h0 h0 [] := Keep.refl h0 []
  show own_G p.tables e below (s₁.setTop (entryFrame m #[(.ref p0), (.int (4 : Int32))] 2)) s ({ frames := 4, cells := 3, slots := 12, locals := 66 } : Room).cells ({ frames := 4, cells := 3, slots := 12, locals := 66 } : Room).slots (Q2e Z p0 zc kc x0 x1 x2 x3 h0 n0)
  refine own_go (fun _ k => castTop (ef_2e m p0) k) ?_
  show own_G _ _ _ (s₁.setTop (mkF m 0 #[.val (.ref p0), .val (.int (4 : Int32))] [])) _ _ _ _
  refine own_go (fun _ k => XS.iloadN X0.here hx rfl (hb hby d2_0) rfl k) ?_
  show own_G _ _ _ (s₁.setTop (mkF m 1 #[.val (.ref p0), .val (.int (4 : Int32))] [(.int (4 : Int32))])) _ _ _ _
  have hc1 : ¬ ((4 : Int32) = (0 : Int32)) := (by decide)
  refine own_go (fun _ k => XS.ifYes X0.here hx rfl (pc0 := 1) (pc' := 7) rfl (hb hby d2_1) rfl ((if0 _ _).trans (feq hc1).2) (by decide) (by decide) k) ?_
  show own_G _ _ _ (s₁.setTop (mkF m 7 #[.val (.ref p0), .val (.int (4 : Int32))] [])) _ _ _ _
  refine own_go (fun _ k => XS.iloadN X0.here hx rfl (hb hby d2_7) rfl k) ?_
  show own_G _ _ _ (s₁.setTop (mkF m 8 #[.val (.ref p0), .val (.int (4 : Int32))] [(.int (4 : Int32))])) _ _ _ _
  refine own_go (fun _ k => XS.iconst X0.here hx rfl (hb hby d2_8) k) ?_
  show own_G _ _ _ (s₁.setTop (mkF m 9 #[.val (.ref p0), .val (.int (4 : Int32))] [(.int (1 : Int32)), (.int (4 : Int32))])) _ _ _ _
  have hc2 : ¬ ((4 : Int32) = (1 : Int32)) := (by decide)
  refine own_go (fun _ k => XS.icmpYes X0.here hx rfl (pc0 := 9) (pc' := 29) rfl (hb hby d2_9) rfl (feq hc2).2 (by decide) (by decide) k) ?_
  show own_G _ _ _ (s₁.setTop (mkF m 29 #[.val (.ref p0), .val (.int (4 : Int32))] [])) _ _ _ _
  refine own_go (fun _ k => XS.iloadN X0.here hx rfl (hb hby d2_29) rfl k) ?_
  show own_G _ _ _ (s₁.setTop (mkF m 30 #[.val (.ref p0), .val (.int (4 : Int32))] [(.int (4 : Int32))])) _ _ _ _
  refine own_go (fun _ k => XS.iconst X0.here hx rfl (hb hby d2_30) k) ?_
  show own_G _ _ _ (s₁.setTop (mkF m 31 #[.val (.ref p0), .val (.int (4 : Int32))] [(.int (2 : Int32)), (.int (4 : Int32))])) _ _ _ _
  have hc3 : ¬ ((4 : Int32) = (2 : Int32)) := (by decide)
  refine own_go (fun _ k => XS.icmpYes X0.here hx rfl (pc0 := 31) (pc' := 57) rfl (hb hby d2_31) rfl (feq hc3).2 (by decide) (by decide) k) ?_
  show own_G _ _ _ (s₁.setTop (mkF m 57 #[.val (.ref p0), .val (.int (4 : Int32))] [])) _ _ _ _
  refine own_go (fun _ k => XS.iloadN X0.here hx rfl (hb hby d2_57) rfl k) ?_
  show own_G _ _ _ (s₁.setTop (mkF m 58 #[.val (.ref p0), .val (.int (4 : Int32))] [(.int (4 : Int32))])) _ _ _ _
  refine own_go (fun _ k => XS.iconst X0.here hx rfl (hb hby d2_58) k) ?_
  show own_G _ _ _ (s₁.setTop (mkF m 59 #[.val (.ref p0), .val (.int (4 : Int32))] [(.int (3 : Int32)), (.int (4 : Int32))])) _ _ _ _
  have hc4 : ¬ ((4 : Int32) = (3 : Int32)) := (by decide)
  refine own_go (fun _ k => XS.icmpYes X0.here hx rfl (pc0 := 59) (pc' := 91) rfl (hb hby d2_59) rfl (feq hc4).2 (by decide) (by decide) k) ?_
  show own_G _ _ _ (s₁.setTop (mkF m 91 #[.val (.ref p0), .val (.int (4 : Int32))] [])) _ _ _ _
  obtain ⟨T5, h5, X5, e5, E5, A5, D5, -, st5⟩ := newO X0 hx hZ hown (hw _ (List.mem_of_getElem? (i := 8) rfl)) (hw _ (List.mem_of_getElem? (i := 9) rfl)) (hw _ (List.mem_of_getElem? (i := 10) rfl)) e0 (g := (mkF m 91 #[.val (.ref p0), .val (.int (4 : Int32))] [])) rfl (hb hby d2_91) (by decide) (by decide)
  obtain ⟨b5, g5⟩ : ∃ z, z = h0.size := ⟨_, rfl⟩
  rw [← g5] at A5 D5 st5
  have ne6 : p0 ≠ b5 := Nat.ne_of_lt (Nat.lt_of_lt_of_le P_V_p0.lt (Nat.le_of_eq g5.symm))
  have gg5 : n0 ≤ b5 := Nat.le_trans Z0 (Nat.le_of_eq g5.symm)
  have sz5_0 : h0.size ≤ b5 := Nat.le_trans K0.1 (Nat.le_of_eq g5.symm)
  have Zs5 : n0 ≤ h5.size := Nat.le_trans Z0 E5.1
  have K5_0 : Keep h0 h5 [] := K0.ext E5
  have f7 : Old Z n0 h5 := P_Old.ext E5
  have f8 : Arv Z h5 p0 kc .char (4 : Int32) [(.int x0), (.int x1), (.int x2), (.int x3)] (.int (0 : Int32)) := P_V_p0.ext E5
  have f9 : Exa Z h5 b5 "java/lang/String" := A5
  have f10 : Fld Z h5 b5 "java/lang/String" "coder" "B" (.int (0 : Int32)) := D5 (Or.inr (hw _ (List.mem_of_getElem? (i := 34) rfl))) (ty := .byte) (by decide)
  have f11 : Fld Z h5 b5 "java/lang/String" "value" "[B" .null := D5 (Or.inr (hw _ (List.mem_of_getElem? (i := 36) rfl))) (ty := (.array .byte)) (by decide)
  refine own_go (fun _ k => st5 _ k) ?_
  show own_G _ _ _ (T5.setTop (mkF m 94 #[.val (.ref p0), .val (.int (4 : Int32))] [(.ref b5)])) _ _ _ _
  refine own_go (fun _ k => XS.dup X5.here hx rfl (hb hby d2_94) rfl rfl k) ?_
  show own_G _ _ _ (T5.setTop (mkF m 95 #[.val (.ref p0), .val (.int (4 : Int32))] [(.ref b5), (.ref b5)])) _ _ _ _
  refine own_go (fun _ k => XS.iconst X5.here hx rfl (hb hby d2_95) k) ?_
  show own_G _ _ _ (T5.setTop (mkF m 96 #[.val (.ref p0), .val (.int (4 : Int32))] [(.int (4 : Int32)), (.ref b5), (.ref b5)])) _ _ _ _
  obtain ⟨T12, h12, k12, X12, e12, E12, A12, st12⟩ := newP X5 hx hZ (hw _ (List.mem_of_getElem? (i := 0) rfl)) e5 (g := (mkF m 96 #[.val (.ref p0), .val (.int (4 : Int32))] [(.int (4 : Int32)), (.ref b5), (.ref b5)])) rfl (hb hby d2_96) rfl (by decide) (cap := 4) (by decide) (by decide) (by decide) (by decide)
  obtain ⟨b12, g12⟩ : ∃ z, z = h5.size := ⟨_, rfl⟩
  rw [← g12] at A12 st12
  have ne13 : p0 ≠ b12 := Nat.ne_of_lt (Nat.lt_of_lt_of_le f8.lt (Nat.le_of_eq g12.symm))
  have ne14 : b5 ≠ b12 := Nat.ne_of_lt (Nat.lt_of_lt_of_le f9.lt (Nat.le_of_eq g12.symm))
  have gg12 : n0 ≤ b12 := Nat.le_trans Zs5 (Nat.le_of_eq g12.symm)
  have sz12_0 : h0.size ≤ b12 := Nat.le_trans K5_0.1 (Nat.le_of_eq g12.symm)
  have Zs12 : n0 ≤ h12.size := Nat.le_trans Zs5 E12.1
  have K12_0 : Keep h0 h12 [] := K5_0.ext E12
  have f15 : Old Z n0 h12 := f7.ext E12
  have f16 : Arv Z h12 p0 kc .char (4 : Int32) [(.int x0), (.int x1), (.int x2), (.int x3)] (.int (0 : Int32)) := f8.ext E12
  have f17 : Exa Z h12 b5 "java/lang/String" := f9.ext E12
  have f18 : Fld Z h12 b5 "java/lang/String" "coder" "B" (.int (0 : Int32)) := f10.ext E12
  have f19 : Fld Z h12 b5 "java/lang/String" "value" "[B" .null := f11.ext E12
  have f20 : Arv Z h12 b12 k12 .char (4 : Int32) [(.int (0 : Int32)), (.int (0 : Int32)), (.int (0 : Int32)), (.int (0 : Int32))] (.int (0 : Int32)) := (Arv.new A12 (by decide)).pad (pad_rep [] (.int (0 : Int32)) 4)
  refine own_go (fun _ k => st12 _ k) ?_
  show own_G _ _ _ (T12.setTop (mkF m 98 #[.val (.ref p0), .val (.int (4 : Int32))] [(.ref b12), (.ref b5), (.ref b5)])) _ _ _ _
  refine own_go (fun _ k => XS.dup X12.here hx rfl (hb hby d2_98) rfl rfl k) ?_
  show own_G _ _ _ (T12.setTop (mkF m 99 #[.val (.ref p0), .val (.int (4 : Int32))] [(.ref b12), (.ref b12), (.ref b5), (.ref b5)])) _ _ _ _
  refine own_go (fun _ k => XS.iconst X12.here hx rfl (hb hby d2_99) k) ?_
  show own_G _ _ _ (T12.setTop (mkF m 100 #[.val (.ref p0), .val (.int (4 : Int32))] [(.int (0 : Int32)), (.ref b12), (.ref b12), (.ref b5), (.ref b5)])) _ _ _ _
  refine own_go (fun _ k => XS.aloadN X12.here hx rfl (hb hby d2_100) rfl rfl k) ?_
  show own_G _ _ _ (T12.setTop (mkF m 101 #[.val (.ref p0), .val (.int (4 : Int32))] [(.ref p0), (.int (0 : Int32)), (.ref b12), (.ref b12), (.ref b5), (.ref b5)])) _ _ _ _
  refine own_go (fun _ k => XS.iconst X12.here hx rfl (hb hby d2_101) k) ?_
  show own_G _ _ _ (T12.setTop (mkF m 102 #[.val (.ref p0), .val (.int (4 : Int32))] [(.int (0 : Int32)), (.ref p0), (.int (0 : Int32)), (.ref b12), (.ref b12), (.ref b5), (.ref b5)])) _ _ _ _
  obtain ⟨cl21, Ar21, q21, S21, Ng21, H21, G21⟩ := id f16
  have in21 : ¬ ((0 : Int32) < 0 ∨ cl21.slots.size ≤ ((0 : Int32)).toNatClampNeg) := inb_of S21 ⟨by decide, by decide⟩
  have at21 : cl21.slots[((0 : Int32)).toNatClampNeg]? = some (.int x0) := H21.at in21 rfl
  refine own_go (fun _ k => X12.caload hx (j := (0 : Int32)) (v := (.int x0)) (by rw [e12]; exact Ar21.1) (State.isArrayOf_alike hZ.alike Ar21.2.1) Ar21.2.2 in21 at21 (g := (mkF m 102 #[.val (.ref p0), .val (.int (4 : Int32))] [(.int (0 : Int32)), (.ref p0), (.int (0 : Int32)), (.ref b12), (.ref b12), (.ref b5), (.ref b5)])) rfl rfl (hb hby d2_102) _ k) ?_
  show own_G _ _ _ (T12.setTop (mkF m 103 #[.val (.ref p0), .val (.int (4 : Int32))] [(.int x0), (.int (0 : Int32)), (.ref b12), (.ref b12), (.ref b5), (.ref b5)])) _ _ _ _
  obtain ⟨cl22, Ar22, q22, S22, Ng22, H22, G22⟩ := id f20
  have in22 : ¬ ((0 : Int32) < 0 ∨ cl22.slots.size ≤ ((0 : Int32)).toNatClampNeg) := inb_of S22 ⟨by decide, by decide⟩
  obtain ⟨T22, h22, X22, e22, W22, st22⟩ := stC X12 hx hZ e12 Ar22 (j := (0 : Int32)) in22 (g := (mkF m 103 #[.val (.ref p0), .val (.int (4 : Int32))] [(.int x0), (.int (0 : Int32)), (.ref b12), (.ref b12), (.ref b5), (.ref b5)])) rfl rfl (hb hby d2_103)
  have N22 := Fr.snoc X22 N0 gg12
  have Zs22 : n0 ≤ h22.size := Nat.le_trans Zs12 (Keep.of_wr W22).1
  have K22_0 : Keep h0 h22 [] := K12_0.wr W22 (Or.inr sz12_0)
  have f23 : Old Z n0 h22 := f15.wr W22 gg12
  have f24 : Arv Z h22 p0 kc .char (4 : Int32) [(.int x0), (.int x1), (.int x2), (.int x3)] (.int (0 : Int32)) := f16.other W22 ne13
  have f25 : Exa Z h22 b5 "java/lang/String" := f17.wr W22
  have f26 : Fld Z h22 b5 "java/lang/String" "coder" "B" (.int (0 : Int32)) := f18.other W22 (Or.inl ne14)
  have f27 : Fld Z h22 b5 "java/lang/String" "value" "[B" .null := f19.other W22 (Or.inl ne14)
  have f28 : Arv Z h22 b12 k12 .char (4 : Int32) [(.int x0), (.int (0 : Int32)), (.int (0 : Int32)), (.int (0 : Int32))] (.int (0 : Int32)) := (by have q := Arv.set Ar22 q22 S22 Ng22 H22 G22 (fits_nar_char _) W22 0 rfl (Nat.le_of_ble_eq_true rfl); rw [(own_narx0 hx4)] at q; exact q)
  refine own_go (fun _ k => st22 _ k) ?_
  show own_G _ _ _ (T22.setTop (mkF m 104 #[.val (.ref p0), .val (.int (4 : Int32))] [(.ref b12), (.ref b5), (.ref b5)])) _ _ _ _
  refine own_go (fun _ k => XS.dup X22.here hx rfl (hb hby d2_104) rfl rfl k) ?_
  show own_G _ _ _ (T22.setTop (mkF m 105 #[.val (.ref p0), .val (.int (4 : Int32))] [(.ref b12), (.ref b12), (.ref b5), (.ref b5)])) _ _ _ _
  refine own_go (fun _ k => XS.iconst X22.here hx rfl (hb hby d2_105) k) ?_
  show own_G _ _ _ (T22.setTop (mkF m 106 #[.val (.ref p0), .val (.int (4 : Int32))] [(.int (1 : Int32)), (.ref b12), (.ref b12), (.ref b5), (.ref b5)])) _ _ _ _
  refine own_go (fun _ k => XS.aloadN X22.here hx rfl (hb hby d2_106) rfl rfl k) ?_
  show own_G _ _ _ (T22.setTop (mkF m 107 #[.val (.ref p0), .val (.int (4 : Int32))] [(.ref p0), (.int (1 : Int32)), (.ref b12), (.ref b12), (.ref b5), (.ref b5)])) _ _ _ _
  refine own_go (fun _ k => XS.iconst X22.here hx rfl (hb hby d2_107) k) ?_
  show own_G _ _ _ (T22.setTop (mkF m 108 #[.val (.ref p0), .val (.int (4 : Int32))] [(.int (1 : Int32)), (.ref p0), (.int (1 : Int32)), (.ref b12), (.ref b12), (.ref b5), (.ref b5)])) _ _ _ _
  obtain ⟨cl29, Ar29, q29, S29, Ng29, H29, G29⟩ := id f24
  have in29 : ¬ ((1 : Int32) < 0 ∨ cl29.slots.size ≤ ((1 : Int32)).toNatClampNeg) := inb_of S29 ⟨by decide, by decide⟩
  have at29 : cl29.slots[((1 : Int32)).toNatClampNeg]? = some (.int x1) := H29.at in29 rfl
  refine own_go (fun _ k => X22.caload hx (j := (1 : Int32)) (v := (.int x1)) (by rw [e22]; exact Ar29.1) (State.isArrayOf_alike hZ.alike Ar29.2.1) Ar29.2.2 in29 at29 (g := (mkF m 108 #[.val (.ref p0), .val (.int (4 : Int32))] [(.int (1 : Int32)), (.ref p0), (.int (1 : Int32)), (.ref b12), (.ref b12), (.ref b5), (.ref b5)])) rfl rfl (hb hby d2_108) _ k) ?_
  show own_G _ _ _ (T22.setTop (mkF m 109 #[.val (.ref p0), .val (.int (4 : Int32))] [(.int x1), (.int (1 : Int32)), (.ref b12), (.ref b12), (.ref b5), (.ref b5)])) _ _ _ _
  obtain ⟨cl30, Ar30, q30, S30, Ng30, H30, G30⟩ := id f28
  have in30 : ¬ ((1 : Int32) < 0 ∨ cl30.slots.size ≤ ((1 : Int32)).toNatClampNeg) := inb_of S30 ⟨by decide, by decide⟩
  obtain ⟨T30, h30, X30, e30, W30, st30⟩ := stC X22 hx hZ e22 Ar30 (j := (1 : Int32)) in30 (g := (mkF m 109 #[.val (.ref p0), .val (.int (4 : Int32))] [(.int x1), (.int (1 : Int32)), (.ref b12), (.ref b12), (.ref b5), (.ref b5)])) rfl rfl (hb hby d2_109)
  have N30 := Fr.snoc X30 N22 gg12
  have Zs30 : n0 ≤ h30.size := Nat.le_trans Zs22 (Keep.of_wr W30).1
  have K30_0 : Keep h0 h30 [] := K22_0.wr W30 (Or.inr sz12_0)
  have f31 : Old Z n0 h30 := f23.wr W30 gg12
  have f32 : Arv Z h30 p0 kc .char (4 : Int32) [(.int x0), (.int x1), (.int x2), (.int x3)] (.int (0 : Int32)) := f24.other W30 ne13
  have f33 : Exa Z h30 b5 "java/lang/String" := f25.wr W30
  have f34 : Fld Z h30 b5 "java/lang/String" "coder" "B" (.int (0 : Int32)) := f26.other W30 (Or.inl ne14)
  have f35 : Fld Z h30 b5 "java/lang/String" "value" "[B" .null := f27.other W30 (Or.inl ne14)
  have f36 : Arv Z h30 b12 k12 .char (4 : Int32) [(.int x0), (.int x1), (.int (0 : Int32)), (.int (0 : Int32))] (.int (0 : Int32)) := (by have q := Arv.set Ar30 q30 S30 Ng30 H30 G30 (fits_nar_char _) W30 1 rfl (Nat.le_of_ble_eq_true rfl); rw [(own_narx1 hx4)] at q; exact q)
  refine own_go (fun _ k => st30 _ k) ?_
  show own_G _ _ _ (T30.setTop (mkF m 110 #[.val (.ref p0), .val (.int (4 : Int32))] [(.ref b12), (.ref b5), (.ref b5)])) _ _ _ _
  refine own_go (fun _ k => XS.dup X30.here hx rfl (hb hby d2_110) rfl rfl k) ?_
  show own_G _ _ _ (T30.setTop (mkF m 111 #[.val (.ref p0), .val (.int (4 : Int32))] [(.ref b12), (.ref b12), (.ref b5), (.ref b5)])) _ _ _ _
  refine own_go (fun _ k => XS.iconst X30.here hx rfl (hb hby d2_111) k) ?_
  show own_G _ _ _ (T30.setTop (mkF m 112 #[.val (.ref p0), .val (.int (4 : Int32))] [(.int (2 : Int32)), (.ref b12), (.ref b12), (.ref b5), (.ref b5)])) _ _ _ _
  refine own_go (fun _ k => XS.aloadN X30.here hx rfl (hb hby d2_112) rfl rfl k) ?_
  show own_G _ _ _ (T30.setTop (mkF m 113 #[.val (.ref p0), .val (.int (4 : Int32))] [(.ref p0), (.int (2 : Int32)), (.ref b12), (.ref b12), (.ref b5), (.ref b5)])) _ _ _ _
  refine own_go (fun _ k => XS.iconst X30.here hx rfl (hb hby d2_113) k) ?_
  show own_G _ _ _ (T30.setTop (mkF m 114 #[.val (.ref p0), .val (.int (4 : Int32))] [(.int (2 : Int32)), (.ref p0), (.int (2 : Int32)), (.ref b12), (.ref b12), (.ref b5), (.ref b5)])) _ _ _ _
  obtain ⟨cl37, Ar37, q37, S37, Ng37, H37, G37⟩ := id f32
  have in37 : ¬ ((2 : Int32) < 0 ∨ cl37.slots.size ≤ ((2 : Int32)).toNatClampNeg) := inb_of S37 ⟨by decide, by decide⟩
  have at37 : cl37.slots[((2 : Int32)).toNatClampNeg]? = some (.int x2) := H37.at in37 rfl
  refine own_go (fun _ k => X30.caload hx (j := (2 : Int32)) (v := (.int x2)) (by rw [e30]; exact Ar37.1) (State.isArrayOf_alike hZ.alike Ar37.2.1) Ar37.2.2 in37 at37 (g := (mkF m 114 #[.val (.ref p0), .val (.int (4 : Int32))] [(.int (2 : Int32)), (.ref p0), (.int (2 : Int32)), (.ref b12), (.ref b12), (.ref b5), (.ref b5)])) rfl rfl (hb hby d2_114) _ k) ?_
  show own_G _ _ _ (T30.setTop (mkF m 115 #[.val (.ref p0), .val (.int (4 : Int32))] [(.int x2), (.int (2 : Int32)), (.ref b12), (.ref b12), (.ref b5), (.ref b5)])) _ _ _ _
  obtain ⟨cl38, Ar38, q38, S38, Ng38, H38, G38⟩ := id f36
  have in38 : ¬ ((2 : Int32) < 0 ∨ cl38.slots.size ≤ ((2 : Int32)).toNatClampNeg) := inb_of S38 ⟨by decide, by decide⟩
  obtain ⟨T38, h38, X38, e38, W38, st38⟩ := stC X30 hx hZ e30 Ar38 (j := (2 : Int32)) in38 (g := (mkF m 115 #[.val (.ref p0), .val (.int (4 : Int32))] [(.int x2), (.int (2 : Int32)), (.ref b12), (.ref b12), (.ref b5), (.ref b5)])) rfl rfl (hb hby d2_115)
  have N38 := Fr.snoc X38 N30 gg12
  have Zs38 : n0 ≤ h38.size := Nat.le_trans Zs30 (Keep.of_wr W38).1
  have K38_0 : Keep h0 h38 [] := K30_0.wr W38 (Or.inr sz12_0)
  have f39 : Old Z n0 h38 := f31.wr W38 gg12
  have f40 : Arv Z h38 p0 kc .char (4 : Int32) [(.int x0), (.int x1), (.int x2), (.int x3)] (.int (0 : Int32)) := f32.other W38 ne13
  have f41 : Exa Z h38 b5 "java/lang/String" := f33.wr W38
  have f42 : Fld Z h38 b5 "java/lang/String" "coder" "B" (.int (0 : Int32)) := f34.other W38 (Or.inl ne14)
  have f43 : Fld Z h38 b5 "java/lang/String" "value" "[B" .null := f35.other W38 (Or.inl ne14)
  have f44 : Arv Z h38 b12 k12 .char (4 : Int32) [(.int x0), (.int x1), (.int x2), (.int (0 : Int32))] (.int (0 : Int32)) := (by have q := Arv.set Ar38 q38 S38 Ng38 H38 G38 (fits_nar_char _) W38 2 rfl (Nat.le_of_ble_eq_true rfl); rw [(own_narx2 hx4)] at q; exact q)
  refine own_go (fun _ k => st38 _ k) ?_
  show own_G _ _ _ (T38.setTop (mkF m 116 #[.val (.ref p0), .val (.int (4 : Int32))] [(.ref b12), (.ref b5), (.ref b5)])) _ _ _ _
  refine own_go (fun _ k => XS.dup X38.here hx rfl (hb hby d2_116) rfl rfl k) ?_
  show own_G _ _ _ (T38.setTop (mkF m 117 #[.val (.ref p0), .val (.int (4 : Int32))] [(.ref b12), (.ref b12), (.ref b5), (.ref b5)])) _ _ _ _
  refine own_go (fun _ k => XS.iconst X38.here hx rfl (hb hby d2_117) k) ?_
  show own_G _ _ _ (T38.setTop (mkF m 118 #[.val (.ref p0), .val (.int (4 : Int32))] [(.int (3 : Int32)), (.ref b12), (.ref b12), (.ref b5), (.ref b5)])) _ _ _ _
  refine own_go (fun _ k => XS.aloadN X38.here hx rfl (hb hby d2_118) rfl rfl k) ?_
  show own_G _ _ _ (T38.setTop (mkF m 119 #[.val (.ref p0), .val (.int (4 : Int32))] [(.ref p0), (.int (3 : Int32)), (.ref b12), (.ref b12), (.ref b5), (.ref b5)])) _ _ _ _
  refine own_go (fun _ k => XS.iconst X38.here hx rfl (hb hby d2_119) k) ?_
  show own_G _ _ _ (T38.setTop (mkF m 120 #[.val (.ref p0), .val (.int (4 : Int32))] [(.int (3 : Int32)), (.ref p0), (.int (3 : Int32)), (.ref b12), (.ref b12), (.ref b5), (.ref b5)])) _ _ _ _
  obtain ⟨cl45, Ar45, q45, S45, Ng45, H45, G45⟩ := id f40
  have in45 : ¬ ((3 : Int32) < 0 ∨ cl45.slots.size ≤ ((3 : Int32)).toNatClampNeg) := inb_of S45 ⟨by decide, by decide⟩
  have at45 : cl45.slots[((3 : Int32)).toNatClampNeg]? = some (.int x3) := H45.at in45 rfl
  refine own_go (fun _ k => X38.caload hx (j := (3 : Int32)) (v := (.int x3)) (by rw [e38]; exact Ar45.1) (State.isArrayOf_alike hZ.alike Ar45.2.1) Ar45.2.2 in45 at45 (g := (mkF m 120 #[.val (.ref p0), .val (.int (4 : Int32))] [(.int (3 : Int32)), (.ref p0), (.int (3 : Int32)), (.ref b12), (.ref b12), (.ref b5), (.ref b5)])) rfl rfl (hb hby d2_120) _ k) ?_
  show own_G _ _ _ (T38.setTop (mkF m 121 #[.val (.ref p0), .val (.int (4 : Int32))] [(.int x3), (.int (3 : Int32)), (.ref b12), (.ref b12), (.ref b5), (.ref b5)])) _ _ _ _
  obtain ⟨cl46, Ar46, q46, S46, Ng46, H46, G46⟩ := id f44
  have in46 : ¬ ((3 : Int32) < 0 ∨ cl46.slots.size ≤ ((3 : Int32)).toNatClampNeg) := inb_of S46 ⟨by decide, by decide⟩
  obtain ⟨T46, h46, X46, e46, W46, st46⟩ := stC X38 hx hZ e38 Ar46 (j := (3 : Int32)) in46 (g := (mkF m 121 #[.val (.ref p0), .val (.int (4 : Int32))] [(.int x3), (.int (3 : Int32)), (.ref b12), (.ref b12), (.ref b5), (.ref b5)])) rfl rfl (hb hby d2_121)
  have N46 := Fr.snoc X46 N38 gg12
  have Zs46 : n0 ≤ h46.size := Nat.le_trans Zs38 (Keep.of_wr W46).1
  have K46_0 : Keep h0 h46 [] := K38_0.wr W46 (Or.inr sz12_0)
  have f47 : Old Z n0 h46 := f39.wr W46 gg12
  have f48 : Arv Z h46 p0 kc .char (4 : Int32) [(.int x0), (.int x1), (.int x2), (.int x3)] (.int (0 : Int32)) := f40.other W46 ne13
  have f49 : Exa Z h46 b5 "java/lang/String" := f41.wr W46
  have f50 : Fld Z h46 b5 "java/lang/String" "coder" "B" (.int (0 : Int32)) := f42.other W46 (Or.inl ne14)
  have f51 : Fld Z h46 b5 "java/lang/String" "value" "[B" .null := f43.other W46 (Or.inl ne14)
  have f52 : Arv Z h46 b12 k12 .char (4 : Int32) [(.int x0), (.int x1), (.int x2), (.int x3)] (.int (0 : Int32)) := (by have q := Arv.set Ar46 q46 S46 Ng46 H46 G46 (fits_nar_char _) W46 3 rfl (Nat.le_of_ble_eq_true rfl); rw [(own_narx3 hx4)] at q; exact q)
  refine own_go (fun _ k => st46 _ k) ?_
  show own_G _ _ _ (T46.setTop (mkF m 122 #[.val (.ref p0), .val (.int (4 : Int32))] [(.ref b12), (.ref b5), (.ref b5)])) _ _ _ _
  have hp53 : ∀ c ∈ ([x0, x1, x2, x3] : List Int32), ¬ c < 0 ∧ ¬ (255 : Int32) < c := own_sub4 hx4
  have hws53 : ∀ d ∈ StrChars.Road.words, d.before a0 Z = true := fun d hd => hw d (own_words d hd)
  obtain ⟨_, _, ⟨T53, L53, k53, n53⟩, -, X53, ⟨Lc53, hQ53, l53, y53, z53⟩, st53⟩ := X46.specialBack hx (y := (⟨"java/lang/String", "<init>", "([C)V"⟩ : MethodName)) rfl hown (mvT hZ (hw _ (List.mem_of_getElem? (i := 11) rfl))) (mvT hZ (hw _ (List.mem_of_getElem? (i := 12) rfl))) (mvT hZ (hw _ (List.mem_of_getElem? (i := 13) rfl))) (by decide) (StrChars.Road.backV (W := 1) hZ hws53 (kI := 4) (hw _ (List.mem_of_getElem? (i := 9) rfl)) (cs := ([x0, x1, x2, x3] : List Int32)) (bs := ([x0, x1, x2, x3] : List Int32).map (fun c => c.toInt8.toInt32)) (n := 4) gg5 Zs46 f49 f51 f50 f52 (P_ZS_java_lang_String_COMPACT_STRINGS.ext f47.2) hcs rfl rfl (by decide) (by decide) hp53 rfl (by decide) (by decide)) (g := (mkF m 122 #[.val (.ref p0), .val (.int (4 : Int32))] [(.ref b12), (.ref b5), (.ref b5)])) rfl (by rw [hml]; rfl) (Steps.refl _) (a := b5) (argsL := [(.ref b12)]) (rest := [(.ref b5)]) (lenOf pd_0 rfl) rfl (by show 2 * 0 + _ ≤ _; exact Nat.le_of_eq rfl) (hb hby d2_122) (fun _ _ => ⟨rfl, e46, (by decide : 2 + 1 ≤ _), (by decide : 8 + 4 ≤ _)⟩)
  dsimp only [Pt.U, Pt.locs, Pt.cells, Pt.slots] at X53 l53 y53 z53 st53 hQ53
  subst l53 y53 z53
  obtain ⟨rfl, Nq53, Kq53, xs53, cd53, t53, kb53, nt53, ht53, nx53, vl53, vb53⟩ := hQ53
  have N53 := Fr.app N46 Nq53
  have ne54 : p0 ≠ t53 := Nat.ne_of_lt (Nat.lt_of_lt_of_le f48.lt ht53)
  have ne55 : b5 ≠ t53 := Nat.ne_of_lt (Nat.lt_of_lt_of_le f49.lt ht53)
  have ne56 : b12 ≠ t53 := Nat.ne_of_lt (Nat.lt_of_lt_of_le f52.lt ht53)
  have sz_t53_0 : h0.size ≤ t53 := Nat.le_trans K46_0.1 ht53
  have f57 : Old Z n0 T53.heap := f47.keep Kq53 (allS gg5 all0)
  have f58 : Arv Z T53.heap p0 kc .char (4 : Int32) [(.int x0), (.int x1), (.int x2), (.int x3)] (.int (0 : Int32)) := f48.keep Kq53 (ninS ne6 nin0)
  have f59 : Exa Z T53.heap b5 "java/lang/String" := f49.keep Kq53
  have f60 : Arv Z T53.heap b12 k12 .char (4 : Int32) [(.int x0), (.int x1), (.int x2), (.int x3)] (.int (0 : Int32)) := f52.keep Kq53 (ninS (Ne.symm ne14) nin0)
  have Zs53 : n0 ≤ T53.heap.size := Nat.le_trans Zs46 Kq53.1
  have K53_0 : Keep h0 T53.heap [] := K46_0.trans Kq53 (allS (Or.inr sz5_0) all0)
  have f61 : Arv Z T53.heap t53 kb53 .byte (4 : Int32) [(.int (x0).toInt8.toInt32), (.int (x1).toInt8.toInt32), (.int (x2).toInt8.toInt32), (.int (x3).toInt8.toInt32)] (.int (0 : Int32)) := vb53
  refine own_tr st53 ?_
  show own_G _ _ _ (T53.setTop (mkF m 125 #[.val (.ref p0), .val (.int (4 : Int32))] [(.ref b5)])) _ _ _ _
  exact own_endR X53 hx hlk Bd.returns rfl rfl rfl (hb hby d2_125) (by decide) (by decide) (Q := (Q2e Z p0 zc kc x0 x1 x2 x3 h0 n0)) ⟨b5, rfl, N53, K53_0, ⟨t53, kb53, xs53, cd53, vl53, f61, own_sub4 hx4, by simp⟩⟩
theorem d9_0 : decode prog_33_method_7_code 0 = .ok (.iload_n 1, 1) := by decide +kernel
theorem d9_1 : decode prog_33_method_7_code 1 = .ok (.aload_n 0, 1) := by decide +kernel
theorem d9_2 : decode prog_33_method_7_code 2 = .ok (.invokevirtual 134, 3) := by decide +kernel
theorem d9_5 : decode prog_33_method_7_code 5 = .ok (.if_icmp .ge 13, 3) := by decide +kernel
theorem d9_8 : decode prog_33_method_7_code 8 = .ok (.aload_n 0, 1) := by decide +kernel
theorem d9_9 : decode prog_33_method_7_code 9 = .ok (.iload_n 1, 1) := by decide +kernel
theorem d9_10 : decode prog_33_method_7_code 10 = .ok (.invokevirtual 89, 3) := by decide +kernel
theorem d9_13 : decode prog_33_method_7_code 13 = .ok (.bipush 34, 2) := by decide +kernel
theorem d9_15 : decode prog_33_method_7_code 15 = .ok (.if_icmp .eq 5, 3) := by decide +kernel
theorem d9_18 : decode prog_33_method_7_code 18 = .ok (.iconst (-1), 1) := by decide +kernel
theorem d9_19 : decode prog_33_method_7_code 19 = .ok (.ireturn, 1) := by decide +kernel
theorem d9_20 : decode prog_33_method_7_code 20 = .ok (.iload_n 1, 1) := by decide +kernel
theorem d9_21 : decode prog_33_method_7_code 21 = .ok (.iconst 1, 1) := by decide +kernel
theorem d9_22 : decode prog_33_method_7_code 22 = .ok (.iadd, 1) := by decide +kernel
theorem d9_23 : decode prog_33_method_7_code 23 = .ok (.istore_n 2, 1) := by decide +kernel
theorem d9_24 : decode prog_33_method_7_code 24 = .ok (.iload_n 2, 1) := by decide +kernel
theorem d9_25 : decode prog_33_method_7_code 25 = .ok (.aload_n 0, 1) := by decide +kernel
theorem d9_26 : decode prog_33_method_7_code 26 = .ok (.invokevirtual 134, 3) := by decide +kernel
theorem d9_29 : decode prog_33_method_7_code 29 = .ok (.if_icmp .ge 55, 3) := by decide +kernel
theorem d9_32 : decode prog_33_method_7_code 32 = .ok (.aload_n 0, 1) := by decide +kernel
theorem d9_33 : decode prog_33_method_7_code 33 = .ok (.iload_n 2, 1) := by decide +kernel
theorem d9_34 : decode prog_33_method_7_code 34 = .ok (.invokevirtual 89, 3) := by decide +kernel
theorem d9_37 : decode prog_33_method_7_code 37 = .ok (.bipush 34, 2) := by decide +kernel
theorem d9_39 : decode prog_33_method_7_code 39 = .ok (.if_icmp .eq 45, 3) := by decide +kernel
theorem d9_42 : decode prog_33_method_7_code 42 = .ok (.aload_n 0, 1) := by decide +kernel
theorem d9_43 : decode prog_33_method_7_code 43 = .ok (.iload_n 2, 1) := by decide +kernel
theorem d9_44 : decode prog_33_method_7_code 44 = .ok (.invokevirtual 89, 3) := by decide +kernel
theorem d9_47 : decode prog_33_method_7_code 47 = .ok (.bipush 92, 2) := by decide +kernel
theorem d9_49 : decode prog_33_method_7_code 49 = .ok (.if_icmp .ne 16, 3) := by decide +kernel
theorem d9_52 : decode prog_33_method_7_code 52 = .ok (.iload_n 2, 1) := by decide +kernel
theorem d9_53 : decode prog_33_method_7_code 53 = .ok (.iconst 1, 1) := by decide +kernel
theorem d9_54 : decode prog_33_method_7_code 54 = .ok (.iadd, 1) := by decide +kernel
theorem d9_55 : decode prog_33_method_7_code 55 = .ok (.aload_n 0, 1) := by decide +kernel
theorem d9_56 : decode prog_33_method_7_code 56 = .ok (.invokevirtual 134, 3) := by decide +kernel
theorem d9_59 : decode prog_33_method_7_code 59 = .ok (.if_icmp .ge 6, 3) := by decide +kernel
theorem d9_62 : decode prog_33_method_7_code 62 = .ok (.iinc 2 1, 3) := by decide +kernel
theorem d9_65 : decode prog_33_method_7_code 65 = .ok (.aload_n 0, 1) := by decide +kernel
theorem d9_66 : decode prog_33_method_7_code 66 = .ok (.iload_n 2, 1) := by decide +kernel
theorem d9_67 : decode prog_33_method_7_code 67 = .ok (.invokevirtual 89, 3) := by decide +kernel
theorem d9_70 : decode prog_33_method_7_code 70 = .ok (.invokestatic 142, 3) := by decide +kernel
theorem d9_73 : decode prog_33_method_7_code 73 = .ok (.ifCond .eq 5, 3) := by decide +kernel
theorem d9_76 : decode prog_33_method_7_code 76 = .ok (.iconst (-1), 1) := by decide +kernel
theorem d9_77 : decode prog_33_method_7_code 77 = .ok (.ireturn, 1) := by decide +kernel
theorem d9_78 : decode prog_33_method_7_code 78 = .ok (.iinc 2 1, 3) := by decide +kernel
theorem d9_81 : decode prog_33_method_7_code 81 = .ok (.goto (-57), 3) := by decide +kernel
theorem d9_84 : decode prog_33_method_7_code 84 = .ok (.iload_n 2, 1) := by decide +kernel
theorem d9_85 : decode prog_33_method_7_code 85 = .ok (.aload_n 0, 1) := by decide +kernel
theorem d9_86 : decode prog_33_method_7_code 86 = .ok (.invokevirtual 134, 3) := by decide +kernel
theorem d9_89 : decode prog_33_method_7_code 89 = .ok (.if_icmp .ge 9, 3) := by decide +kernel
theorem d9_92 : decode prog_33_method_7_code 92 = .ok (.iload_n 2, 1) := by decide +kernel
theorem d9_93 : decode prog_33_method_7_code 93 = .ok (.iconst 1, 1) := by decide +kernel
theorem d9_94 : decode prog_33_method_7_code 94 = .ok (.iadd, 1) := by decide +kernel
theorem d9_95 : decode prog_33_method_7_code 95 = .ok (.goto 4, 3) := by decide +kernel
theorem d9_98 : decode prog_33_method_7_code 98 = .ok (.iconst (-1), 1) := by decide +kernel
theorem d9_99 : decode prog_33_method_7_code 99 = .ok (.ireturn, 1) := by decide +kernel
theorem pd_1 : parseMethodDescriptor "()I" = some ⟨[], some .int⟩ := by decide +kernel
theorem pd_2 : parseMethodDescriptor "(I)C" = some ⟨[.int], some .char⟩ := by decide +kernel
theorem pd_3 : parseMethodDescriptor "(I)Z" = some ⟨[.int], some .boolean⟩ := by decide +kernel
def own_qs (cs : List Int32) : Nat → Nat → Int32
  | 0, _ => -1
  | f + 1, i => (if (Int32.ofNat i) < (Int32.ofNat cs.length) then (if (cs.getD i 0) = (34 : Int32) then (if (Int32.ofNat i) < (Int32.ofNat cs.length) then (Int32.ofNat (i + 1)) else (-1 : Int32)) else (if (cs.getD i 0) = (92 : Int32) then (if (Int32.ofNat (i + 1)) < (Int32.ofNat cs.length) then (if (own_isc (cs.getD (i + 1) 0)) = (0 : Int32) then (own_qs cs f ((i + 1) + 1)) else (-1 : Int32)) else (if (own_isc (cs.getD i 0)) = (0 : Int32) then (own_qs cs f (i + 1)) else (-1 : Int32))) else (if (own_isc (cs.getD i 0)) = (0 : Int32) then (own_qs cs f (i + 1)) else (-1 : Int32)))) else (if (Int32.ofNat i) < (Int32.ofNat cs.length) then (Int32.ofNat (i + 1)) else (-1 : Int32)))
def own_qse (cs : List Int32) (i0 : Nat) : Int32 := (if (Int32.ofNat i0) < (Int32.ofNat cs.length) then (if (cs.getD i0 0) = (34 : Int32) then (own_qs cs (cs.length + 1) (i0 + 1)) else (-1 : Int32)) else (-1 : Int32))
theorem ef_9 (m : MethodId) (p0 : Addr) (z : Int32) : entryFrame m #[(.ref p0), (.int z)] 3 = mkF m 0 #[.val (.ref p0), .val (.int z), .unset] [] := by first | (simp [entryFrame, mkF, argsToLocals, Value.category]; done) | rfl
set_option maxRecDepth 65536 in
set_option maxHeartbeats 40000000 in
theorem rm9 (l : Launch) (Z : State) (a0 : Array Value) (hw : ∀ d ∈ tables_1, d.before a0 Z = true) (ws : List Jvm.Cond) (p0 : Addr) (cs : List Int32) (i0 : Nat) (zc : Int32) (fm : Value) (h0 : Heap) (n0 : Nat) (Z0 : n0 ≤ h0.size) (P_Old : Old Z n0 h0) (P_ZS_java_lang_String_COMPACT_STRINGS : Sta Z Z.heap "java/lang/String" "COMPACT_STRINGS" "Z" (.int zc)) (hcs : ¬ zc = 0) (P_ZS_jdk_internal_util_Preconditions_SIOOBE_FORMATTER : Sta Z Z.heap "jdk/internal/util/Preconditions" "SIOOBE_FORMATTER" "Ljava/util/function/BiFunction;" fm) (hfm : fm.isRef = true) (P_T_p0 : own_Str Z h0 p0 cs) (hl0 : cs.length ≤ 4000) (hi0 : i0 ≤ 4000) :
    MetFree l (⟨"com/example/floe/floe/rest/FramingLines", "quotedStringEnd", "(Ljava/lang/String;I)I"⟩ : MethodName) (head1 (Jvm.Cond.code (⟨"com/example/floe/floe/rest/FramingLines", "quotedStringEnd", "(Ljava/lang/String;I)I"⟩ : MethodName) prog_33_method_7_code 3 (some .int) :: ws) ({ frames := 4, cells := 0, slots := 0, locals := 53 } : Room)) (fun a U => a = #[(.ref p0), (.int (Int32.ofNat i0))] ∧ Z.Warmed39 U.vm ∧ U.heap = h0) (fun _ _ _ _ _ => True) (fun _ U o U' => ∃ v L, o = .returned v ∧ (own_P n0 h0 (some (.int (own_qse cs i0)))) v U'.heap L ∧ FrameEnd U o U' L ({ frames := 4, cells := 0, slots := 0, locals := 53 } : Room).cells ({ frames := 4, cells := 0, slots := 0, locals := 53 } : Room).slots) := by
  refine MetFree.of_bodySF (plainFor_of_name pn_1) hisR ?_
  intro p e s m args below meth c s₁ Bd hml0 hP hK
  obtain ⟨rfl, hZ, hh⟩ := hP
  have hx := Bd.exec
  have hby := Bd.bytes
  have hml : c.maxLocals = 3 := hml0
  have hown : s.vm.findClass "com/example/floe/floe/rest/FramingLines" = some m.cls := findClass_of_methodNamed Bd.named
  have hnm := (name_of_methodNamed Bd.named Bd.method).1
  have hlk : meth.locks = false := BodyLoose.notSynchronized Bd
  have X0 : Stand p l e ({ frames := 4, cells := 0, slots := 0, locals := 53 } : Room) s m #[(.ref p0), (.int (Int32.ofNat i0))] below meth c s₁ [] 0 0 := Stand.of_body Bd
  have e0 : s₁.heap = h0 := by rw [← hh, Bd.state]; rfl
  have N0 := Fr.nil n0
  have loop : ∀ (f i : Nat), cs.length < i + f → i ≤ cs.length → ∀ (T : State) (Lc : List Loc) (X : Stand p l e ({ frames := 4, cells := 0, slots := 0, locals := 53 } : Room) s m #[(.ref p0), (.int (Int32.ofNat i0))] below meth c T Lc 0 0) (eT : T.heap = h0) (N : Fr n0 Lc), own_G p.tables e below (T.setTop (mkF m 24 #[.val (.ref p0), .val (.int (Int32.ofNat i0)), .val (.int (Int32.ofNat i))] [])) s ({ frames := 4, cells := 0, slots := 0, locals := 53 } : Room).cells ({ frames := 4, cells := 0, slots := 0, locals := 53 } : Room).slots (own_P n0 h0 (some (.int (own_qs cs f i)))) := by
    intro f
    induction f with
    | zero => intro i hf hil; exact absurd hf (by omega)
    | succ f ih =>
      intro i hf hil T Lc X eT N
      show own_G _ _ _ _ _ _ _ (own_P n0 h0 (some (.int (if (Int32.ofNat i) < (Int32.ofNat cs.length) then (if (cs.getD i 0) = (34 : Int32) then (if (Int32.ofNat i) < (Int32.ofNat cs.length) then (Int32.ofNat (i + 1)) else (-1 : Int32)) else (if (cs.getD i 0) = (92 : Int32) then (if (Int32.ofNat (i + 1)) < (Int32.ofNat cs.length) then (if (own_isc (cs.getD (i + 1) 0)) = (0 : Int32) then (own_qs cs f ((i + 1) + 1)) else (-1 : Int32)) else (if (own_isc (cs.getD i 0)) = (0 : Int32) then (own_qs cs f (i + 1)) else (-1 : Int32))) else (if (own_isc (cs.getD i 0)) = (0 : Int32) then (own_qs cs f (i + 1)) else (-1 : Int32)))) else (if (Int32.ofNat i) < (Int32.ofNat cs.length) then (Int32.ofNat (i + 1)) else (-1 : Int32))))))
      refine own_go (fun _ k => XS.iloadN X.here hx rfl (hb hby d9_24) rfl k) ?_
      show own_G _ _ _ (T.setTop (mkF m 25 #[.val (.ref p0), .val (.int (Int32.ofNat i0)), .val (.int (Int32.ofNat i))] [(.int (Int32.ofNat i))])) _ _ _ _
      refine own_go (fun _ k => XS.aloadN X.here hx rfl (hb hby d9_25) rfl rfl k) ?_
      show own_G _ _ _ (T.setTop (mkF m 26 #[.val (.ref p0), .val (.int (Int32.ofNat i0)), .val (.int (Int32.ofNat i))] [(.ref p0), (.int (Int32.ofNat i))])) _ _ _ _
      obtain ⟨t1, kb1, Es1, Cs1, Vs1, Ks1, hp1, hl1⟩ := id P_T_p0
      obtain ⟨cq1, kq1, q1a, q1b, q1c⟩ := isOf hZ eT Es1
      obtain ⟨_, _, ⟨T1, L1, k1, n1⟩, -, X1, ⟨Lc1, hQ1, l1, y1, z1⟩, st1⟩ := X.virtualBack hx (y := (⟨"java/lang/String", "length", "()I"⟩ : MethodName)) (z := (⟨"java/lang/String", "length", "()I"⟩ : MethodName)) hown (mvT hZ (hw _ (List.mem_of_getElem? (i := 41) rfl))) (mvT hZ (hw _ (List.mem_of_getElem? (i := 42) rfl))) (notFace_of_selects (args := #[]) (mvT hZ (hw _ (List.mem_of_getElem? (i := 44) rfl)))) (mvT hZ (hw _ (List.mem_of_getElem? (i := 44) rfl))) (mvT hZ (hw _ (List.mem_of_getElem? (i := 43) rfl))) (by decide) (StrChars.Road.lenW (W := 1) hZ (own_wLen hw) (kI := 4) (hw _ (List.mem_of_getElem? (i := 9) rfl)) Es1 Vs1 Cs1 Ks1 (StrChars.Road.codOf rfl (fun x hx => (hp1 x hx).2)) (own_up _ hp1) (P_ZS_java_lang_String_COMPACT_STRINGS.ext P_Old.2) hcs hl1 (by decide) (by decide)) q1a q1c (g := (mkF m 26 #[.val (.ref p0), .val (.int (Int32.ofNat i0)), .val (.int (Int32.ofNat i))] [(.ref p0), (.int (Int32.ofNat i))])) rfl (by rw [hml]; rfl) (Steps.refl _) (argsL := []) (rest := [(.int (Int32.ofNat i))]) (lenOf pd_1 rfl) rfl (by show 2 * 0 + _ ≤ _; exact Nat.le_of_eq rfl) (hb hby d9_26) (fun _ _ => ⟨rfl, eT, (by decide : 0 + 0 ≤ _), (by decide : 0 + 0 ≤ _)⟩)
      dsimp only [Pt.U, Pt.locs, Pt.cells, Pt.slots] at X1 l1 y1 z1 st1 hQ1
      subst l1 y1 z1
      obtain ⟨rfl, rfl, eh1⟩ := hQ1
      have N1 := Fr.app N (Fr.nil n0)
      refine own_tr st1 ?_
      show own_G _ _ _ (T1.setTop (mkF m 29 #[.val (.ref p0), .val (.int (Int32.ofNat i0)), .val (.int (Int32.ofNat i))] [(.int (Int32.ofNat cs.length)), (.int (Int32.ofNat i))])) _ _ _ _
      by_cases hc2 : (Int32.ofNat i) < (Int32.ofNat cs.length)
      · refine own_itI hc2 ?_
        refine own_go (fun _ k => XS.icmpNo X1.here hx rfl (hb hby d9_29) rfl (tlt hc2).2.1 k) ?_
        show own_G _ _ _ (T1.setTop (mkF m 32 #[.val (.ref p0), .val (.int (Int32.ofNat i0)), .val (.int (Int32.ofNat i))] [])) _ _ _ _
        refine own_go (fun _ k => XS.aloadN X1.here hx rfl (hb hby d9_32) rfl rfl k) ?_
        show own_G _ _ _ (T1.setTop (mkF m 33 #[.val (.ref p0), .val (.int (Int32.ofNat i0)), .val (.int (Int32.ofNat i))] [(.ref p0)])) _ _ _ _
        refine own_go (fun _ k => XS.iloadN X1.here hx rfl (hb hby d9_33) rfl k) ?_
        show own_G _ _ _ (T1.setTop (mkF m 34 #[.val (.ref p0), .val (.int (Int32.ofNat i0)), .val (.int (Int32.ofNat i))] [(.int (Int32.ofNat i)), (.ref p0)])) _ _ _ _
        obtain ⟨t3, kb3, Es3, Cs3, Vs3, Ks3, hp3, hl3⟩ := id P_T_p0
        obtain ⟨cq3, kq3, q3a, q3b, q3c⟩ := isOf hZ eh1 Es3
        obtain ⟨_, _, ⟨T3, L3, k3, n3⟩, -, X3, ⟨Lc3, hQ3, l3, y3, z3⟩, st3⟩ := X1.virtualBack hx (y := (⟨"java/lang/String", "charAt", "(I)C"⟩ : MethodName)) (z := (⟨"java/lang/String", "charAt", "(I)C"⟩ : MethodName)) hown (mvT hZ (hw _ (List.mem_of_getElem? (i := 51) rfl))) (mvT hZ (hw _ (List.mem_of_getElem? (i := 52) rfl))) (notFace_of_selects (args := #[]) (mvT hZ (hw _ (List.mem_of_getElem? (i := 54) rfl)))) (mvT hZ (hw _ (List.mem_of_getElem? (i := 54) rfl))) (mvT hZ (hw _ (List.mem_of_getElem? (i := 53) rfl))) (by decide) (StrChars.Road.chN (W := 0) hZ (own_wCh hw) (kI := 4) (hw _ (List.mem_of_getElem? (i := 9) rfl)) Es3 Vs3 Cs3 Ks3 (StrChars.Road.codOf rfl (fun x hx => (hp3 x hx).2)) (own_up _ hp3) (P_ZS_java_lang_String_COMPACT_STRINGS.ext P_Old.2) hcs (P_ZS_jdk_internal_util_Preconditions_SIOOBE_FORMATTER.ext P_Old.2) hfm hl3 (i := i) (own_ltn hc2 (by omega) (by omega)) (j := (Int32.ofNat i)) rfl (by decide) (by decide)) q3a q3c (g := (mkF m 34 #[.val (.ref p0), .val (.int (Int32.ofNat i0)), .val (.int (Int32.ofNat i))] [(.int (Int32.ofNat i)), (.ref p0)])) rfl (by rw [hml]; rfl) (Steps.refl _) (argsL := [(.int (Int32.ofNat i))]) (rest := []) (lenOf pd_2 rfl) rfl (by show 2 * 0 + _ ≤ _; exact Nat.le_of_eq rfl) (hb hby d9_34) (fun _ _ => ⟨rfl, eh1, (by decide : 0 + 0 ≤ _), (by decide : 0 + 0 ≤ _)⟩)
        dsimp only [Pt.U, Pt.locs, Pt.cells, Pt.slots] at X3 l3 y3 z3 st3 hQ3
        subst l3 y3 z3
        obtain ⟨rfl, rfl, eh3⟩ := hQ3
        have N3 := Fr.app N1 (Fr.nil n0)
        refine own_tr st3 ?_
        show own_G _ _ _ (T3.setTop (mkF m 37 #[.val (.ref p0), .val (.int (Int32.ofNat i0)), .val (.int (Int32.ofNat i))] [(.int (cs.getD i 0))])) _ _ _ _
        refine own_go (fun _ k => XS.bipush X3.here hx rfl (hb hby d9_37) k) ?_
        show own_G _ _ _ (T3.setTop (mkF m 39 #[.val (.ref p0), .val (.int (Int32.ofNat i0)), .val (.int (Int32.ofNat i))] [(.int (34 : Int32)), (.int (cs.getD i 0))])) _ _ _ _
        by_cases hc4 : (cs.getD i 0) = (34 : Int32)
        · refine own_itI hc4 ?_
          refine own_go (fun _ k => XS.icmpYes X3.here hx rfl (pc0 := 39) (pc' := 84) rfl (hb hby d9_39) rfl (teq hc4).1 (by decide) (by decide) k) ?_
          show own_G _ _ _ (T3.setTop (mkF m 84 #[.val (.ref p0), .val (.int (Int32.ofNat i0)), .val (.int (Int32.ofNat i))] [])) _ _ _ _
          refine own_go (fun _ k => XS.iloadN X3.here hx rfl (hb hby d9_84) rfl k) ?_
          show own_G _ _ _ (T3.setTop (mkF m 85 #[.val (.ref p0), .val (.int (Int32.ofNat i0)), .val (.int (Int32.ofNat i))] [(.int (Int32.ofNat i))])) _ _ _ _
          refine own_go (fun _ k => XS.aloadN X3.here hx rfl (hb hby d9_85) rfl rfl k) ?_
          show own_G _ _ _ (T3.setTop (mkF m 86 #[.val (.ref p0), .val (.int (Int32.ofNat i0)), .val (.int (Int32.ofNat i))] [(.ref p0), (.int (Int32.ofNat i))])) _ _ _ _
          obtain ⟨t5, kb5, Es5, Cs5, Vs5, Ks5, hp5, hl5⟩ := id P_T_p0
          obtain ⟨cq5, kq5, q5a, q5b, q5c⟩ := isOf hZ eh3 Es5
          obtain ⟨_, _, ⟨T5, L5, k5, n5⟩, -, X5, ⟨Lc5, hQ5, l5, y5, z5⟩, st5⟩ := X3.virtualBack hx (y := (⟨"java/lang/String", "length", "()I"⟩ : MethodName)) (z := (⟨"java/lang/String", "length", "()I"⟩ : MethodName)) hown (mvT hZ (hw _ (List.mem_of_getElem? (i := 41) rfl))) (mvT hZ (hw _ (List.mem_of_getElem? (i := 42) rfl))) (notFace_of_selects (args := #[]) (mvT hZ (hw _ (List.mem_of_getElem? (i := 44) rfl)))) (mvT hZ (hw _ (List.mem_of_getElem? (i := 44) rfl))) (mvT hZ (hw _ (List.mem_of_getElem? (i := 43) rfl))) (by decide) (StrChars.Road.lenW (W := 1) hZ (own_wLen hw) (kI := 4) (hw _ (List.mem_of_getElem? (i := 9) rfl)) Es5 Vs5 Cs5 Ks5 (StrChars.Road.codOf rfl (fun x hx => (hp5 x hx).2)) (own_up _ hp5) (P_ZS_java_lang_String_COMPACT_STRINGS.ext P_Old.2) hcs hl5 (by decide) (by decide)) q5a q5c (g := (mkF m 86 #[.val (.ref p0), .val (.int (Int32.ofNat i0)), .val (.int (Int32.ofNat i))] [(.ref p0), (.int (Int32.ofNat i))])) rfl (by rw [hml]; rfl) (Steps.refl _) (argsL := []) (rest := [(.int (Int32.ofNat i))]) (lenOf pd_1 rfl) rfl (by show 2 * 0 + _ ≤ _; exact Nat.le_of_eq rfl) (hb hby d9_86) (fun _ _ => ⟨rfl, eh3, (by decide : 0 + 0 ≤ _), (by decide : 0 + 0 ≤ _)⟩)
          dsimp only [Pt.U, Pt.locs, Pt.cells, Pt.slots] at X5 l5 y5 z5 st5 hQ5
          subst l5 y5 z5
          obtain ⟨rfl, rfl, eh5⟩ := hQ5
          have N5 := Fr.app N3 (Fr.nil n0)
          refine own_tr st5 ?_
          show own_G _ _ _ (T5.setTop (mkF m 89 #[.val (.ref p0), .val (.int (Int32.ofNat i0)), .val (.int (Int32.ofNat i))] [(.int (Int32.ofNat cs.length)), (.int (Int32.ofNat i))])) _ _ _ _
          by_cases hc6 : (Int32.ofNat i) < (Int32.ofNat cs.length)
          · refine own_itI hc6 ?_
            refine own_go (fun _ k => XS.icmpNo X5.here hx rfl (hb hby d9_89) rfl (tlt hc6).2.1 k) ?_
            show own_G _ _ _ (T5.setTop (mkF m 92 #[.val (.ref p0), .val (.int (Int32.ofNat i0)), .val (.int (Int32.ofNat i))] [])) _ _ _ _
            refine own_go (fun _ k => XS.iloadN X5.here hx rfl (hb hby d9_92) rfl k) ?_
            show own_G _ _ _ (T5.setTop (mkF m 93 #[.val (.ref p0), .val (.int (Int32.ofNat i0)), .val (.int (Int32.ofNat i))] [(.int (Int32.ofNat i))])) _ _ _ _
            refine own_go (fun _ k => XS.iconst X5.here hx rfl (hb hby d9_93) k) ?_
            show own_G _ _ _ (T5.setTop (mkF m 94 #[.val (.ref p0), .val (.int (Int32.ofNat i0)), .val (.int (Int32.ofNat i))] [(.int (1 : Int32)), (.int (Int32.ofNat i))])) _ _ _ _
            refine own_go (fun _ k => XS.iadd X5.here hx rfl (hb hby d9_94) rfl k) ?_
            rw [show (Int32.ofNat i : Int32) + 1 = Int32.ofNat (i + 1) from (inc_ofNat _).symm]
            show own_G _ _ _ (T5.setTop (mkF m 95 #[.val (.ref p0), .val (.int (Int32.ofNat i0)), .val (.int (Int32.ofNat i))] [(.int (Int32.ofNat (i + 1)))])) _ _ _ _
            refine own_go (fun _ k => XS.goto X5.here hx rfl (pc0 := 95) (pc' := 99) rfl (hb hby d9_95) (by decide) (by decide) k) ?_
            show own_G _ _ _ (T5.setTop (mkF m 99 #[.val (.ref p0), .val (.int (Int32.ofNat i0)), .val (.int (Int32.ofNat i))] [(.int (Int32.ofNat (i + 1)))])) _ _ _ _
            exact own_endI X5 hx hlk Bd.returns (hb hby d9_99) (by decide) (by decide) (Q := (own_P n0 h0 (some (.int (Int32.ofNat (i + 1)))))) ⟨rfl, N5, eh5⟩
          · refine own_ifI hc6 ?_
            refine own_go (fun _ k => XS.icmpYes X5.here hx rfl (pc0 := 89) (pc' := 98) rfl (hb hby d9_89) rfl (flt hc6).2.1 (by decide) (by decide) k) ?_
            show own_G _ _ _ (T5.setTop (mkF m 98 #[.val (.ref p0), .val (.int (Int32.ofNat i0)), .val (.int (Int32.ofNat i))] [])) _ _ _ _
            refine own_go (fun _ k => XS.iconst X5.here hx rfl (hb hby d9_98) k) ?_
            show own_G _ _ _ (T5.setTop (mkF m 99 #[.val (.ref p0), .val (.int (Int32.ofNat i0)), .val (.int (Int32.ofNat i))] [(.int (-1 : Int32))])) _ _ _ _
            exact own_endI X5 hx hlk Bd.returns (hb hby d9_99) (by decide) (by decide) (Q := (own_P n0 h0 (some (.int (-1 : Int32))))) ⟨rfl, N5, eh5⟩
        · refine own_ifI hc4 ?_
          refine own_go (fun _ k => XS.icmpNo X3.here hx rfl (hb hby d9_39) rfl (feq hc4).1 k) ?_
          show own_G _ _ _ (T3.setTop (mkF m 42 #[.val (.ref p0), .val (.int (Int32.ofNat i0)), .val (.int (Int32.ofNat i))] [])) _ _ _ _
          refine own_go (fun _ k => XS.aloadN X3.here hx rfl (hb hby d9_42) rfl rfl k) ?_
          show own_G _ _ _ (T3.setTop (mkF m 43 #[.val (.ref p0), .val (.int (Int32.ofNat i0)), .val (.int (Int32.ofNat i))] [(.ref p0)])) _ _ _ _
          refine own_go (fun _ k => XS.iloadN X3.here hx rfl (hb hby d9_43) rfl k) ?_
          show own_G _ _ _ (T3.setTop (mkF m 44 #[.val (.ref p0), .val (.int (Int32.ofNat i0)), .val (.int (Int32.ofNat i))] [(.int (Int32.ofNat i)), (.ref p0)])) _ _ _ _
          obtain ⟨t7, kb7, Es7, Cs7, Vs7, Ks7, hp7, hl7⟩ := id P_T_p0
          obtain ⟨cq7, kq7, q7a, q7b, q7c⟩ := isOf hZ eh3 Es7
          obtain ⟨_, _, ⟨T7, L7, k7, n7⟩, -, X7, ⟨Lc7, hQ7, l7, y7, z7⟩, st7⟩ := X3.virtualBack hx (y := (⟨"java/lang/String", "charAt", "(I)C"⟩ : MethodName)) (z := (⟨"java/lang/String", "charAt", "(I)C"⟩ : MethodName)) hown (mvT hZ (hw _ (List.mem_of_getElem? (i := 51) rfl))) (mvT hZ (hw _ (List.mem_of_getElem? (i := 52) rfl))) (notFace_of_selects (args := #[]) (mvT hZ (hw _ (List.mem_of_getElem? (i := 54) rfl)))) (mvT hZ (hw _ (List.mem_of_getElem? (i := 54) rfl))) (mvT hZ (hw _ (List.mem_of_getElem? (i := 53) rfl))) (by decide) (StrChars.Road.chN (W := 0) hZ (own_wCh hw) (kI := 4) (hw _ (List.mem_of_getElem? (i := 9) rfl)) Es7 Vs7 Cs7 Ks7 (StrChars.Road.codOf rfl (fun x hx => (hp7 x hx).2)) (own_up _ hp7) (P_ZS_java_lang_String_COMPACT_STRINGS.ext P_Old.2) hcs (P_ZS_jdk_internal_util_Preconditions_SIOOBE_FORMATTER.ext P_Old.2) hfm hl7 (i := i) (own_ltn hc2 (by omega) (by omega)) (j := (Int32.ofNat i)) rfl (by decide) (by decide)) q7a q7c (g := (mkF m 44 #[.val (.ref p0), .val (.int (Int32.ofNat i0)), .val (.int (Int32.ofNat i))] [(.int (Int32.ofNat i)), (.ref p0)])) rfl (by rw [hml]; rfl) (Steps.refl _) (argsL := [(.int (Int32.ofNat i))]) (rest := []) (lenOf pd_2 rfl) rfl (by show 2 * 0 + _ ≤ _; exact Nat.le_of_eq rfl) (hb hby d9_44) (fun _ _ => ⟨rfl, eh3, (by decide : 0 + 0 ≤ _), (by decide : 0 + 0 ≤ _)⟩)
          dsimp only [Pt.U, Pt.locs, Pt.cells, Pt.slots] at X7 l7 y7 z7 st7 hQ7
          subst l7 y7 z7
          obtain ⟨rfl, rfl, eh7⟩ := hQ7
          have N7 := Fr.app N3 (Fr.nil n0)
          refine own_tr st7 ?_
          show own_G _ _ _ (T7.setTop (mkF m 47 #[.val (.ref p0), .val (.int (Int32.ofNat i0)), .val (.int (Int32.ofNat i))] [(.int (cs.getD i 0))])) _ _ _ _
          refine own_go (fun _ k => XS.bipush X7.here hx rfl (hb hby d9_47) k) ?_
          show own_G _ _ _ (T7.setTop (mkF m 49 #[.val (.ref p0), .val (.int (Int32.ofNat i0)), .val (.int (Int32.ofNat i))] [(.int (92 : Int32)), (.int (cs.getD i 0))])) _ _ _ _
          by_cases hc8 : (cs.getD i 0) = (92 : Int32)
          · refine own_itI hc8 ?_
            refine own_go (fun _ k => XS.icmpNo X7.here hx rfl (hb hby d9_49) rfl (teq hc8).2 k) ?_
            show own_G _ _ _ (T7.setTop (mkF m 52 #[.val (.ref p0), .val (.int (Int32.ofNat i0)), .val (.int (Int32.ofNat i))] [])) _ _ _ _
            refine own_go (fun _ k => XS.iloadN X7.here hx rfl (hb hby d9_52) rfl k) ?_
            show own_G _ _ _ (T7.setTop (mkF m 53 #[.val (.ref p0), .val (.int (Int32.ofNat i0)), .val (.int (Int32.ofNat i))] [(.int (Int32.ofNat i))])) _ _ _ _
            refine own_go (fun _ k => XS.iconst X7.here hx rfl (hb hby d9_53) k) ?_
            show own_G _ _ _ (T7.setTop (mkF m 54 #[.val (.ref p0), .val (.int (Int32.ofNat i0)), .val (.int (Int32.ofNat i))] [(.int (1 : Int32)), (.int (Int32.ofNat i))])) _ _ _ _
            refine own_go (fun _ k => XS.iadd X7.here hx rfl (hb hby d9_54) rfl k) ?_
            rw [show (Int32.ofNat i : Int32) + 1 = Int32.ofNat (i + 1) from (inc_ofNat _).symm]
            show own_G _ _ _ (T7.setTop (mkF m 55 #[.val (.ref p0), .val (.int (Int32.ofNat i0)), .val (.int (Int32.ofNat i))] [(.int (Int32.ofNat (i + 1)))])) _ _ _ _
            refine own_go (fun _ k => XS.aloadN X7.here hx rfl (hb hby d9_55) rfl rfl k) ?_
            show own_G _ _ _ (T7.setTop (mkF m 56 #[.val (.ref p0), .val (.int (Int32.ofNat i0)), .val (.int (Int32.ofNat i))] [(.ref p0), (.int (Int32.ofNat (i + 1)))])) _ _ _ _
            obtain ⟨t9, kb9, Es9, Cs9, Vs9, Ks9, hp9, hl9⟩ := id P_T_p0
            obtain ⟨cq9, kq9, q9a, q9b, q9c⟩ := isOf hZ eh7 Es9
            obtain ⟨_, _, ⟨T9, L9, k9, n9⟩, -, X9, ⟨Lc9, hQ9, l9, y9, z9⟩, st9⟩ := X7.virtualBack hx (y := (⟨"java/lang/String", "length", "()I"⟩ : MethodName)) (z := (⟨"java/lang/String", "length", "()I"⟩ : MethodName)) hown (mvT hZ (hw _ (List.mem_of_getElem? (i := 41) rfl))) (mvT hZ (hw _ (List.mem_of_getElem? (i := 42) rfl))) (notFace_of_selects (args := #[]) (mvT hZ (hw _ (List.mem_of_getElem? (i := 44) rfl)))) (mvT hZ (hw _ (List.mem_of_getElem? (i := 44) rfl))) (mvT hZ (hw _ (List.mem_of_getElem? (i := 43) rfl))) (by decide) (StrChars.Road.lenW (W := 1) hZ (own_wLen hw) (kI := 4) (hw _ (List.mem_of_getElem? (i := 9) rfl)) Es9 Vs9 Cs9 Ks9 (StrChars.Road.codOf rfl (fun x hx => (hp9 x hx).2)) (own_up _ hp9) (P_ZS_java_lang_String_COMPACT_STRINGS.ext P_Old.2) hcs hl9 (by decide) (by decide)) q9a q9c (g := (mkF m 56 #[.val (.ref p0), .val (.int (Int32.ofNat i0)), .val (.int (Int32.ofNat i))] [(.ref p0), (.int (Int32.ofNat (i + 1)))])) rfl (by rw [hml]; rfl) (Steps.refl _) (argsL := []) (rest := [(.int (Int32.ofNat (i + 1)))]) (lenOf pd_1 rfl) rfl (by show 2 * 0 + _ ≤ _; exact Nat.le_of_eq rfl) (hb hby d9_56) (fun _ _ => ⟨rfl, eh7, (by decide : 0 + 0 ≤ _), (by decide : 0 + 0 ≤ _)⟩)
            dsimp only [Pt.U, Pt.locs, Pt.cells, Pt.slots] at X9 l9 y9 z9 st9 hQ9
            subst l9 y9 z9
            obtain ⟨rfl, rfl, eh9⟩ := hQ9
            have N9 := Fr.app N7 (Fr.nil n0)
            refine own_tr st9 ?_
            show own_G _ _ _ (T9.setTop (mkF m 59 #[.val (.ref p0), .val (.int (Int32.ofNat i0)), .val (.int (Int32.ofNat i))] [(.int (Int32.ofNat cs.length)), (.int (Int32.ofNat (i + 1)))])) _ _ _ _
            by_cases hc10 : (Int32.ofNat (i + 1)) < (Int32.ofNat cs.length)
            · refine own_itI hc10 ?_
              refine own_go (fun _ k => XS.icmpNo X9.here hx rfl (hb hby d9_59) rfl (tlt hc10).2.1 k) ?_
              show own_G _ _ _ (T9.setTop (mkF m 62 #[.val (.ref p0), .val (.int (Int32.ofNat i0)), .val (.int (Int32.ofNat i))] [])) _ _ _ _
              refine own_go (fun _ k => XS.iinc X9.here hx rfl (hb hby d9_62) rfl (l' := #[.val (.ref p0), .val (.int (Int32.ofNat i0)), .val (.int ((Int32.ofNat i) + (1 : Int32)))]) rfl k) ?_
              rw [show (Int32.ofNat i : Int32) + 1 = Int32.ofNat (i + 1) from (inc_ofNat _).symm]
              show own_G _ _ _ (T9.setTop (mkF m 65 #[.val (.ref p0), .val (.int (Int32.ofNat i0)), .val (.int (Int32.ofNat (i + 1)))] [])) _ _ _ _
              refine own_go (fun _ k => XS.aloadN X9.here hx rfl (hb hby d9_65) rfl rfl k) ?_
              show own_G _ _ _ (T9.setTop (mkF m 66 #[.val (.ref p0), .val (.int (Int32.ofNat i0)), .val (.int (Int32.ofNat (i + 1)))] [(.ref p0)])) _ _ _ _
              refine own_go (fun _ k => XS.iloadN X9.here hx rfl (hb hby d9_66) rfl k) ?_
              show own_G _ _ _ (T9.setTop (mkF m 67 #[.val (.ref p0), .val (.int (Int32.ofNat i0)), .val (.int (Int32.ofNat (i + 1)))] [(.int (Int32.ofNat (i + 1))), (.ref p0)])) _ _ _ _
              obtain ⟨t11, kb11, Es11, Cs11, Vs11, Ks11, hp11, hl11⟩ := id P_T_p0
              obtain ⟨cq11, kq11, q11a, q11b, q11c⟩ := isOf hZ eh9 Es11
              obtain ⟨_, _, ⟨T11, L11, k11, n11⟩, -, X11, ⟨Lc11, hQ11, l11, y11, z11⟩, st11⟩ := X9.virtualBack hx (y := (⟨"java/lang/String", "charAt", "(I)C"⟩ : MethodName)) (z := (⟨"java/lang/String", "charAt", "(I)C"⟩ : MethodName)) hown (mvT hZ (hw _ (List.mem_of_getElem? (i := 51) rfl))) (mvT hZ (hw _ (List.mem_of_getElem? (i := 52) rfl))) (notFace_of_selects (args := #[]) (mvT hZ (hw _ (List.mem_of_getElem? (i := 54) rfl)))) (mvT hZ (hw _ (List.mem_of_getElem? (i := 54) rfl))) (mvT hZ (hw _ (List.mem_of_getElem? (i := 53) rfl))) (by decide) (StrChars.Road.chN (W := 0) hZ (own_wCh hw) (kI := 4) (hw _ (List.mem_of_getElem? (i := 9) rfl)) Es11 Vs11 Cs11 Ks11 (StrChars.Road.codOf rfl (fun x hx => (hp11 x hx).2)) (own_up _ hp11) (P_ZS_java_lang_String_COMPACT_STRINGS.ext P_Old.2) hcs (P_ZS_jdk_internal_util_Preconditions_SIOOBE_FORMATTER.ext P_Old.2) hfm hl11 (i := (i + 1)) (own_ltn hc10 (by omega) (by omega)) (j := (Int32.ofNat (i + 1))) rfl (by decide) (by decide)) q11a q11c (g := (mkF m 67 #[.val (.ref p0), .val (.int (Int32.ofNat i0)), .val (.int (Int32.ofNat (i + 1)))] [(.int (Int32.ofNat (i + 1))), (.ref p0)])) rfl (by rw [hml]; rfl) (Steps.refl _) (argsL := [(.int (Int32.ofNat (i + 1)))]) (rest := []) (lenOf pd_2 rfl) rfl (by show 2 * 0 + _ ≤ _; exact Nat.le_of_eq rfl) (hb hby d9_67) (fun _ _ => ⟨rfl, eh9, (by decide : 0 + 0 ≤ _), (by decide : 0 + 0 ≤ _)⟩)
              dsimp only [Pt.U, Pt.locs, Pt.cells, Pt.slots] at X11 l11 y11 z11 st11 hQ11
              subst l11 y11 z11
              obtain ⟨rfl, rfl, eh11⟩ := hQ11
              have N11 := Fr.app N9 (Fr.nil n0)
              refine own_tr st11 ?_
              show own_G _ _ _ (T11.setTop (mkF m 70 #[.val (.ref p0), .val (.int (Int32.ofNat i0)), .val (.int (Int32.ofNat (i + 1)))] [(.int (cs.getD (i + 1) 0))])) _ _ _ _
              obtain ⟨_, _, ⟨T12, L12, k12, n12⟩, -, X12, ⟨Lc12, hQ12, l12, y12, z12⟩, st12⟩ := Jvm.LawKit.callS X11 hx (y := (⟨"com/example/floe/floe/rest/FramingLines", "isControl", "(I)Z"⟩ : MethodName)) hown (mvT hZ (hw _ (List.mem_of_getElem? (i := 76) rfl))) (mvT hZ (hw _ (List.mem_of_getElem? (i := 77) rfl))) (mvT hZ (hw _ (List.mem_of_getElem? (i := 39) rfl))) (mvT hZ (hw _ (List.mem_of_getElem? (i := 78) rfl))) (by decide) (backOf (W := 0) (rm18 l Z a0 hw [] (cs.getD (i + 1) 0) h0 n0) hZ (hw _ (List.mem_of_getElem? (i := 78) rfl)) (hw _ (List.mem_of_getElem? (i := 39) rfl)) (by decide) (by decide)) (g := (mkF m 70 #[.val (.ref p0), .val (.int (Int32.ofNat i0)), .val (.int (Int32.ofNat (i + 1)))] [(.int (cs.getD (i + 1) 0))])) rfl (by rw [hml]; rfl) (argsL := [(.int (cs.getD (i + 1) 0))]) (rest := []) (lenOf pd_3 rfl) rfl (by show 2 * 0 + _ ≤ _; exact Nat.le_of_eq rfl) (hb hby d9_70) (fun _ _ => ⟨rfl, eh11, (by decide : 0 + 0 ≤ _), (by decide : 0 + 0 ≤ _)⟩)
              dsimp only [Pt.U, Pt.locs, Pt.cells, Pt.slots] at X12 l12 y12 z12 st12 hQ12
              subst l12 y12 z12
              obtain ⟨rfl, Nq12, eh12⟩ := hQ12
              have N12 := Fr.app N11 Nq12
              refine own_go (fun _ k => st12 _ k) ?_
              show own_G _ _ _ (T12.setTop (mkF m 73 #[.val (.ref p0), .val (.int (Int32.ofNat i0)), .val (.int (Int32.ofNat (i + 1)))] [(.int (own_isc (cs.getD (i + 1) 0)))])) _ _ _ _
              by_cases hc13 : (own_isc (cs.getD (i + 1) 0)) = (0 : Int32)
              · refine own_itI hc13 ?_
                refine own_go (fun _ k => XS.ifYes X12.here hx rfl (pc0 := 73) (pc' := 78) rfl (hb hby d9_73) rfl ((if0 _ _).trans (teq hc13).1) (by decide) (by decide) k) ?_
                show own_G _ _ _ (T12.setTop (mkF m 78 #[.val (.ref p0), .val (.int (Int32.ofNat i0)), .val (.int (Int32.ofNat (i + 1)))] [])) _ _ _ _
                refine own_go (fun _ k => XS.iinc X12.here hx rfl (hb hby d9_78) rfl (l' := #[.val (.ref p0), .val (.int (Int32.ofNat i0)), .val (.int ((Int32.ofNat (i + 1)) + (1 : Int32)))]) rfl k) ?_
                rw [show (Int32.ofNat (i + 1) : Int32) + 1 = Int32.ofNat ((i + 1) + 1) from (inc_ofNat _).symm]
                show own_G _ _ _ (T12.setTop (mkF m 81 #[.val (.ref p0), .val (.int (Int32.ofNat i0)), .val (.int (Int32.ofNat ((i + 1) + 1)))] [])) _ _ _ _
                refine own_go (fun _ k => XS.goto X12.here hx rfl (pc0 := 81) (pc' := 24) rfl (hb hby d9_81) (by decide) (by decide) k) ?_
                show own_G _ _ _ (T12.setTop (mkF m 24 #[.val (.ref p0), .val (.int (Int32.ofNat i0)), .val (.int (Int32.ofNat ((i + 1) + 1)))] [])) _ _ _ _
                have hq := own_ltn hc10 (by omega) (by omega)
                exact ih ((i + 1) + 1) (by omega) (by omega) _ _ X12 eh12 N12
              · refine own_ifI hc13 ?_
                refine own_go (fun _ k => XS.ifNo X12.here hx rfl (hb hby d9_73) rfl ((if0 _ _).trans (feq hc13).1) k) ?_
                show own_G _ _ _ (T12.setTop (mkF m 76 #[.val (.ref p0), .val (.int (Int32.ofNat i0)), .val (.int (Int32.ofNat (i + 1)))] [])) _ _ _ _
                refine own_go (fun _ k => XS.iconst X12.here hx rfl (hb hby d9_76) k) ?_
                show own_G _ _ _ (T12.setTop (mkF m 77 #[.val (.ref p0), .val (.int (Int32.ofNat i0)), .val (.int (Int32.ofNat (i + 1)))] [(.int (-1 : Int32))])) _ _ _ _
                exact own_endI X12 hx hlk Bd.returns (hb hby d9_77) (by decide) (by decide) (Q := (own_P n0 h0 (some (.int (-1 : Int32))))) ⟨rfl, N12, eh12⟩
            · refine own_ifI hc10 ?_
              refine own_go (fun _ k => XS.icmpYes X9.here hx rfl (pc0 := 59) (pc' := 65) rfl (hb hby d9_59) rfl (flt hc10).2.1 (by decide) (by decide) k) ?_
              show own_G _ _ _ (T9.setTop (mkF m 65 #[.val (.ref p0), .val (.int (Int32.ofNat i0)), .val (.int (Int32.ofNat i))] [])) _ _ _ _
              refine own_go (fun _ k => XS.aloadN X9.here hx rfl (hb hby d9_65) rfl rfl k) ?_
              show own_G _ _ _ (T9.setTop (mkF m 66 #[.val (.ref p0), .val (.int (Int32.ofNat i0)), .val (.int (Int32.ofNat i))] [(.ref p0)])) _ _ _ _
              refine own_go (fun _ k => XS.iloadN X9.here hx rfl (hb hby d9_66) rfl k) ?_
              show own_G _ _ _ (T9.setTop (mkF m 67 #[.val (.ref p0), .val (.int (Int32.ofNat i0)), .val (.int (Int32.ofNat i))] [(.int (Int32.ofNat i)), (.ref p0)])) _ _ _ _
              obtain ⟨t14, kb14, Es14, Cs14, Vs14, Ks14, hp14, hl14⟩ := id P_T_p0
              obtain ⟨cq14, kq14, q14a, q14b, q14c⟩ := isOf hZ eh9 Es14
              obtain ⟨_, _, ⟨T14, L14, k14, n14⟩, -, X14, ⟨Lc14, hQ14, l14, y14, z14⟩, st14⟩ := X9.virtualBack hx (y := (⟨"java/lang/String", "charAt", "(I)C"⟩ : MethodName)) (z := (⟨"java/lang/String", "charAt", "(I)C"⟩ : MethodName)) hown (mvT hZ (hw _ (List.mem_of_getElem? (i := 51) rfl))) (mvT hZ (hw _ (List.mem_of_getElem? (i := 52) rfl))) (notFace_of_selects (args := #[]) (mvT hZ (hw _ (List.mem_of_getElem? (i := 54) rfl)))) (mvT hZ (hw _ (List.mem_of_getElem? (i := 54) rfl))) (mvT hZ (hw _ (List.mem_of_getElem? (i := 53) rfl))) (by decide) (StrChars.Road.chN (W := 0) hZ (own_wCh hw) (kI := 4) (hw _ (List.mem_of_getElem? (i := 9) rfl)) Es14 Vs14 Cs14 Ks14 (StrChars.Road.codOf rfl (fun x hx => (hp14 x hx).2)) (own_up _ hp14) (P_ZS_java_lang_String_COMPACT_STRINGS.ext P_Old.2) hcs (P_ZS_jdk_internal_util_Preconditions_SIOOBE_FORMATTER.ext P_Old.2) hfm hl14 (i := i) (own_ltn hc2 (by omega) (by omega)) (j := (Int32.ofNat i)) rfl (by decide) (by decide)) q14a q14c (g := (mkF m 67 #[.val (.ref p0), .val (.int (Int32.ofNat i0)), .val (.int (Int32.ofNat i))] [(.int (Int32.ofNat i)), (.ref p0)])) rfl (by rw [hml]; rfl) (Steps.refl _) (argsL := [(.int (Int32.ofNat i))]) (rest := []) (lenOf pd_2 rfl) rfl (by show 2 * 0 + _ ≤ _; exact Nat.le_of_eq rfl) (hb hby d9_67) (fun _ _ => ⟨rfl, eh9, (by decide : 0 + 0 ≤ _), (by decide : 0 + 0 ≤ _)⟩)
              dsimp only [Pt.U, Pt.locs, Pt.cells, Pt.slots] at X14 l14 y14 z14 st14 hQ14
              subst l14 y14 z14
              obtain ⟨rfl, rfl, eh14⟩ := hQ14
              have N14 := Fr.app N9 (Fr.nil n0)
              refine own_tr st14 ?_
              show own_G _ _ _ (T14.setTop (mkF m 70 #[.val (.ref p0), .val (.int (Int32.ofNat i0)), .val (.int (Int32.ofNat i))] [(.int (cs.getD i 0))])) _ _ _ _
              obtain ⟨_, _, ⟨T15, L15, k15, n15⟩, -, X15, ⟨Lc15, hQ15, l15, y15, z15⟩, st15⟩ := Jvm.LawKit.callS X14 hx (y := (⟨"com/example/floe/floe/rest/FramingLines", "isControl", "(I)Z"⟩ : MethodName)) hown (mvT hZ (hw _ (List.mem_of_getElem? (i := 76) rfl))) (mvT hZ (hw _ (List.mem_of_getElem? (i := 77) rfl))) (mvT hZ (hw _ (List.mem_of_getElem? (i := 39) rfl))) (mvT hZ (hw _ (List.mem_of_getElem? (i := 78) rfl))) (by decide) (backOf (W := 0) (rm18 l Z a0 hw [] (cs.getD i 0) h0 n0) hZ (hw _ (List.mem_of_getElem? (i := 78) rfl)) (hw _ (List.mem_of_getElem? (i := 39) rfl)) (by decide) (by decide)) (g := (mkF m 70 #[.val (.ref p0), .val (.int (Int32.ofNat i0)), .val (.int (Int32.ofNat i))] [(.int (cs.getD i 0))])) rfl (by rw [hml]; rfl) (argsL := [(.int (cs.getD i 0))]) (rest := []) (lenOf pd_3 rfl) rfl (by show 2 * 0 + _ ≤ _; exact Nat.le_of_eq rfl) (hb hby d9_70) (fun _ _ => ⟨rfl, eh14, (by decide : 0 + 0 ≤ _), (by decide : 0 + 0 ≤ _)⟩)
              dsimp only [Pt.U, Pt.locs, Pt.cells, Pt.slots] at X15 l15 y15 z15 st15 hQ15
              subst l15 y15 z15
              obtain ⟨rfl, Nq15, eh15⟩ := hQ15
              have N15 := Fr.app N14 Nq15
              refine own_go (fun _ k => st15 _ k) ?_
              show own_G _ _ _ (T15.setTop (mkF m 73 #[.val (.ref p0), .val (.int (Int32.ofNat i0)), .val (.int (Int32.ofNat i))] [(.int (own_isc (cs.getD i 0)))])) _ _ _ _
              by_cases hc16 : (own_isc (cs.getD i 0)) = (0 : Int32)
              · refine own_itI hc16 ?_
                refine own_go (fun _ k => XS.ifYes X15.here hx rfl (pc0 := 73) (pc' := 78) rfl (hb hby d9_73) rfl ((if0 _ _).trans (teq hc16).1) (by decide) (by decide) k) ?_
                show own_G _ _ _ (T15.setTop (mkF m 78 #[.val (.ref p0), .val (.int (Int32.ofNat i0)), .val (.int (Int32.ofNat i))] [])) _ _ _ _
                refine own_go (fun _ k => XS.iinc X15.here hx rfl (hb hby d9_78) rfl (l' := #[.val (.ref p0), .val (.int (Int32.ofNat i0)), .val (.int ((Int32.ofNat i) + (1 : Int32)))]) rfl k) ?_
                rw [show (Int32.ofNat i : Int32) + 1 = Int32.ofNat (i + 1) from (inc_ofNat _).symm]
                show own_G _ _ _ (T15.setTop (mkF m 81 #[.val (.ref p0), .val (.int (Int32.ofNat i0)), .val (.int (Int32.ofNat (i + 1)))] [])) _ _ _ _
                refine own_go (fun _ k => XS.goto X15.here hx rfl (pc0 := 81) (pc' := 24) rfl (hb hby d9_81) (by decide) (by decide) k) ?_
                show own_G _ _ _ (T15.setTop (mkF m 24 #[.val (.ref p0), .val (.int (Int32.ofNat i0)), .val (.int (Int32.ofNat (i + 1)))] [])) _ _ _ _
                have hq := own_ltn hc2 (by omega) (by omega)
                exact ih (i + 1) (by omega) (by omega) _ _ X15 eh15 N15
              · refine own_ifI hc16 ?_
                refine own_go (fun _ k => XS.ifNo X15.here hx rfl (hb hby d9_73) rfl ((if0 _ _).trans (feq hc16).1) k) ?_
                show own_G _ _ _ (T15.setTop (mkF m 76 #[.val (.ref p0), .val (.int (Int32.ofNat i0)), .val (.int (Int32.ofNat i))] [])) _ _ _ _
                refine own_go (fun _ k => XS.iconst X15.here hx rfl (hb hby d9_76) k) ?_
                show own_G _ _ _ (T15.setTop (mkF m 77 #[.val (.ref p0), .val (.int (Int32.ofNat i0)), .val (.int (Int32.ofNat i))] [(.int (-1 : Int32))])) _ _ _ _
                exact own_endI X15 hx hlk Bd.returns (hb hby d9_77) (by decide) (by decide) (Q := (own_P n0 h0 (some (.int (-1 : Int32))))) ⟨rfl, N15, eh15⟩
          · refine own_ifI hc8 ?_
            refine own_go (fun _ k => XS.icmpYes X7.here hx rfl (pc0 := 49) (pc' := 65) rfl (hb hby d9_49) rfl (feq hc8).2 (by decide) (by decide) k) ?_
            show own_G _ _ _ (T7.setTop (mkF m 65 #[.val (.ref p0), .val (.int (Int32.ofNat i0)), .val (.int (Int32.ofNat i))] [])) _ _ _ _
            refine own_go (fun _ k => XS.aloadN X7.here hx rfl (hb hby d9_65) rfl rfl k) ?_
            show own_G _ _ _ (T7.setTop (mkF m 66 #[.val (.ref p0), .val (.int (Int32.ofNat i0)), .val (.int (Int32.ofNat i))] [(.ref p0)])) _ _ _ _
            refine own_go (fun _ k => XS.iloadN X7.here hx rfl (hb hby d9_66) rfl k) ?_
            show own_G _ _ _ (T7.setTop (mkF m 67 #[.val (.ref p0), .val (.int (Int32.ofNat i0)), .val (.int (Int32.ofNat i))] [(.int (Int32.ofNat i)), (.ref p0)])) _ _ _ _
            obtain ⟨t17, kb17, Es17, Cs17, Vs17, Ks17, hp17, hl17⟩ := id P_T_p0
            obtain ⟨cq17, kq17, q17a, q17b, q17c⟩ := isOf hZ eh7 Es17
            obtain ⟨_, _, ⟨T17, L17, k17, n17⟩, -, X17, ⟨Lc17, hQ17, l17, y17, z17⟩, st17⟩ := X7.virtualBack hx (y := (⟨"java/lang/String", "charAt", "(I)C"⟩ : MethodName)) (z := (⟨"java/lang/String", "charAt", "(I)C"⟩ : MethodName)) hown (mvT hZ (hw _ (List.mem_of_getElem? (i := 51) rfl))) (mvT hZ (hw _ (List.mem_of_getElem? (i := 52) rfl))) (notFace_of_selects (args := #[]) (mvT hZ (hw _ (List.mem_of_getElem? (i := 54) rfl)))) (mvT hZ (hw _ (List.mem_of_getElem? (i := 54) rfl))) (mvT hZ (hw _ (List.mem_of_getElem? (i := 53) rfl))) (by decide) (StrChars.Road.chN (W := 0) hZ (own_wCh hw) (kI := 4) (hw _ (List.mem_of_getElem? (i := 9) rfl)) Es17 Vs17 Cs17 Ks17 (StrChars.Road.codOf rfl (fun x hx => (hp17 x hx).2)) (own_up _ hp17) (P_ZS_java_lang_String_COMPACT_STRINGS.ext P_Old.2) hcs (P_ZS_jdk_internal_util_Preconditions_SIOOBE_FORMATTER.ext P_Old.2) hfm hl17 (i := i) (own_ltn hc2 (by omega) (by omega)) (j := (Int32.ofNat i)) rfl (by decide) (by decide)) q17a q17c (g := (mkF m 67 #[.val (.ref p0), .val (.int (Int32.ofNat i0)), .val (.int (Int32.ofNat i))] [(.int (Int32.ofNat i)), (.ref p0)])) rfl (by rw [hml]; rfl) (Steps.refl _) (argsL := [(.int (Int32.ofNat i))]) (rest := []) (lenOf pd_2 rfl) rfl (by show 2 * 0 + _ ≤ _; exact Nat.le_of_eq rfl) (hb hby d9_67) (fun _ _ => ⟨rfl, eh7, (by decide : 0 + 0 ≤ _), (by decide : 0 + 0 ≤ _)⟩)
            dsimp only [Pt.U, Pt.locs, Pt.cells, Pt.slots] at X17 l17 y17 z17 st17 hQ17
            subst l17 y17 z17
            obtain ⟨rfl, rfl, eh17⟩ := hQ17
            have N17 := Fr.app N7 (Fr.nil n0)
            refine own_tr st17 ?_
            show own_G _ _ _ (T17.setTop (mkF m 70 #[.val (.ref p0), .val (.int (Int32.ofNat i0)), .val (.int (Int32.ofNat i))] [(.int (cs.getD i 0))])) _ _ _ _
            obtain ⟨_, _, ⟨T18, L18, k18, n18⟩, -, X18, ⟨Lc18, hQ18, l18, y18, z18⟩, st18⟩ := Jvm.LawKit.callS X17 hx (y := (⟨"com/example/floe/floe/rest/FramingLines", "isControl", "(I)Z"⟩ : MethodName)) hown (mvT hZ (hw _ (List.mem_of_getElem? (i := 76) rfl))) (mvT hZ (hw _ (List.mem_of_getElem? (i := 77) rfl))) (mvT hZ (hw _ (List.mem_of_getElem? (i := 39) rfl))) (mvT hZ (hw _ (List.mem_of_getElem? (i := 78) rfl))) (by decide) (backOf (W := 0) (rm18 l Z a0 hw [] (cs.getD i 0) h0 n0) hZ (hw _ (List.mem_of_getElem? (i := 78) rfl)) (hw _ (List.mem_of_getElem? (i := 39) rfl)) (by decide) (by decide)) (g := (mkF m 70 #[.val (.ref p0), .val (.int (Int32.ofNat i0)), .val (.int (Int32.ofNat i))] [(.int (cs.getD i 0))])) rfl (by rw [hml]; rfl) (argsL := [(.int (cs.getD i 0))]) (rest := []) (lenOf pd_3 rfl) rfl (by show 2 * 0 + _ ≤ _; exact Nat.le_of_eq rfl) (hb hby d9_70) (fun _ _ => ⟨rfl, eh17, (by decide : 0 + 0 ≤ _), (by decide : 0 + 0 ≤ _)⟩)
            dsimp only [Pt.U, Pt.locs, Pt.cells, Pt.slots] at X18 l18 y18 z18 st18 hQ18
            subst l18 y18 z18
            obtain ⟨rfl, Nq18, eh18⟩ := hQ18
            have N18 := Fr.app N17 Nq18
            refine own_go (fun _ k => st18 _ k) ?_
            show own_G _ _ _ (T18.setTop (mkF m 73 #[.val (.ref p0), .val (.int (Int32.ofNat i0)), .val (.int (Int32.ofNat i))] [(.int (own_isc (cs.getD i 0)))])) _ _ _ _
            by_cases hc19 : (own_isc (cs.getD i 0)) = (0 : Int32)
            · refine own_itI hc19 ?_
              refine own_go (fun _ k => XS.ifYes X18.here hx rfl (pc0 := 73) (pc' := 78) rfl (hb hby d9_73) rfl ((if0 _ _).trans (teq hc19).1) (by decide) (by decide) k) ?_
              show own_G _ _ _ (T18.setTop (mkF m 78 #[.val (.ref p0), .val (.int (Int32.ofNat i0)), .val (.int (Int32.ofNat i))] [])) _ _ _ _
              refine own_go (fun _ k => XS.iinc X18.here hx rfl (hb hby d9_78) rfl (l' := #[.val (.ref p0), .val (.int (Int32.ofNat i0)), .val (.int ((Int32.ofNat i) + (1 : Int32)))]) rfl k) ?_
              rw [show (Int32.ofNat i : Int32) + 1 = Int32.ofNat (i + 1) from (inc_ofNat _).symm]
              show own_G _ _ _ (T18.setTop (mkF m 81 #[.val (.ref p0), .val (.int (Int32.ofNat i0)), .val (.int (Int32.ofNat (i + 1)))] [])) _ _ _ _
              refine own_go (fun _ k => XS.goto X18.here hx rfl (pc0 := 81) (pc' := 24) rfl (hb hby d9_81) (by decide) (by decide) k) ?_
              show own_G _ _ _ (T18.setTop (mkF m 24 #[.val (.ref p0), .val (.int (Int32.ofNat i0)), .val (.int (Int32.ofNat (i + 1)))] [])) _ _ _ _
              have hq := own_ltn hc2 (by omega) (by omega)
              exact ih (i + 1) (by omega) (by omega) _ _ X18 eh18 N18
            · refine own_ifI hc19 ?_
              refine own_go (fun _ k => XS.ifNo X18.here hx rfl (hb hby d9_73) rfl ((if0 _ _).trans (feq hc19).1) k) ?_
              show own_G _ _ _ (T18.setTop (mkF m 76 #[.val (.ref p0), .val (.int (Int32.ofNat i0)), .val (.int (Int32.ofNat i))] [])) _ _ _ _
              refine own_go (fun _ k => XS.iconst X18.here hx rfl (hb hby d9_76) k) ?_
              show own_G _ _ _ (T18.setTop (mkF m 77 #[.val (.ref p0), .val (.int (Int32.ofNat i0)), .val (.int (Int32.ofNat i))] [(.int (-1 : Int32))])) _ _ _ _
              exact own_endI X18 hx hlk Bd.returns (hb hby d9_77) (by decide) (by decide) (Q := (own_P n0 h0 (some (.int (-1 : Int32))))) ⟨rfl, N18, eh18⟩
      · refine own_ifI hc2 ?_
        refine own_go (fun _ k => XS.icmpYes X1.here hx rfl (pc0 := 29) (pc' := 84) rfl (hb hby d9_29) rfl (flt hc2).2.1 (by decide) (by decide) k) ?_
        show own_G _ _ _ (T1.setTop (mkF m 84 #[.val (.ref p0), .val (.int (Int32.ofNat i0)), .val (.int (Int32.ofNat i))] [])) _ _ _ _
        refine own_go (fun _ k => XS.iloadN X1.here hx rfl (hb hby d9_84) rfl k) ?_
        show own_G _ _ _ (T1.setTop (mkF m 85 #[.val (.ref p0), .val (.int (Int32.ofNat i0)), .val (.int (Int32.ofNat i))] [(.int (Int32.ofNat i))])) _ _ _ _
        refine own_go (fun _ k => XS.aloadN X1.here hx rfl (hb hby d9_85) rfl rfl k) ?_
        show own_G _ _ _ (T1.setTop (mkF m 86 #[.val (.ref p0), .val (.int (Int32.ofNat i0)), .val (.int (Int32.ofNat i))] [(.ref p0), (.int (Int32.ofNat i))])) _ _ _ _
        obtain ⟨t20, kb20, Es20, Cs20, Vs20, Ks20, hp20, hl20⟩ := id P_T_p0
        obtain ⟨cq20, kq20, q20a, q20b, q20c⟩ := isOf hZ eh1 Es20
        obtain ⟨_, _, ⟨T20, L20, k20, n20⟩, -, X20, ⟨Lc20, hQ20, l20, y20, z20⟩, st20⟩ := X1.virtualBack hx (y := (⟨"java/lang/String", "length", "()I"⟩ : MethodName)) (z := (⟨"java/lang/String", "length", "()I"⟩ : MethodName)) hown (mvT hZ (hw _ (List.mem_of_getElem? (i := 41) rfl))) (mvT hZ (hw _ (List.mem_of_getElem? (i := 42) rfl))) (notFace_of_selects (args := #[]) (mvT hZ (hw _ (List.mem_of_getElem? (i := 44) rfl)))) (mvT hZ (hw _ (List.mem_of_getElem? (i := 44) rfl))) (mvT hZ (hw _ (List.mem_of_getElem? (i := 43) rfl))) (by decide) (StrChars.Road.lenW (W := 1) hZ (own_wLen hw) (kI := 4) (hw _ (List.mem_of_getElem? (i := 9) rfl)) Es20 Vs20 Cs20 Ks20 (StrChars.Road.codOf rfl (fun x hx => (hp20 x hx).2)) (own_up _ hp20) (P_ZS_java_lang_String_COMPACT_STRINGS.ext P_Old.2) hcs hl20 (by decide) (by decide)) q20a q20c (g := (mkF m 86 #[.val (.ref p0), .val (.int (Int32.ofNat i0)), .val (.int (Int32.ofNat i))] [(.ref p0), (.int (Int32.ofNat i))])) rfl (by rw [hml]; rfl) (Steps.refl _) (argsL := []) (rest := [(.int (Int32.ofNat i))]) (lenOf pd_1 rfl) rfl (by show 2 * 0 + _ ≤ _; exact Nat.le_of_eq rfl) (hb hby d9_86) (fun _ _ => ⟨rfl, eh1, (by decide : 0 + 0 ≤ _), (by decide : 0 + 0 ≤ _)⟩)
        dsimp only [Pt.U, Pt.locs, Pt.cells, Pt.slots] at X20 l20 y20 z20 st20 hQ20
        subst l20 y20 z20
        obtain ⟨rfl, rfl, eh20⟩ := hQ20
        have N20 := Fr.app N1 (Fr.nil n0)
        refine own_tr st20 ?_
        show own_G _ _ _ (T20.setTop (mkF m 89 #[.val (.ref p0), .val (.int (Int32.ofNat i0)), .val (.int (Int32.ofNat i))] [(.int (Int32.ofNat cs.length)), (.int (Int32.ofNat i))])) _ _ _ _
        by_cases hc21 : (Int32.ofNat i) < (Int32.ofNat cs.length)
        · refine own_itI hc21 ?_
          refine own_go (fun _ k => XS.icmpNo X20.here hx rfl (hb hby d9_89) rfl (tlt hc21).2.1 k) ?_
          show own_G _ _ _ (T20.setTop (mkF m 92 #[.val (.ref p0), .val (.int (Int32.ofNat i0)), .val (.int (Int32.ofNat i))] [])) _ _ _ _
          refine own_go (fun _ k => XS.iloadN X20.here hx rfl (hb hby d9_92) rfl k) ?_
          show own_G _ _ _ (T20.setTop (mkF m 93 #[.val (.ref p0), .val (.int (Int32.ofNat i0)), .val (.int (Int32.ofNat i))] [(.int (Int32.ofNat i))])) _ _ _ _
          refine own_go (fun _ k => XS.iconst X20.here hx rfl (hb hby d9_93) k) ?_
          show own_G _ _ _ (T20.setTop (mkF m 94 #[.val (.ref p0), .val (.int (Int32.ofNat i0)), .val (.int (Int32.ofNat i))] [(.int (1 : Int32)), (.int (Int32.ofNat i))])) _ _ _ _
          refine own_go (fun _ k => XS.iadd X20.here hx rfl (hb hby d9_94) rfl k) ?_
          rw [show (Int32.ofNat i : Int32) + 1 = Int32.ofNat (i + 1) from (inc_ofNat _).symm]
          show own_G _ _ _ (T20.setTop (mkF m 95 #[.val (.ref p0), .val (.int (Int32.ofNat i0)), .val (.int (Int32.ofNat i))] [(.int (Int32.ofNat (i + 1)))])) _ _ _ _
          refine own_go (fun _ k => XS.goto X20.here hx rfl (pc0 := 95) (pc' := 99) rfl (hb hby d9_95) (by decide) (by decide) k) ?_
          show own_G _ _ _ (T20.setTop (mkF m 99 #[.val (.ref p0), .val (.int (Int32.ofNat i0)), .val (.int (Int32.ofNat i))] [(.int (Int32.ofNat (i + 1)))])) _ _ _ _
          exact own_endI X20 hx hlk Bd.returns (hb hby d9_99) (by decide) (by decide) (Q := (own_P n0 h0 (some (.int (Int32.ofNat (i + 1)))))) ⟨rfl, N20, eh20⟩
        · refine own_ifI hc21 ?_
          refine own_go (fun _ k => XS.icmpYes X20.here hx rfl (pc0 := 89) (pc' := 98) rfl (hb hby d9_89) rfl (flt hc21).2.1 (by decide) (by decide) k) ?_
          show own_G _ _ _ (T20.setTop (mkF m 98 #[.val (.ref p0), .val (.int (Int32.ofNat i0)), .val (.int (Int32.ofNat i))] [])) _ _ _ _
          refine own_go (fun _ k => XS.iconst X20.here hx rfl (hb hby d9_98) k) ?_
          show own_G _ _ _ (T20.setTop (mkF m 99 #[.val (.ref p0), .val (.int (Int32.ofNat i0)), .val (.int (Int32.ofNat i))] [(.int (-1 : Int32))])) _ _ _ _
          exact own_endI X20 hx hlk Bd.returns (hb hby d9_99) (by decide) (by decide) (Q := (own_P n0 h0 (some (.int (-1 : Int32))))) ⟨rfl, N20, eh20⟩
  show own_G p.tables e below (s₁.setTop (entryFrame m #[(.ref p0), (.int (Int32.ofNat i0))] 3)) s ({ frames := 4, cells := 0, slots := 0, locals := 53 } : Room).cells ({ frames := 4, cells := 0, slots := 0, locals := 53 } : Room).slots (own_P n0 h0 (some (.int (if (Int32.ofNat i0) < (Int32.ofNat cs.length) then (if (cs.getD i0 0) = (34 : Int32) then (own_qs cs (cs.length + 1) (i0 + 1)) else (-1 : Int32)) else (-1 : Int32)))))
  refine own_go (fun _ k => castTop (ef_9 m p0 (Int32.ofNat i0)) k) ?_
  refine own_go (fun _ k => XS.iloadN X0.here hx rfl (hb hby d9_0) rfl k) ?_
  show own_G _ _ _ (s₁.setTop (mkF m 1 #[.val (.ref p0), .val (.int (Int32.ofNat i0)), .unset] [(.int (Int32.ofNat i0))])) _ _ _ _
  refine own_go (fun _ k => XS.aloadN X0.here hx rfl (hb hby d9_1) rfl rfl k) ?_
  show own_G _ _ _ (s₁.setTop (mkF m 2 #[.val (.ref p0), .val (.int (Int32.ofNat i0)), .unset] [(.ref p0), (.int (Int32.ofNat i0))])) _ _ _ _
  obtain ⟨t22, kb22, Es22, Cs22, Vs22, Ks22, hp22, hl22⟩ := id P_T_p0
  obtain ⟨cq22, kq22, q22a, q22b, q22c⟩ := isOf hZ e0 Es22
  obtain ⟨_, _, ⟨T22, L22, k22, n22⟩, -, X22, ⟨Lc22, hQ22, l22, y22, z22⟩, st22⟩ := X0.virtualBack hx (y := (⟨"java/lang/String", "length", "()I"⟩ : MethodName)) (z := (⟨"java/lang/String", "length", "()I"⟩ : MethodName)) hown (mvT hZ (hw _ (List.mem_of_getElem? (i := 41) rfl))) (mvT hZ (hw _ (List.mem_of_getElem? (i := 42) rfl))) (notFace_of_selects (args := #[]) (mvT hZ (hw _ (List.mem_of_getElem? (i := 44) rfl)))) (mvT hZ (hw _ (List.mem_of_getElem? (i := 44) rfl))) (mvT hZ (hw _ (List.mem_of_getElem? (i := 43) rfl))) (by decide) (StrChars.Road.lenW (W := 1) hZ (own_wLen hw) (kI := 4) (hw _ (List.mem_of_getElem? (i := 9) rfl)) Es22 Vs22 Cs22 Ks22 (StrChars.Road.codOf rfl (fun x hx => (hp22 x hx).2)) (own_up _ hp22) (P_ZS_java_lang_String_COMPACT_STRINGS.ext P_Old.2) hcs hl22 (by decide) (by decide)) q22a q22c (g := (mkF m 2 #[.val (.ref p0), .val (.int (Int32.ofNat i0)), .unset] [(.ref p0), (.int (Int32.ofNat i0))])) rfl (by rw [hml]; rfl) (Steps.refl _) (argsL := []) (rest := [(.int (Int32.ofNat i0))]) (lenOf pd_1 rfl) rfl (by show 2 * 0 + _ ≤ _; exact Nat.le_of_eq rfl) (hb hby d9_2) (fun _ _ => ⟨rfl, e0, (by decide : 0 + 0 ≤ _), (by decide : 0 + 0 ≤ _)⟩)
  dsimp only [Pt.U, Pt.locs, Pt.cells, Pt.slots] at X22 l22 y22 z22 st22 hQ22
  subst l22 y22 z22
  obtain ⟨rfl, rfl, eh22⟩ := hQ22
  have N22 := Fr.app N0 (Fr.nil n0)
  refine own_tr st22 ?_
  show own_G _ _ _ (T22.setTop (mkF m 5 #[.val (.ref p0), .val (.int (Int32.ofNat i0)), .unset] [(.int (Int32.ofNat cs.length)), (.int (Int32.ofNat i0))])) _ _ _ _
  by_cases hc23 : (Int32.ofNat i0) < (Int32.ofNat cs.length)
  · refine own_itI hc23 ?_
    refine own_go (fun _ k => XS.icmpNo X22.here hx rfl (hb hby d9_5) rfl (tlt hc23).2.1 k) ?_
    show own_G _ _ _ (T22.setTop (mkF m 8 #[.val (.ref p0), .val (.int (Int32.ofNat i0)), .unset] [])) _ _ _ _
    refine own_go (fun _ k => XS.aloadN X22.here hx rfl (hb hby d9_8) rfl rfl k) ?_
    show own_G _ _ _ (T22.setTop (mkF m 9 #[.val (.ref p0), .val (.int (Int32.ofNat i0)), .unset] [(.ref p0)])) _ _ _ _
    refine own_go (fun _ k => XS.iloadN X22.here hx rfl (hb hby d9_9) rfl k) ?_
    show own_G _ _ _ (T22.setTop (mkF m 10 #[.val (.ref p0), .val (.int (Int32.ofNat i0)), .unset] [(.int (Int32.ofNat i0)), (.ref p0)])) _ _ _ _
    obtain ⟨t24, kb24, Es24, Cs24, Vs24, Ks24, hp24, hl24⟩ := id P_T_p0
    obtain ⟨cq24, kq24, q24a, q24b, q24c⟩ := isOf hZ eh22 Es24
    obtain ⟨_, _, ⟨T24, L24, k24, n24⟩, -, X24, ⟨Lc24, hQ24, l24, y24, z24⟩, st24⟩ := X22.virtualBack hx (y := (⟨"java/lang/String", "charAt", "(I)C"⟩ : MethodName)) (z := (⟨"java/lang/String", "charAt", "(I)C"⟩ : MethodName)) hown (mvT hZ (hw _ (List.mem_of_getElem? (i := 51) rfl))) (mvT hZ (hw _ (List.mem_of_getElem? (i := 52) rfl))) (notFace_of_selects (args := #[]) (mvT hZ (hw _ (List.mem_of_getElem? (i := 54) rfl)))) (mvT hZ (hw _ (List.mem_of_getElem? (i := 54) rfl))) (mvT hZ (hw _ (List.mem_of_getElem? (i := 53) rfl))) (by decide) (StrChars.Road.chN (W := 0) hZ (own_wCh hw) (kI := 4) (hw _ (List.mem_of_getElem? (i := 9) rfl)) Es24 Vs24 Cs24 Ks24 (StrChars.Road.codOf rfl (fun x hx => (hp24 x hx).2)) (own_up _ hp24) (P_ZS_java_lang_String_COMPACT_STRINGS.ext P_Old.2) hcs (P_ZS_jdk_internal_util_Preconditions_SIOOBE_FORMATTER.ext P_Old.2) hfm hl24 (i := i0) (own_ltn hc23 (by omega) (by omega)) (j := (Int32.ofNat i0)) rfl (by decide) (by decide)) q24a q24c (g := (mkF m 10 #[.val (.ref p0), .val (.int (Int32.ofNat i0)), .unset] [(.int (Int32.ofNat i0)), (.ref p0)])) rfl (by rw [hml]; rfl) (Steps.refl _) (argsL := [(.int (Int32.ofNat i0))]) (rest := []) (lenOf pd_2 rfl) rfl (by show 2 * 0 + _ ≤ _; exact Nat.le_of_eq rfl) (hb hby d9_10) (fun _ _ => ⟨rfl, eh22, (by decide : 0 + 0 ≤ _), (by decide : 0 + 0 ≤ _)⟩)
    dsimp only [Pt.U, Pt.locs, Pt.cells, Pt.slots] at X24 l24 y24 z24 st24 hQ24
    subst l24 y24 z24
    obtain ⟨rfl, rfl, eh24⟩ := hQ24
    have N24 := Fr.app N22 (Fr.nil n0)
    refine own_tr st24 ?_
    show own_G _ _ _ (T24.setTop (mkF m 13 #[.val (.ref p0), .val (.int (Int32.ofNat i0)), .unset] [(.int (cs.getD i0 0))])) _ _ _ _
    refine own_go (fun _ k => XS.bipush X24.here hx rfl (hb hby d9_13) k) ?_
    show own_G _ _ _ (T24.setTop (mkF m 15 #[.val (.ref p0), .val (.int (Int32.ofNat i0)), .unset] [(.int (34 : Int32)), (.int (cs.getD i0 0))])) _ _ _ _
    by_cases hc25 : (cs.getD i0 0) = (34 : Int32)
    · refine own_itI hc25 ?_
      refine own_go (fun _ k => XS.icmpYes X24.here hx rfl (pc0 := 15) (pc' := 20) rfl (hb hby d9_15) rfl (teq hc25).1 (by decide) (by decide) k) ?_
      show own_G _ _ _ (T24.setTop (mkF m 20 #[.val (.ref p0), .val (.int (Int32.ofNat i0)), .unset] [])) _ _ _ _
      refine own_go (fun _ k => XS.iloadN X24.here hx rfl (hb hby d9_20) rfl k) ?_
      show own_G _ _ _ (T24.setTop (mkF m 21 #[.val (.ref p0), .val (.int (Int32.ofNat i0)), .unset] [(.int (Int32.ofNat i0))])) _ _ _ _
      refine own_go (fun _ k => XS.iconst X24.here hx rfl (hb hby d9_21) k) ?_
      show own_G _ _ _ (T24.setTop (mkF m 22 #[.val (.ref p0), .val (.int (Int32.ofNat i0)), .unset] [(.int (1 : Int32)), (.int (Int32.ofNat i0))])) _ _ _ _
      refine own_go (fun _ k => XS.iadd X24.here hx rfl (hb hby d9_22) rfl k) ?_
      rw [show (Int32.ofNat i0 : Int32) + 1 = Int32.ofNat (i0 + 1) from (inc_ofNat _).symm]
      show own_G _ _ _ (T24.setTop (mkF m 23 #[.val (.ref p0), .val (.int (Int32.ofNat i0)), .unset] [(.int (Int32.ofNat (i0 + 1)))])) _ _ _ _
      refine own_go (fun _ k => XS.istoreN X24.here hx rfl (hb hby d9_23) rfl (l' := #[.val (.ref p0), .val (.int (Int32.ofNat i0)), .val (.int (Int32.ofNat (i0 + 1)))]) rfl k) ?_
      show own_G _ _ _ (T24.setTop (mkF m 24 #[.val (.ref p0), .val (.int (Int32.ofNat i0)), .val (.int (Int32.ofNat (i0 + 1)))] [])) _ _ _ _
      have hq := own_ltn hc23 (by omega) (by omega)
      exact loop (cs.length + 1) (i0 + 1) (by omega) (by omega) _ _ X24 eh24 N24
    · refine own_ifI hc25 ?_
      refine own_go (fun _ k => XS.icmpNo X24.here hx rfl (hb hby d9_15) rfl (feq hc25).1 k) ?_
      show own_G _ _ _ (T24.setTop (mkF m 18 #[.val (.ref p0), .val (.int (Int32.ofNat i0)), .unset] [])) _ _ _ _
      refine own_go (fun _ k => XS.iconst X24.here hx rfl (hb hby d9_18) k) ?_
      show own_G _ _ _ (T24.setTop (mkF m 19 #[.val (.ref p0), .val (.int (Int32.ofNat i0)), .unset] [(.int (-1 : Int32))])) _ _ _ _
      exact own_endI X24 hx hlk Bd.returns (hb hby d9_19) (by decide) (by decide) (Q := (own_P n0 h0 (some (.int (-1 : Int32))))) ⟨rfl, N24, eh24⟩
  · refine own_ifI hc23 ?_
    refine own_go (fun _ k => XS.icmpYes X22.here hx rfl (pc0 := 5) (pc' := 18) rfl (hb hby d9_5) rfl (flt hc23).2.1 (by decide) (by decide) k) ?_
    show own_G _ _ _ (T22.setTop (mkF m 18 #[.val (.ref p0), .val (.int (Int32.ofNat i0)), .unset] [])) _ _ _ _
    refine own_go (fun _ k => XS.iconst X22.here hx rfl (hb hby d9_18) k) ?_
    show own_G _ _ _ (T22.setTop (mkF m 19 #[.val (.ref p0), .val (.int (Int32.ofNat i0)), .unset] [(.int (-1 : Int32))])) _ _ _ _
    exact own_endI X22 hx hlk Bd.returns (hb hby d9_19) (by decide) (by decide) (Q := (own_P n0 h0 (some (.int (-1 : Int32))))) ⟨rfl, N22, eh22⟩
theorem d19_0 : decode method_6_code 0 = .ok (.iload_n 2, 1) := by decide +kernel
theorem d19_1 : decode method_6_code 1 = .ok (.iload_n 1, 1) := by decide +kernel
theorem d19_2 : decode method_6_code 2 = .ok (.if_icmp .lt 6, 3) := by decide +kernel
theorem d19_5 : decode method_6_code 5 = .ok (.bipush (-2), 2) := by decide +kernel
theorem d19_7 : decode method_6_code 7 = .ok (.ireturn, 1) := by decide +kernel
theorem d19_8 : decode method_6_code 8 = .ok (.aload_n 0, 1) := by decide +kernel
theorem d19_9 : decode method_6_code 9 = .ok (.iload_n 2, 1) := by decide +kernel
theorem d19_10 : decode method_6_code 10 = .ok (.caload, 1) := by decide +kernel
theorem d19_11 : decode method_6_code 11 = .ok (.istore_n 3, 1) := by decide +kernel
theorem d19_12 : decode method_6_code 12 = .ok (.iload_n 3, 1) := by decide +kernel
theorem d19_13 : decode method_6_code 13 = .ok (.bipush 34, 2) := by decide +kernel
theorem d19_15 : decode method_6_code 15 = .ok (.if_icmp .ne 5, 3) := by decide +kernel
theorem d19_18 : decode method_6_code 18 = .ok (.iconst 0, 1) := by decide +kernel
theorem d19_19 : decode method_6_code 19 = .ok (.ireturn, 1) := by decide +kernel
theorem d19_20 : decode method_6_code 20 = .ok (.iload_n 3, 1) := by decide +kernel
theorem d19_21 : decode method_6_code 21 = .ok (.bipush 92, 2) := by decide +kernel
theorem d19_23 : decode method_6_code 23 = .ok (.if_icmp .ne 29, 3) := by decide +kernel
theorem d19_26 : decode method_6_code 26 = .ok (.iload_n 2, 1) := by decide +kernel
theorem d19_27 : decode method_6_code 27 = .ok (.iconst 1, 1) := by decide +kernel
theorem d19_28 : decode method_6_code 28 = .ok (.iadd, 1) := by decide +kernel
theorem d19_29 : decode method_6_code 29 = .ok (.iload_n 1, 1) := by decide +kernel
theorem d19_30 : decode method_6_code 30 = .ok (.if_icmp .ge 20, 3) := by decide +kernel
theorem d19_33 : decode method_6_code 33 = .ok (.aload_n 0, 1) := by decide +kernel
theorem d19_34 : decode method_6_code 34 = .ok (.iload_n 2, 1) := by decide +kernel
theorem d19_35 : decode method_6_code 35 = .ok (.iconst 1, 1) := by decide +kernel
theorem d19_36 : decode method_6_code 36 = .ok (.iadd, 1) := by decide +kernel
theorem d19_37 : decode method_6_code 37 = .ok (.caload, 1) := by decide +kernel
theorem d19_38 : decode method_6_code 38 = .ok (.invokestatic 34, 3) := by decide +kernel
theorem d19_41 : decode method_6_code 41 = .ok (.ifCond .eq 7, 3) := by decide +kernel
theorem d19_44 : decode method_6_code 44 = .ok (.iconst (-1), 1) := by decide +kernel
theorem d19_45 : decode method_6_code 45 = .ok (.goto 4, 3) := by decide +kernel
theorem d19_48 : decode method_6_code 48 = .ok (.iconst 2, 1) := by decide +kernel
theorem d19_49 : decode method_6_code 49 = .ok (.ireturn, 1) := by decide +kernel
theorem d19_50 : decode method_6_code 50 = .ok (.iconst 1, 1) := by decide +kernel
theorem d19_51 : decode method_6_code 51 = .ok (.ireturn, 1) := by decide +kernel
theorem d19_52 : decode method_6_code 52 = .ok (.iload_n 3, 1) := by decide +kernel
theorem d19_53 : decode method_6_code 53 = .ok (.invokestatic 34, 3) := by decide +kernel
theorem d19_56 : decode method_6_code 56 = .ok (.ifCond .eq 7, 3) := by decide +kernel
theorem d19_59 : decode method_6_code 59 = .ok (.iconst (-1), 1) := by decide +kernel
theorem d19_60 : decode method_6_code 60 = .ok (.goto 4, 3) := by decide +kernel
theorem d19_63 : decode method_6_code 63 = .ok (.iconst 1, 1) := by decide +kernel
theorem d19_64 : decode method_6_code 64 = .ok (.ireturn, 1) := by decide +kernel
theorem pd_4 : parseMethodDescriptor "(C)Z" = some ⟨[.char], some .boolean⟩ := by decide +kernel
theorem ef_19 (m : MethodId) (p0 : Addr) (p1 : Int32) (p2 : Int32) : entryFrame m #[(.ref p0), (.int p1), (.int p2)] 4 = mkF m 0 #[.val (.ref p0), .val (.int p1), .val (.int p2), .unset] [] := by first | (simp [entryFrame, mkF, argsToLocals, Value.category]; done) | rfl
def own_unit (p1 : Int32) (p2 : Int32) (x0 : Int32) (x1 : Int32) (x2 : Int32) (x3 : Int32) : Int32 := (if p2 < p1 then (if (own_at x0 x1 x2 x3 p2) = (34 : Int32) then (0 : Int32) else (if (own_at x0 x1 x2 x3 p2) = (92 : Int32) then (if (p2 + (1 : Int32)) < p1 then (if (own_ctl (own_at x0 x1 x2 x3 (p2 + (1 : Int32)))) = (0 : Int32) then (2 : Int32) else (-1 : Int32)) else (1 : Int32)) else (if (own_ctl (own_at x0 x1 x2 x3 p2)) = (0 : Int32) then (1 : Int32) else (-1 : Int32)))) else (-2 : Int32))
set_option maxRecDepth 65536 in
set_option maxHeartbeats 40000000 in
theorem rm19 (l : Launch) (Z : State) (a0 : Array Value) (hw : ∀ d ∈ tables_1, d.before a0 Z = true) (ws : List Jvm.Cond) (p0 : Addr) (p1 : Int32) (p2 : Int32) (kc : ClassId) (x0 : Int32) (x1 : Int32) (x2 : Int32) (x3 : Int32) (h0 : Heap) (n0 : Nat) (Z0 : n0 ≤ h0.size) (P_V_p0 : Arv Z h0 p0 kc .char (4 : Int32) [(.int x0), (.int x1), (.int x2), (.int x3)] (.int (0 : Int32))) (h4 : p1.toInt ≤ 4) (hz0 : 0 ≤ p2.toInt) :
    MetFree l (⟨"com/example/floe/floe/rest/FramingLinesQuotedStringEndPinLaw", "unit", "([CII)I"⟩ : MethodName) (head1 (Jvm.Cond.code (⟨"com/example/floe/floe/rest/FramingLinesQuotedStringEndPinLaw", "unit", "([CII)I"⟩ : MethodName) method_6_code 4 (some .int) :: ws) ({ frames := 1, cells := 0, slots := 0, locals := 12 } : Room)) (fun a U => a = #[(.ref p0), (.int p1), (.int p2)] ∧ Z.Warmed39 U.vm ∧ U.heap = h0) (fun _ _ _ _ _ => True) (fun _ U o U' => ∃ v L, o = .returned v ∧ (own_P n0 h0 (some (.int (own_unit p1 p2 x0 x1 x2 x3)))) v U'.heap L ∧ FrameEnd U o U' L ({ frames := 1, cells := 0, slots := 0, locals := 12 } : Room).cells ({ frames := 1, cells := 0, slots := 0, locals := 12 } : Room).slots) := by
  refine MetFree.of_bodySF (plainFor_of_name pn_0) hisR ?_
  intro p e s m args below meth c s₁ Bd hml0 hP hK
  obtain ⟨rfl, hZ, hh⟩ := hP
  have hx := Bd.exec
  have hby := Bd.bytes
  have hml : c.maxLocals = 4 := hml0
  have hown : s.vm.findClass "com/example/floe/floe/rest/FramingLinesQuotedStringEndPinLaw" = some m.cls := findClass_of_methodNamed Bd.named
  have hnm := (name_of_methodNamed Bd.named Bd.method).1
  have hlk : meth.locks = false := BodyLoose.notSynchronized Bd
  have X0 : Stand p l e ({ frames := 1, cells := 0, slots := 0, locals := 12 } : Room) s m #[(.ref p0), (.int p1), (.int p2)] below meth c s₁ [] 0 0 := Stand.of_body Bd
  have e0 : s₁.heap = h0 := by rw [← hh, Bd.state]; rfl
  have N0 := Fr.nil n0
  show own_G p.tables e below (s₁.setTop (entryFrame m #[(.ref p0), (.int p1), (.int p2)] 4)) s ({ frames := 1, cells := 0, slots := 0, locals := 12 } : Room).cells ({ frames := 1, cells := 0, slots := 0, locals := 12 } : Room).slots (own_P n0 h0 (some (.int (if p2 < p1 then (if (own_at x0 x1 x2 x3 p2) = (34 : Int32) then (0 : Int32) else (if (own_at x0 x1 x2 x3 p2) = (92 : Int32) then (if (p2 + (1 : Int32)) < p1 then (if (own_ctl (own_at x0 x1 x2 x3 (p2 + (1 : Int32)))) = (0 : Int32) then (2 : Int32) else (-1 : Int32)) else (1 : Int32)) else (if (own_ctl (own_at x0 x1 x2 x3 p2)) = (0 : Int32) then (1 : Int32) else (-1 : Int32)))) else (-2 : Int32)))))
  refine own_go (fun _ k => castTop (ef_19 m p0 p1 p2) k) ?_
  show own_G _ _ _ (s₁.setTop (mkF m 0 #[.val (.ref p0), .val (.int p1), .val (.int p2), .unset] [])) _ _ _ _
  refine own_go (fun _ k => XS.iloadN X0.here hx rfl (hb hby d19_0) rfl k) ?_
  show own_G _ _ _ (s₁.setTop (mkF m 1 #[.val (.ref p0), .val (.int p1), .val (.int p2), .unset] [(.int p2)])) _ _ _ _
  refine own_go (fun _ k => XS.iloadN X0.here hx rfl (hb hby d19_1) rfl k) ?_
  show own_G _ _ _ (s₁.setTop (mkF m 2 #[.val (.ref p0), .val (.int p1), .val (.int p2), .unset] [(.int p1), (.int p2)])) _ _ _ _
  by_cases hc1 : p2 < p1
  · refine own_itI hc1 ?_
    refine own_go (fun _ k => XS.icmpYes X0.here hx rfl (pc0 := 2) (pc' := 8) rfl (hb hby d19_2) rfl (tlt hc1).1 (by decide) (by decide) k) ?_
    show own_G _ _ _ (s₁.setTop (mkF m 8 #[.val (.ref p0), .val (.int p1), .val (.int p2), .unset] [])) _ _ _ _
    refine own_go (fun _ k => XS.aloadN X0.here hx rfl (hb hby d19_8) rfl rfl k) ?_
    show own_G _ _ _ (s₁.setTop (mkF m 9 #[.val (.ref p0), .val (.int p1), .val (.int p2), .unset] [(.ref p0)])) _ _ _ _
    refine own_go (fun _ k => XS.iloadN X0.here hx rfl (hb hby d19_9) rfl k) ?_
    show own_G _ _ _ (s₁.setTop (mkF m 10 #[.val (.ref p0), .val (.int p1), .val (.int p2), .unset] [(.int p2), (.ref p0)])) _ _ _ _
    obtain ⟨cl2, Ar2, q2, S2, Ng2, H2, G2⟩ := id P_V_p0
    have in2 : ¬ (p2 < 0 ∨ cl2.slots.size ≤ (p2).toNatClampNeg) := inb_of S2 (own_inb h4 hz0 hc1)
    have at2 : cl2.slots[(p2).toNatClampNeg]? = some (.int (own_at x0 x1 x2 x3 p2)) := H2.at in2 (own_at_eq x0 x1 x2 x3 _)
    refine own_go (fun _ k => X0.caload hx (j := p2) (v := (.int (own_at x0 x1 x2 x3 p2))) (by rw [e0]; exact Ar2.1) (State.isArrayOf_alike hZ.alike Ar2.2.1) Ar2.2.2 in2 at2 (g := (mkF m 10 #[.val (.ref p0), .val (.int p1), .val (.int p2), .unset] [(.int p2), (.ref p0)])) rfl rfl (hb hby d19_10) _ k) ?_
    show own_G _ _ _ (s₁.setTop (mkF m 11 #[.val (.ref p0), .val (.int p1), .val (.int p2), .unset] [(.int (own_at x0 x1 x2 x3 p2))])) _ _ _ _
    refine own_go (fun _ k => XS.istoreN X0.here hx rfl (hb hby d19_11) rfl (l' := #[.val (.ref p0), .val (.int p1), .val (.int p2), .val (.int (own_at x0 x1 x2 x3 p2))]) rfl k) ?_
    show own_G _ _ _ (s₁.setTop (mkF m 12 #[.val (.ref p0), .val (.int p1), .val (.int p2), .val (.int (own_at x0 x1 x2 x3 p2))] [])) _ _ _ _
    refine own_go (fun _ k => XS.iloadN X0.here hx rfl (hb hby d19_12) rfl k) ?_
    show own_G _ _ _ (s₁.setTop (mkF m 13 #[.val (.ref p0), .val (.int p1), .val (.int p2), .val (.int (own_at x0 x1 x2 x3 p2))] [(.int (own_at x0 x1 x2 x3 p2))])) _ _ _ _
    refine own_go (fun _ k => XS.bipush X0.here hx rfl (hb hby d19_13) k) ?_
    show own_G _ _ _ (s₁.setTop (mkF m 15 #[.val (.ref p0), .val (.int p1), .val (.int p2), .val (.int (own_at x0 x1 x2 x3 p2))] [(.int (34 : Int32)), (.int (own_at x0 x1 x2 x3 p2))])) _ _ _ _
    by_cases hc3 : (own_at x0 x1 x2 x3 p2) = (34 : Int32)
    · refine own_itI hc3 ?_
      refine own_go (fun _ k => XS.icmpNo X0.here hx rfl (hb hby d19_15) rfl (teq hc3).2 k) ?_
      show own_G _ _ _ (s₁.setTop (mkF m 18 #[.val (.ref p0), .val (.int p1), .val (.int p2), .val (.int (own_at x0 x1 x2 x3 p2))] [])) _ _ _ _
      refine own_go (fun _ k => XS.iconst X0.here hx rfl (hb hby d19_18) k) ?_
      show own_G _ _ _ (s₁.setTop (mkF m 19 #[.val (.ref p0), .val (.int p1), .val (.int p2), .val (.int (own_at x0 x1 x2 x3 p2))] [(.int (0 : Int32))])) _ _ _ _
      exact own_endI X0 hx hlk Bd.returns (hb hby d19_19) (by decide) (by decide) (Q := (own_P n0 h0 (some (.int (0 : Int32))))) ⟨rfl, N0, e0⟩
    · refine own_ifI hc3 ?_
      refine own_go (fun _ k => XS.icmpYes X0.here hx rfl (pc0 := 15) (pc' := 20) rfl (hb hby d19_15) rfl (feq hc3).2 (by decide) (by decide) k) ?_
      show own_G _ _ _ (s₁.setTop (mkF m 20 #[.val (.ref p0), .val (.int p1), .val (.int p2), .val (.int (own_at x0 x1 x2 x3 p2))] [])) _ _ _ _
      refine own_go (fun _ k => XS.iloadN X0.here hx rfl (hb hby d19_20) rfl k) ?_
      show own_G _ _ _ (s₁.setTop (mkF m 21 #[.val (.ref p0), .val (.int p1), .val (.int p2), .val (.int (own_at x0 x1 x2 x3 p2))] [(.int (own_at x0 x1 x2 x3 p2))])) _ _ _ _
      refine own_go (fun _ k => XS.bipush X0.here hx rfl (hb hby d19_21) k) ?_
      show own_G _ _ _ (s₁.setTop (mkF m 23 #[.val (.ref p0), .val (.int p1), .val (.int p2), .val (.int (own_at x0 x1 x2 x3 p2))] [(.int (92 : Int32)), (.int (own_at x0 x1 x2 x3 p2))])) _ _ _ _
      by_cases hc4 : (own_at x0 x1 x2 x3 p2) = (92 : Int32)
      · refine own_itI hc4 ?_
        refine own_go (fun _ k => XS.icmpNo X0.here hx rfl (hb hby d19_23) rfl (teq hc4).2 k) ?_
        show own_G _ _ _ (s₁.setTop (mkF m 26 #[.val (.ref p0), .val (.int p1), .val (.int p2), .val (.int (own_at x0 x1 x2 x3 p2))] [])) _ _ _ _
        refine own_go (fun _ k => XS.iloadN X0.here hx rfl (hb hby d19_26) rfl k) ?_
        show own_G _ _ _ (s₁.setTop (mkF m 27 #[.val (.ref p0), .val (.int p1), .val (.int p2), .val (.int (own_at x0 x1 x2 x3 p2))] [(.int p2)])) _ _ _ _
        refine own_go (fun _ k => XS.iconst X0.here hx rfl (hb hby d19_27) k) ?_
        show own_G _ _ _ (s₁.setTop (mkF m 28 #[.val (.ref p0), .val (.int p1), .val (.int p2), .val (.int (own_at x0 x1 x2 x3 p2))] [(.int (1 : Int32)), (.int p2)])) _ _ _ _
        refine own_go (fun _ k => XS.iadd X0.here hx rfl (hb hby d19_28) rfl k) ?_
        show own_G _ _ _ (s₁.setTop (mkF m 29 #[.val (.ref p0), .val (.int p1), .val (.int p2), .val (.int (own_at x0 x1 x2 x3 p2))] [(.int (p2 + (1 : Int32)))])) _ _ _ _
        refine own_go (fun _ k => XS.iloadN X0.here hx rfl (hb hby d19_29) rfl k) ?_
        show own_G _ _ _ (s₁.setTop (mkF m 30 #[.val (.ref p0), .val (.int p1), .val (.int p2), .val (.int (own_at x0 x1 x2 x3 p2))] [(.int p1), (.int (p2 + (1 : Int32)))])) _ _ _ _
        by_cases hc5 : (p2 + (1 : Int32)) < p1
        · refine own_itI hc5 ?_
          refine own_go (fun _ k => XS.icmpNo X0.here hx rfl (hb hby d19_30) rfl (tlt hc5).2.1 k) ?_
          show own_G _ _ _ (s₁.setTop (mkF m 33 #[.val (.ref p0), .val (.int p1), .val (.int p2), .val (.int (own_at x0 x1 x2 x3 p2))] [])) _ _ _ _
          refine own_go (fun _ k => XS.aloadN X0.here hx rfl (hb hby d19_33) rfl rfl k) ?_
          show own_G _ _ _ (s₁.setTop (mkF m 34 #[.val (.ref p0), .val (.int p1), .val (.int p2), .val (.int (own_at x0 x1 x2 x3 p2))] [(.ref p0)])) _ _ _ _
          refine own_go (fun _ k => XS.iloadN X0.here hx rfl (hb hby d19_34) rfl k) ?_
          show own_G _ _ _ (s₁.setTop (mkF m 35 #[.val (.ref p0), .val (.int p1), .val (.int p2), .val (.int (own_at x0 x1 x2 x3 p2))] [(.int p2), (.ref p0)])) _ _ _ _
          refine own_go (fun _ k => XS.iconst X0.here hx rfl (hb hby d19_35) k) ?_
          show own_G _ _ _ (s₁.setTop (mkF m 36 #[.val (.ref p0), .val (.int p1), .val (.int p2), .val (.int (own_at x0 x1 x2 x3 p2))] [(.int (1 : Int32)), (.int p2), (.ref p0)])) _ _ _ _
          refine own_go (fun _ k => XS.iadd X0.here hx rfl (hb hby d19_36) rfl k) ?_
          show own_G _ _ _ (s₁.setTop (mkF m 37 #[.val (.ref p0), .val (.int p1), .val (.int p2), .val (.int (own_at x0 x1 x2 x3 p2))] [(.int (p2 + (1 : Int32))), (.ref p0)])) _ _ _ _
          obtain ⟨cl6, Ar6, q6, S6, Ng6, H6, G6⟩ := id P_V_p0
          have in6 : ¬ ((p2 + (1 : Int32)) < 0 ∨ cl6.slots.size ≤ ((p2 + (1 : Int32))).toNatClampNeg) := inb_of S6 (own_inb1 h4 hz0 hc1 hc5)
          have at6 : cl6.slots[((p2 + (1 : Int32))).toNatClampNeg]? = some (.int (own_at x0 x1 x2 x3 (p2 + (1 : Int32)))) := H6.at in6 (own_at_eq x0 x1 x2 x3 _)
          refine own_go (fun _ k => X0.caload hx (j := (p2 + (1 : Int32))) (v := (.int (own_at x0 x1 x2 x3 (p2 + (1 : Int32))))) (by rw [e0]; exact Ar6.1) (State.isArrayOf_alike hZ.alike Ar6.2.1) Ar6.2.2 in6 at6 (g := (mkF m 37 #[.val (.ref p0), .val (.int p1), .val (.int p2), .val (.int (own_at x0 x1 x2 x3 p2))] [(.int (p2 + (1 : Int32))), (.ref p0)])) rfl rfl (hb hby d19_37) _ k) ?_
          show own_G _ _ _ (s₁.setTop (mkF m 38 #[.val (.ref p0), .val (.int p1), .val (.int p2), .val (.int (own_at x0 x1 x2 x3 p2))] [(.int (own_at x0 x1 x2 x3 (p2 + (1 : Int32))))])) _ _ _ _
          obtain ⟨_, _, ⟨T7, L7, k7, n7⟩, -, X7, ⟨Lc7, hQ7, l7, y7, z7⟩, st7⟩ := Jvm.LawKit.callS X0 hx (y := (⟨"com/example/floe/floe/rest/FramingLinesQuotedStringEndPinLaw", "ctl", "(C)Z"⟩ : MethodName)) hown (mvT hZ (hw _ (List.mem_of_getElem? (i := 82) rfl))) (mvT hZ (hw _ (List.mem_of_getElem? (i := 83) rfl))) (mvT hZ (hw _ (List.mem_of_getElem? (i := 3) rfl))) (mvT hZ (hw _ (List.mem_of_getElem? (i := 84) rfl))) (by decide) (backOf (W := 0) (rm20 l Z a0 hw [] (own_at x0 x1 x2 x3 (p2 + (1 : Int32))) h0 n0) hZ (hw _ (List.mem_of_getElem? (i := 84) rfl)) (hw _ (List.mem_of_getElem? (i := 3) rfl)) (by decide) (by decide)) (g := (mkF m 38 #[.val (.ref p0), .val (.int p1), .val (.int p2), .val (.int (own_at x0 x1 x2 x3 p2))] [(.int (own_at x0 x1 x2 x3 (p2 + (1 : Int32))))])) rfl (by rw [hml]; rfl) (argsL := [(.int (own_at x0 x1 x2 x3 (p2 + (1 : Int32))))]) (rest := []) (lenOf pd_4 rfl) rfl (by show 2 * 0 + _ ≤ _; exact Nat.le_of_eq rfl) (hb hby d19_38) (fun _ _ => ⟨rfl, e0, (by decide : 0 + 0 ≤ _), (by decide : 0 + 0 ≤ _)⟩)
          dsimp only [Pt.U, Pt.locs, Pt.cells, Pt.slots] at X7 l7 y7 z7 st7 hQ7
          subst l7 y7 z7
          obtain ⟨rfl, Nq7, eh7⟩ := hQ7
          have N7 := Fr.app N0 Nq7
          refine own_go (fun _ k => st7 _ k) ?_
          show own_G _ _ _ (T7.setTop (mkF m 41 #[.val (.ref p0), .val (.int p1), .val (.int p2), .val (.int (own_at x0 x1 x2 x3 p2))] [(.int (own_ctl (own_at x0 x1 x2 x3 (p2 + (1 : Int32)))))])) _ _ _ _
          by_cases hc8 : (own_ctl (own_at x0 x1 x2 x3 (p2 + (1 : Int32)))) = (0 : Int32)
          · refine own_itI hc8 ?_
            refine own_go (fun _ k => XS.ifYes X7.here hx rfl (pc0 := 41) (pc' := 48) rfl (hb hby d19_41) rfl ((if0 _ _).trans (teq hc8).1) (by decide) (by decide) k) ?_
            show own_G _ _ _ (T7.setTop (mkF m 48 #[.val (.ref p0), .val (.int p1), .val (.int p2), .val (.int (own_at x0 x1 x2 x3 p2))] [])) _ _ _ _
            refine own_go (fun _ k => XS.iconst X7.here hx rfl (hb hby d19_48) k) ?_
            show own_G _ _ _ (T7.setTop (mkF m 49 #[.val (.ref p0), .val (.int p1), .val (.int p2), .val (.int (own_at x0 x1 x2 x3 p2))] [(.int (2 : Int32))])) _ _ _ _
            exact own_endI X7 hx hlk Bd.returns (hb hby d19_49) (by decide) (by decide) (Q := (own_P n0 h0 (some (.int (2 : Int32))))) ⟨rfl, N7, eh7⟩
          · refine own_ifI hc8 ?_
            refine own_go (fun _ k => XS.ifNo X7.here hx rfl (hb hby d19_41) rfl ((if0 _ _).trans (feq hc8).1) k) ?_
            show own_G _ _ _ (T7.setTop (mkF m 44 #[.val (.ref p0), .val (.int p1), .val (.int p2), .val (.int (own_at x0 x1 x2 x3 p2))] [])) _ _ _ _
            refine own_go (fun _ k => XS.iconst X7.here hx rfl (hb hby d19_44) k) ?_
            show own_G _ _ _ (T7.setTop (mkF m 45 #[.val (.ref p0), .val (.int p1), .val (.int p2), .val (.int (own_at x0 x1 x2 x3 p2))] [(.int (-1 : Int32))])) _ _ _ _
            refine own_go (fun _ k => XS.goto X7.here hx rfl (pc0 := 45) (pc' := 49) rfl (hb hby d19_45) (by decide) (by decide) k) ?_
            show own_G _ _ _ (T7.setTop (mkF m 49 #[.val (.ref p0), .val (.int p1), .val (.int p2), .val (.int (own_at x0 x1 x2 x3 p2))] [(.int (-1 : Int32))])) _ _ _ _
            exact own_endI X7 hx hlk Bd.returns (hb hby d19_49) (by decide) (by decide) (Q := (own_P n0 h0 (some (.int (-1 : Int32))))) ⟨rfl, N7, eh7⟩
        · refine own_ifI hc5 ?_
          refine own_go (fun _ k => XS.icmpYes X0.here hx rfl (pc0 := 30) (pc' := 50) rfl (hb hby d19_30) rfl (flt hc5).2.1 (by decide) (by decide) k) ?_
          show own_G _ _ _ (s₁.setTop (mkF m 50 #[.val (.ref p0), .val (.int p1), .val (.int p2), .val (.int (own_at x0 x1 x2 x3 p2))] [])) _ _ _ _
          refine own_go (fun _ k => XS.iconst X0.here hx rfl (hb hby d19_50) k) ?_
          show own_G _ _ _ (s₁.setTop (mkF m 51 #[.val (.ref p0), .val (.int p1), .val (.int p2), .val (.int (own_at x0 x1 x2 x3 p2))] [(.int (1 : Int32))])) _ _ _ _
          exact own_endI X0 hx hlk Bd.returns (hb hby d19_51) (by decide) (by decide) (Q := (own_P n0 h0 (some (.int (1 : Int32))))) ⟨rfl, N0, e0⟩
      · refine own_ifI hc4 ?_
        refine own_go (fun _ k => XS.icmpYes X0.here hx rfl (pc0 := 23) (pc' := 52) rfl (hb hby d19_23) rfl (feq hc4).2 (by decide) (by decide) k) ?_
        show own_G _ _ _ (s₁.setTop (mkF m 52 #[.val (.ref p0), .val (.int p1), .val (.int p2), .val (.int (own_at x0 x1 x2 x3 p2))] [])) _ _ _ _
        refine own_go (fun _ k => XS.iloadN X0.here hx rfl (hb hby d19_52) rfl k) ?_
        show own_G _ _ _ (s₁.setTop (mkF m 53 #[.val (.ref p0), .val (.int p1), .val (.int p2), .val (.int (own_at x0 x1 x2 x3 p2))] [(.int (own_at x0 x1 x2 x3 p2))])) _ _ _ _
        obtain ⟨_, _, ⟨T9, L9, k9, n9⟩, -, X9, ⟨Lc9, hQ9, l9, y9, z9⟩, st9⟩ := Jvm.LawKit.callS X0 hx (y := (⟨"com/example/floe/floe/rest/FramingLinesQuotedStringEndPinLaw", "ctl", "(C)Z"⟩ : MethodName)) hown (mvT hZ (hw _ (List.mem_of_getElem? (i := 82) rfl))) (mvT hZ (hw _ (List.mem_of_getElem? (i := 83) rfl))) (mvT hZ (hw _ (List.mem_of_getElem? (i := 3) rfl))) (mvT hZ (hw _ (List.mem_of_getElem? (i := 84) rfl))) (by decide) (backOf (W := 0) (rm20 l Z a0 hw [] (own_at x0 x1 x2 x3 p2) h0 n0) hZ (hw _ (List.mem_of_getElem? (i := 84) rfl)) (hw _ (List.mem_of_getElem? (i := 3) rfl)) (by decide) (by decide)) (g := (mkF m 53 #[.val (.ref p0), .val (.int p1), .val (.int p2), .val (.int (own_at x0 x1 x2 x3 p2))] [(.int (own_at x0 x1 x2 x3 p2))])) rfl (by rw [hml]; rfl) (argsL := [(.int (own_at x0 x1 x2 x3 p2))]) (rest := []) (lenOf pd_4 rfl) rfl (by show 2 * 0 + _ ≤ _; exact Nat.le_of_eq rfl) (hb hby d19_53) (fun _ _ => ⟨rfl, e0, (by decide : 0 + 0 ≤ _), (by decide : 0 + 0 ≤ _)⟩)
        dsimp only [Pt.U, Pt.locs, Pt.cells, Pt.slots] at X9 l9 y9 z9 st9 hQ9
        subst l9 y9 z9
        obtain ⟨rfl, Nq9, eh9⟩ := hQ9
        have N9 := Fr.app N0 Nq9
        refine own_go (fun _ k => st9 _ k) ?_
        show own_G _ _ _ (T9.setTop (mkF m 56 #[.val (.ref p0), .val (.int p1), .val (.int p2), .val (.int (own_at x0 x1 x2 x3 p2))] [(.int (own_ctl (own_at x0 x1 x2 x3 p2)))])) _ _ _ _
        by_cases hc10 : (own_ctl (own_at x0 x1 x2 x3 p2)) = (0 : Int32)
        · refine own_itI hc10 ?_
          refine own_go (fun _ k => XS.ifYes X9.here hx rfl (pc0 := 56) (pc' := 63) rfl (hb hby d19_56) rfl ((if0 _ _).trans (teq hc10).1) (by decide) (by decide) k) ?_
          show own_G _ _ _ (T9.setTop (mkF m 63 #[.val (.ref p0), .val (.int p1), .val (.int p2), .val (.int (own_at x0 x1 x2 x3 p2))] [])) _ _ _ _
          refine own_go (fun _ k => XS.iconst X9.here hx rfl (hb hby d19_63) k) ?_
          show own_G _ _ _ (T9.setTop (mkF m 64 #[.val (.ref p0), .val (.int p1), .val (.int p2), .val (.int (own_at x0 x1 x2 x3 p2))] [(.int (1 : Int32))])) _ _ _ _
          exact own_endI X9 hx hlk Bd.returns (hb hby d19_64) (by decide) (by decide) (Q := (own_P n0 h0 (some (.int (1 : Int32))))) ⟨rfl, N9, eh9⟩
        · refine own_ifI hc10 ?_
          refine own_go (fun _ k => XS.ifNo X9.here hx rfl (hb hby d19_56) rfl ((if0 _ _).trans (feq hc10).1) k) ?_
          show own_G _ _ _ (T9.setTop (mkF m 59 #[.val (.ref p0), .val (.int p1), .val (.int p2), .val (.int (own_at x0 x1 x2 x3 p2))] [])) _ _ _ _
          refine own_go (fun _ k => XS.iconst X9.here hx rfl (hb hby d19_59) k) ?_
          show own_G _ _ _ (T9.setTop (mkF m 60 #[.val (.ref p0), .val (.int p1), .val (.int p2), .val (.int (own_at x0 x1 x2 x3 p2))] [(.int (-1 : Int32))])) _ _ _ _
          refine own_go (fun _ k => XS.goto X9.here hx rfl (pc0 := 60) (pc' := 64) rfl (hb hby d19_60) (by decide) (by decide) k) ?_
          show own_G _ _ _ (T9.setTop (mkF m 64 #[.val (.ref p0), .val (.int p1), .val (.int p2), .val (.int (own_at x0 x1 x2 x3 p2))] [(.int (-1 : Int32))])) _ _ _ _
          exact own_endI X9 hx hlk Bd.returns (hb hby d19_64) (by decide) (by decide) (Q := (own_P n0 h0 (some (.int (-1 : Int32))))) ⟨rfl, N9, eh9⟩
  · refine own_ifI hc1 ?_
    refine own_go (fun _ k => XS.icmpNo X0.here hx rfl (hb hby d19_2) rfl (flt hc1).1 k) ?_
    show own_G _ _ _ (s₁.setTop (mkF m 5 #[.val (.ref p0), .val (.int p1), .val (.int p2), .unset] [])) _ _ _ _
    refine own_go (fun _ k => XS.bipush X0.here hx rfl (hb hby d19_5) k) ?_
    show own_G _ _ _ (s₁.setTop (mkF m 7 #[.val (.ref p0), .val (.int p1), .val (.int p2), .unset] [(.int (-2 : Int32))])) _ _ _ _
    exact own_endI X0 hx hlk Bd.returns (hb hby d19_7) (by decide) (by decide) (Q := (own_P n0 h0 (some (.int (-2 : Int32))))) ⟨rfl, N0, e0⟩
theorem own_unit_le (n a x0 x1 x2 x3 : Int32) : (own_unit n a x0 x1 x2 x3).toInt ≤ 2 := by
  simp only [own_unit]
  repeat' split
  all_goals decide
theorem own_a1 {s : Int32} (h0 : 0 ≤ s.toInt) (h5 : s.toInt ≤ 5) : 0 ≤ (s + 1).toInt ∧ (s + 1).toInt ≤ 6 := by
  have e : (s + 1).toInt = s.toInt + (1 : Int32).toInt := Jvm.Kit.i32_add (by simp only [Int32.reduceToInt]; omega) (by simp only [Int32.reduceToInt]; omega)
  simp only [Int32.reduceToInt] at e
  omega
theorem own_a2 {a u : Int32} {K : Int} (h : 0 ≤ a.toInt ∧ a.toInt ≤ K) (hu : ¬ u < 0) (hl : u.toInt ≤ 2) (hK : K ≤ 1000) : 0 ≤ (a + u).toInt ∧ (a + u).toInt ≤ K + 2 := by
  simp only [Int32.lt_iff_toInt_lt, Int32.reduceToInt] at hu
  have e : (a + u).toInt = a.toInt + u.toInt := Jvm.Kit.i32_add (by omega) (by omega)
  rw [e]
  omega

theorem d17_0 : decode method_7_code 0 = .ok (.iload_n 2, 1) := by decide +kernel
theorem d17_1 : decode method_7_code 1 = .ok (.iload_n 1, 1) := by decide +kernel
theorem d17_2 : decode method_7_code 2 = .ok (.if_icmp .ge 11, 3) := by decide +kernel
theorem d17_5 : decode method_7_code 5 = .ok (.aload_n 0, 1) := by decide +kernel
theorem d17_6 : decode method_7_code 6 = .ok (.iload_n 2, 1) := by decide +kernel
theorem d17_7 : decode method_7_code 7 = .ok (.caload, 1) := by decide +kernel
theorem d17_8 : decode method_7_code 8 = .ok (.bipush 34, 2) := by decide +kernel
theorem d17_10 : decode method_7_code 10 = .ok (.if_icmp .eq 5, 3) := by decide +kernel
theorem d17_13 : decode method_7_code 13 = .ok (.iconst (-1), 1) := by decide +kernel
theorem d17_14 : decode method_7_code 14 = .ok (.ireturn, 1) := by decide +kernel
theorem d17_15 : decode method_7_code 15 = .ok (.iload_n 2, 1) := by decide +kernel
theorem d17_16 : decode method_7_code 16 = .ok (.iconst 1, 1) := by decide +kernel
theorem d17_17 : decode method_7_code 17 = .ok (.iadd, 1) := by decide +kernel
theorem d17_18 : decode method_7_code 18 = .ok (.istore_n 3, 1) := by decide +kernel
theorem d17_19 : decode method_7_code 19 = .ok (.aload_n 0, 1) := by decide +kernel
theorem d17_20 : decode method_7_code 20 = .ok (.iload_n 1, 1) := by decide +kernel
theorem d17_21 : decode method_7_code 21 = .ok (.iload_n 3, 1) := by decide +kernel
theorem d17_22 : decode method_7_code 22 = .ok (.invokestatic 38, 3) := by decide +kernel
theorem d17_25 : decode method_7_code 25 = .ok (.istore 4, 2) := by decide +kernel
theorem d17_27 : decode method_7_code 27 = .ok (.iload 4, 2) := by decide +kernel
theorem d17_29 : decode method_7_code 29 = .ok (.ifCond .ge 5, 3) := by decide +kernel
theorem d17_32 : decode method_7_code 32 = .ok (.iconst (-1), 1) := by decide +kernel
theorem d17_33 : decode method_7_code 33 = .ok (.ireturn, 1) := by decide +kernel
theorem d17_34 : decode method_7_code 34 = .ok (.iload 4, 2) := by decide +kernel
theorem d17_36 : decode method_7_code 36 = .ok (.ifCond .ne 7, 3) := by decide +kernel
theorem d17_39 : decode method_7_code 39 = .ok (.iload_n 3, 1) := by decide +kernel
theorem d17_40 : decode method_7_code 40 = .ok (.iconst 1, 1) := by decide +kernel
theorem d17_41 : decode method_7_code 41 = .ok (.iadd, 1) := by decide +kernel
theorem d17_42 : decode method_7_code 42 = .ok (.ireturn, 1) := by decide +kernel
theorem d17_43 : decode method_7_code 43 = .ok (.iload_n 3, 1) := by decide +kernel
theorem d17_44 : decode method_7_code 44 = .ok (.iload 4, 2) := by decide +kernel
theorem d17_46 : decode method_7_code 46 = .ok (.iadd, 1) := by decide +kernel
theorem d17_47 : decode method_7_code 47 = .ok (.istore_n 3, 1) := by decide +kernel
theorem d17_48 : decode method_7_code 48 = .ok (.aload_n 0, 1) := by decide +kernel
theorem d17_49 : decode method_7_code 49 = .ok (.iload_n 1, 1) := by decide +kernel
theorem d17_50 : decode method_7_code 50 = .ok (.iload_n 3, 1) := by decide +kernel
theorem d17_51 : decode method_7_code 51 = .ok (.invokestatic 38, 3) := by decide +kernel
theorem d17_54 : decode method_7_code 54 = .ok (.istore 4, 2) := by decide +kernel
theorem d17_56 : decode method_7_code 56 = .ok (.iload 4, 2) := by decide +kernel
theorem d17_58 : decode method_7_code 58 = .ok (.ifCond .ge 5, 3) := by decide +kernel
theorem d17_61 : decode method_7_code 61 = .ok (.iconst (-1), 1) := by decide +kernel
theorem d17_62 : decode method_7_code 62 = .ok (.ireturn, 1) := by decide +kernel
theorem d17_63 : decode method_7_code 63 = .ok (.iload 4, 2) := by decide +kernel
theorem d17_65 : decode method_7_code 65 = .ok (.ifCond .ne 7, 3) := by decide +kernel
theorem d17_68 : decode method_7_code 68 = .ok (.iload_n 3, 1) := by decide +kernel
theorem d17_69 : decode method_7_code 69 = .ok (.iconst 1, 1) := by decide +kernel
theorem d17_70 : decode method_7_code 70 = .ok (.iadd, 1) := by decide +kernel
theorem d17_71 : decode method_7_code 71 = .ok (.ireturn, 1) := by decide +kernel
theorem d17_72 : decode method_7_code 72 = .ok (.iload_n 3, 1) := by decide +kernel
theorem d17_73 : decode method_7_code 73 = .ok (.iload 4, 2) := by decide +kernel
theorem d17_75 : decode method_7_code 75 = .ok (.iadd, 1) := by decide +kernel
theorem d17_76 : decode method_7_code 76 = .ok (.istore_n 3, 1) := by decide +kernel
theorem d17_77 : decode method_7_code 77 = .ok (.aload_n 0, 1) := by decide +kernel
theorem d17_78 : decode method_7_code 78 = .ok (.iload_n 1, 1) := by decide +kernel
theorem d17_79 : decode method_7_code 79 = .ok (.iload_n 3, 1) := by decide +kernel
theorem d17_80 : decode method_7_code 80 = .ok (.invokestatic 38, 3) := by decide +kernel
theorem d17_83 : decode method_7_code 83 = .ok (.istore 4, 2) := by decide +kernel
theorem d17_85 : decode method_7_code 85 = .ok (.iload 4, 2) := by decide +kernel
theorem d17_87 : decode method_7_code 87 = .ok (.ifCond .ge 5, 3) := by decide +kernel
theorem d17_90 : decode method_7_code 90 = .ok (.iconst (-1), 1) := by decide +kernel
theorem d17_91 : decode method_7_code 91 = .ok (.ireturn, 1) := by decide +kernel
theorem d17_92 : decode method_7_code 92 = .ok (.iload 4, 2) := by decide +kernel
theorem d17_94 : decode method_7_code 94 = .ok (.ifCond .ne 7, 3) := by decide +kernel
theorem d17_97 : decode method_7_code 97 = .ok (.iload_n 3, 1) := by decide +kernel
theorem d17_98 : decode method_7_code 98 = .ok (.iconst 1, 1) := by decide +kernel
theorem d17_99 : decode method_7_code 99 = .ok (.iadd, 1) := by decide +kernel
theorem d17_100 : decode method_7_code 100 = .ok (.ireturn, 1) := by decide +kernel
theorem d17_101 : decode method_7_code 101 = .ok (.iload_n 3, 1) := by decide +kernel
theorem d17_102 : decode method_7_code 102 = .ok (.iload 4, 2) := by decide +kernel
theorem d17_104 : decode method_7_code 104 = .ok (.iadd, 1) := by decide +kernel
theorem d17_105 : decode method_7_code 105 = .ok (.istore_n 3, 1) := by decide +kernel
theorem d17_106 : decode method_7_code 106 = .ok (.aload_n 0, 1) := by decide +kernel
theorem d17_107 : decode method_7_code 107 = .ok (.iload_n 1, 1) := by decide +kernel
theorem d17_108 : decode method_7_code 108 = .ok (.iload_n 3, 1) := by decide +kernel
theorem d17_109 : decode method_7_code 109 = .ok (.invokestatic 38, 3) := by decide +kernel
theorem d17_112 : decode method_7_code 112 = .ok (.istore 4, 2) := by decide +kernel
theorem d17_114 : decode method_7_code 114 = .ok (.iload 4, 2) := by decide +kernel
theorem d17_116 : decode method_7_code 116 = .ok (.ifCond .ge 5, 3) := by decide +kernel
theorem d17_119 : decode method_7_code 119 = .ok (.iconst (-1), 1) := by decide +kernel
theorem d17_120 : decode method_7_code 120 = .ok (.ireturn, 1) := by decide +kernel
theorem d17_121 : decode method_7_code 121 = .ok (.iload 4, 2) := by decide +kernel
theorem d17_123 : decode method_7_code 123 = .ok (.ifCond .ne 7, 3) := by decide +kernel
theorem d17_126 : decode method_7_code 126 = .ok (.iload_n 3, 1) := by decide +kernel
theorem d17_127 : decode method_7_code 127 = .ok (.iconst 1, 1) := by decide +kernel
theorem d17_128 : decode method_7_code 128 = .ok (.iadd, 1) := by decide +kernel
theorem d17_129 : decode method_7_code 129 = .ok (.ireturn, 1) := by decide +kernel
theorem d17_130 : decode method_7_code 130 = .ok (.iconst (-1), 1) := by decide +kernel
theorem d17_131 : decode method_7_code 131 = .ok (.ireturn, 1) := by decide +kernel
theorem pd_5 : parseMethodDescriptor "([CII)I" = some ⟨[(.array .char), .int, .int], some .int⟩ := by decide +kernel
theorem ef_17 (m : MethodId) (p0 : Addr) (p1 : Int32) (p2 : Int32) : entryFrame m #[(.ref p0), (.int p1), (.int p2)] 5 = mkF m 0 #[.val (.ref p0), .val (.int p1), .val (.int p2), .unset, .unset] [] := by first | (simp [entryFrame, mkF, argsToLocals, Value.category]; done) | rfl
def own_expd (p1 : Int32) (p2 : Int32) (x0 : Int32) (x1 : Int32) (x2 : Int32) (x3 : Int32) : Int32 := (if p2 < p1 then (if (own_at x0 x1 x2 x3 p2) = (34 : Int32) then (if (own_unit p1 (p2 + (1 : Int32)) x0 x1 x2 x3) < (0 : Int32) then (-1 : Int32) else (if (own_unit p1 (p2 + (1 : Int32)) x0 x1 x2 x3) = (0 : Int32) then ((p2 + (1 : Int32)) + (1 : Int32)) else (if (own_unit p1 ((p2 + (1 : Int32)) + (own_unit p1 (p2 + (1 : Int32)) x0 x1 x2 x3)) x0 x1 x2 x3) < (0 : Int32) then (-1 : Int32) else (if (own_unit p1 ((p2 + (1 : Int32)) + (own_unit p1 (p2 + (1 : Int32)) x0 x1 x2 x3)) x0 x1 x2 x3) = (0 : Int32) then (((p2 + (1 : Int32)) + (own_unit p1 (p2 + (1 : Int32)) x0 x1 x2 x3)) + (1 : Int32)) else (if (own_unit p1 (((p2 + (1 : Int32)) + (own_unit p1 (p2 + (1 : Int32)) x0 x1 x2 x3)) + (own_unit p1 ((p2 + (1 : Int32)) + (own_unit p1 (p2 + (1 : Int32)) x0 x1 x2 x3)) x0 x1 x2 x3)) x0 x1 x2 x3) < (0 : Int32) then (-1 : Int32) else (if (own_unit p1 (((p2 + (1 : Int32)) + (own_unit p1 (p2 + (1 : Int32)) x0 x1 x2 x3)) + (own_unit p1 ((p2 + (1 : Int32)) + (own_unit p1 (p2 + (1 : Int32)) x0 x1 x2 x3)) x0 x1 x2 x3)) x0 x1 x2 x3) = (0 : Int32) then ((((p2 + (1 : Int32)) + (own_unit p1 (p2 + (1 : Int32)) x0 x1 x2 x3)) + (own_unit p1 ((p2 + (1 : Int32)) + (own_unit p1 (p2 + (1 : Int32)) x0 x1 x2 x3)) x0 x1 x2 x3)) + (1 : Int32)) else (if (own_unit p1 ((((p2 + (1 : Int32)) + (own_unit p1 (p2 + (1 : Int32)) x0 x1 x2 x3)) + (own_unit p1 ((p2 + (1 : Int32)) + (own_unit p1 (p2 + (1 : Int32)) x0 x1 x2 x3)) x0 x1 x2 x3)) + (own_unit p1 (((p2 + (1 : Int32)) + (own_unit p1 (p2 + (1 : Int32)) x0 x1 x2 x3)) + (own_unit p1 ((p2 + (1 : Int32)) + (own_unit p1 (p2 + (1 : Int32)) x0 x1 x2 x3)) x0 x1 x2 x3)) x0 x1 x2 x3)) x0 x1 x2 x3) < (0 : Int32) then (-1 : Int32) else (if (own_unit p1 ((((p2 + (1 : Int32)) + (own_unit p1 (p2 + (1 : Int32)) x0 x1 x2 x3)) + (own_unit p1 ((p2 + (1 : Int32)) + (own_unit p1 (p2 + (1 : Int32)) x0 x1 x2 x3)) x0 x1 x2 x3)) + (own_unit p1 (((p2 + (1 : Int32)) + (own_unit p1 (p2 + (1 : Int32)) x0 x1 x2 x3)) + (own_unit p1 ((p2 + (1 : Int32)) + (own_unit p1 (p2 + (1 : Int32)) x0 x1 x2 x3)) x0 x1 x2 x3)) x0 x1 x2 x3)) x0 x1 x2 x3) = (0 : Int32) then (((((p2 + (1 : Int32)) + (own_unit p1 (p2 + (1 : Int32)) x0 x1 x2 x3)) + (own_unit p1 ((p2 + (1 : Int32)) + (own_unit p1 (p2 + (1 : Int32)) x0 x1 x2 x3)) x0 x1 x2 x3)) + (own_unit p1 (((p2 + (1 : Int32)) + (own_unit p1 (p2 + (1 : Int32)) x0 x1 x2 x3)) + (own_unit p1 ((p2 + (1 : Int32)) + (own_unit p1 (p2 + (1 : Int32)) x0 x1 x2 x3)) x0 x1 x2 x3)) x0 x1 x2 x3)) + (1 : Int32)) else (-1 : Int32))))))))) else (-1 : Int32)) else (-1 : Int32))
set_option maxRecDepth 65536 in
set_option maxHeartbeats 40000000 in
theorem rm17 (l : Launch) (Z : State) (a0 : Array Value) (hw : ∀ d ∈ tables_1, d.before a0 Z = true) (ws : List Jvm.Cond) (p0 : Addr) (p1 : Int32) (p2 : Int32) (kc : ClassId) (x0 : Int32) (x1 : Int32) (x2 : Int32) (x3 : Int32) (h0 : Heap) (n0 : Nat) (Z0 : n0 ≤ h0.size) (P_V_p0 : Arv Z h0 p0 kc .char (4 : Int32) [(.int x0), (.int x1), (.int x2), (.int x3)] (.int (0 : Int32))) (h4 : p1.toInt ≤ 4) (hz0 : 0 ≤ p2.toInt) (hs : p2.toInt ≤ 5) :
    MetFree l (⟨"com/example/floe/floe/rest/FramingLinesQuotedStringEndPinLaw", "expected", "([CII)I"⟩ : MethodName) (head1 (Jvm.Cond.code (⟨"com/example/floe/floe/rest/FramingLinesQuotedStringEndPinLaw", "expected", "([CII)I"⟩ : MethodName) method_7_code 5 (some .int) :: ws) ({ frames := 2, cells := 0, slots := 0, locals := 27 } : Room)) (fun a U => a = #[(.ref p0), (.int p1), (.int p2)] ∧ Z.Warmed39 U.vm ∧ U.heap = h0) (fun _ _ _ _ _ => True) (fun _ U o U' => ∃ v L, o = .returned v ∧ (own_P n0 h0 (some (.int (own_expd p1 p2 x0 x1 x2 x3)))) v U'.heap L ∧ FrameEnd U o U' L ({ frames := 2, cells := 0, slots := 0, locals := 27 } : Room).cells ({ frames := 2, cells := 0, slots := 0, locals := 27 } : Room).slots) := by
  refine MetFree.of_bodySF (plainFor_of_name pn_0) hisR ?_
  intro p e s m args below meth c s₁ Bd hml0 hP hK
  obtain ⟨rfl, hZ, hh⟩ := hP
  have hx := Bd.exec
  have hby := Bd.bytes
  have hml : c.maxLocals = 5 := hml0
  have hown : s.vm.findClass "com/example/floe/floe/rest/FramingLinesQuotedStringEndPinLaw" = some m.cls := findClass_of_methodNamed Bd.named
  have hnm := (name_of_methodNamed Bd.named Bd.method).1
  have hlk : meth.locks = false := BodyLoose.notSynchronized Bd
  have X0 : Stand p l e ({ frames := 2, cells := 0, slots := 0, locals := 27 } : Room) s m #[(.ref p0), (.int p1), (.int p2)] below meth c s₁ [] 0 0 := Stand.of_body Bd
  have e0 : s₁.heap = h0 := by rw [← hh, Bd.state]; rfl
  have N0 := Fr.nil n0
  show own_G p.tables e below (s₁.setTop (entryFrame m #[(.ref p0), (.int p1), (.int p2)] 5)) s ({ frames := 2, cells := 0, slots := 0, locals := 27 } : Room).cells ({ frames := 2, cells := 0, slots := 0, locals := 27 } : Room).slots (own_P n0 h0 (some (.int (if p2 < p1 then (if (own_at x0 x1 x2 x3 p2) = (34 : Int32) then (if (own_unit p1 (p2 + (1 : Int32)) x0 x1 x2 x3) < (0 : Int32) then (-1 : Int32) else (if (own_unit p1 (p2 + (1 : Int32)) x0 x1 x2 x3) = (0 : Int32) then ((p2 + (1 : Int32)) + (1 : Int32)) else (if (own_unit p1 ((p2 + (1 : Int32)) + (own_unit p1 (p2 + (1 : Int32)) x0 x1 x2 x3)) x0 x1 x2 x3) < (0 : Int32) then (-1 : Int32) else (if (own_unit p1 ((p2 + (1 : Int32)) + (own_unit p1 (p2 + (1 : Int32)) x0 x1 x2 x3)) x0 x1 x2 x3) = (0 : Int32) then (((p2 + (1 : Int32)) + (own_unit p1 (p2 + (1 : Int32)) x0 x1 x2 x3)) + (1 : Int32)) else (if (own_unit p1 (((p2 + (1 : Int32)) + (own_unit p1 (p2 + (1 : Int32)) x0 x1 x2 x3)) + (own_unit p1 ((p2 + (1 : Int32)) + (own_unit p1 (p2 + (1 : Int32)) x0 x1 x2 x3)) x0 x1 x2 x3)) x0 x1 x2 x3) < (0 : Int32) then (-1 : Int32) else (if (own_unit p1 (((p2 + (1 : Int32)) + (own_unit p1 (p2 + (1 : Int32)) x0 x1 x2 x3)) + (own_unit p1 ((p2 + (1 : Int32)) + (own_unit p1 (p2 + (1 : Int32)) x0 x1 x2 x3)) x0 x1 x2 x3)) x0 x1 x2 x3) = (0 : Int32) then ((((p2 + (1 : Int32)) + (own_unit p1 (p2 + (1 : Int32)) x0 x1 x2 x3)) + (own_unit p1 ((p2 + (1 : Int32)) + (own_unit p1 (p2 + (1 : Int32)) x0 x1 x2 x3)) x0 x1 x2 x3)) + (1 : Int32)) else (if (own_unit p1 ((((p2 + (1 : Int32)) + (own_unit p1 (p2 + (1 : Int32)) x0 x1 x2 x3)) + (own_unit p1 ((p2 + (1 : Int32)) + (own_unit p1 (p2 + (1 : Int32)) x0 x1 x2 x3)) x0 x1 x2 x3)) + (own_unit p1 (((p2 + (1 : Int32)) + (own_unit p1 (p2 + (1 : Int32)) x0 x1 x2 x3)) + (own_unit p1 ((p2 + (1 : Int32)) + (own_unit p1 (p2 + (1 : Int32)) x0 x1 x2 x3)) x0 x1 x2 x3)) x0 x1 x2 x3)) x0 x1 x2 x3) < (0 : Int32) then (-1 : Int32) else (if (own_unit p1 ((((p2 + (1 : Int32)) + (own_unit p1 (p2 + (1 : Int32)) x0 x1 x2 x3)) + (own_unit p1 ((p2 + (1 : Int32)) + (own_unit p1 (p2 + (1 : Int32)) x0 x1 x2 x3)) x0 x1 x2 x3)) + (own_unit p1 (((p2 + (1 : Int32)) + (own_unit p1 (p2 + (1 : Int32)) x0 x1 x2 x3)) + (own_unit p1 ((p2 + (1 : Int32)) + (own_unit p1 (p2 + (1 : Int32)) x0 x1 x2 x3)) x0 x1 x2 x3)) x0 x1 x2 x3)) x0 x1 x2 x3) = (0 : Int32) then (((((p2 + (1 : Int32)) + (own_unit p1 (p2 + (1 : Int32)) x0 x1 x2 x3)) + (own_unit p1 ((p2 + (1 : Int32)) + (own_unit p1 (p2 + (1 : Int32)) x0 x1 x2 x3)) x0 x1 x2 x3)) + (own_unit p1 (((p2 + (1 : Int32)) + (own_unit p1 (p2 + (1 : Int32)) x0 x1 x2 x3)) + (own_unit p1 ((p2 + (1 : Int32)) + (own_unit p1 (p2 + (1 : Int32)) x0 x1 x2 x3)) x0 x1 x2 x3)) x0 x1 x2 x3)) + (1 : Int32)) else (-1 : Int32))))))))) else (-1 : Int32)) else (-1 : Int32)))))
  refine own_go (fun _ k => castTop (ef_17 m p0 p1 p2) k) ?_
  show own_G _ _ _ (s₁.setTop (mkF m 0 #[.val (.ref p0), .val (.int p1), .val (.int p2), .unset, .unset] [])) _ _ _ _
  refine own_go (fun _ k => XS.iloadN X0.here hx rfl (hb hby d17_0) rfl k) ?_
  show own_G _ _ _ (s₁.setTop (mkF m 1 #[.val (.ref p0), .val (.int p1), .val (.int p2), .unset, .unset] [(.int p2)])) _ _ _ _
  refine own_go (fun _ k => XS.iloadN X0.here hx rfl (hb hby d17_1) rfl k) ?_
  show own_G _ _ _ (s₁.setTop (mkF m 2 #[.val (.ref p0), .val (.int p1), .val (.int p2), .unset, .unset] [(.int p1), (.int p2)])) _ _ _ _
  by_cases hc1 : p2 < p1
  · refine own_itI hc1 ?_
    refine own_go (fun _ k => XS.icmpNo X0.here hx rfl (hb hby d17_2) rfl (tlt hc1).2.1 k) ?_
    show own_G _ _ _ (s₁.setTop (mkF m 5 #[.val (.ref p0), .val (.int p1), .val (.int p2), .unset, .unset] [])) _ _ _ _
    refine own_go (fun _ k => XS.aloadN X0.here hx rfl (hb hby d17_5) rfl rfl k) ?_
    show own_G _ _ _ (s₁.setTop (mkF m 6 #[.val (.ref p0), .val (.int p1), .val (.int p2), .unset, .unset] [(.ref p0)])) _ _ _ _
    refine own_go (fun _ k => XS.iloadN X0.here hx rfl (hb hby d17_6) rfl k) ?_
    show own_G _ _ _ (s₁.setTop (mkF m 7 #[.val (.ref p0), .val (.int p1), .val (.int p2), .unset, .unset] [(.int p2), (.ref p0)])) _ _ _ _
    obtain ⟨cl2, Ar2, q2, S2, Ng2, H2, G2⟩ := id P_V_p0
    have in2 : ¬ (p2 < 0 ∨ cl2.slots.size ≤ (p2).toNatClampNeg) := inb_of S2 (own_inb h4 hz0 hc1)
    have at2 : cl2.slots[(p2).toNatClampNeg]? = some (.int (own_at x0 x1 x2 x3 p2)) := H2.at in2 (own_at_eq x0 x1 x2 x3 _)
    refine own_go (fun _ k => X0.caload hx (j := p2) (v := (.int (own_at x0 x1 x2 x3 p2))) (by rw [e0]; exact Ar2.1) (State.isArrayOf_alike hZ.alike Ar2.2.1) Ar2.2.2 in2 at2 (g := (mkF m 7 #[.val (.ref p0), .val (.int p1), .val (.int p2), .unset, .unset] [(.int p2), (.ref p0)])) rfl rfl (hb hby d17_7) _ k) ?_
    show own_G _ _ _ (s₁.setTop (mkF m 8 #[.val (.ref p0), .val (.int p1), .val (.int p2), .unset, .unset] [(.int (own_at x0 x1 x2 x3 p2))])) _ _ _ _
    refine own_go (fun _ k => XS.bipush X0.here hx rfl (hb hby d17_8) k) ?_
    show own_G _ _ _ (s₁.setTop (mkF m 10 #[.val (.ref p0), .val (.int p1), .val (.int p2), .unset, .unset] [(.int (34 : Int32)), (.int (own_at x0 x1 x2 x3 p2))])) _ _ _ _
    by_cases hc3 : (own_at x0 x1 x2 x3 p2) = (34 : Int32)
    · refine own_itI hc3 ?_
      refine own_go (fun _ k => XS.icmpYes X0.here hx rfl (pc0 := 10) (pc' := 15) rfl (hb hby d17_10) rfl (teq hc3).1 (by decide) (by decide) k) ?_
      show own_G _ _ _ (s₁.setTop (mkF m 15 #[.val (.ref p0), .val (.int p1), .val (.int p2), .unset, .unset] [])) _ _ _ _
      refine own_go (fun _ k => XS.iloadN X0.here hx rfl (hb hby d17_15) rfl k) ?_
      show own_G _ _ _ (s₁.setTop (mkF m 16 #[.val (.ref p0), .val (.int p1), .val (.int p2), .unset, .unset] [(.int p2)])) _ _ _ _
      refine own_go (fun _ k => XS.iconst X0.here hx rfl (hb hby d17_16) k) ?_
      show own_G _ _ _ (s₁.setTop (mkF m 17 #[.val (.ref p0), .val (.int p1), .val (.int p2), .unset, .unset] [(.int (1 : Int32)), (.int p2)])) _ _ _ _
      refine own_go (fun _ k => XS.iadd X0.here hx rfl (hb hby d17_17) rfl k) ?_
      show own_G _ _ _ (s₁.setTop (mkF m 18 #[.val (.ref p0), .val (.int p1), .val (.int p2), .unset, .unset] [(.int (p2 + (1 : Int32)))])) _ _ _ _
      refine own_go (fun _ k => XS.istoreN X0.here hx rfl (hb hby d17_18) rfl (l' := #[.val (.ref p0), .val (.int p1), .val (.int p2), .val (.int (p2 + (1 : Int32))), .unset]) rfl k) ?_
      show own_G _ _ _ (s₁.setTop (mkF m 19 #[.val (.ref p0), .val (.int p1), .val (.int p2), .val (.int (p2 + (1 : Int32))), .unset] [])) _ _ _ _
      refine own_go (fun _ k => XS.aloadN X0.here hx rfl (hb hby d17_19) rfl rfl k) ?_
      show own_G _ _ _ (s₁.setTop (mkF m 20 #[.val (.ref p0), .val (.int p1), .val (.int p2), .val (.int (p2 + (1 : Int32))), .unset] [(.ref p0)])) _ _ _ _
      refine own_go (fun _ k => XS.iloadN X0.here hx rfl (hb hby d17_20) rfl k) ?_
      show own_G _ _ _ (s₁.setTop (mkF m 21 #[.val (.ref p0), .val (.int p1), .val (.int p2), .val (.int (p2 + (1 : Int32))), .unset] [(.int p1), (.ref p0)])) _ _ _ _
      refine own_go (fun _ k => XS.iloadN X0.here hx rfl (hb hby d17_21) rfl k) ?_
      show own_G _ _ _ (s₁.setTop (mkF m 22 #[.val (.ref p0), .val (.int p1), .val (.int p2), .val (.int (p2 + (1 : Int32))), .unset] [(.int (p2 + (1 : Int32))), (.int p1), (.ref p0)])) _ _ _ _
      obtain ⟨_, _, ⟨T4, L4, k4, n4⟩, -, X4, ⟨Lc4, hQ4, l4, y4, z4⟩, st4⟩ := Jvm.LawKit.callS X0 hx (y := (⟨"com/example/floe/floe/rest/FramingLinesQuotedStringEndPinLaw", "unit", "([CII)I"⟩ : MethodName)) hown (mvT hZ (hw _ (List.mem_of_getElem? (i := 79) rfl))) (mvT hZ (hw _ (List.mem_of_getElem? (i := 80) rfl))) (mvT hZ (hw _ (List.mem_of_getElem? (i := 3) rfl))) (mvT hZ (hw _ (List.mem_of_getElem? (i := 81) rfl))) (by decide) (backOf (W := 0) (rm19 l Z a0 hw [] p0 p1 (p2 + (1 : Int32)) kc x0 x1 x2 x3 h0 n0 Z0 P_V_p0 h4 ((own_a1 hz0 hs).1)) hZ (hw _ (List.mem_of_getElem? (i := 81) rfl)) (hw _ (List.mem_of_getElem? (i := 3) rfl)) (by decide) (by decide)) (g := (mkF m 22 #[.val (.ref p0), .val (.int p1), .val (.int p2), .val (.int (p2 + (1 : Int32))), .unset] [(.int (p2 + (1 : Int32))), (.int p1), (.ref p0)])) rfl (by rw [hml]; rfl) (argsL := [(.ref p0), (.int p1), (.int (p2 + (1 : Int32)))]) (rest := []) (lenOf pd_5 rfl) rfl (by show 2 * 0 + _ ≤ _; exact Nat.le_of_eq rfl) (hb hby d17_22) (fun _ _ => ⟨rfl, e0, (by decide : 0 + 0 ≤ _), (by decide : 0 + 0 ≤ _)⟩)
      dsimp only [Pt.U, Pt.locs, Pt.cells, Pt.slots] at X4 l4 y4 z4 st4 hQ4
      subst l4 y4 z4
      obtain ⟨rfl, Nq4, eh4⟩ := hQ4
      have N4 := Fr.app N0 Nq4
      refine own_go (fun _ k => st4 _ k) ?_
      show own_G _ _ _ (T4.setTop (mkF m 25 #[.val (.ref p0), .val (.int p1), .val (.int p2), .val (.int (p2 + (1 : Int32))), .unset] [(.int (own_unit p1 (p2 + (1 : Int32)) x0 x1 x2 x3))])) _ _ _ _
      refine own_go (fun _ k => XS.istore X4.here hx rfl (hb hby d17_25) rfl (l' := #[.val (.ref p0), .val (.int p1), .val (.int p2), .val (.int (p2 + (1 : Int32))), .val (.int (own_unit p1 (p2 + (1 : Int32)) x0 x1 x2 x3))]) rfl k) ?_
      show own_G _ _ _ (T4.setTop (mkF m 27 #[.val (.ref p0), .val (.int p1), .val (.int p2), .val (.int (p2 + (1 : Int32))), .val (.int (own_unit p1 (p2 + (1 : Int32)) x0 x1 x2 x3))] [])) _ _ _ _
      refine own_go (fun _ k => XS.iload X4.here hx rfl (hb hby d17_27) rfl k) ?_
      show own_G _ _ _ (T4.setTop (mkF m 29 #[.val (.ref p0), .val (.int p1), .val (.int p2), .val (.int (p2 + (1 : Int32))), .val (.int (own_unit p1 (p2 + (1 : Int32)) x0 x1 x2 x3))] [(.int (own_unit p1 (p2 + (1 : Int32)) x0 x1 x2 x3))])) _ _ _ _
      by_cases hc5 : (own_unit p1 (p2 + (1 : Int32)) x0 x1 x2 x3) < (0 : Int32)
      · refine own_itI hc5 ?_
        refine own_go (fun _ k => XS.ifNo X4.here hx rfl (hb hby d17_29) rfl ((if0 _ _).trans (tlt hc5).2.1) k) ?_
        show own_G _ _ _ (T4.setTop (mkF m 32 #[.val (.ref p0), .val (.int p1), .val (.int p2), .val (.int (p2 + (1 : Int32))), .val (.int (own_unit p1 (p2 + (1 : Int32)) x0 x1 x2 x3))] [])) _ _ _ _
        refine own_go (fun _ k => XS.iconst X4.here hx rfl (hb hby d17_32) k) ?_
        show own_G _ _ _ (T4.setTop (mkF m 33 #[.val (.ref p0), .val (.int p1), .val (.int p2), .val (.int (p2 + (1 : Int32))), .val (.int (own_unit p1 (p2 + (1 : Int32)) x0 x1 x2 x3))] [(.int (-1 : Int32))])) _ _ _ _
        exact own_endI X4 hx hlk Bd.returns (hb hby d17_33) (by decide) (by decide) (Q := (own_P n0 h0 (some (.int (-1 : Int32))))) ⟨rfl, N4, eh4⟩
      · refine own_ifI hc5 ?_
        refine own_go (fun _ k => XS.ifYes X4.here hx rfl (pc0 := 29) (pc' := 34) rfl (hb hby d17_29) rfl ((if0 _ _).trans (flt hc5).2.1) (by decide) (by decide) k) ?_
        show own_G _ _ _ (T4.setTop (mkF m 34 #[.val (.ref p0), .val (.int p1), .val (.int p2), .val (.int (p2 + (1 : Int32))), .val (.int (own_unit p1 (p2 + (1 : Int32)) x0 x1 x2 x3))] [])) _ _ _ _
        refine own_go (fun _ k => XS.iload X4.here hx rfl (hb hby d17_34) rfl k) ?_
        show own_G _ _ _ (T4.setTop (mkF m 36 #[.val (.ref p0), .val (.int p1), .val (.int p2), .val (.int (p2 + (1 : Int32))), .val (.int (own_unit p1 (p2 + (1 : Int32)) x0 x1 x2 x3))] [(.int (own_unit p1 (p2 + (1 : Int32)) x0 x1 x2 x3))])) _ _ _ _
        by_cases hc6 : (own_unit p1 (p2 + (1 : Int32)) x0 x1 x2 x3) = (0 : Int32)
        · refine own_itI hc6 ?_
          refine own_go (fun _ k => XS.ifNo X4.here hx rfl (hb hby d17_36) rfl ((if0 _ _).trans (teq hc6).2) k) ?_
          show own_G _ _ _ (T4.setTop (mkF m 39 #[.val (.ref p0), .val (.int p1), .val (.int p2), .val (.int (p2 + (1 : Int32))), .val (.int (own_unit p1 (p2 + (1 : Int32)) x0 x1 x2 x3))] [])) _ _ _ _
          refine own_go (fun _ k => XS.iloadN X4.here hx rfl (hb hby d17_39) rfl k) ?_
          show own_G _ _ _ (T4.setTop (mkF m 40 #[.val (.ref p0), .val (.int p1), .val (.int p2), .val (.int (p2 + (1 : Int32))), .val (.int (own_unit p1 (p2 + (1 : Int32)) x0 x1 x2 x3))] [(.int (p2 + (1 : Int32)))])) _ _ _ _
          refine own_go (fun _ k => XS.iconst X4.here hx rfl (hb hby d17_40) k) ?_
          show own_G _ _ _ (T4.setTop (mkF m 41 #[.val (.ref p0), .val (.int p1), .val (.int p2), .val (.int (p2 + (1 : Int32))), .val (.int (own_unit p1 (p2 + (1 : Int32)) x0 x1 x2 x3))] [(.int (1 : Int32)), (.int (p2 + (1 : Int32)))])) _ _ _ _
          refine own_go (fun _ k => XS.iadd X4.here hx rfl (hb hby d17_41) rfl k) ?_
          show own_G _ _ _ (T4.setTop (mkF m 42 #[.val (.ref p0), .val (.int p1), .val (.int p2), .val (.int (p2 + (1 : Int32))), .val (.int (own_unit p1 (p2 + (1 : Int32)) x0 x1 x2 x3))] [(.int ((p2 + (1 : Int32)) + (1 : Int32)))])) _ _ _ _
          exact own_endI X4 hx hlk Bd.returns (hb hby d17_42) (by decide) (by decide) (Q := (own_P n0 h0 (some (.int ((p2 + (1 : Int32)) + (1 : Int32)))))) ⟨rfl, N4, eh4⟩
        · refine own_ifI hc6 ?_
          refine own_go (fun _ k => XS.ifYes X4.here hx rfl (pc0 := 36) (pc' := 43) rfl (hb hby d17_36) rfl ((if0 _ _).trans (feq hc6).2) (by decide) (by decide) k) ?_
          show own_G _ _ _ (T4.setTop (mkF m 43 #[.val (.ref p0), .val (.int p1), .val (.int p2), .val (.int (p2 + (1 : Int32))), .val (.int (own_unit p1 (p2 + (1 : Int32)) x0 x1 x2 x3))] [])) _ _ _ _
          refine own_go (fun _ k => XS.iloadN X4.here hx rfl (hb hby d17_43) rfl k) ?_
          show own_G _ _ _ (T4.setTop (mkF m 44 #[.val (.ref p0), .val (.int p1), .val (.int p2), .val (.int (p2 + (1 : Int32))), .val (.int (own_unit p1 (p2 + (1 : Int32)) x0 x1 x2 x3))] [(.int (p2 + (1 : Int32)))])) _ _ _ _
          refine own_go (fun _ k => XS.iload X4.here hx rfl (hb hby d17_44) rfl k) ?_
          show own_G _ _ _ (T4.setTop (mkF m 46 #[.val (.ref p0), .val (.int p1), .val (.int p2), .val (.int (p2 + (1 : Int32))), .val (.int (own_unit p1 (p2 + (1 : Int32)) x0 x1 x2 x3))] [(.int (own_unit p1 (p2 + (1 : Int32)) x0 x1 x2 x3)), (.int (p2 + (1 : Int32)))])) _ _ _ _
          refine own_go (fun _ k => XS.iadd X4.here hx rfl (hb hby d17_46) rfl k) ?_
          show own_G _ _ _ (T4.setTop (mkF m 47 #[.val (.ref p0), .val (.int p1), .val (.int p2), .val (.int (p2 + (1 : Int32))), .val (.int (own_unit p1 (p2 + (1 : Int32)) x0 x1 x2 x3))] [(.int ((p2 + (1 : Int32)) + (own_unit p1 (p2 + (1 : Int32)) x0 x1 x2 x3)))])) _ _ _ _
          refine own_go (fun _ k => XS.istoreN X4.here hx rfl (hb hby d17_47) rfl (l' := #[.val (.ref p0), .val (.int p1), .val (.int p2), .val (.int ((p2 + (1 : Int32)) + (own_unit p1 (p2 + (1 : Int32)) x0 x1 x2 x3))), .val (.int (own_unit p1 (p2 + (1 : Int32)) x0 x1 x2 x3))]) rfl k) ?_
          show own_G _ _ _ (T4.setTop (mkF m 48 #[.val (.ref p0), .val (.int p1), .val (.int p2), .val (.int ((p2 + (1 : Int32)) + (own_unit p1 (p2 + (1 : Int32)) x0 x1 x2 x3))), .val (.int (own_unit p1 (p2 + (1 : Int32)) x0 x1 x2 x3))] [])) _ _ _ _
          refine own_go (fun _ k => XS.aloadN X4.here hx rfl (hb hby d17_48) rfl rfl k) ?_
          show own_G _ _ _ (T4.setTop (mkF m 49 #[.val (.ref p0), .val (.int p1), .val (.int p2), .val (.int ((p2 + (1 : Int32)) + (own_unit p1 (p2 + (1 : Int32)) x0 x1 x2 x3))), .val (.int (own_unit p1 (p2 + (1 : Int32)) x0 x1 x2 x3))] [(.ref p0)])) _ _ _ _
          refine own_go (fun _ k => XS.iloadN X4.here hx rfl (hb hby d17_49) rfl k) ?_
          show own_G _ _ _ (T4.setTop (mkF m 50 #[.val (.ref p0), .val (.int p1), .val (.int p2), .val (.int ((p2 + (1 : Int32)) + (own_unit p1 (p2 + (1 : Int32)) x0 x1 x2 x3))), .val (.int (own_unit p1 (p2 + (1 : Int32)) x0 x1 x2 x3))] [(.int p1), (.ref p0)])) _ _ _ _
          refine own_go (fun _ k => XS.iloadN X4.here hx rfl (hb hby d17_50) rfl k) ?_
          show own_G _ _ _ (T4.setTop (mkF m 51 #[.val (.ref p0), .val (.int p1), .val (.int p2), .val (.int ((p2 + (1 : Int32)) + (own_unit p1 (p2 + (1 : Int32)) x0 x1 x2 x3))), .val (.int (own_unit p1 (p2 + (1 : Int32)) x0 x1 x2 x3))] [(.int ((p2 + (1 : Int32)) + (own_unit p1 (p2 + (1 : Int32)) x0 x1 x2 x3))), (.int p1), (.ref p0)])) _ _ _ _
          obtain ⟨_, _, ⟨T7, L7, k7, n7⟩, -, X7, ⟨Lc7, hQ7, l7, y7, z7⟩, st7⟩ := Jvm.LawKit.callS X4 hx (y := (⟨"com/example/floe/floe/rest/FramingLinesQuotedStringEndPinLaw", "unit", "([CII)I"⟩ : MethodName)) hown (mvT hZ (hw _ (List.mem_of_getElem? (i := 79) rfl))) (mvT hZ (hw _ (List.mem_of_getElem? (i := 80) rfl))) (mvT hZ (hw _ (List.mem_of_getElem? (i := 3) rfl))) (mvT hZ (hw _ (List.mem_of_getElem? (i := 81) rfl))) (by decide) (backOf (W := 0) (rm19 l Z a0 hw [] p0 p1 ((p2 + (1 : Int32)) + (own_unit p1 (p2 + (1 : Int32)) x0 x1 x2 x3)) kc x0 x1 x2 x3 h0 n0 Z0 P_V_p0 h4 ((own_a2 (K := 6) (own_a1 hz0 hs) hc5 (own_unit_le _ _ _ _ _ _) (by decide)).1)) hZ (hw _ (List.mem_of_getElem? (i := 81) rfl)) (hw _ (List.mem_of_getElem? (i := 3) rfl)) (by decide) (by decide)) (g := (mkF m 51 #[.val (.ref p0), .val (.int p1), .val (.int p2), .val (.int ((p2 + (1 : Int32)) + (own_unit p1 (p2 + (1 : Int32)) x0 x1 x2 x3))), .val (.int (own_unit p1 (p2 + (1 : Int32)) x0 x1 x2 x3))] [(.int ((p2 + (1 : Int32)) + (own_unit p1 (p2 + (1 : Int32)) x0 x1 x2 x3))), (.int p1), (.ref p0)])) rfl (by rw [hml]; rfl) (argsL := [(.ref p0), (.int p1), (.int ((p2 + (1 : Int32)) + (own_unit p1 (p2 + (1 : Int32)) x0 x1 x2 x3)))]) (rest := []) (lenOf pd_5 rfl) rfl (by show 2 * 0 + _ ≤ _; exact Nat.le_of_eq rfl) (hb hby d17_51) (fun _ _ => ⟨rfl, eh4, (by decide : 0 + 0 ≤ _), (by decide : 0 + 0 ≤ _)⟩)
          dsimp only [Pt.U, Pt.locs, Pt.cells, Pt.slots] at X7 l7 y7 z7 st7 hQ7
          subst l7 y7 z7
          obtain ⟨rfl, Nq7, eh7⟩ := hQ7
          have N7 := Fr.app N4 Nq7
          refine own_go (fun _ k => st7 _ k) ?_
          show own_G _ _ _ (T7.setTop (mkF m 54 #[.val (.ref p0), .val (.int p1), .val (.int p2), .val (.int ((p2 + (1 : Int32)) + (own_unit p1 (p2 + (1 : Int32)) x0 x1 x2 x3))), .val (.int (own_unit p1 (p2 + (1 : Int32)) x0 x1 x2 x3))] [(.int (own_unit p1 ((p2 + (1 : Int32)) + (own_unit p1 (p2 + (1 : Int32)) x0 x1 x2 x3)) x0 x1 x2 x3))])) _ _ _ _
          refine own_go (fun _ k => XS.istore X7.here hx rfl (hb hby d17_54) rfl (l' := #[.val (.ref p0), .val (.int p1), .val (.int p2), .val (.int ((p2 + (1 : Int32)) + (own_unit p1 (p2 + (1 : Int32)) x0 x1 x2 x3))), .val (.int (own_unit p1 ((p2 + (1 : Int32)) + (own_unit p1 (p2 + (1 : Int32)) x0 x1 x2 x3)) x0 x1 x2 x3))]) rfl k) ?_
          show own_G _ _ _ (T7.setTop (mkF m 56 #[.val (.ref p0), .val (.int p1), .val (.int p2), .val (.int ((p2 + (1 : Int32)) + (own_unit p1 (p2 + (1 : Int32)) x0 x1 x2 x3))), .val (.int (own_unit p1 ((p2 + (1 : Int32)) + (own_unit p1 (p2 + (1 : Int32)) x0 x1 x2 x3)) x0 x1 x2 x3))] [])) _ _ _ _
          refine own_go (fun _ k => XS.iload X7.here hx rfl (hb hby d17_56) rfl k) ?_
          show own_G _ _ _ (T7.setTop (mkF m 58 #[.val (.ref p0), .val (.int p1), .val (.int p2), .val (.int ((p2 + (1 : Int32)) + (own_unit p1 (p2 + (1 : Int32)) x0 x1 x2 x3))), .val (.int (own_unit p1 ((p2 + (1 : Int32)) + (own_unit p1 (p2 + (1 : Int32)) x0 x1 x2 x3)) x0 x1 x2 x3))] [(.int (own_unit p1 ((p2 + (1 : Int32)) + (own_unit p1 (p2 + (1 : Int32)) x0 x1 x2 x3)) x0 x1 x2 x3))])) _ _ _ _
          by_cases hc8 : (own_unit p1 ((p2 + (1 : Int32)) + (own_unit p1 (p2 + (1 : Int32)) x0 x1 x2 x3)) x0 x1 x2 x3) < (0 : Int32)
          · refine own_itI hc8 ?_
            refine own_go (fun _ k => XS.ifNo X7.here hx rfl (hb hby d17_58) rfl ((if0 _ _).trans (tlt hc8).2.1) k) ?_
            show own_G _ _ _ (T7.setTop (mkF m 61 #[.val (.ref p0), .val (.int p1), .val (.int p2), .val (.int ((p2 + (1 : Int32)) + (own_unit p1 (p2 + (1 : Int32)) x0 x1 x2 x3))), .val (.int (own_unit p1 ((p2 + (1 : Int32)) + (own_unit p1 (p2 + (1 : Int32)) x0 x1 x2 x3)) x0 x1 x2 x3))] [])) _ _ _ _
            refine own_go (fun _ k => XS.iconst X7.here hx rfl (hb hby d17_61) k) ?_
            show own_G _ _ _ (T7.setTop (mkF m 62 #[.val (.ref p0), .val (.int p1), .val (.int p2), .val (.int ((p2 + (1 : Int32)) + (own_unit p1 (p2 + (1 : Int32)) x0 x1 x2 x3))), .val (.int (own_unit p1 ((p2 + (1 : Int32)) + (own_unit p1 (p2 + (1 : Int32)) x0 x1 x2 x3)) x0 x1 x2 x3))] [(.int (-1 : Int32))])) _ _ _ _
            exact own_endI X7 hx hlk Bd.returns (hb hby d17_62) (by decide) (by decide) (Q := (own_P n0 h0 (some (.int (-1 : Int32))))) ⟨rfl, N7, eh7⟩
          · refine own_ifI hc8 ?_
            refine own_go (fun _ k => XS.ifYes X7.here hx rfl (pc0 := 58) (pc' := 63) rfl (hb hby d17_58) rfl ((if0 _ _).trans (flt hc8).2.1) (by decide) (by decide) k) ?_
            show own_G _ _ _ (T7.setTop (mkF m 63 #[.val (.ref p0), .val (.int p1), .val (.int p2), .val (.int ((p2 + (1 : Int32)) + (own_unit p1 (p2 + (1 : Int32)) x0 x1 x2 x3))), .val (.int (own_unit p1 ((p2 + (1 : Int32)) + (own_unit p1 (p2 + (1 : Int32)) x0 x1 x2 x3)) x0 x1 x2 x3))] [])) _ _ _ _
            refine own_go (fun _ k => XS.iload X7.here hx rfl (hb hby d17_63) rfl k) ?_
            show own_G _ _ _ (T7.setTop (mkF m 65 #[.val (.ref p0), .val (.int p1), .val (.int p2), .val (.int ((p2 + (1 : Int32)) + (own_unit p1 (p2 + (1 : Int32)) x0 x1 x2 x3))), .val (.int (own_unit p1 ((p2 + (1 : Int32)) + (own_unit p1 (p2 + (1 : Int32)) x0 x1 x2 x3)) x0 x1 x2 x3))] [(.int (own_unit p1 ((p2 + (1 : Int32)) + (own_unit p1 (p2 + (1 : Int32)) x0 x1 x2 x3)) x0 x1 x2 x3))])) _ _ _ _
            by_cases hc9 : (own_unit p1 ((p2 + (1 : Int32)) + (own_unit p1 (p2 + (1 : Int32)) x0 x1 x2 x3)) x0 x1 x2 x3) = (0 : Int32)
            · refine own_itI hc9 ?_
              refine own_go (fun _ k => XS.ifNo X7.here hx rfl (hb hby d17_65) rfl ((if0 _ _).trans (teq hc9).2) k) ?_
              show own_G _ _ _ (T7.setTop (mkF m 68 #[.val (.ref p0), .val (.int p1), .val (.int p2), .val (.int ((p2 + (1 : Int32)) + (own_unit p1 (p2 + (1 : Int32)) x0 x1 x2 x3))), .val (.int (own_unit p1 ((p2 + (1 : Int32)) + (own_unit p1 (p2 + (1 : Int32)) x0 x1 x2 x3)) x0 x1 x2 x3))] [])) _ _ _ _
              refine own_go (fun _ k => XS.iloadN X7.here hx rfl (hb hby d17_68) rfl k) ?_
              show own_G _ _ _ (T7.setTop (mkF m 69 #[.val (.ref p0), .val (.int p1), .val (.int p2), .val (.int ((p2 + (1 : Int32)) + (own_unit p1 (p2 + (1 : Int32)) x0 x1 x2 x3))), .val (.int (own_unit p1 ((p2 + (1 : Int32)) + (own_unit p1 (p2 + (1 : Int32)) x0 x1 x2 x3)) x0 x1 x2 x3))] [(.int ((p2 + (1 : Int32)) + (own_unit p1 (p2 + (1 : Int32)) x0 x1 x2 x3)))])) _ _ _ _
              refine own_go (fun _ k => XS.iconst X7.here hx rfl (hb hby d17_69) k) ?_
              show own_G _ _ _ (T7.setTop (mkF m 70 #[.val (.ref p0), .val (.int p1), .val (.int p2), .val (.int ((p2 + (1 : Int32)) + (own_unit p1 (p2 + (1 : Int32)) x0 x1 x2 x3))), .val (.int (own_unit p1 ((p2 + (1 : Int32)) + (own_unit p1 (p2 + (1 : Int32)) x0 x1 x2 x3)) x0 x1 x2 x3))] [(.int (1 : Int32)), (.int ((p2 + (1 : Int32)) + (own_unit p1 (p2 + (1 : Int32)) x0 x1 x2 x3)))])) _ _ _ _
              refine own_go (fun _ k => XS.iadd X7.here hx rfl (hb hby d17_70) rfl k) ?_
              show own_G _ _ _ (T7.setTop (mkF m 71 #[.val (.ref p0), .val (.int p1), .val (.int p2), .val (.int ((p2 + (1 : Int32)) + (own_unit p1 (p2 + (1 : Int32)) x0 x1 x2 x3))), .val (.int (own_unit p1 ((p2 + (1 : Int32)) + (own_unit p1 (p2 + (1 : Int32)) x0 x1 x2 x3)) x0 x1 x2 x3))] [(.int (((p2 + (1 : Int32)) + (own_unit p1 (p2 + (1 : Int32)) x0 x1 x2 x3)) + (1 : Int32)))])) _ _ _ _
              exact own_endI X7 hx hlk Bd.returns (hb hby d17_71) (by decide) (by decide) (Q := (own_P n0 h0 (some (.int (((p2 + (1 : Int32)) + (own_unit p1 (p2 + (1 : Int32)) x0 x1 x2 x3)) + (1 : Int32)))))) ⟨rfl, N7, eh7⟩
            · refine own_ifI hc9 ?_
              refine own_go (fun _ k => XS.ifYes X7.here hx rfl (pc0 := 65) (pc' := 72) rfl (hb hby d17_65) rfl ((if0 _ _).trans (feq hc9).2) (by decide) (by decide) k) ?_
              show own_G _ _ _ (T7.setTop (mkF m 72 #[.val (.ref p0), .val (.int p1), .val (.int p2), .val (.int ((p2 + (1 : Int32)) + (own_unit p1 (p2 + (1 : Int32)) x0 x1 x2 x3))), .val (.int (own_unit p1 ((p2 + (1 : Int32)) + (own_unit p1 (p2 + (1 : Int32)) x0 x1 x2 x3)) x0 x1 x2 x3))] [])) _ _ _ _
              refine own_go (fun _ k => XS.iloadN X7.here hx rfl (hb hby d17_72) rfl k) ?_
              show own_G _ _ _ (T7.setTop (mkF m 73 #[.val (.ref p0), .val (.int p1), .val (.int p2), .val (.int ((p2 + (1 : Int32)) + (own_unit p1 (p2 + (1 : Int32)) x0 x1 x2 x3))), .val (.int (own_unit p1 ((p2 + (1 : Int32)) + (own_unit p1 (p2 + (1 : Int32)) x0 x1 x2 x3)) x0 x1 x2 x3))] [(.int ((p2 + (1 : Int32)) + (own_unit p1 (p2 + (1 : Int32)) x0 x1 x2 x3)))])) _ _ _ _
              refine own_go (fun _ k => XS.iload X7.here hx rfl (hb hby d17_73) rfl k) ?_
              show own_G _ _ _ (T7.setTop (mkF m 75 #[.val (.ref p0), .val (.int p1), .val (.int p2), .val (.int ((p2 + (1 : Int32)) + (own_unit p1 (p2 + (1 : Int32)) x0 x1 x2 x3))), .val (.int (own_unit p1 ((p2 + (1 : Int32)) + (own_unit p1 (p2 + (1 : Int32)) x0 x1 x2 x3)) x0 x1 x2 x3))] [(.int (own_unit p1 ((p2 + (1 : Int32)) + (own_unit p1 (p2 + (1 : Int32)) x0 x1 x2 x3)) x0 x1 x2 x3)), (.int ((p2 + (1 : Int32)) + (own_unit p1 (p2 + (1 : Int32)) x0 x1 x2 x3)))])) _ _ _ _
              refine own_go (fun _ k => XS.iadd X7.here hx rfl (hb hby d17_75) rfl k) ?_
              show own_G _ _ _ (T7.setTop (mkF m 76 #[.val (.ref p0), .val (.int p1), .val (.int p2), .val (.int ((p2 + (1 : Int32)) + (own_unit p1 (p2 + (1 : Int32)) x0 x1 x2 x3))), .val (.int (own_unit p1 ((p2 + (1 : Int32)) + (own_unit p1 (p2 + (1 : Int32)) x0 x1 x2 x3)) x0 x1 x2 x3))] [(.int (((p2 + (1 : Int32)) + (own_unit p1 (p2 + (1 : Int32)) x0 x1 x2 x3)) + (own_unit p1 ((p2 + (1 : Int32)) + (own_unit p1 (p2 + (1 : Int32)) x0 x1 x2 x3)) x0 x1 x2 x3)))])) _ _ _ _
              refine own_go (fun _ k => XS.istoreN X7.here hx rfl (hb hby d17_76) rfl (l' := #[.val (.ref p0), .val (.int p1), .val (.int p2), .val (.int (((p2 + (1 : Int32)) + (own_unit p1 (p2 + (1 : Int32)) x0 x1 x2 x3)) + (own_unit p1 ((p2 + (1 : Int32)) + (own_unit p1 (p2 + (1 : Int32)) x0 x1 x2 x3)) x0 x1 x2 x3))), .val (.int (own_unit p1 ((p2 + (1 : Int32)) + (own_unit p1 (p2 + (1 : Int32)) x0 x1 x2 x3)) x0 x1 x2 x3))]) rfl k) ?_
              show own_G _ _ _ (T7.setTop (mkF m 77 #[.val (.ref p0), .val (.int p1), .val (.int p2), .val (.int (((p2 + (1 : Int32)) + (own_unit p1 (p2 + (1 : Int32)) x0 x1 x2 x3)) + (own_unit p1 ((p2 + (1 : Int32)) + (own_unit p1 (p2 + (1 : Int32)) x0 x1 x2 x3)) x0 x1 x2 x3))), .val (.int (own_unit p1 ((p2 + (1 : Int32)) + (own_unit p1 (p2 + (1 : Int32)) x0 x1 x2 x3)) x0 x1 x2 x3))] [])) _ _ _ _
              refine own_go (fun _ k => XS.aloadN X7.here hx rfl (hb hby d17_77) rfl rfl k) ?_
              show own_G _ _ _ (T7.setTop (mkF m 78 #[.val (.ref p0), .val (.int p1), .val (.int p2), .val (.int (((p2 + (1 : Int32)) + (own_unit p1 (p2 + (1 : Int32)) x0 x1 x2 x3)) + (own_unit p1 ((p2 + (1 : Int32)) + (own_unit p1 (p2 + (1 : Int32)) x0 x1 x2 x3)) x0 x1 x2 x3))), .val (.int (own_unit p1 ((p2 + (1 : Int32)) + (own_unit p1 (p2 + (1 : Int32)) x0 x1 x2 x3)) x0 x1 x2 x3))] [(.ref p0)])) _ _ _ _
              refine own_go (fun _ k => XS.iloadN X7.here hx rfl (hb hby d17_78) rfl k) ?_
              show own_G _ _ _ (T7.setTop (mkF m 79 #[.val (.ref p0), .val (.int p1), .val (.int p2), .val (.int (((p2 + (1 : Int32)) + (own_unit p1 (p2 + (1 : Int32)) x0 x1 x2 x3)) + (own_unit p1 ((p2 + (1 : Int32)) + (own_unit p1 (p2 + (1 : Int32)) x0 x1 x2 x3)) x0 x1 x2 x3))), .val (.int (own_unit p1 ((p2 + (1 : Int32)) + (own_unit p1 (p2 + (1 : Int32)) x0 x1 x2 x3)) x0 x1 x2 x3))] [(.int p1), (.ref p0)])) _ _ _ _
              refine own_go (fun _ k => XS.iloadN X7.here hx rfl (hb hby d17_79) rfl k) ?_
              show own_G _ _ _ (T7.setTop (mkF m 80 #[.val (.ref p0), .val (.int p1), .val (.int p2), .val (.int (((p2 + (1 : Int32)) + (own_unit p1 (p2 + (1 : Int32)) x0 x1 x2 x3)) + (own_unit p1 ((p2 + (1 : Int32)) + (own_unit p1 (p2 + (1 : Int32)) x0 x1 x2 x3)) x0 x1 x2 x3))), .val (.int (own_unit p1 ((p2 + (1 : Int32)) + (own_unit p1 (p2 + (1 : Int32)) x0 x1 x2 x3)) x0 x1 x2 x3))] [(.int (((p2 + (1 : Int32)) + (own_unit p1 (p2 + (1 : Int32)) x0 x1 x2 x3)) + (own_unit p1 ((p2 + (1 : Int32)) + (own_unit p1 (p2 + (1 : Int32)) x0 x1 x2 x3)) x0 x1 x2 x3))), (.int p1), (.ref p0)])) _ _ _ _
              obtain ⟨_, _, ⟨T10, L10, k10, n10⟩, -, X10, ⟨Lc10, hQ10, l10, y10, z10⟩, st10⟩ := Jvm.LawKit.callS X7 hx (y := (⟨"com/example/floe/floe/rest/FramingLinesQuotedStringEndPinLaw", "unit", "([CII)I"⟩ : MethodName)) hown (mvT hZ (hw _ (List.mem_of_getElem? (i := 79) rfl))) (mvT hZ (hw _ (List.mem_of_getElem? (i := 80) rfl))) (mvT hZ (hw _ (List.mem_of_getElem? (i := 3) rfl))) (mvT hZ (hw _ (List.mem_of_getElem? (i := 81) rfl))) (by decide) (backOf (W := 0) (rm19 l Z a0 hw [] p0 p1 (((p2 + (1 : Int32)) + (own_unit p1 (p2 + (1 : Int32)) x0 x1 x2 x3)) + (own_unit p1 ((p2 + (1 : Int32)) + (own_unit p1 (p2 + (1 : Int32)) x0 x1 x2 x3)) x0 x1 x2 x3)) kc x0 x1 x2 x3 h0 n0 Z0 P_V_p0 h4 ((own_a2 (K := 8) (own_a2 (K := 6) (own_a1 hz0 hs) hc5 (own_unit_le _ _ _ _ _ _) (by decide)) hc8 (own_unit_le _ _ _ _ _ _) (by decide)).1)) hZ (hw _ (List.mem_of_getElem? (i := 81) rfl)) (hw _ (List.mem_of_getElem? (i := 3) rfl)) (by decide) (by decide)) (g := (mkF m 80 #[.val (.ref p0), .val (.int p1), .val (.int p2), .val (.int (((p2 + (1 : Int32)) + (own_unit p1 (p2 + (1 : Int32)) x0 x1 x2 x3)) + (own_unit p1 ((p2 + (1 : Int32)) + (own_unit p1 (p2 + (1 : Int32)) x0 x1 x2 x3)) x0 x1 x2 x3))), .val (.int (own_unit p1 ((p2 + (1 : Int32)) + (own_unit p1 (p2 + (1 : Int32)) x0 x1 x2 x3)) x0 x1 x2 x3))] [(.int (((p2 + (1 : Int32)) + (own_unit p1 (p2 + (1 : Int32)) x0 x1 x2 x3)) + (own_unit p1 ((p2 + (1 : Int32)) + (own_unit p1 (p2 + (1 : Int32)) x0 x1 x2 x3)) x0 x1 x2 x3))), (.int p1), (.ref p0)])) rfl (by rw [hml]; rfl) (argsL := [(.ref p0), (.int p1), (.int (((p2 + (1 : Int32)) + (own_unit p1 (p2 + (1 : Int32)) x0 x1 x2 x3)) + (own_unit p1 ((p2 + (1 : Int32)) + (own_unit p1 (p2 + (1 : Int32)) x0 x1 x2 x3)) x0 x1 x2 x3)))]) (rest := []) (lenOf pd_5 rfl) rfl (by show 2 * 0 + _ ≤ _; exact Nat.le_of_eq rfl) (hb hby d17_80) (fun _ _ => ⟨rfl, eh7, (by decide : 0 + 0 ≤ _), (by decide : 0 + 0 ≤ _)⟩)
              dsimp only [Pt.U, Pt.locs, Pt.cells, Pt.slots] at X10 l10 y10 z10 st10 hQ10
              subst l10 y10 z10
              obtain ⟨rfl, Nq10, eh10⟩ := hQ10
              have N10 := Fr.app N7 Nq10
              refine own_go (fun _ k => st10 _ k) ?_
              show own_G _ _ _ (T10.setTop (mkF m 83 #[.val (.ref p0), .val (.int p1), .val (.int p2), .val (.int (((p2 + (1 : Int32)) + (own_unit p1 (p2 + (1 : Int32)) x0 x1 x2 x3)) + (own_unit p1 ((p2 + (1 : Int32)) + (own_unit p1 (p2 + (1 : Int32)) x0 x1 x2 x3)) x0 x1 x2 x3))), .val (.int (own_unit p1 ((p2 + (1 : Int32)) + (own_unit p1 (p2 + (1 : Int32)) x0 x1 x2 x3)) x0 x1 x2 x3))] [(.int (own_unit p1 (((p2 + (1 : Int32)) + (own_unit p1 (p2 + (1 : Int32)) x0 x1 x2 x3)) + (own_unit p1 ((p2 + (1 : Int32)) + (own_unit p1 (p2 + (1 : Int32)) x0 x1 x2 x3)) x0 x1 x2 x3)) x0 x1 x2 x3))])) _ _ _ _
              refine own_go (fun _ k => XS.istore X10.here hx rfl (hb hby d17_83) rfl (l' := #[.val (.ref p0), .val (.int p1), .val (.int p2), .val (.int (((p2 + (1 : Int32)) + (own_unit p1 (p2 + (1 : Int32)) x0 x1 x2 x3)) + (own_unit p1 ((p2 + (1 : Int32)) + (own_unit p1 (p2 + (1 : Int32)) x0 x1 x2 x3)) x0 x1 x2 x3))), .val (.int (own_unit p1 (((p2 + (1 : Int32)) + (own_unit p1 (p2 + (1 : Int32)) x0 x1 x2 x3)) + (own_unit p1 ((p2 + (1 : Int32)) + (own_unit p1 (p2 + (1 : Int32)) x0 x1 x2 x3)) x0 x1 x2 x3)) x0 x1 x2 x3))]) rfl k) ?_
              show own_G _ _ _ (T10.setTop (mkF m 85 #[.val (.ref p0), .val (.int p1), .val (.int p2), .val (.int (((p2 + (1 : Int32)) + (own_unit p1 (p2 + (1 : Int32)) x0 x1 x2 x3)) + (own_unit p1 ((p2 + (1 : Int32)) + (own_unit p1 (p2 + (1 : Int32)) x0 x1 x2 x3)) x0 x1 x2 x3))), .val (.int (own_unit p1 (((p2 + (1 : Int32)) + (own_unit p1 (p2 + (1 : Int32)) x0 x1 x2 x3)) + (own_unit p1 ((p2 + (1 : Int32)) + (own_unit p1 (p2 + (1 : Int32)) x0 x1 x2 x3)) x0 x1 x2 x3)) x0 x1 x2 x3))] [])) _ _ _ _
              refine own_go (fun _ k => XS.iload X10.here hx rfl (hb hby d17_85) rfl k) ?_
              show own_G _ _ _ (T10.setTop (mkF m 87 #[.val (.ref p0), .val (.int p1), .val (.int p2), .val (.int (((p2 + (1 : Int32)) + (own_unit p1 (p2 + (1 : Int32)) x0 x1 x2 x3)) + (own_unit p1 ((p2 + (1 : Int32)) + (own_unit p1 (p2 + (1 : Int32)) x0 x1 x2 x3)) x0 x1 x2 x3))), .val (.int (own_unit p1 (((p2 + (1 : Int32)) + (own_unit p1 (p2 + (1 : Int32)) x0 x1 x2 x3)) + (own_unit p1 ((p2 + (1 : Int32)) + (own_unit p1 (p2 + (1 : Int32)) x0 x1 x2 x3)) x0 x1 x2 x3)) x0 x1 x2 x3))] [(.int (own_unit p1 (((p2 + (1 : Int32)) + (own_unit p1 (p2 + (1 : Int32)) x0 x1 x2 x3)) + (own_unit p1 ((p2 + (1 : Int32)) + (own_unit p1 (p2 + (1 : Int32)) x0 x1 x2 x3)) x0 x1 x2 x3)) x0 x1 x2 x3))])) _ _ _ _
              by_cases hc11 : (own_unit p1 (((p2 + (1 : Int32)) + (own_unit p1 (p2 + (1 : Int32)) x0 x1 x2 x3)) + (own_unit p1 ((p2 + (1 : Int32)) + (own_unit p1 (p2 + (1 : Int32)) x0 x1 x2 x3)) x0 x1 x2 x3)) x0 x1 x2 x3) < (0 : Int32)
              · refine own_itI hc11 ?_
                refine own_go (fun _ k => XS.ifNo X10.here hx rfl (hb hby d17_87) rfl ((if0 _ _).trans (tlt hc11).2.1) k) ?_
                show own_G _ _ _ (T10.setTop (mkF m 90 #[.val (.ref p0), .val (.int p1), .val (.int p2), .val (.int (((p2 + (1 : Int32)) + (own_unit p1 (p2 + (1 : Int32)) x0 x1 x2 x3)) + (own_unit p1 ((p2 + (1 : Int32)) + (own_unit p1 (p2 + (1 : Int32)) x0 x1 x2 x3)) x0 x1 x2 x3))), .val (.int (own_unit p1 (((p2 + (1 : Int32)) + (own_unit p1 (p2 + (1 : Int32)) x0 x1 x2 x3)) + (own_unit p1 ((p2 + (1 : Int32)) + (own_unit p1 (p2 + (1 : Int32)) x0 x1 x2 x3)) x0 x1 x2 x3)) x0 x1 x2 x3))] [])) _ _ _ _
                refine own_go (fun _ k => XS.iconst X10.here hx rfl (hb hby d17_90) k) ?_
                show own_G _ _ _ (T10.setTop (mkF m 91 #[.val (.ref p0), .val (.int p1), .val (.int p2), .val (.int (((p2 + (1 : Int32)) + (own_unit p1 (p2 + (1 : Int32)) x0 x1 x2 x3)) + (own_unit p1 ((p2 + (1 : Int32)) + (own_unit p1 (p2 + (1 : Int32)) x0 x1 x2 x3)) x0 x1 x2 x3))), .val (.int (own_unit p1 (((p2 + (1 : Int32)) + (own_unit p1 (p2 + (1 : Int32)) x0 x1 x2 x3)) + (own_unit p1 ((p2 + (1 : Int32)) + (own_unit p1 (p2 + (1 : Int32)) x0 x1 x2 x3)) x0 x1 x2 x3)) x0 x1 x2 x3))] [(.int (-1 : Int32))])) _ _ _ _
                exact own_endI X10 hx hlk Bd.returns (hb hby d17_91) (by decide) (by decide) (Q := (own_P n0 h0 (some (.int (-1 : Int32))))) ⟨rfl, N10, eh10⟩
              · refine own_ifI hc11 ?_
                refine own_go (fun _ k => XS.ifYes X10.here hx rfl (pc0 := 87) (pc' := 92) rfl (hb hby d17_87) rfl ((if0 _ _).trans (flt hc11).2.1) (by decide) (by decide) k) ?_
                show own_G _ _ _ (T10.setTop (mkF m 92 #[.val (.ref p0), .val (.int p1), .val (.int p2), .val (.int (((p2 + (1 : Int32)) + (own_unit p1 (p2 + (1 : Int32)) x0 x1 x2 x3)) + (own_unit p1 ((p2 + (1 : Int32)) + (own_unit p1 (p2 + (1 : Int32)) x0 x1 x2 x3)) x0 x1 x2 x3))), .val (.int (own_unit p1 (((p2 + (1 : Int32)) + (own_unit p1 (p2 + (1 : Int32)) x0 x1 x2 x3)) + (own_unit p1 ((p2 + (1 : Int32)) + (own_unit p1 (p2 + (1 : Int32)) x0 x1 x2 x3)) x0 x1 x2 x3)) x0 x1 x2 x3))] [])) _ _ _ _
                refine own_go (fun _ k => XS.iload X10.here hx rfl (hb hby d17_92) rfl k) ?_
                show own_G _ _ _ (T10.setTop (mkF m 94 #[.val (.ref p0), .val (.int p1), .val (.int p2), .val (.int (((p2 + (1 : Int32)) + (own_unit p1 (p2 + (1 : Int32)) x0 x1 x2 x3)) + (own_unit p1 ((p2 + (1 : Int32)) + (own_unit p1 (p2 + (1 : Int32)) x0 x1 x2 x3)) x0 x1 x2 x3))), .val (.int (own_unit p1 (((p2 + (1 : Int32)) + (own_unit p1 (p2 + (1 : Int32)) x0 x1 x2 x3)) + (own_unit p1 ((p2 + (1 : Int32)) + (own_unit p1 (p2 + (1 : Int32)) x0 x1 x2 x3)) x0 x1 x2 x3)) x0 x1 x2 x3))] [(.int (own_unit p1 (((p2 + (1 : Int32)) + (own_unit p1 (p2 + (1 : Int32)) x0 x1 x2 x3)) + (own_unit p1 ((p2 + (1 : Int32)) + (own_unit p1 (p2 + (1 : Int32)) x0 x1 x2 x3)) x0 x1 x2 x3)) x0 x1 x2 x3))])) _ _ _ _
                by_cases hc12 : (own_unit p1 (((p2 + (1 : Int32)) + (own_unit p1 (p2 + (1 : Int32)) x0 x1 x2 x3)) + (own_unit p1 ((p2 + (1 : Int32)) + (own_unit p1 (p2 + (1 : Int32)) x0 x1 x2 x3)) x0 x1 x2 x3)) x0 x1 x2 x3) = (0 : Int32)
                · refine own_itI hc12 ?_
                  refine own_go (fun _ k => XS.ifNo X10.here hx rfl (hb hby d17_94) rfl ((if0 _ _).trans (teq hc12).2) k) ?_
                  show own_G _ _ _ (T10.setTop (mkF m 97 #[.val (.ref p0), .val (.int p1), .val (.int p2), .val (.int (((p2 + (1 : Int32)) + (own_unit p1 (p2 + (1 : Int32)) x0 x1 x2 x3)) + (own_unit p1 ((p2 + (1 : Int32)) + (own_unit p1 (p2 + (1 : Int32)) x0 x1 x2 x3)) x0 x1 x2 x3))), .val (.int (own_unit p1 (((p2 + (1 : Int32)) + (own_unit p1 (p2 + (1 : Int32)) x0 x1 x2 x3)) + (own_unit p1 ((p2 + (1 : Int32)) + (own_unit p1 (p2 + (1 : Int32)) x0 x1 x2 x3)) x0 x1 x2 x3)) x0 x1 x2 x3))] [])) _ _ _ _
                  refine own_go (fun _ k => XS.iloadN X10.here hx rfl (hb hby d17_97) rfl k) ?_
                  show own_G _ _ _ (T10.setTop (mkF m 98 #[.val (.ref p0), .val (.int p1), .val (.int p2), .val (.int (((p2 + (1 : Int32)) + (own_unit p1 (p2 + (1 : Int32)) x0 x1 x2 x3)) + (own_unit p1 ((p2 + (1 : Int32)) + (own_unit p1 (p2 + (1 : Int32)) x0 x1 x2 x3)) x0 x1 x2 x3))), .val (.int (own_unit p1 (((p2 + (1 : Int32)) + (own_unit p1 (p2 + (1 : Int32)) x0 x1 x2 x3)) + (own_unit p1 ((p2 + (1 : Int32)) + (own_unit p1 (p2 + (1 : Int32)) x0 x1 x2 x3)) x0 x1 x2 x3)) x0 x1 x2 x3))] [(.int (((p2 + (1 : Int32)) + (own_unit p1 (p2 + (1 : Int32)) x0 x1 x2 x3)) + (own_unit p1 ((p2 + (1 : Int32)) + (own_unit p1 (p2 + (1 : Int32)) x0 x1 x2 x3)) x0 x1 x2 x3)))])) _ _ _ _
                  refine own_go (fun _ k => XS.iconst X10.here hx rfl (hb hby d17_98) k) ?_
                  show own_G _ _ _ (T10.setTop (mkF m 99 #[.val (.ref p0), .val (.int p1), .val (.int p2), .val (.int (((p2 + (1 : Int32)) + (own_unit p1 (p2 + (1 : Int32)) x0 x1 x2 x3)) + (own_unit p1 ((p2 + (1 : Int32)) + (own_unit p1 (p2 + (1 : Int32)) x0 x1 x2 x3)) x0 x1 x2 x3))), .val (.int (own_unit p1 (((p2 + (1 : Int32)) + (own_unit p1 (p2 + (1 : Int32)) x0 x1 x2 x3)) + (own_unit p1 ((p2 + (1 : Int32)) + (own_unit p1 (p2 + (1 : Int32)) x0 x1 x2 x3)) x0 x1 x2 x3)) x0 x1 x2 x3))] [(.int (1 : Int32)), (.int (((p2 + (1 : Int32)) + (own_unit p1 (p2 + (1 : Int32)) x0 x1 x2 x3)) + (own_unit p1 ((p2 + (1 : Int32)) + (own_unit p1 (p2 + (1 : Int32)) x0 x1 x2 x3)) x0 x1 x2 x3)))])) _ _ _ _
                  refine own_go (fun _ k => XS.iadd X10.here hx rfl (hb hby d17_99) rfl k) ?_
                  show own_G _ _ _ (T10.setTop (mkF m 100 #[.val (.ref p0), .val (.int p1), .val (.int p2), .val (.int (((p2 + (1 : Int32)) + (own_unit p1 (p2 + (1 : Int32)) x0 x1 x2 x3)) + (own_unit p1 ((p2 + (1 : Int32)) + (own_unit p1 (p2 + (1 : Int32)) x0 x1 x2 x3)) x0 x1 x2 x3))), .val (.int (own_unit p1 (((p2 + (1 : Int32)) + (own_unit p1 (p2 + (1 : Int32)) x0 x1 x2 x3)) + (own_unit p1 ((p2 + (1 : Int32)) + (own_unit p1 (p2 + (1 : Int32)) x0 x1 x2 x3)) x0 x1 x2 x3)) x0 x1 x2 x3))] [(.int ((((p2 + (1 : Int32)) + (own_unit p1 (p2 + (1 : Int32)) x0 x1 x2 x3)) + (own_unit p1 ((p2 + (1 : Int32)) + (own_unit p1 (p2 + (1 : Int32)) x0 x1 x2 x3)) x0 x1 x2 x3)) + (1 : Int32)))])) _ _ _ _
                  exact own_endI X10 hx hlk Bd.returns (hb hby d17_100) (by decide) (by decide) (Q := (own_P n0 h0 (some (.int ((((p2 + (1 : Int32)) + (own_unit p1 (p2 + (1 : Int32)) x0 x1 x2 x3)) + (own_unit p1 ((p2 + (1 : Int32)) + (own_unit p1 (p2 + (1 : Int32)) x0 x1 x2 x3)) x0 x1 x2 x3)) + (1 : Int32)))))) ⟨rfl, N10, eh10⟩
                · refine own_ifI hc12 ?_
                  refine own_go (fun _ k => XS.ifYes X10.here hx rfl (pc0 := 94) (pc' := 101) rfl (hb hby d17_94) rfl ((if0 _ _).trans (feq hc12).2) (by decide) (by decide) k) ?_
                  show own_G _ _ _ (T10.setTop (mkF m 101 #[.val (.ref p0), .val (.int p1), .val (.int p2), .val (.int (((p2 + (1 : Int32)) + (own_unit p1 (p2 + (1 : Int32)) x0 x1 x2 x3)) + (own_unit p1 ((p2 + (1 : Int32)) + (own_unit p1 (p2 + (1 : Int32)) x0 x1 x2 x3)) x0 x1 x2 x3))), .val (.int (own_unit p1 (((p2 + (1 : Int32)) + (own_unit p1 (p2 + (1 : Int32)) x0 x1 x2 x3)) + (own_unit p1 ((p2 + (1 : Int32)) + (own_unit p1 (p2 + (1 : Int32)) x0 x1 x2 x3)) x0 x1 x2 x3)) x0 x1 x2 x3))] [])) _ _ _ _
                  refine own_go (fun _ k => XS.iloadN X10.here hx rfl (hb hby d17_101) rfl k) ?_
                  show own_G _ _ _ (T10.setTop (mkF m 102 #[.val (.ref p0), .val (.int p1), .val (.int p2), .val (.int (((p2 + (1 : Int32)) + (own_unit p1 (p2 + (1 : Int32)) x0 x1 x2 x3)) + (own_unit p1 ((p2 + (1 : Int32)) + (own_unit p1 (p2 + (1 : Int32)) x0 x1 x2 x3)) x0 x1 x2 x3))), .val (.int (own_unit p1 (((p2 + (1 : Int32)) + (own_unit p1 (p2 + (1 : Int32)) x0 x1 x2 x3)) + (own_unit p1 ((p2 + (1 : Int32)) + (own_unit p1 (p2 + (1 : Int32)) x0 x1 x2 x3)) x0 x1 x2 x3)) x0 x1 x2 x3))] [(.int (((p2 + (1 : Int32)) + (own_unit p1 (p2 + (1 : Int32)) x0 x1 x2 x3)) + (own_unit p1 ((p2 + (1 : Int32)) + (own_unit p1 (p2 + (1 : Int32)) x0 x1 x2 x3)) x0 x1 x2 x3)))])) _ _ _ _
                  refine own_go (fun _ k => XS.iload X10.here hx rfl (hb hby d17_102) rfl k) ?_
                  show own_G _ _ _ (T10.setTop (mkF m 104 #[.val (.ref p0), .val (.int p1), .val (.int p2), .val (.int (((p2 + (1 : Int32)) + (own_unit p1 (p2 + (1 : Int32)) x0 x1 x2 x3)) + (own_unit p1 ((p2 + (1 : Int32)) + (own_unit p1 (p2 + (1 : Int32)) x0 x1 x2 x3)) x0 x1 x2 x3))), .val (.int (own_unit p1 (((p2 + (1 : Int32)) + (own_unit p1 (p2 + (1 : Int32)) x0 x1 x2 x3)) + (own_unit p1 ((p2 + (1 : Int32)) + (own_unit p1 (p2 + (1 : Int32)) x0 x1 x2 x3)) x0 x1 x2 x3)) x0 x1 x2 x3))] [(.int (own_unit p1 (((p2 + (1 : Int32)) + (own_unit p1 (p2 + (1 : Int32)) x0 x1 x2 x3)) + (own_unit p1 ((p2 + (1 : Int32)) + (own_unit p1 (p2 + (1 : Int32)) x0 x1 x2 x3)) x0 x1 x2 x3)) x0 x1 x2 x3)), (.int (((p2 + (1 : Int32)) + (own_unit p1 (p2 + (1 : Int32)) x0 x1 x2 x3)) + (own_unit p1 ((p2 + (1 : Int32)) + (own_unit p1 (p2 + (1 : Int32)) x0 x1 x2 x3)) x0 x1 x2 x3)))])) _ _ _ _
                  refine own_go (fun _ k => XS.iadd X10.here hx rfl (hb hby d17_104) rfl k) ?_
                  show own_G _ _ _ (T10.setTop (mkF m 105 #[.val (.ref p0), .val (.int p1), .val (.int p2), .val (.int (((p2 + (1 : Int32)) + (own_unit p1 (p2 + (1 : Int32)) x0 x1 x2 x3)) + (own_unit p1 ((p2 + (1 : Int32)) + (own_unit p1 (p2 + (1 : Int32)) x0 x1 x2 x3)) x0 x1 x2 x3))), .val (.int (own_unit p1 (((p2 + (1 : Int32)) + (own_unit p1 (p2 + (1 : Int32)) x0 x1 x2 x3)) + (own_unit p1 ((p2 + (1 : Int32)) + (own_unit p1 (p2 + (1 : Int32)) x0 x1 x2 x3)) x0 x1 x2 x3)) x0 x1 x2 x3))] [(.int ((((p2 + (1 : Int32)) + (own_unit p1 (p2 + (1 : Int32)) x0 x1 x2 x3)) + (own_unit p1 ((p2 + (1 : Int32)) + (own_unit p1 (p2 + (1 : Int32)) x0 x1 x2 x3)) x0 x1 x2 x3)) + (own_unit p1 (((p2 + (1 : Int32)) + (own_unit p1 (p2 + (1 : Int32)) x0 x1 x2 x3)) + (own_unit p1 ((p2 + (1 : Int32)) + (own_unit p1 (p2 + (1 : Int32)) x0 x1 x2 x3)) x0 x1 x2 x3)) x0 x1 x2 x3)))])) _ _ _ _
                  refine own_go (fun _ k => XS.istoreN X10.here hx rfl (hb hby d17_105) rfl (l' := #[.val (.ref p0), .val (.int p1), .val (.int p2), .val (.int ((((p2 + (1 : Int32)) + (own_unit p1 (p2 + (1 : Int32)) x0 x1 x2 x3)) + (own_unit p1 ((p2 + (1 : Int32)) + (own_unit p1 (p2 + (1 : Int32)) x0 x1 x2 x3)) x0 x1 x2 x3)) + (own_unit p1 (((p2 + (1 : Int32)) + (own_unit p1 (p2 + (1 : Int32)) x0 x1 x2 x3)) + (own_unit p1 ((p2 + (1 : Int32)) + (own_unit p1 (p2 + (1 : Int32)) x0 x1 x2 x3)) x0 x1 x2 x3)) x0 x1 x2 x3))), .val (.int (own_unit p1 (((p2 + (1 : Int32)) + (own_unit p1 (p2 + (1 : Int32)) x0 x1 x2 x3)) + (own_unit p1 ((p2 + (1 : Int32)) + (own_unit p1 (p2 + (1 : Int32)) x0 x1 x2 x3)) x0 x1 x2 x3)) x0 x1 x2 x3))]) rfl k) ?_
                  show own_G _ _ _ (T10.setTop (mkF m 106 #[.val (.ref p0), .val (.int p1), .val (.int p2), .val (.int ((((p2 + (1 : Int32)) + (own_unit p1 (p2 + (1 : Int32)) x0 x1 x2 x3)) + (own_unit p1 ((p2 + (1 : Int32)) + (own_unit p1 (p2 + (1 : Int32)) x0 x1 x2 x3)) x0 x1 x2 x3)) + (own_unit p1 (((p2 + (1 : Int32)) + (own_unit p1 (p2 + (1 : Int32)) x0 x1 x2 x3)) + (own_unit p1 ((p2 + (1 : Int32)) + (own_unit p1 (p2 + (1 : Int32)) x0 x1 x2 x3)) x0 x1 x2 x3)) x0 x1 x2 x3))), .val (.int (own_unit p1 (((p2 + (1 : Int32)) + (own_unit p1 (p2 + (1 : Int32)) x0 x1 x2 x3)) + (own_unit p1 ((p2 + (1 : Int32)) + (own_unit p1 (p2 + (1 : Int32)) x0 x1 x2 x3)) x0 x1 x2 x3)) x0 x1 x2 x3))] [])) _ _ _ _
                  refine own_go (fun _ k => XS.aloadN X10.here hx rfl (hb hby d17_106) rfl rfl k) ?_
                  show own_G _ _ _ (T10.setTop (mkF m 107 #[.val (.ref p0), .val (.int p1), .val (.int p2), .val (.int ((((p2 + (1 : Int32)) + (own_unit p1 (p2 + (1 : Int32)) x0 x1 x2 x3)) + (own_unit p1 ((p2 + (1 : Int32)) + (own_unit p1 (p2 + (1 : Int32)) x0 x1 x2 x3)) x0 x1 x2 x3)) + (own_unit p1 (((p2 + (1 : Int32)) + (own_unit p1 (p2 + (1 : Int32)) x0 x1 x2 x3)) + (own_unit p1 ((p2 + (1 : Int32)) + (own_unit p1 (p2 + (1 : Int32)) x0 x1 x2 x3)) x0 x1 x2 x3)) x0 x1 x2 x3))), .val (.int (own_unit p1 (((p2 + (1 : Int32)) + (own_unit p1 (p2 + (1 : Int32)) x0 x1 x2 x3)) + (own_unit p1 ((p2 + (1 : Int32)) + (own_unit p1 (p2 + (1 : Int32)) x0 x1 x2 x3)) x0 x1 x2 x3)) x0 x1 x2 x3))] [(.ref p0)])) _ _ _ _
                  refine own_go (fun _ k => XS.iloadN X10.here hx rfl (hb hby d17_107) rfl k) ?_
                  show own_G _ _ _ (T10.setTop (mkF m 108 #[.val (.ref p0), .val (.int p1), .val (.int p2), .val (.int ((((p2 + (1 : Int32)) + (own_unit p1 (p2 + (1 : Int32)) x0 x1 x2 x3)) + (own_unit p1 ((p2 + (1 : Int32)) + (own_unit p1 (p2 + (1 : Int32)) x0 x1 x2 x3)) x0 x1 x2 x3)) + (own_unit p1 (((p2 + (1 : Int32)) + (own_unit p1 (p2 + (1 : Int32)) x0 x1 x2 x3)) + (own_unit p1 ((p2 + (1 : Int32)) + (own_unit p1 (p2 + (1 : Int32)) x0 x1 x2 x3)) x0 x1 x2 x3)) x0 x1 x2 x3))), .val (.int (own_unit p1 (((p2 + (1 : Int32)) + (own_unit p1 (p2 + (1 : Int32)) x0 x1 x2 x3)) + (own_unit p1 ((p2 + (1 : Int32)) + (own_unit p1 (p2 + (1 : Int32)) x0 x1 x2 x3)) x0 x1 x2 x3)) x0 x1 x2 x3))] [(.int p1), (.ref p0)])) _ _ _ _
                  refine own_go (fun _ k => XS.iloadN X10.here hx rfl (hb hby d17_108) rfl k) ?_
                  show own_G _ _ _ (T10.setTop (mkF m 109 #[.val (.ref p0), .val (.int p1), .val (.int p2), .val (.int ((((p2 + (1 : Int32)) + (own_unit p1 (p2 + (1 : Int32)) x0 x1 x2 x3)) + (own_unit p1 ((p2 + (1 : Int32)) + (own_unit p1 (p2 + (1 : Int32)) x0 x1 x2 x3)) x0 x1 x2 x3)) + (own_unit p1 (((p2 + (1 : Int32)) + (own_unit p1 (p2 + (1 : Int32)) x0 x1 x2 x3)) + (own_unit p1 ((p2 + (1 : Int32)) + (own_unit p1 (p2 + (1 : Int32)) x0 x1 x2 x3)) x0 x1 x2 x3)) x0 x1 x2 x3))), .val (.int (own_unit p1 (((p2 + (1 : Int32)) + (own_unit p1 (p2 + (1 : Int32)) x0 x1 x2 x3)) + (own_unit p1 ((p2 + (1 : Int32)) + (own_unit p1 (p2 + (1 : Int32)) x0 x1 x2 x3)) x0 x1 x2 x3)) x0 x1 x2 x3))] [(.int ((((p2 + (1 : Int32)) + (own_unit p1 (p2 + (1 : Int32)) x0 x1 x2 x3)) + (own_unit p1 ((p2 + (1 : Int32)) + (own_unit p1 (p2 + (1 : Int32)) x0 x1 x2 x3)) x0 x1 x2 x3)) + (own_unit p1 (((p2 + (1 : Int32)) + (own_unit p1 (p2 + (1 : Int32)) x0 x1 x2 x3)) + (own_unit p1 ((p2 + (1 : Int32)) + (own_unit p1 (p2 + (1 : Int32)) x0 x1 x2 x3)) x0 x1 x2 x3)) x0 x1 x2 x3))), (.int p1), (.ref p0)])) _ _ _ _
                  obtain ⟨_, _, ⟨T13, L13, k13, n13⟩, -, X13, ⟨Lc13, hQ13, l13, y13, z13⟩, st13⟩ := Jvm.LawKit.callS X10 hx (y := (⟨"com/example/floe/floe/rest/FramingLinesQuotedStringEndPinLaw", "unit", "([CII)I"⟩ : MethodName)) hown (mvT hZ (hw _ (List.mem_of_getElem? (i := 79) rfl))) (mvT hZ (hw _ (List.mem_of_getElem? (i := 80) rfl))) (mvT hZ (hw _ (List.mem_of_getElem? (i := 3) rfl))) (mvT hZ (hw _ (List.mem_of_getElem? (i := 81) rfl))) (by decide) (backOf (W := 0) (rm19 l Z a0 hw [] p0 p1 ((((p2 + (1 : Int32)) + (own_unit p1 (p2 + (1 : Int32)) x0 x1 x2 x3)) + (own_unit p1 ((p2 + (1 : Int32)) + (own_unit p1 (p2 + (1 : Int32)) x0 x1 x2 x3)) x0 x1 x2 x3)) + (own_unit p1 (((p2 + (1 : Int32)) + (own_unit p1 (p2 + (1 : Int32)) x0 x1 x2 x3)) + (own_unit p1 ((p2 + (1 : Int32)) + (own_unit p1 (p2 + (1 : Int32)) x0 x1 x2 x3)) x0 x1 x2 x3)) x0 x1 x2 x3)) kc x0 x1 x2 x3 h0 n0 Z0 P_V_p0 h4 ((own_a2 (K := 10) (own_a2 (K := 8) (own_a2 (K := 6) (own_a1 hz0 hs) hc5 (own_unit_le _ _ _ _ _ _) (by decide)) hc8 (own_unit_le _ _ _ _ _ _) (by decide)) hc11 (own_unit_le _ _ _ _ _ _) (by decide)).1)) hZ (hw _ (List.mem_of_getElem? (i := 81) rfl)) (hw _ (List.mem_of_getElem? (i := 3) rfl)) (by decide) (by decide)) (g := (mkF m 109 #[.val (.ref p0), .val (.int p1), .val (.int p2), .val (.int ((((p2 + (1 : Int32)) + (own_unit p1 (p2 + (1 : Int32)) x0 x1 x2 x3)) + (own_unit p1 ((p2 + (1 : Int32)) + (own_unit p1 (p2 + (1 : Int32)) x0 x1 x2 x3)) x0 x1 x2 x3)) + (own_unit p1 (((p2 + (1 : Int32)) + (own_unit p1 (p2 + (1 : Int32)) x0 x1 x2 x3)) + (own_unit p1 ((p2 + (1 : Int32)) + (own_unit p1 (p2 + (1 : Int32)) x0 x1 x2 x3)) x0 x1 x2 x3)) x0 x1 x2 x3))), .val (.int (own_unit p1 (((p2 + (1 : Int32)) + (own_unit p1 (p2 + (1 : Int32)) x0 x1 x2 x3)) + (own_unit p1 ((p2 + (1 : Int32)) + (own_unit p1 (p2 + (1 : Int32)) x0 x1 x2 x3)) x0 x1 x2 x3)) x0 x1 x2 x3))] [(.int ((((p2 + (1 : Int32)) + (own_unit p1 (p2 + (1 : Int32)) x0 x1 x2 x3)) + (own_unit p1 ((p2 + (1 : Int32)) + (own_unit p1 (p2 + (1 : Int32)) x0 x1 x2 x3)) x0 x1 x2 x3)) + (own_unit p1 (((p2 + (1 : Int32)) + (own_unit p1 (p2 + (1 : Int32)) x0 x1 x2 x3)) + (own_unit p1 ((p2 + (1 : Int32)) + (own_unit p1 (p2 + (1 : Int32)) x0 x1 x2 x3)) x0 x1 x2 x3)) x0 x1 x2 x3))), (.int p1), (.ref p0)])) rfl (by rw [hml]; rfl) (argsL := [(.ref p0), (.int p1), (.int ((((p2 + (1 : Int32)) + (own_unit p1 (p2 + (1 : Int32)) x0 x1 x2 x3)) + (own_unit p1 ((p2 + (1 : Int32)) + (own_unit p1 (p2 + (1 : Int32)) x0 x1 x2 x3)) x0 x1 x2 x3)) + (own_unit p1 (((p2 + (1 : Int32)) + (own_unit p1 (p2 + (1 : Int32)) x0 x1 x2 x3)) + (own_unit p1 ((p2 + (1 : Int32)) + (own_unit p1 (p2 + (1 : Int32)) x0 x1 x2 x3)) x0 x1 x2 x3)) x0 x1 x2 x3)))]) (rest := []) (lenOf pd_5 rfl) rfl (by show 2 * 0 + _ ≤ _; exact Nat.le_of_eq rfl) (hb hby d17_109) (fun _ _ => ⟨rfl, eh10, (by decide : 0 + 0 ≤ _), (by decide : 0 + 0 ≤ _)⟩)
                  dsimp only [Pt.U, Pt.locs, Pt.cells, Pt.slots] at X13 l13 y13 z13 st13 hQ13
                  subst l13 y13 z13
                  obtain ⟨rfl, Nq13, eh13⟩ := hQ13
                  have N13 := Fr.app N10 Nq13
                  refine own_go (fun _ k => st13 _ k) ?_
                  show own_G _ _ _ (T13.setTop (mkF m 112 #[.val (.ref p0), .val (.int p1), .val (.int p2), .val (.int ((((p2 + (1 : Int32)) + (own_unit p1 (p2 + (1 : Int32)) x0 x1 x2 x3)) + (own_unit p1 ((p2 + (1 : Int32)) + (own_unit p1 (p2 + (1 : Int32)) x0 x1 x2 x3)) x0 x1 x2 x3)) + (own_unit p1 (((p2 + (1 : Int32)) + (own_unit p1 (p2 + (1 : Int32)) x0 x1 x2 x3)) + (own_unit p1 ((p2 + (1 : Int32)) + (own_unit p1 (p2 + (1 : Int32)) x0 x1 x2 x3)) x0 x1 x2 x3)) x0 x1 x2 x3))), .val (.int (own_unit p1 (((p2 + (1 : Int32)) + (own_unit p1 (p2 + (1 : Int32)) x0 x1 x2 x3)) + (own_unit p1 ((p2 + (1 : Int32)) + (own_unit p1 (p2 + (1 : Int32)) x0 x1 x2 x3)) x0 x1 x2 x3)) x0 x1 x2 x3))] [(.int (own_unit p1 ((((p2 + (1 : Int32)) + (own_unit p1 (p2 + (1 : Int32)) x0 x1 x2 x3)) + (own_unit p1 ((p2 + (1 : Int32)) + (own_unit p1 (p2 + (1 : Int32)) x0 x1 x2 x3)) x0 x1 x2 x3)) + (own_unit p1 (((p2 + (1 : Int32)) + (own_unit p1 (p2 + (1 : Int32)) x0 x1 x2 x3)) + (own_unit p1 ((p2 + (1 : Int32)) + (own_unit p1 (p2 + (1 : Int32)) x0 x1 x2 x3)) x0 x1 x2 x3)) x0 x1 x2 x3)) x0 x1 x2 x3))])) _ _ _ _
                  refine own_go (fun _ k => XS.istore X13.here hx rfl (hb hby d17_112) rfl (l' := #[.val (.ref p0), .val (.int p1), .val (.int p2), .val (.int ((((p2 + (1 : Int32)) + (own_unit p1 (p2 + (1 : Int32)) x0 x1 x2 x3)) + (own_unit p1 ((p2 + (1 : Int32)) + (own_unit p1 (p2 + (1 : Int32)) x0 x1 x2 x3)) x0 x1 x2 x3)) + (own_unit p1 (((p2 + (1 : Int32)) + (own_unit p1 (p2 + (1 : Int32)) x0 x1 x2 x3)) + (own_unit p1 ((p2 + (1 : Int32)) + (own_unit p1 (p2 + (1 : Int32)) x0 x1 x2 x3)) x0 x1 x2 x3)) x0 x1 x2 x3))), .val (.int (own_unit p1 ((((p2 + (1 : Int32)) + (own_unit p1 (p2 + (1 : Int32)) x0 x1 x2 x3)) + (own_unit p1 ((p2 + (1 : Int32)) + (own_unit p1 (p2 + (1 : Int32)) x0 x1 x2 x3)) x0 x1 x2 x3)) + (own_unit p1 (((p2 + (1 : Int32)) + (own_unit p1 (p2 + (1 : Int32)) x0 x1 x2 x3)) + (own_unit p1 ((p2 + (1 : Int32)) + (own_unit p1 (p2 + (1 : Int32)) x0 x1 x2 x3)) x0 x1 x2 x3)) x0 x1 x2 x3)) x0 x1 x2 x3))]) rfl k) ?_
                  show own_G _ _ _ (T13.setTop (mkF m 114 #[.val (.ref p0), .val (.int p1), .val (.int p2), .val (.int ((((p2 + (1 : Int32)) + (own_unit p1 (p2 + (1 : Int32)) x0 x1 x2 x3)) + (own_unit p1 ((p2 + (1 : Int32)) + (own_unit p1 (p2 + (1 : Int32)) x0 x1 x2 x3)) x0 x1 x2 x3)) + (own_unit p1 (((p2 + (1 : Int32)) + (own_unit p1 (p2 + (1 : Int32)) x0 x1 x2 x3)) + (own_unit p1 ((p2 + (1 : Int32)) + (own_unit p1 (p2 + (1 : Int32)) x0 x1 x2 x3)) x0 x1 x2 x3)) x0 x1 x2 x3))), .val (.int (own_unit p1 ((((p2 + (1 : Int32)) + (own_unit p1 (p2 + (1 : Int32)) x0 x1 x2 x3)) + (own_unit p1 ((p2 + (1 : Int32)) + (own_unit p1 (p2 + (1 : Int32)) x0 x1 x2 x3)) x0 x1 x2 x3)) + (own_unit p1 (((p2 + (1 : Int32)) + (own_unit p1 (p2 + (1 : Int32)) x0 x1 x2 x3)) + (own_unit p1 ((p2 + (1 : Int32)) + (own_unit p1 (p2 + (1 : Int32)) x0 x1 x2 x3)) x0 x1 x2 x3)) x0 x1 x2 x3)) x0 x1 x2 x3))] [])) _ _ _ _
                  refine own_go (fun _ k => XS.iload X13.here hx rfl (hb hby d17_114) rfl k) ?_
                  show own_G _ _ _ (T13.setTop (mkF m 116 #[.val (.ref p0), .val (.int p1), .val (.int p2), .val (.int ((((p2 + (1 : Int32)) + (own_unit p1 (p2 + (1 : Int32)) x0 x1 x2 x3)) + (own_unit p1 ((p2 + (1 : Int32)) + (own_unit p1 (p2 + (1 : Int32)) x0 x1 x2 x3)) x0 x1 x2 x3)) + (own_unit p1 (((p2 + (1 : Int32)) + (own_unit p1 (p2 + (1 : Int32)) x0 x1 x2 x3)) + (own_unit p1 ((p2 + (1 : Int32)) + (own_unit p1 (p2 + (1 : Int32)) x0 x1 x2 x3)) x0 x1 x2 x3)) x0 x1 x2 x3))), .val (.int (own_unit p1 ((((p2 + (1 : Int32)) + (own_unit p1 (p2 + (1 : Int32)) x0 x1 x2 x3)) + (own_unit p1 ((p2 + (1 : Int32)) + (own_unit p1 (p2 + (1 : Int32)) x0 x1 x2 x3)) x0 x1 x2 x3)) + (own_unit p1 (((p2 + (1 : Int32)) + (own_unit p1 (p2 + (1 : Int32)) x0 x1 x2 x3)) + (own_unit p1 ((p2 + (1 : Int32)) + (own_unit p1 (p2 + (1 : Int32)) x0 x1 x2 x3)) x0 x1 x2 x3)) x0 x1 x2 x3)) x0 x1 x2 x3))] [(.int (own_unit p1 ((((p2 + (1 : Int32)) + (own_unit p1 (p2 + (1 : Int32)) x0 x1 x2 x3)) + (own_unit p1 ((p2 + (1 : Int32)) + (own_unit p1 (p2 + (1 : Int32)) x0 x1 x2 x3)) x0 x1 x2 x3)) + (own_unit p1 (((p2 + (1 : Int32)) + (own_unit p1 (p2 + (1 : Int32)) x0 x1 x2 x3)) + (own_unit p1 ((p2 + (1 : Int32)) + (own_unit p1 (p2 + (1 : Int32)) x0 x1 x2 x3)) x0 x1 x2 x3)) x0 x1 x2 x3)) x0 x1 x2 x3))])) _ _ _ _
                  by_cases hc14 : (own_unit p1 ((((p2 + (1 : Int32)) + (own_unit p1 (p2 + (1 : Int32)) x0 x1 x2 x3)) + (own_unit p1 ((p2 + (1 : Int32)) + (own_unit p1 (p2 + (1 : Int32)) x0 x1 x2 x3)) x0 x1 x2 x3)) + (own_unit p1 (((p2 + (1 : Int32)) + (own_unit p1 (p2 + (1 : Int32)) x0 x1 x2 x3)) + (own_unit p1 ((p2 + (1 : Int32)) + (own_unit p1 (p2 + (1 : Int32)) x0 x1 x2 x3)) x0 x1 x2 x3)) x0 x1 x2 x3)) x0 x1 x2 x3) < (0 : Int32)
                  · refine own_itI hc14 ?_
                    refine own_go (fun _ k => XS.ifNo X13.here hx rfl (hb hby d17_116) rfl ((if0 _ _).trans (tlt hc14).2.1) k) ?_
                    show own_G _ _ _ (T13.setTop (mkF m 119 #[.val (.ref p0), .val (.int p1), .val (.int p2), .val (.int ((((p2 + (1 : Int32)) + (own_unit p1 (p2 + (1 : Int32)) x0 x1 x2 x3)) + (own_unit p1 ((p2 + (1 : Int32)) + (own_unit p1 (p2 + (1 : Int32)) x0 x1 x2 x3)) x0 x1 x2 x3)) + (own_unit p1 (((p2 + (1 : Int32)) + (own_unit p1 (p2 + (1 : Int32)) x0 x1 x2 x3)) + (own_unit p1 ((p2 + (1 : Int32)) + (own_unit p1 (p2 + (1 : Int32)) x0 x1 x2 x3)) x0 x1 x2 x3)) x0 x1 x2 x3))), .val (.int (own_unit p1 ((((p2 + (1 : Int32)) + (own_unit p1 (p2 + (1 : Int32)) x0 x1 x2 x3)) + (own_unit p1 ((p2 + (1 : Int32)) + (own_unit p1 (p2 + (1 : Int32)) x0 x1 x2 x3)) x0 x1 x2 x3)) + (own_unit p1 (((p2 + (1 : Int32)) + (own_unit p1 (p2 + (1 : Int32)) x0 x1 x2 x3)) + (own_unit p1 ((p2 + (1 : Int32)) + (own_unit p1 (p2 + (1 : Int32)) x0 x1 x2 x3)) x0 x1 x2 x3)) x0 x1 x2 x3)) x0 x1 x2 x3))] [])) _ _ _ _
                    refine own_go (fun _ k => XS.iconst X13.here hx rfl (hb hby d17_119) k) ?_
                    show own_G _ _ _ (T13.setTop (mkF m 120 #[.val (.ref p0), .val (.int p1), .val (.int p2), .val (.int ((((p2 + (1 : Int32)) + (own_unit p1 (p2 + (1 : Int32)) x0 x1 x2 x3)) + (own_unit p1 ((p2 + (1 : Int32)) + (own_unit p1 (p2 + (1 : Int32)) x0 x1 x2 x3)) x0 x1 x2 x3)) + (own_unit p1 (((p2 + (1 : Int32)) + (own_unit p1 (p2 + (1 : Int32)) x0 x1 x2 x3)) + (own_unit p1 ((p2 + (1 : Int32)) + (own_unit p1 (p2 + (1 : Int32)) x0 x1 x2 x3)) x0 x1 x2 x3)) x0 x1 x2 x3))), .val (.int (own_unit p1 ((((p2 + (1 : Int32)) + (own_unit p1 (p2 + (1 : Int32)) x0 x1 x2 x3)) + (own_unit p1 ((p2 + (1 : Int32)) + (own_unit p1 (p2 + (1 : Int32)) x0 x1 x2 x3)) x0 x1 x2 x3)) + (own_unit p1 (((p2 + (1 : Int32)) + (own_unit p1 (p2 + (1 : Int32)) x0 x1 x2 x3)) + (own_unit p1 ((p2 + (1 : Int32)) + (own_unit p1 (p2 + (1 : Int32)) x0 x1 x2 x3)) x0 x1 x2 x3)) x0 x1 x2 x3)) x0 x1 x2 x3))] [(.int (-1 : Int32))])) _ _ _ _
                    exact own_endI X13 hx hlk Bd.returns (hb hby d17_120) (by decide) (by decide) (Q := (own_P n0 h0 (some (.int (-1 : Int32))))) ⟨rfl, N13, eh13⟩
                  · refine own_ifI hc14 ?_
                    refine own_go (fun _ k => XS.ifYes X13.here hx rfl (pc0 := 116) (pc' := 121) rfl (hb hby d17_116) rfl ((if0 _ _).trans (flt hc14).2.1) (by decide) (by decide) k) ?_
                    show own_G _ _ _ (T13.setTop (mkF m 121 #[.val (.ref p0), .val (.int p1), .val (.int p2), .val (.int ((((p2 + (1 : Int32)) + (own_unit p1 (p2 + (1 : Int32)) x0 x1 x2 x3)) + (own_unit p1 ((p2 + (1 : Int32)) + (own_unit p1 (p2 + (1 : Int32)) x0 x1 x2 x3)) x0 x1 x2 x3)) + (own_unit p1 (((p2 + (1 : Int32)) + (own_unit p1 (p2 + (1 : Int32)) x0 x1 x2 x3)) + (own_unit p1 ((p2 + (1 : Int32)) + (own_unit p1 (p2 + (1 : Int32)) x0 x1 x2 x3)) x0 x1 x2 x3)) x0 x1 x2 x3))), .val (.int (own_unit p1 ((((p2 + (1 : Int32)) + (own_unit p1 (p2 + (1 : Int32)) x0 x1 x2 x3)) + (own_unit p1 ((p2 + (1 : Int32)) + (own_unit p1 (p2 + (1 : Int32)) x0 x1 x2 x3)) x0 x1 x2 x3)) + (own_unit p1 (((p2 + (1 : Int32)) + (own_unit p1 (p2 + (1 : Int32)) x0 x1 x2 x3)) + (own_unit p1 ((p2 + (1 : Int32)) + (own_unit p1 (p2 + (1 : Int32)) x0 x1 x2 x3)) x0 x1 x2 x3)) x0 x1 x2 x3)) x0 x1 x2 x3))] [])) _ _ _ _
                    refine own_go (fun _ k => XS.iload X13.here hx rfl (hb hby d17_121) rfl k) ?_
                    show own_G _ _ _ (T13.setTop (mkF m 123 #[.val (.ref p0), .val (.int p1), .val (.int p2), .val (.int ((((p2 + (1 : Int32)) + (own_unit p1 (p2 + (1 : Int32)) x0 x1 x2 x3)) + (own_unit p1 ((p2 + (1 : Int32)) + (own_unit p1 (p2 + (1 : Int32)) x0 x1 x2 x3)) x0 x1 x2 x3)) + (own_unit p1 (((p2 + (1 : Int32)) + (own_unit p1 (p2 + (1 : Int32)) x0 x1 x2 x3)) + (own_unit p1 ((p2 + (1 : Int32)) + (own_unit p1 (p2 + (1 : Int32)) x0 x1 x2 x3)) x0 x1 x2 x3)) x0 x1 x2 x3))), .val (.int (own_unit p1 ((((p2 + (1 : Int32)) + (own_unit p1 (p2 + (1 : Int32)) x0 x1 x2 x3)) + (own_unit p1 ((p2 + (1 : Int32)) + (own_unit p1 (p2 + (1 : Int32)) x0 x1 x2 x3)) x0 x1 x2 x3)) + (own_unit p1 (((p2 + (1 : Int32)) + (own_unit p1 (p2 + (1 : Int32)) x0 x1 x2 x3)) + (own_unit p1 ((p2 + (1 : Int32)) + (own_unit p1 (p2 + (1 : Int32)) x0 x1 x2 x3)) x0 x1 x2 x3)) x0 x1 x2 x3)) x0 x1 x2 x3))] [(.int (own_unit p1 ((((p2 + (1 : Int32)) + (own_unit p1 (p2 + (1 : Int32)) x0 x1 x2 x3)) + (own_unit p1 ((p2 + (1 : Int32)) + (own_unit p1 (p2 + (1 : Int32)) x0 x1 x2 x3)) x0 x1 x2 x3)) + (own_unit p1 (((p2 + (1 : Int32)) + (own_unit p1 (p2 + (1 : Int32)) x0 x1 x2 x3)) + (own_unit p1 ((p2 + (1 : Int32)) + (own_unit p1 (p2 + (1 : Int32)) x0 x1 x2 x3)) x0 x1 x2 x3)) x0 x1 x2 x3)) x0 x1 x2 x3))])) _ _ _ _
                    by_cases hc15 : (own_unit p1 ((((p2 + (1 : Int32)) + (own_unit p1 (p2 + (1 : Int32)) x0 x1 x2 x3)) + (own_unit p1 ((p2 + (1 : Int32)) + (own_unit p1 (p2 + (1 : Int32)) x0 x1 x2 x3)) x0 x1 x2 x3)) + (own_unit p1 (((p2 + (1 : Int32)) + (own_unit p1 (p2 + (1 : Int32)) x0 x1 x2 x3)) + (own_unit p1 ((p2 + (1 : Int32)) + (own_unit p1 (p2 + (1 : Int32)) x0 x1 x2 x3)) x0 x1 x2 x3)) x0 x1 x2 x3)) x0 x1 x2 x3) = (0 : Int32)
                    · refine own_itI hc15 ?_
                      refine own_go (fun _ k => XS.ifNo X13.here hx rfl (hb hby d17_123) rfl ((if0 _ _).trans (teq hc15).2) k) ?_
                      show own_G _ _ _ (T13.setTop (mkF m 126 #[.val (.ref p0), .val (.int p1), .val (.int p2), .val (.int ((((p2 + (1 : Int32)) + (own_unit p1 (p2 + (1 : Int32)) x0 x1 x2 x3)) + (own_unit p1 ((p2 + (1 : Int32)) + (own_unit p1 (p2 + (1 : Int32)) x0 x1 x2 x3)) x0 x1 x2 x3)) + (own_unit p1 (((p2 + (1 : Int32)) + (own_unit p1 (p2 + (1 : Int32)) x0 x1 x2 x3)) + (own_unit p1 ((p2 + (1 : Int32)) + (own_unit p1 (p2 + (1 : Int32)) x0 x1 x2 x3)) x0 x1 x2 x3)) x0 x1 x2 x3))), .val (.int (own_unit p1 ((((p2 + (1 : Int32)) + (own_unit p1 (p2 + (1 : Int32)) x0 x1 x2 x3)) + (own_unit p1 ((p2 + (1 : Int32)) + (own_unit p1 (p2 + (1 : Int32)) x0 x1 x2 x3)) x0 x1 x2 x3)) + (own_unit p1 (((p2 + (1 : Int32)) + (own_unit p1 (p2 + (1 : Int32)) x0 x1 x2 x3)) + (own_unit p1 ((p2 + (1 : Int32)) + (own_unit p1 (p2 + (1 : Int32)) x0 x1 x2 x3)) x0 x1 x2 x3)) x0 x1 x2 x3)) x0 x1 x2 x3))] [])) _ _ _ _
                      refine own_go (fun _ k => XS.iloadN X13.here hx rfl (hb hby d17_126) rfl k) ?_
                      show own_G _ _ _ (T13.setTop (mkF m 127 #[.val (.ref p0), .val (.int p1), .val (.int p2), .val (.int ((((p2 + (1 : Int32)) + (own_unit p1 (p2 + (1 : Int32)) x0 x1 x2 x3)) + (own_unit p1 ((p2 + (1 : Int32)) + (own_unit p1 (p2 + (1 : Int32)) x0 x1 x2 x3)) x0 x1 x2 x3)) + (own_unit p1 (((p2 + (1 : Int32)) + (own_unit p1 (p2 + (1 : Int32)) x0 x1 x2 x3)) + (own_unit p1 ((p2 + (1 : Int32)) + (own_unit p1 (p2 + (1 : Int32)) x0 x1 x2 x3)) x0 x1 x2 x3)) x0 x1 x2 x3))), .val (.int (own_unit p1 ((((p2 + (1 : Int32)) + (own_unit p1 (p2 + (1 : Int32)) x0 x1 x2 x3)) + (own_unit p1 ((p2 + (1 : Int32)) + (own_unit p1 (p2 + (1 : Int32)) x0 x1 x2 x3)) x0 x1 x2 x3)) + (own_unit p1 (((p2 + (1 : Int32)) + (own_unit p1 (p2 + (1 : Int32)) x0 x1 x2 x3)) + (own_unit p1 ((p2 + (1 : Int32)) + (own_unit p1 (p2 + (1 : Int32)) x0 x1 x2 x3)) x0 x1 x2 x3)) x0 x1 x2 x3)) x0 x1 x2 x3))] [(.int ((((p2 + (1 : Int32)) + (own_unit p1 (p2 + (1 : Int32)) x0 x1 x2 x3)) + (own_unit p1 ((p2 + (1 : Int32)) + (own_unit p1 (p2 + (1 : Int32)) x0 x1 x2 x3)) x0 x1 x2 x3)) + (own_unit p1 (((p2 + (1 : Int32)) + (own_unit p1 (p2 + (1 : Int32)) x0 x1 x2 x3)) + (own_unit p1 ((p2 + (1 : Int32)) + (own_unit p1 (p2 + (1 : Int32)) x0 x1 x2 x3)) x0 x1 x2 x3)) x0 x1 x2 x3)))])) _ _ _ _
                      refine own_go (fun _ k => XS.iconst X13.here hx rfl (hb hby d17_127) k) ?_
                      show own_G _ _ _ (T13.setTop (mkF m 128 #[.val (.ref p0), .val (.int p1), .val (.int p2), .val (.int ((((p2 + (1 : Int32)) + (own_unit p1 (p2 + (1 : Int32)) x0 x1 x2 x3)) + (own_unit p1 ((p2 + (1 : Int32)) + (own_unit p1 (p2 + (1 : Int32)) x0 x1 x2 x3)) x0 x1 x2 x3)) + (own_unit p1 (((p2 + (1 : Int32)) + (own_unit p1 (p2 + (1 : Int32)) x0 x1 x2 x3)) + (own_unit p1 ((p2 + (1 : Int32)) + (own_unit p1 (p2 + (1 : Int32)) x0 x1 x2 x3)) x0 x1 x2 x3)) x0 x1 x2 x3))), .val (.int (own_unit p1 ((((p2 + (1 : Int32)) + (own_unit p1 (p2 + (1 : Int32)) x0 x1 x2 x3)) + (own_unit p1 ((p2 + (1 : Int32)) + (own_unit p1 (p2 + (1 : Int32)) x0 x1 x2 x3)) x0 x1 x2 x3)) + (own_unit p1 (((p2 + (1 : Int32)) + (own_unit p1 (p2 + (1 : Int32)) x0 x1 x2 x3)) + (own_unit p1 ((p2 + (1 : Int32)) + (own_unit p1 (p2 + (1 : Int32)) x0 x1 x2 x3)) x0 x1 x2 x3)) x0 x1 x2 x3)) x0 x1 x2 x3))] [(.int (1 : Int32)), (.int ((((p2 + (1 : Int32)) + (own_unit p1 (p2 + (1 : Int32)) x0 x1 x2 x3)) + (own_unit p1 ((p2 + (1 : Int32)) + (own_unit p1 (p2 + (1 : Int32)) x0 x1 x2 x3)) x0 x1 x2 x3)) + (own_unit p1 (((p2 + (1 : Int32)) + (own_unit p1 (p2 + (1 : Int32)) x0 x1 x2 x3)) + (own_unit p1 ((p2 + (1 : Int32)) + (own_unit p1 (p2 + (1 : Int32)) x0 x1 x2 x3)) x0 x1 x2 x3)) x0 x1 x2 x3)))])) _ _ _ _
                      refine own_go (fun _ k => XS.iadd X13.here hx rfl (hb hby d17_128) rfl k) ?_
                      show own_G _ _ _ (T13.setTop (mkF m 129 #[.val (.ref p0), .val (.int p1), .val (.int p2), .val (.int ((((p2 + (1 : Int32)) + (own_unit p1 (p2 + (1 : Int32)) x0 x1 x2 x3)) + (own_unit p1 ((p2 + (1 : Int32)) + (own_unit p1 (p2 + (1 : Int32)) x0 x1 x2 x3)) x0 x1 x2 x3)) + (own_unit p1 (((p2 + (1 : Int32)) + (own_unit p1 (p2 + (1 : Int32)) x0 x1 x2 x3)) + (own_unit p1 ((p2 + (1 : Int32)) + (own_unit p1 (p2 + (1 : Int32)) x0 x1 x2 x3)) x0 x1 x2 x3)) x0 x1 x2 x3))), .val (.int (own_unit p1 ((((p2 + (1 : Int32)) + (own_unit p1 (p2 + (1 : Int32)) x0 x1 x2 x3)) + (own_unit p1 ((p2 + (1 : Int32)) + (own_unit p1 (p2 + (1 : Int32)) x0 x1 x2 x3)) x0 x1 x2 x3)) + (own_unit p1 (((p2 + (1 : Int32)) + (own_unit p1 (p2 + (1 : Int32)) x0 x1 x2 x3)) + (own_unit p1 ((p2 + (1 : Int32)) + (own_unit p1 (p2 + (1 : Int32)) x0 x1 x2 x3)) x0 x1 x2 x3)) x0 x1 x2 x3)) x0 x1 x2 x3))] [(.int (((((p2 + (1 : Int32)) + (own_unit p1 (p2 + (1 : Int32)) x0 x1 x2 x3)) + (own_unit p1 ((p2 + (1 : Int32)) + (own_unit p1 (p2 + (1 : Int32)) x0 x1 x2 x3)) x0 x1 x2 x3)) + (own_unit p1 (((p2 + (1 : Int32)) + (own_unit p1 (p2 + (1 : Int32)) x0 x1 x2 x3)) + (own_unit p1 ((p2 + (1 : Int32)) + (own_unit p1 (p2 + (1 : Int32)) x0 x1 x2 x3)) x0 x1 x2 x3)) x0 x1 x2 x3)) + (1 : Int32)))])) _ _ _ _
                      exact own_endI X13 hx hlk Bd.returns (hb hby d17_129) (by decide) (by decide) (Q := (own_P n0 h0 (some (.int (((((p2 + (1 : Int32)) + (own_unit p1 (p2 + (1 : Int32)) x0 x1 x2 x3)) + (own_unit p1 ((p2 + (1 : Int32)) + (own_unit p1 (p2 + (1 : Int32)) x0 x1 x2 x3)) x0 x1 x2 x3)) + (own_unit p1 (((p2 + (1 : Int32)) + (own_unit p1 (p2 + (1 : Int32)) x0 x1 x2 x3)) + (own_unit p1 ((p2 + (1 : Int32)) + (own_unit p1 (p2 + (1 : Int32)) x0 x1 x2 x3)) x0 x1 x2 x3)) x0 x1 x2 x3)) + (1 : Int32)))))) ⟨rfl, N13, eh13⟩
                    · refine own_ifI hc15 ?_
                      refine own_go (fun _ k => XS.ifYes X13.here hx rfl (pc0 := 123) (pc' := 130) rfl (hb hby d17_123) rfl ((if0 _ _).trans (feq hc15).2) (by decide) (by decide) k) ?_
                      show own_G _ _ _ (T13.setTop (mkF m 130 #[.val (.ref p0), .val (.int p1), .val (.int p2), .val (.int ((((p2 + (1 : Int32)) + (own_unit p1 (p2 + (1 : Int32)) x0 x1 x2 x3)) + (own_unit p1 ((p2 + (1 : Int32)) + (own_unit p1 (p2 + (1 : Int32)) x0 x1 x2 x3)) x0 x1 x2 x3)) + (own_unit p1 (((p2 + (1 : Int32)) + (own_unit p1 (p2 + (1 : Int32)) x0 x1 x2 x3)) + (own_unit p1 ((p2 + (1 : Int32)) + (own_unit p1 (p2 + (1 : Int32)) x0 x1 x2 x3)) x0 x1 x2 x3)) x0 x1 x2 x3))), .val (.int (own_unit p1 ((((p2 + (1 : Int32)) + (own_unit p1 (p2 + (1 : Int32)) x0 x1 x2 x3)) + (own_unit p1 ((p2 + (1 : Int32)) + (own_unit p1 (p2 + (1 : Int32)) x0 x1 x2 x3)) x0 x1 x2 x3)) + (own_unit p1 (((p2 + (1 : Int32)) + (own_unit p1 (p2 + (1 : Int32)) x0 x1 x2 x3)) + (own_unit p1 ((p2 + (1 : Int32)) + (own_unit p1 (p2 + (1 : Int32)) x0 x1 x2 x3)) x0 x1 x2 x3)) x0 x1 x2 x3)) x0 x1 x2 x3))] [])) _ _ _ _
                      refine own_go (fun _ k => XS.iconst X13.here hx rfl (hb hby d17_130) k) ?_
                      show own_G _ _ _ (T13.setTop (mkF m 131 #[.val (.ref p0), .val (.int p1), .val (.int p2), .val (.int ((((p2 + (1 : Int32)) + (own_unit p1 (p2 + (1 : Int32)) x0 x1 x2 x3)) + (own_unit p1 ((p2 + (1 : Int32)) + (own_unit p1 (p2 + (1 : Int32)) x0 x1 x2 x3)) x0 x1 x2 x3)) + (own_unit p1 (((p2 + (1 : Int32)) + (own_unit p1 (p2 + (1 : Int32)) x0 x1 x2 x3)) + (own_unit p1 ((p2 + (1 : Int32)) + (own_unit p1 (p2 + (1 : Int32)) x0 x1 x2 x3)) x0 x1 x2 x3)) x0 x1 x2 x3))), .val (.int (own_unit p1 ((((p2 + (1 : Int32)) + (own_unit p1 (p2 + (1 : Int32)) x0 x1 x2 x3)) + (own_unit p1 ((p2 + (1 : Int32)) + (own_unit p1 (p2 + (1 : Int32)) x0 x1 x2 x3)) x0 x1 x2 x3)) + (own_unit p1 (((p2 + (1 : Int32)) + (own_unit p1 (p2 + (1 : Int32)) x0 x1 x2 x3)) + (own_unit p1 ((p2 + (1 : Int32)) + (own_unit p1 (p2 + (1 : Int32)) x0 x1 x2 x3)) x0 x1 x2 x3)) x0 x1 x2 x3)) x0 x1 x2 x3))] [(.int (-1 : Int32))])) _ _ _ _
                      exact own_endI X13 hx hlk Bd.returns (hb hby d17_131) (by decide) (by decide) (Q := (own_P n0 h0 (some (.int (-1 : Int32))))) ⟨rfl, N13, eh13⟩
    · refine own_ifI hc3 ?_
      refine own_go (fun _ k => XS.icmpNo X0.here hx rfl (hb hby d17_10) rfl (feq hc3).1 k) ?_
      show own_G _ _ _ (s₁.setTop (mkF m 13 #[.val (.ref p0), .val (.int p1), .val (.int p2), .unset, .unset] [])) _ _ _ _
      refine own_go (fun _ k => XS.iconst X0.here hx rfl (hb hby d17_13) k) ?_
      show own_G _ _ _ (s₁.setTop (mkF m 14 #[.val (.ref p0), .val (.int p1), .val (.int p2), .unset, .unset] [(.int (-1 : Int32))])) _ _ _ _
      exact own_endI X0 hx hlk Bd.returns (hb hby d17_14) (by decide) (by decide) (Q := (own_P n0 h0 (some (.int (-1 : Int32))))) ⟨rfl, N0, e0⟩
  · refine own_ifI hc1 ?_
    refine own_go (fun _ k => XS.icmpYes X0.here hx rfl (pc0 := 2) (pc' := 13) rfl (hb hby d17_2) rfl (flt hc1).2.1 (by decide) (by decide) k) ?_
    show own_G _ _ _ (s₁.setTop (mkF m 13 #[.val (.ref p0), .val (.int p1), .val (.int p2), .unset, .unset] [])) _ _ _ _
    refine own_go (fun _ k => XS.iconst X0.here hx rfl (hb hby d17_13) k) ?_
    show own_G _ _ _ (s₁.setTop (mkF m 14 #[.val (.ref p0), .val (.int p1), .val (.int p2), .unset, .unset] [(.int (-1 : Int32))])) _ _ _ _
    exact own_endI X0 hx hlk Bd.returns (hb hby d17_14) (by decide) (by decide) (Q := (own_P n0 h0 (some (.int (-1 : Int32))))) ⟨rfl, N0, e0⟩
theorem own_isc_ctl (x : Int32) : own_isc x = own_ctl x := rfl
theorem own_ofl {i n : Nat} (hi : i ≤ 100) (hn : n ≤ 100) : (Int32.ofNat i < Int32.ofNat n) = (i < n) := by
  rw [Int32.lt_iff_toInt_lt, Int32.toInt_ofNat_of_lt (by omega), Int32.toInt_ofNat_of_lt (by omega)]
  apply propext
  omega
theorem own_inc (i : Nat) : Int32.ofNat i + 1 = Int32.ofNat (i + 1) := (Int32.ofNat_add i 1).symm
theorem own_inc2 (i : Nat) : Int32.ofNat i + 2 = Int32.ofNat (i + 2) := (Int32.ofNat_add i 2).symm
theorem own_at_nat (x0 x1 x2 x3 : Int32) (i : Nat) (h : i ≤ 100) : own_at x0 x1 x2 x3 (Int32.ofNat i) = ([x0, x1, x2, x3] : List Int32).getD i 0 := by
  unfold own_at Int32.toNatClampNeg
  rw [Int32.toInt_ofNat_of_lt (by omega)]
  rfl
theorem own_tk (x0 x1 x2 x3 : Int32) (n i : Nat) (h : i < n) : (([x0, x1, x2, x3] : List Int32).take n).getD i 0 = ([x0, x1, x2, x3] : List Int32).getD i 0 := by
  simp only [List.getD_eq_getElem?_getD, List.getElem?_take, if_pos h]
theorem own_tl (x0 x1 x2 x3 : Int32) (n : Nat) (h : n ≤ 4) : (([x0, x1, x2, x3] : List Int32).take n).length = n := by
  simp only [List.length_take, List.length_cons, List.length_nil]
  omega
/-- one turn of the loop is one unit -/
theorem own_step (x0 x1 x2 x3 : Int32) (n i f : Nat) (hn : n ≤ 4) (hi : i ≤ 10) :
    ((own_unit (Int32.ofNat n) (Int32.ofNat i) x0 x1 x2 x3 = -2 ∨ own_unit (Int32.ofNat n) (Int32.ofNat i) x0 x1 x2 x3 = -1) ∧ own_qs (([x0, x1, x2, x3] : List Int32).take n) (f + 1) i = -1) ∨
    (own_unit (Int32.ofNat n) (Int32.ofNat i) x0 x1 x2 x3 = 0 ∧ own_qs (([x0, x1, x2, x3] : List Int32).take n) (f + 1) i = Int32.ofNat (i + 1)) ∨
    (own_unit (Int32.ofNat n) (Int32.ofNat i) x0 x1 x2 x3 = 1 ∧ i + 1 ≤ n ∧ own_qs (([x0, x1, x2, x3] : List Int32).take n) (f + 1) i = own_qs (([x0, x1, x2, x3] : List Int32).take n) f (i + 1)) ∨
    (own_unit (Int32.ofNat n) (Int32.ofNat i) x0 x1 x2 x3 = 2 ∧ i + 2 ≤ n ∧ own_qs (([x0, x1, x2, x3] : List Int32).take n) (f + 1) i = own_qs (([x0, x1, x2, x3] : List Int32).take n) f (i + 2)) := by
  simp only [own_unit, own_qs, own_isc_ctl, own_tl x0 x1 x2 x3 n hn, own_inc, own_at_nat x0 x1 x2 x3 i (by omega), own_at_nat x0 x1 x2 x3 (i + 1) (by omega), own_ofl (show i ≤ 100 by omega) (show n ≤ 100 by omega), own_ofl (show i + 1 ≤ 100 by omega) (show n ≤ 100 by omega)]
  by_cases h1 : i < n
  · simp only [if_pos h1, own_tk x0 x1 x2 x3 n i h1]
    generalize ([x0, x1, x2, x3] : List Int32).getD i 0 = a
    by_cases h2 : a = 34
    · simp only [if_pos h2]; right; left; (refine ⟨?_, ?_⟩ <;> first | trivial | rfl)
    · simp only [if_neg h2]
      by_cases h3 : a = 92
      · simp only [if_pos h3]
        by_cases h4 : i + 1 < n
        · simp only [if_pos h4, own_tk x0 x1 x2 x3 n (i + 1) h4]
          generalize ([x0, x1, x2, x3] : List Int32).getD (i + 1) 0 = b
          by_cases h5 : own_ctl b = 0
          · simp only [if_pos h5]; right; right; right; (refine ⟨?_, by omega, ?_⟩ <;> first | trivial | rfl)
          · simp only [if_neg h5]; left; (refine ⟨Or.inr ?_, ?_⟩ <;> first | trivial | rfl)
        · simp only [if_neg h4]
          have h5 : own_ctl a = 0 := by rw [h3]; decide
          simp only [if_pos h5]; right; right; left; (refine ⟨?_, by omega, ?_⟩ <;> first | trivial | rfl)
      · simp only [if_neg h3]
        by_cases h5 : own_ctl a = 0
        · simp only [if_pos h5]; right; right; left; (refine ⟨?_, by omega, ?_⟩ <;> first | trivial | rfl)
        · simp only [if_neg h5]; left; (refine ⟨Or.inr ?_, ?_⟩ <;> first | trivial | rfl)
  · simp only [if_neg h1]; left; (refine ⟨Or.inl ?_, ?_⟩ <;> first | trivial | rfl)
/-- the same, as the bounds of a unit -/
theorem own_out (x0 x1 x2 x3 : Int32) (n i : Nat) (hn : n ≤ 4) (hi : i ≤ 10) (h : n ≤ i) : own_unit (Int32.ofNat n) (Int32.ofNat i) x0 x1 x2 x3 = -2 := by
  have h1 : ¬ Int32.ofNat i < Int32.ofNat n := by rw [own_ofl (by omega) (by omega)]; omega
  simp only [own_unit, if_neg h1]
def own_e4 (n i x0 x1 x2 x3 : Int32) : Int32 := if own_unit n i x0 x1 x2 x3 < 0 then -1 else if own_unit n i x0 x1 x2 x3 = 0 then i + 1 else -1
def own_e3 (n i x0 x1 x2 x3 : Int32) : Int32 := if own_unit n i x0 x1 x2 x3 < 0 then -1 else if own_unit n i x0 x1 x2 x3 = 0 then i + 1 else own_e4 n (i + own_unit n i x0 x1 x2 x3) x0 x1 x2 x3
def own_e2 (n i x0 x1 x2 x3 : Int32) : Int32 := if own_unit n i x0 x1 x2 x3 < 0 then -1 else if own_unit n i x0 x1 x2 x3 = 0 then i + 1 else own_e3 n (i + own_unit n i x0 x1 x2 x3) x0 x1 x2 x3
def own_e1 (n i x0 x1 x2 x3 : Int32) : Int32 := if own_unit n i x0 x1 x2 x3 < 0 then -1 else if own_unit n i x0 x1 x2 x3 = 0 then i + 1 else own_e2 n (i + own_unit n i x0 x1 x2 x3) x0 x1 x2 x3
theorem own_expd_eq (n s x0 x1 x2 x3 : Int32) : own_expd n s x0 x1 x2 x3 = if s < n then (if own_at x0 x1 x2 x3 s = 34 then own_e1 n (s + 1) x0 x1 x2 x3 else -1) else -1 := rfl
theorem own_d1 : (-2 : Int32) < 0 := by decide
theorem own_d2 : (-1 : Int32) < 0 := by decide
theorem own_d3 : ¬ (0 : Int32) < 0 := by decide
theorem own_d4 : ¬ (1 : Int32) < 0 := by decide
theorem own_d5 : ¬ (2 : Int32) < 0 := by decide
theorem own_d6 : ¬ (1 : Int32) = 0 := by decide
theorem own_d7 : ¬ (2 : Int32) = 0 := by decide
theorem own_r4 (x0 x1 x2 x3 : Int32) (n i f : Nat) (hn : n ≤ 4) (hi : i ≤ 10) (h : n ≤ i) : own_qs (([x0, x1, x2, x3] : List Int32).take n) (f + 1) i = own_e4 (Int32.ofNat n) (Int32.ofNat i) x0 x1 x2 x3 := by
  have u := own_out x0 x1 x2 x3 n i hn hi h
  simp only [own_e4, u, if_pos own_d1]
  rcases own_step x0 x1 x2 x3 n i f hn hi with ⟨-, q⟩ | ⟨q, -⟩ | ⟨q, -⟩ | ⟨q, -⟩
  · exact q
  · rw [u] at q; exact absurd q (by decide)
  · rw [u] at q; exact absurd q (by decide)
  · rw [u] at q; exact absurd q (by decide)
theorem own_r3 (x0 x1 x2 x3 : Int32) (n i f : Nat) (hn : n ≤ 4) (hi : i ≤ 8) (h : n ≤ i + 1) : own_qs (([x0, x1, x2, x3] : List Int32).take n) (f + 2) i = own_e3 (Int32.ofNat n) (Int32.ofNat i) x0 x1 x2 x3 := by
  rcases own_step x0 x1 x2 x3 n i (f + 1) hn (by omega) with ⟨q | q, r⟩ | ⟨q, r⟩ | ⟨q, hb, r⟩ | ⟨q, hb, r⟩
  · simp only [own_e3, q, if_pos own_d1]; exact r
  · simp only [own_e3, q, if_pos own_d2]; exact r
  · simp only [own_e3, q, if_neg own_d3, if_true, own_inc]; exact r
  · simp only [own_e3, q, if_neg own_d4, if_neg own_d6, own_inc]; rw [← own_r4 x0 x1 x2 x3 n (i + 1) f hn (by omega) (by omega)]; exact r
  · simp only [own_e3, q, if_neg own_d5, if_neg own_d7, own_inc2]; rw [← own_r4 x0 x1 x2 x3 n (i + 2) f hn (by omega) (by omega)]; exact r
theorem own_r2 (x0 x1 x2 x3 : Int32) (n i f : Nat) (hn : n ≤ 4) (hi : i ≤ 6) (h : n ≤ i + 2) : own_qs (([x0, x1, x2, x3] : List Int32).take n) (f + 3) i = own_e2 (Int32.ofNat n) (Int32.ofNat i) x0 x1 x2 x3 := by
  rcases own_step x0 x1 x2 x3 n i (f + 2) hn (by omega) with ⟨q | q, r⟩ | ⟨q, r⟩ | ⟨q, hb, r⟩ | ⟨q, hb, r⟩
  · simp only [own_e2, q, if_pos own_d1]; exact r
  · simp only [own_e2, q, if_pos own_d2]; exact r
  · simp only [own_e2, q, if_neg own_d3, if_true, own_inc]; exact r
  · simp only [own_e2, q, if_neg own_d4, if_neg own_d6, own_inc]; rw [← own_r3 x0 x1 x2 x3 n (i + 1) f hn (by omega) (by omega)]; exact r
  · simp only [own_e2, q, if_neg own_d5, if_neg own_d7, own_inc2]; rw [← own_r3 x0 x1 x2 x3 n (i + 2) f hn (by omega) (by omega)]; exact r
theorem own_r1 (x0 x1 x2 x3 : Int32) (n i f : Nat) (hn : n ≤ 4) (hi : i ≤ 4) (h : n ≤ i + 3) : own_qs (([x0, x1, x2, x3] : List Int32).take n) (f + 4) i = own_e1 (Int32.ofNat n) (Int32.ofNat i) x0 x1 x2 x3 := by
  rcases own_step x0 x1 x2 x3 n i (f + 3) hn (by omega) with ⟨q | q, r⟩ | ⟨q, r⟩ | ⟨q, hb, r⟩ | ⟨q, hb, r⟩
  · simp only [own_e1, q, if_pos own_d1]; exact r
  · simp only [own_e1, q, if_pos own_d2]; exact r
  · simp only [own_e1, q, if_neg own_d3, if_true, own_inc]; exact r
  · simp only [own_e1, q, if_neg own_d4, if_neg own_d6, own_inc]; rw [← own_r2 x0 x1 x2 x3 n (i + 1) f hn (by omega) (by omega)]; exact r
  · simp only [own_e1, q, if_neg own_d5, if_neg own_d7, own_inc2]; rw [← own_r2 x0 x1 x2 x3 n (i + 2) f hn (by omega) (by omega)]; exact r
/-- more turns left don't matter where the text has ended -/
theorem own_fuel (x0 x1 x2 x3 : Int32) (n : Nat) (hn : n ≤ 4) : ∀ (f g i : Nat), i ≤ n → n < i + f → n < i + g → own_qs (([x0, x1, x2, x3] : List Int32).take n) f i = own_qs (([x0, x1, x2, x3] : List Int32).take n) g i := by
  intro f
  induction f with
  | zero => intro g i h1 h2 h3; omega
  | succ f ih =>
    intro g i h1 h2 h3
    cases g with
    | zero => omega
    | succ g =>
      rcases own_step x0 x1 x2 x3 n i f hn (by omega) with ⟨q | q, r⟩ | ⟨q, r⟩ | ⟨q, hb, r⟩ | ⟨q, hb, r⟩ <;> rcases own_step x0 x1 x2 x3 n i g hn (by omega) with ⟨q' | q', r'⟩ | ⟨q', r'⟩ | ⟨q', hb', r'⟩ | ⟨q', hb', r'⟩ <;> first | (rw [r, r']; done) | (rw [r, r']; exact ih g _ (by omega) (by omega) (by omega)) | (exact absurd (q.symm.trans q') (by decide))
theorem own_same (x0 x1 x2 x3 : Int32) (n i0 : Nat) (hn : n ≤ 4) (h : i0 ≤ 5) : own_qse (([x0, x1, x2, x3] : List Int32).take n) i0 = own_expd (Int32.ofNat n) (Int32.ofNat i0) x0 x1 x2 x3 := by
  rw [own_expd_eq, own_qse, own_tl x0 x1 x2 x3 n hn, own_at_nat x0 x1 x2 x3 i0 (by omega)]
  simp only [own_ofl (show i0 ≤ 100 by omega) (show n ≤ 100 by omega)]
  by_cases h1 : i0 < n
  · simp only [if_pos h1, own_tk x0 x1 x2 x3 n i0 h1, own_inc]
    rw [own_fuel x0 x1 x2 x3 n hn (n + 1) (n + 4) (i0 + 1) (by omega) (by omega) (by omega), own_r1 x0 x1 x2 x3 n (i0 + 1) n hn (by omega) (by omega)]
  · simp only [if_neg h1]
theorem own_same0 (x0 x1 x2 x3 : Int32) (i0 : Nat) (h : i0 ≤ 5) : own_qse ([] : List Int32) i0 = own_expd (0 : Int32) (Int32.ofNat i0) x0 x1 x2 x3 := own_same x0 x1 x2 x3 0 i0 (by decide) h
theorem own_same1 (x0 x1 x2 x3 : Int32) (i0 : Nat) (h : i0 ≤ 5) : own_qse ([x0] : List Int32) i0 = own_expd (1 : Int32) (Int32.ofNat i0) x0 x1 x2 x3 := own_same x0 x1 x2 x3 1 i0 (by decide) h
theorem own_same2 (x0 x1 x2 x3 : Int32) (i0 : Nat) (h : i0 ≤ 5) : own_qse ([x0, x1] : List Int32) i0 = own_expd (2 : Int32) (Int32.ofNat i0) x0 x1 x2 x3 := own_same x0 x1 x2 x3 2 i0 (by decide) h
theorem own_same3 (x0 x1 x2 x3 : Int32) (i0 : Nat) (h : i0 ≤ 5) : own_qse ([x0, x1, x2] : List Int32) i0 = own_expd (3 : Int32) (Int32.ofNat i0) x0 x1 x2 x3 := own_same x0 x1 x2 x3 3 i0 (by decide) h
theorem own_same4 (x0 x1 x2 x3 : Int32) (i0 : Nat) (h : i0 ≤ 5) : own_qse ([x0, x1, x2, x3] : List Int32) i0 = own_expd (4 : Int32) (Int32.ofNat i0) x0 x1 x2 x3 := own_same x0 x1 x2 x3 4 i0 (by decide) h

theorem pd_6 : parseMethodDescriptor "(II)C" = some ⟨[.int, .int], some .char⟩ := by decide +kernel
theorem pd_7 : parseMethodDescriptor "([CI)Ljava/lang/String;" = some ⟨[(.array .char), .int], some (.object "java/lang/String")⟩ := by decide +kernel
theorem pd_8 : parseMethodDescriptor "(Ljava/lang/String;I)I" = some ⟨[(.object "java/lang/String"), .int], some .int⟩ := by decide +kernel
theorem ef_0 (m : MethodId) (p0 : Int32) (p1 : Int32) (p2 : Int32) : entryFrame m #[(.int p0), (.int p1), (.int p2)] maxLocals = mkF m 0 #[.val (.int p0), .val (.int p1), .val (.int p2), .unset, .unset, .unset, .unset, .unset] [] := by first | (simp [entryFrame, mkF, argsToLocals, Value.category, maxLocals]; done) | rfl
def Q0 (Z : State) (p0 : Int32) (p1 : Int32) (p2 : Int32) (zc : Int32) (fm : Value) (h0 : Heap) (n0 : Nat) (v : Option Value) (h : Heap) (L : List Loc) : Prop := v = some (.int (1 : Int32)) ∧ Fr n0 L ∧ Keep h0 h []
set_option maxRecDepth 65536 in
set_option maxHeartbeats 40000000 in
theorem rm0 (l : Launch) (Z : State) (a0 : Array Value) (hw : ∀ d ∈ tables_1, d.before a0 Z = true) (ws : List Jvm.Cond) (p0 : Int32) (p1 : Int32) (p2 : Int32) (zc : Int32) (fm : Value) (h0 : Heap) (n0 : Nat) (Z0 : n0 ≤ h0.size) (P_Old : Old Z n0 h0) (P_ZS_java_lang_String_COMPACT_STRINGS : Sta Z Z.heap "java/lang/String" "COMPACT_STRINGS" "Z" (.int zc)) (hcs : ¬ zc = 0) (P_ZS_jdk_internal_util_Preconditions_SIOOBE_FORMATTER : Sta Z Z.heap "jdk/internal/util/Preconditions" "SIOOBE_FORMATTER" "Ljava/util/function/BiFunction;" fm) (hfm : fm.isRef = true) :
    MetFree l x (head1 (Jvm.Cond.code x code maxLocals ret :: ws) room_1) (fun a U => a = #[(.int p0), (.int p1), (.int p2)] ∧ Z.Warmed39 U.vm ∧ U.heap = h0 ∧ CHv Z own_EL U.vm h0) (fun _ _ _ _ _ => True) (fun _ U o U' => ∃ v L, o = .returned v ∧ (Q0 Z p0 p1 p2 zc fm h0 n0) v U'.heap L ∧ CHr Z own_EL U.vm U.heap U'.vm U'.heap ∧ ReturnedEndW U o U' L room_1.cells room_1.slots) := by
  refine MetFree.of_bodySF (plainFor_of_name pn_0) hisR ?_
  intro p e s m args below meth c s₁ Bd hml0 hP hK
  obtain ⟨rfl, hZ, hh, H0⟩ := hP
  have hx := Bd.exec
  have hby := Bd.bytes
  have hml : c.maxLocals = 8 := hml0
  have hown : s.vm.findClass "com/example/floe/floe/rest/FramingLinesQuotedStringEndPinLaw" = some m.cls := findClass_of_methodNamed Bd.named
  have hnm := (name_of_methodNamed Bd.named Bd.method).1
  have hlk : meth.locks = false := BodyLoose.notSynchronized Bd
  have X0 : Stand p l e room_1 (s.setVm s.vm) m #[(.int p0), (.int p1), (.int p2)] below meth c s₁ [] 0 0 := Stand.of_body Bd
  have e0 : s₁.heap = h0 := by rw [← hh, Bd.state]; rfl
  have N0 := Fr.nil n0
  have hS0 := (State.WarmedH.refl s).since s.heap.size
  have hk0 : s.heap.size ≤ h0.size := by rw [hh]; exact Nat.le_refl _
  have CR0 : CHr Z own_EL s.vm h0 s.vm h0 := CHr.refl H0
  have KS0 : Keep h0 h0 [] := Keep.refl _ _
  have K0 : Keep h0 h0 [] := Keep.refl h0 []
  show own_GW p.tables e below (s₁.setTop (entryFrame m #[(.int p0), (.int p1), (.int p2)] maxLocals)) s room_1.cells room_1.slots Z own_EL (Q0 Z p0 p1 p2 zc fm h0 n0)
  refine own_goW (fun _ k => castTop (ef_0 m p0 p1 p2) k) ?_
  show own_GW _ _ _ (s₁.setTop (mkF m 0 #[.val (.int p0), .val (.int p1), .val (.int p2), .unset, .unset, .unset, .unset, .unset] [])) _ _ _ _ _ _
  refine own_goW (fun _ k => XS.iloadN X0.here hx rfl (hb hby at_0) rfl k) ?_
  show own_GW _ _ _ (s₁.setTop (mkF m 1 #[.val (.int p0), .val (.int p1), .val (.int p2), .unset, .unset, .unset, .unset, .unset] [(.int p1)])) _ _ _ _ _ _
  refine own_goW (fun _ k => XS.bipush X0.here hx rfl (hb hby at_1) k) ?_
  show own_GW _ _ _ (s₁.setTop (mkF m 3 #[.val (.int p0), .val (.int p1), .val (.int p2), .unset, .unset, .unset, .unset, .unset] [(.int (7 : Int32)), (.int p1)])) _ _ _ _ _ _
  refine own_goW (fun _ k => XS.iand X0.here hx rfl (hb hby at_3) rfl k) ?_
  show own_GW _ _ _ (s₁.setTop (mkF m 4 #[.val (.int p0), .val (.int p1), .val (.int p2), .unset, .unset, .unset, .unset, .unset] [(.int (p1 &&& (7 : Int32)))])) _ _ _ _ _ _
  refine own_goW (fun _ k => XS.iconst X0.here hx rfl (hb hby at_4) k) ?_
  show own_GW _ _ _ (s₁.setTop (mkF m 5 #[.val (.int p0), .val (.int p1), .val (.int p2), .unset, .unset, .unset, .unset, .unset] [(.int (5 : Int32)), (.int (p1 &&& (7 : Int32)))])) _ _ _ _ _ _
  refine own_goW (fun _ k => iremM X0 hx rfl (hb hby at_5) rfl (by decide) k) ?_
  show own_GW _ _ _ (s₁.setTop (mkF m 6 #[.val (.int p0), .val (.int p1), .val (.int p2), .unset, .unset, .unset, .unset, .unset] [(.int ((p1 &&& (7 : Int32)) % (5 : Int32)))])) _ _ _ _ _ _
  rcases own_n5 p1 with hn | hn | hn | hn | hn
  · rw [hn]
    show own_GW _ _ _ (s₁.setTop (mkF m 6 #[.val (.int p0), .val (.int p1), .val (.int p2), .unset, .unset, .unset, .unset, .unset] [(.int (0 : Int32))])) _ _ _ _ _ _
    refine own_goW (fun _ k => XS.istoreN X0.here hx rfl (hb hby at_6) rfl (l' := #[.val (.int p0), .val (.int p1), .val (.int p2), .val (.int (0 : Int32)), .unset, .unset, .unset, .unset]) rfl k) ?_
    show own_GW _ _ _ (s₁.setTop (mkF m 7 #[.val (.int p0), .val (.int p1), .val (.int p2), .val (.int (0 : Int32)), .unset, .unset, .unset, .unset] [])) _ _ _ _ _ _
    refine own_goW (fun _ k => XS.iloadN X0.here hx rfl (hb hby at_7) rfl k) ?_
    show own_GW _ _ _ (s₁.setTop (mkF m 8 #[.val (.int p0), .val (.int p1), .val (.int p2), .val (.int (0 : Int32)), .unset, .unset, .unset, .unset] [(.int p1)])) _ _ _ _ _ _
    refine own_goW (fun _ k => XS.iconst X0.here hx rfl (hb hby at_8) k) ?_
    show own_GW _ _ _ (s₁.setTop (mkF m 9 #[.val (.int p0), .val (.int p1), .val (.int p2), .val (.int (0 : Int32)), .unset, .unset, .unset, .unset] [(.int (3 : Int32)), (.int p1)])) _ _ _ _ _ _
    refine own_goW (fun _ k => XS.iushr X0.here hx rfl (hb hby at_9) rfl k) ?_
    show own_GW _ _ _ (s₁.setTop (mkF m 10 #[.val (.int p0), .val (.int p1), .val (.int p2), .val (.int (0 : Int32)), .unset, .unset, .unset, .unset] [(.int ((p1.toUInt32 >>> ((3 : Int32) &&& 31).toUInt32).toInt32))])) _ _ _ _ _ _
    refine own_goW (fun _ k => XS.bipush X0.here hx rfl (hb hby at_10) k) ?_
    show own_GW _ _ _ (s₁.setTop (mkF m 12 #[.val (.int p0), .val (.int p1), .val (.int p2), .val (.int (0 : Int32)), .unset, .unset, .unset, .unset] [(.int (7 : Int32)), (.int ((p1.toUInt32 >>> ((3 : Int32) &&& 31).toUInt32).toInt32))])) _ _ _ _ _ _
    refine own_goW (fun _ k => XS.iand X0.here hx rfl (hb hby at_12) rfl k) ?_
    show own_GW _ _ _ (s₁.setTop (mkF m 13 #[.val (.int p0), .val (.int p1), .val (.int p2), .val (.int (0 : Int32)), .unset, .unset, .unset, .unset] [(.int (((p1.toUInt32 >>> ((3 : Int32) &&& 31).toUInt32).toInt32) &&& (7 : Int32)))])) _ _ _ _ _ _
    refine own_goW (fun _ k => XS.bipush X0.here hx rfl (hb hby at_13) k) ?_
    show own_GW _ _ _ (s₁.setTop (mkF m 15 #[.val (.int p0), .val (.int p1), .val (.int p2), .val (.int (0 : Int32)), .unset, .unset, .unset, .unset] [(.int (6 : Int32)), (.int (((p1.toUInt32 >>> ((3 : Int32) &&& 31).toUInt32).toInt32) &&& (7 : Int32)))])) _ _ _ _ _ _
    refine own_goW (fun _ k => iremM X0 hx rfl (hb hby at_15) rfl (by decide) k) ?_
    show own_GW _ _ _ (s₁.setTop (mkF m 16 #[.val (.int p0), .val (.int p1), .val (.int p2), .val (.int (0 : Int32)), .unset, .unset, .unset, .unset] [(.int ((((p1.toUInt32 >>> ((3 : Int32) &&& 31).toUInt32).toInt32) &&& (7 : Int32)) % (6 : Int32)))])) _ _ _ _ _ _
    obtain ⟨i0, hi5, hs⟩ := own_s6 p1
    · rw [hs]
      show own_GW _ _ _ (s₁.setTop (mkF m 16 #[.val (.int p0), .val (.int p1), .val (.int p2), .val (.int (0 : Int32)), .unset, .unset, .unset, .unset] [(.int (Int32.ofNat i0))])) _ _ _ _ _ _
      refine own_goW (fun _ k => XS.istore X0.here hx rfl (hb hby at_16) rfl (l' := #[.val (.int p0), .val (.int p1), .val (.int p2), .val (.int (0 : Int32)), .val (.int (Int32.ofNat i0)), .unset, .unset, .unset]) rfl k) ?_
      show own_GW _ _ _ (s₁.setTop (mkF m 18 #[.val (.int p0), .val (.int p1), .val (.int p2), .val (.int (0 : Int32)), .val (.int (Int32.ofNat i0)), .unset, .unset, .unset] [])) _ _ _ _ _ _
      refine own_goW (fun _ k => XS.iconst X0.here hx rfl (hb hby at_18) k) ?_
      show own_GW _ _ _ (s₁.setTop (mkF m 19 #[.val (.int p0), .val (.int p1), .val (.int p2), .val (.int (0 : Int32)), .val (.int (Int32.ofNat i0)), .unset, .unset, .unset] [(.int (4 : Int32))])) _ _ _ _ _ _
      obtain ⟨T1, h1, k1, X1, e1, E1, A1, st1⟩ := newP X0 hx hZ (hw _ (List.mem_of_getElem? (i := 0) rfl)) e0 (g := (mkF m 19 #[.val (.int p0), .val (.int p1), .val (.int p2), .val (.int (0 : Int32)), .val (.int (Int32.ofNat i0)), .unset, .unset, .unset] [(.int (4 : Int32))])) rfl (hb hby at_19) rfl (by decide) (cap := 4) (by decide) (by decide) (by decide) (by decide)
      obtain ⟨b1, g1⟩ : ∃ z, z = h0.size := ⟨_, rfl⟩
      rw [← g1] at A1 st1
      have gg1 : n0 ≤ b1 := Nat.le_trans Z0 (Nat.le_of_eq g1.symm)
      have sz1_0 : h0.size ≤ b1 := Nat.le_trans K0.1 (Nat.le_of_eq g1.symm)
      have sz1_1 : h0.size ≤ b1 := Nat.le_trans KS0.1 (Nat.le_of_eq g1.symm)
      have Zs1 : n0 ≤ h1.size := Nat.le_trans Z0 E1.1
      have K1_0 : Keep h0 h1 [] := K0.ext E1
      have K1_1 : Keep h0 h1 [] := KS0.ext E1
      have f2 : Old Z n0 h1 := P_Old.ext E1
      have f3 : Arv Z h1 b1 k1 .char (4 : Int32) [(.int (0 : Int32)), (.int (0 : Int32)), (.int (0 : Int32)), (.int (0 : Int32))] (.int (0 : Int32)) := (Arv.new A1 (by decide)).pad (pad_rep [] (.int (0 : Int32)) 4)
      refine own_goW (fun _ k => st1 _ k) ?_
      show own_GW _ _ _ (T1.setTop (mkF m 21 #[.val (.int p0), .val (.int p1), .val (.int p2), .val (.int (0 : Int32)), .val (.int (Int32.ofNat i0)), .unset, .unset, .unset] [(.ref b1)])) _ _ _ _ _ _
      refine own_goW (fun _ k => XS.astore X1.here hx rfl (hb hby at_21) rfl rfl (l' := #[.val (.int p0), .val (.int p1), .val (.int p2), .val (.int (0 : Int32)), .val (.int (Int32.ofNat i0)), .val (.ref b1), .unset, .unset]) rfl k) ?_
      show own_GW _ _ _ (T1.setTop (mkF m 23 #[.val (.int p0), .val (.int p1), .val (.int p2), .val (.int (0 : Int32)), .val (.int (Int32.ofNat i0)), .val (.ref b1), .unset, .unset] [])) _ _ _ _ _ _
      refine own_goW (fun _ k => XS.aload X1.here hx rfl (hb hby at_23) rfl rfl k) ?_
      show own_GW _ _ _ (T1.setTop (mkF m 25 #[.val (.int p0), .val (.int p1), .val (.int p2), .val (.int (0 : Int32)), .val (.int (Int32.ofNat i0)), .val (.ref b1), .unset, .unset] [(.ref b1)])) _ _ _ _ _ _
      refine own_goW (fun _ k => XS.iconst X1.here hx rfl (hb hby at_25) k) ?_
      show own_GW _ _ _ (T1.setTop (mkF m 26 #[.val (.int p0), .val (.int p1), .val (.int p2), .val (.int (0 : Int32)), .val (.int (Int32.ofNat i0)), .val (.ref b1), .unset, .unset] [(.int (0 : Int32)), (.ref b1)])) _ _ _ _ _ _
      refine own_goW (fun _ k => XS.iloadN X1.here hx rfl (hb hby at_26) rfl k) ?_
      show own_GW _ _ _ (T1.setTop (mkF m 27 #[.val (.int p0), .val (.int p1), .val (.int p2), .val (.int (0 : Int32)), .val (.int (Int32.ofNat i0)), .val (.ref b1), .unset, .unset] [(.int p0), (.int (0 : Int32)), (.ref b1)])) _ _ _ _ _ _
      refine own_goW (fun _ k => XS.iloadN X1.here hx rfl (hb hby at_27) rfl k) ?_
      show own_GW _ _ _ (T1.setTop (mkF m 28 #[.val (.int p0), .val (.int p1), .val (.int p2), .val (.int (0 : Int32)), .val (.int (Int32.ofNat i0)), .val (.ref b1), .unset, .unset] [(.int p2), (.int p0), (.int (0 : Int32)), (.ref b1)])) _ _ _ _ _ _
      obtain ⟨_, _, ⟨T4, L4, k4, n4⟩, -, X4, ⟨Lc4, hQ4, l4, y4, z4⟩, st4⟩ := Jvm.LawKit.callS X1 hx (y := (⟨"com/example/floe/floe/rest/FramingLinesQuotedStringEndPinLaw", "draw", "(II)C"⟩ : MethodName)) hown (mvT hZ (hw _ (List.mem_of_getElem? (i := 1) rfl))) (mvT hZ (hw _ (List.mem_of_getElem? (i := 2) rfl))) (mvT hZ (hw _ (List.mem_of_getElem? (i := 3) rfl))) (mvT hZ (hw _ (List.mem_of_getElem? (i := 4) rfl))) (by decide) (backOf (W := 2) (rm1 l Z a0 hw [] p0 p2 h1 n0) hZ (hw _ (List.mem_of_getElem? (i := 4) rfl)) (hw _ (List.mem_of_getElem? (i := 3) rfl)) (by decide) (by decide)) (g := (mkF m 28 #[.val (.int p0), .val (.int p1), .val (.int p2), .val (.int (0 : Int32)), .val (.int (Int32.ofNat i0)), .val (.ref b1), .unset, .unset] [(.int p2), (.int p0), (.int (0 : Int32)), (.ref b1)])) rfl (by rw [hml]; rfl) (argsL := [(.int p0), (.int p2)]) (rest := [(.int (0 : Int32)), (.ref b1)]) (lenOf pd_6 rfl) rfl (by show 2 * 0 + _ ≤ _; exact Nat.le_of_eq rfl) (hb hby at_28) (fun _ _ => ⟨rfl, e1, (by decide : 1 + 0 ≤ _), (by decide : 4 + 0 ≤ _)⟩)
      dsimp only [Pt.U, Pt.locs, Pt.cells, Pt.slots] at X4 l4 y4 z4 st4 hQ4
      subst l4 y4 z4
      obtain ⟨rfl, Nq4, eh4⟩ := hQ4
      have N4 := Fr.app N0 Nq4
      refine own_goW (fun _ k => st4 _ k) ?_
      show own_GW _ _ _ (T4.setTop (mkF m 31 #[.val (.int p0), .val (.int p1), .val (.int p2), .val (.int (0 : Int32)), .val (.int (Int32.ofNat i0)), .val (.ref b1), .unset, .unset] [(.int (own_draw p0 p2)), (.int (0 : Int32)), (.ref b1)])) _ _ _ _ _ _
      obtain ⟨x0, h_x0⟩ : ∃ z : Int32, z = (own_draw p0 p2) := ⟨_, rfl⟩
      · rw [← h_x0]
        have r_x0 : ¬ x0 < 0 ∧ ¬ (255 : Int32) < x0 := by rw [h_x0]; exact own_drw _ _
        have e_x0 : nar .char x0 = x0 := own_nar8 r_x0
        show own_GW _ _ _ (T4.setTop (mkF m 31 #[.val (.int p0), .val (.int p1), .val (.int p2), .val (.int (0 : Int32)), .val (.int (Int32.ofNat i0)), .val (.ref b1), .unset, .unset] [(.int x0), (.int (0 : Int32)), (.ref b1)])) _ _ _ _ _ _
        obtain ⟨cl5, Ar5, q5, S5, Ng5, H5, G5⟩ := id f3
        have in5 : ¬ ((0 : Int32) < 0 ∨ cl5.slots.size ≤ ((0 : Int32)).toNatClampNeg) := inb_of S5 ⟨by decide, by decide⟩
        obtain ⟨T5, h5, X5, e5, W5, st5⟩ := stC X4 hx hZ eh4 Ar5 (j := (0 : Int32)) in5 (g := (mkF m 31 #[.val (.int p0), .val (.int p1), .val (.int p2), .val (.int (0 : Int32)), .val (.int (Int32.ofNat i0)), .val (.ref b1), .unset, .unset] [(.int x0), (.int (0 : Int32)), (.ref b1)])) rfl rfl (hb hby at_31)
        have N5 := Fr.snoc X5 N4 gg1
        have Zs5 : n0 ≤ h5.size := Nat.le_trans Zs1 (Keep.of_wr W5).1
        have K5_0 : Keep h0 h5 [] := K1_0.wr W5 (Or.inr sz1_0)
        have K5_1 : Keep h0 h5 [] := K1_1.wr W5 (Or.inr sz1_1)
        have f6 : Old Z n0 h5 := f2.wr W5 gg1
        have f7 : Arv Z h5 b1 k1 .char (4 : Int32) [(.int x0), (.int (0 : Int32)), (.int (0 : Int32)), (.int (0 : Int32))] (.int (0 : Int32)) := (by have q := Arv.set Ar5 q5 S5 Ng5 H5 G5 (fits_nar_char _) W5 0 rfl (Nat.le_of_ble_eq_true rfl); rw [e_x0] at q; exact q)
        refine own_goW (fun _ k => st5 _ k) ?_
        show own_GW _ _ _ (T5.setTop (mkF m 32 #[.val (.int p0), .val (.int p1), .val (.int p2), .val (.int (0 : Int32)), .val (.int (Int32.ofNat i0)), .val (.ref b1), .unset, .unset] [])) _ _ _ _ _ _
        refine own_goW (fun _ k => XS.aload X5.here hx rfl (hb hby at_32) rfl rfl k) ?_
        show own_GW _ _ _ (T5.setTop (mkF m 34 #[.val (.int p0), .val (.int p1), .val (.int p2), .val (.int (0 : Int32)), .val (.int (Int32.ofNat i0)), .val (.ref b1), .unset, .unset] [(.ref b1)])) _ _ _ _ _ _
        refine own_goW (fun _ k => XS.iconst X5.here hx rfl (hb hby at_34) k) ?_
        show own_GW _ _ _ (T5.setTop (mkF m 35 #[.val (.int p0), .val (.int p1), .val (.int p2), .val (.int (0 : Int32)), .val (.int (Int32.ofNat i0)), .val (.ref b1), .unset, .unset] [(.int (1 : Int32)), (.ref b1)])) _ _ _ _ _ _
        refine own_goW (fun _ k => XS.iloadN X5.here hx rfl (hb hby at_35) rfl k) ?_
        show own_GW _ _ _ (T5.setTop (mkF m 36 #[.val (.int p0), .val (.int p1), .val (.int p2), .val (.int (0 : Int32)), .val (.int (Int32.ofNat i0)), .val (.ref b1), .unset, .unset] [(.int p0), (.int (1 : Int32)), (.ref b1)])) _ _ _ _ _ _
        refine own_goW (fun _ k => XS.bipush X5.here hx rfl (hb hby at_36) k) ?_
        show own_GW _ _ _ (T5.setTop (mkF m 38 #[.val (.int p0), .val (.int p1), .val (.int p2), .val (.int (0 : Int32)), .val (.int (Int32.ofNat i0)), .val (.ref b1), .unset, .unset] [(.int (8 : Int32)), (.int p0), (.int (1 : Int32)), (.ref b1)])) _ _ _ _ _ _
        refine own_goW (fun _ k => XS.iushr X5.here hx rfl (hb hby at_38) rfl k) ?_
        show own_GW _ _ _ (T5.setTop (mkF m 39 #[.val (.int p0), .val (.int p1), .val (.int p2), .val (.int (0 : Int32)), .val (.int (Int32.ofNat i0)), .val (.ref b1), .unset, .unset] [(.int ((p0.toUInt32 >>> ((8 : Int32) &&& 31).toUInt32).toInt32)), (.int (1 : Int32)), (.ref b1)])) _ _ _ _ _ _
        refine own_goW (fun _ k => XS.iloadN X5.here hx rfl (hb hby at_39) rfl k) ?_
        show own_GW _ _ _ (T5.setTop (mkF m 40 #[.val (.int p0), .val (.int p1), .val (.int p2), .val (.int (0 : Int32)), .val (.int (Int32.ofNat i0)), .val (.ref b1), .unset, .unset] [(.int p2), (.int ((p0.toUInt32 >>> ((8 : Int32) &&& 31).toUInt32).toInt32)), (.int (1 : Int32)), (.ref b1)])) _ _ _ _ _ _
        refine own_goW (fun _ k => XS.iconst X5.here hx rfl (hb hby at_40) k) ?_
        show own_GW _ _ _ (T5.setTop (mkF m 41 #[.val (.int p0), .val (.int p1), .val (.int p2), .val (.int (0 : Int32)), .val (.int (Int32.ofNat i0)), .val (.ref b1), .unset, .unset] [(.int (1 : Int32)), (.int p2), (.int ((p0.toUInt32 >>> ((8 : Int32) &&& 31).toUInt32).toInt32)), (.int (1 : Int32)), (.ref b1)])) _ _ _ _ _ _
        refine own_goW (fun _ k => XS.iushr X5.here hx rfl (hb hby at_41) rfl k) ?_
        show own_GW _ _ _ (T5.setTop (mkF m 42 #[.val (.int p0), .val (.int p1), .val (.int p2), .val (.int (0 : Int32)), .val (.int (Int32.ofNat i0)), .val (.ref b1), .unset, .unset] [(.int ((p2.toUInt32 >>> ((1 : Int32) &&& 31).toUInt32).toInt32)), (.int ((p0.toUInt32 >>> ((8 : Int32) &&& 31).toUInt32).toInt32)), (.int (1 : Int32)), (.ref b1)])) _ _ _ _ _ _
        obtain ⟨_, _, ⟨T8, L8, k8, n8⟩, -, X8, ⟨Lc8, hQ8, l8, y8, z8⟩, st8⟩ := Jvm.LawKit.callS X5 hx (y := (⟨"com/example/floe/floe/rest/FramingLinesQuotedStringEndPinLaw", "draw", "(II)C"⟩ : MethodName)) hown (mvT hZ (hw _ (List.mem_of_getElem? (i := 1) rfl))) (mvT hZ (hw _ (List.mem_of_getElem? (i := 2) rfl))) (mvT hZ (hw _ (List.mem_of_getElem? (i := 3) rfl))) (mvT hZ (hw _ (List.mem_of_getElem? (i := 4) rfl))) (by decide) (backOf (W := 2) (rm1 l Z a0 hw [] ((p0.toUInt32 >>> ((8 : Int32) &&& 31).toUInt32).toInt32) ((p2.toUInt32 >>> ((1 : Int32) &&& 31).toUInt32).toInt32) h5 n0) hZ (hw _ (List.mem_of_getElem? (i := 4) rfl)) (hw _ (List.mem_of_getElem? (i := 3) rfl)) (by decide) (by decide)) (g := (mkF m 42 #[.val (.int p0), .val (.int p1), .val (.int p2), .val (.int (0 : Int32)), .val (.int (Int32.ofNat i0)), .val (.ref b1), .unset, .unset] [(.int ((p2.toUInt32 >>> ((1 : Int32) &&& 31).toUInt32).toInt32)), (.int ((p0.toUInt32 >>> ((8 : Int32) &&& 31).toUInt32).toInt32)), (.int (1 : Int32)), (.ref b1)])) rfl (by rw [hml]; rfl) (argsL := [(.int ((p0.toUInt32 >>> ((8 : Int32) &&& 31).toUInt32).toInt32)), (.int ((p2.toUInt32 >>> ((1 : Int32) &&& 31).toUInt32).toInt32))]) (rest := [(.int (1 : Int32)), (.ref b1)]) (lenOf pd_6 rfl) rfl (by show 2 * 0 + _ ≤ _; exact Nat.le_of_eq rfl) (hb hby at_42) (fun _ _ => ⟨rfl, e5, (by decide : 1 + 0 ≤ _), (by decide : 4 + 0 ≤ _)⟩)
        dsimp only [Pt.U, Pt.locs, Pt.cells, Pt.slots] at X8 l8 y8 z8 st8 hQ8
        subst l8 y8 z8
        obtain ⟨rfl, Nq8, eh8⟩ := hQ8
        have N8 := Fr.app N5 Nq8
        refine own_goW (fun _ k => st8 _ k) ?_
        show own_GW _ _ _ (T8.setTop (mkF m 45 #[.val (.int p0), .val (.int p1), .val (.int p2), .val (.int (0 : Int32)), .val (.int (Int32.ofNat i0)), .val (.ref b1), .unset, .unset] [(.int (own_draw ((p0.toUInt32 >>> ((8 : Int32) &&& 31).toUInt32).toInt32) ((p2.toUInt32 >>> ((1 : Int32) &&& 31).toUInt32).toInt32))), (.int (1 : Int32)), (.ref b1)])) _ _ _ _ _ _
        obtain ⟨x1, h_x1⟩ : ∃ z : Int32, z = (own_draw ((p0.toUInt32 >>> ((8 : Int32) &&& 31).toUInt32).toInt32) ((p2.toUInt32 >>> ((1 : Int32) &&& 31).toUInt32).toInt32)) := ⟨_, rfl⟩
        · rw [← h_x1]
          have r_x1 : ¬ x1 < 0 ∧ ¬ (255 : Int32) < x1 := by rw [h_x1]; exact own_drw _ _
          have e_x1 : nar .char x1 = x1 := own_nar8 r_x1
          show own_GW _ _ _ (T8.setTop (mkF m 45 #[.val (.int p0), .val (.int p1), .val (.int p2), .val (.int (0 : Int32)), .val (.int (Int32.ofNat i0)), .val (.ref b1), .unset, .unset] [(.int x1), (.int (1 : Int32)), (.ref b1)])) _ _ _ _ _ _
          obtain ⟨cl9, Ar9, q9, S9, Ng9, H9, G9⟩ := id f7
          have in9 : ¬ ((1 : Int32) < 0 ∨ cl9.slots.size ≤ ((1 : Int32)).toNatClampNeg) := inb_of S9 ⟨by decide, by decide⟩
          obtain ⟨T9, h9, X9, e9, W9, st9⟩ := stC X8 hx hZ eh8 Ar9 (j := (1 : Int32)) in9 (g := (mkF m 45 #[.val (.int p0), .val (.int p1), .val (.int p2), .val (.int (0 : Int32)), .val (.int (Int32.ofNat i0)), .val (.ref b1), .unset, .unset] [(.int x1), (.int (1 : Int32)), (.ref b1)])) rfl rfl (hb hby at_45)
          have N9 := Fr.snoc X9 N8 gg1
          have Zs9 : n0 ≤ h9.size := Nat.le_trans Zs5 (Keep.of_wr W9).1
          have K9_0 : Keep h0 h9 [] := K5_0.wr W9 (Or.inr sz1_0)
          have K9_1 : Keep h0 h9 [] := K5_1.wr W9 (Or.inr sz1_1)
          have f10 : Old Z n0 h9 := f6.wr W9 gg1
          have f11 : Arv Z h9 b1 k1 .char (4 : Int32) [(.int x0), (.int x1), (.int (0 : Int32)), (.int (0 : Int32))] (.int (0 : Int32)) := (by have q := Arv.set Ar9 q9 S9 Ng9 H9 G9 (fits_nar_char _) W9 1 rfl (Nat.le_of_ble_eq_true rfl); rw [e_x1] at q; exact q)
          refine own_goW (fun _ k => st9 _ k) ?_
          show own_GW _ _ _ (T9.setTop (mkF m 46 #[.val (.int p0), .val (.int p1), .val (.int p2), .val (.int (0 : Int32)), .val (.int (Int32.ofNat i0)), .val (.ref b1), .unset, .unset] [])) _ _ _ _ _ _
          refine own_goW (fun _ k => XS.aload X9.here hx rfl (hb hby at_46) rfl rfl k) ?_
          show own_GW _ _ _ (T9.setTop (mkF m 48 #[.val (.int p0), .val (.int p1), .val (.int p2), .val (.int (0 : Int32)), .val (.int (Int32.ofNat i0)), .val (.ref b1), .unset, .unset] [(.ref b1)])) _ _ _ _ _ _
          refine own_goW (fun _ k => XS.iconst X9.here hx rfl (hb hby at_48) k) ?_
          show own_GW _ _ _ (T9.setTop (mkF m 49 #[.val (.int p0), .val (.int p1), .val (.int p2), .val (.int (0 : Int32)), .val (.int (Int32.ofNat i0)), .val (.ref b1), .unset, .unset] [(.int (2 : Int32)), (.ref b1)])) _ _ _ _ _ _
          refine own_goW (fun _ k => XS.iloadN X9.here hx rfl (hb hby at_49) rfl k) ?_
          show own_GW _ _ _ (T9.setTop (mkF m 50 #[.val (.int p0), .val (.int p1), .val (.int p2), .val (.int (0 : Int32)), .val (.int (Int32.ofNat i0)), .val (.ref b1), .unset, .unset] [(.int p0), (.int (2 : Int32)), (.ref b1)])) _ _ _ _ _ _
          refine own_goW (fun _ k => XS.bipush X9.here hx rfl (hb hby at_50) k) ?_
          show own_GW _ _ _ (T9.setTop (mkF m 52 #[.val (.int p0), .val (.int p1), .val (.int p2), .val (.int (0 : Int32)), .val (.int (Int32.ofNat i0)), .val (.ref b1), .unset, .unset] [(.int (16 : Int32)), (.int p0), (.int (2 : Int32)), (.ref b1)])) _ _ _ _ _ _
          refine own_goW (fun _ k => XS.iushr X9.here hx rfl (hb hby at_52) rfl k) ?_
          show own_GW _ _ _ (T9.setTop (mkF m 53 #[.val (.int p0), .val (.int p1), .val (.int p2), .val (.int (0 : Int32)), .val (.int (Int32.ofNat i0)), .val (.ref b1), .unset, .unset] [(.int ((p0.toUInt32 >>> ((16 : Int32) &&& 31).toUInt32).toInt32)), (.int (2 : Int32)), (.ref b1)])) _ _ _ _ _ _
          refine own_goW (fun _ k => XS.iloadN X9.here hx rfl (hb hby at_53) rfl k) ?_
          show own_GW _ _ _ (T9.setTop (mkF m 54 #[.val (.int p0), .val (.int p1), .val (.int p2), .val (.int (0 : Int32)), .val (.int (Int32.ofNat i0)), .val (.ref b1), .unset, .unset] [(.int p2), (.int ((p0.toUInt32 >>> ((16 : Int32) &&& 31).toUInt32).toInt32)), (.int (2 : Int32)), (.ref b1)])) _ _ _ _ _ _
          refine own_goW (fun _ k => XS.iconst X9.here hx rfl (hb hby at_54) k) ?_
          show own_GW _ _ _ (T9.setTop (mkF m 55 #[.val (.int p0), .val (.int p1), .val (.int p2), .val (.int (0 : Int32)), .val (.int (Int32.ofNat i0)), .val (.ref b1), .unset, .unset] [(.int (2 : Int32)), (.int p2), (.int ((p0.toUInt32 >>> ((16 : Int32) &&& 31).toUInt32).toInt32)), (.int (2 : Int32)), (.ref b1)])) _ _ _ _ _ _
          refine own_goW (fun _ k => XS.iushr X9.here hx rfl (hb hby at_55) rfl k) ?_
          show own_GW _ _ _ (T9.setTop (mkF m 56 #[.val (.int p0), .val (.int p1), .val (.int p2), .val (.int (0 : Int32)), .val (.int (Int32.ofNat i0)), .val (.ref b1), .unset, .unset] [(.int ((p2.toUInt32 >>> ((2 : Int32) &&& 31).toUInt32).toInt32)), (.int ((p0.toUInt32 >>> ((16 : Int32) &&& 31).toUInt32).toInt32)), (.int (2 : Int32)), (.ref b1)])) _ _ _ _ _ _
          obtain ⟨_, _, ⟨T12, L12, k12, n12⟩, -, X12, ⟨Lc12, hQ12, l12, y12, z12⟩, st12⟩ := Jvm.LawKit.callS X9 hx (y := (⟨"com/example/floe/floe/rest/FramingLinesQuotedStringEndPinLaw", "draw", "(II)C"⟩ : MethodName)) hown (mvT hZ (hw _ (List.mem_of_getElem? (i := 1) rfl))) (mvT hZ (hw _ (List.mem_of_getElem? (i := 2) rfl))) (mvT hZ (hw _ (List.mem_of_getElem? (i := 3) rfl))) (mvT hZ (hw _ (List.mem_of_getElem? (i := 4) rfl))) (by decide) (backOf (W := 2) (rm1 l Z a0 hw [] ((p0.toUInt32 >>> ((16 : Int32) &&& 31).toUInt32).toInt32) ((p2.toUInt32 >>> ((2 : Int32) &&& 31).toUInt32).toInt32) h9 n0) hZ (hw _ (List.mem_of_getElem? (i := 4) rfl)) (hw _ (List.mem_of_getElem? (i := 3) rfl)) (by decide) (by decide)) (g := (mkF m 56 #[.val (.int p0), .val (.int p1), .val (.int p2), .val (.int (0 : Int32)), .val (.int (Int32.ofNat i0)), .val (.ref b1), .unset, .unset] [(.int ((p2.toUInt32 >>> ((2 : Int32) &&& 31).toUInt32).toInt32)), (.int ((p0.toUInt32 >>> ((16 : Int32) &&& 31).toUInt32).toInt32)), (.int (2 : Int32)), (.ref b1)])) rfl (by rw [hml]; rfl) (argsL := [(.int ((p0.toUInt32 >>> ((16 : Int32) &&& 31).toUInt32).toInt32)), (.int ((p2.toUInt32 >>> ((2 : Int32) &&& 31).toUInt32).toInt32))]) (rest := [(.int (2 : Int32)), (.ref b1)]) (lenOf pd_6 rfl) rfl (by show 2 * 0 + _ ≤ _; exact Nat.le_of_eq rfl) (hb hby at_56) (fun _ _ => ⟨rfl, e9, (by decide : 1 + 0 ≤ _), (by decide : 4 + 0 ≤ _)⟩)
          dsimp only [Pt.U, Pt.locs, Pt.cells, Pt.slots] at X12 l12 y12 z12 st12 hQ12
          subst l12 y12 z12
          obtain ⟨rfl, Nq12, eh12⟩ := hQ12
          have N12 := Fr.app N9 Nq12
          refine own_goW (fun _ k => st12 _ k) ?_
          show own_GW _ _ _ (T12.setTop (mkF m 59 #[.val (.int p0), .val (.int p1), .val (.int p2), .val (.int (0 : Int32)), .val (.int (Int32.ofNat i0)), .val (.ref b1), .unset, .unset] [(.int (own_draw ((p0.toUInt32 >>> ((16 : Int32) &&& 31).toUInt32).toInt32) ((p2.toUInt32 >>> ((2 : Int32) &&& 31).toUInt32).toInt32))), (.int (2 : Int32)), (.ref b1)])) _ _ _ _ _ _
          obtain ⟨x2, h_x2⟩ : ∃ z : Int32, z = (own_draw ((p0.toUInt32 >>> ((16 : Int32) &&& 31).toUInt32).toInt32) ((p2.toUInt32 >>> ((2 : Int32) &&& 31).toUInt32).toInt32)) := ⟨_, rfl⟩
          · rw [← h_x2]
            have r_x2 : ¬ x2 < 0 ∧ ¬ (255 : Int32) < x2 := by rw [h_x2]; exact own_drw _ _
            have e_x2 : nar .char x2 = x2 := own_nar8 r_x2
            show own_GW _ _ _ (T12.setTop (mkF m 59 #[.val (.int p0), .val (.int p1), .val (.int p2), .val (.int (0 : Int32)), .val (.int (Int32.ofNat i0)), .val (.ref b1), .unset, .unset] [(.int x2), (.int (2 : Int32)), (.ref b1)])) _ _ _ _ _ _
            obtain ⟨cl13, Ar13, q13, S13, Ng13, H13, G13⟩ := id f11
            have in13 : ¬ ((2 : Int32) < 0 ∨ cl13.slots.size ≤ ((2 : Int32)).toNatClampNeg) := inb_of S13 ⟨by decide, by decide⟩
            obtain ⟨T13, h13, X13, e13, W13, st13⟩ := stC X12 hx hZ eh12 Ar13 (j := (2 : Int32)) in13 (g := (mkF m 59 #[.val (.int p0), .val (.int p1), .val (.int p2), .val (.int (0 : Int32)), .val (.int (Int32.ofNat i0)), .val (.ref b1), .unset, .unset] [(.int x2), (.int (2 : Int32)), (.ref b1)])) rfl rfl (hb hby at_59)
            have N13 := Fr.snoc X13 N12 gg1
            have Zs13 : n0 ≤ h13.size := Nat.le_trans Zs9 (Keep.of_wr W13).1
            have K13_0 : Keep h0 h13 [] := K9_0.wr W13 (Or.inr sz1_0)
            have K13_1 : Keep h0 h13 [] := K9_1.wr W13 (Or.inr sz1_1)
            have f14 : Old Z n0 h13 := f10.wr W13 gg1
            have f15 : Arv Z h13 b1 k1 .char (4 : Int32) [(.int x0), (.int x1), (.int x2), (.int (0 : Int32))] (.int (0 : Int32)) := (by have q := Arv.set Ar13 q13 S13 Ng13 H13 G13 (fits_nar_char _) W13 2 rfl (Nat.le_of_ble_eq_true rfl); rw [e_x2] at q; exact q)
            refine own_goW (fun _ k => st13 _ k) ?_
            show own_GW _ _ _ (T13.setTop (mkF m 60 #[.val (.int p0), .val (.int p1), .val (.int p2), .val (.int (0 : Int32)), .val (.int (Int32.ofNat i0)), .val (.ref b1), .unset, .unset] [])) _ _ _ _ _ _
            refine own_goW (fun _ k => XS.aload X13.here hx rfl (hb hby at_60) rfl rfl k) ?_
            show own_GW _ _ _ (T13.setTop (mkF m 62 #[.val (.int p0), .val (.int p1), .val (.int p2), .val (.int (0 : Int32)), .val (.int (Int32.ofNat i0)), .val (.ref b1), .unset, .unset] [(.ref b1)])) _ _ _ _ _ _
            refine own_goW (fun _ k => XS.iconst X13.here hx rfl (hb hby at_62) k) ?_
            show own_GW _ _ _ (T13.setTop (mkF m 63 #[.val (.int p0), .val (.int p1), .val (.int p2), .val (.int (0 : Int32)), .val (.int (Int32.ofNat i0)), .val (.ref b1), .unset, .unset] [(.int (3 : Int32)), (.ref b1)])) _ _ _ _ _ _
            refine own_goW (fun _ k => XS.iloadN X13.here hx rfl (hb hby at_63) rfl k) ?_
            show own_GW _ _ _ (T13.setTop (mkF m 64 #[.val (.int p0), .val (.int p1), .val (.int p2), .val (.int (0 : Int32)), .val (.int (Int32.ofNat i0)), .val (.ref b1), .unset, .unset] [(.int p0), (.int (3 : Int32)), (.ref b1)])) _ _ _ _ _ _
            refine own_goW (fun _ k => XS.bipush X13.here hx rfl (hb hby at_64) k) ?_
            show own_GW _ _ _ (T13.setTop (mkF m 66 #[.val (.int p0), .val (.int p1), .val (.int p2), .val (.int (0 : Int32)), .val (.int (Int32.ofNat i0)), .val (.ref b1), .unset, .unset] [(.int (24 : Int32)), (.int p0), (.int (3 : Int32)), (.ref b1)])) _ _ _ _ _ _
            refine own_goW (fun _ k => XS.iushr X13.here hx rfl (hb hby at_66) rfl k) ?_
            show own_GW _ _ _ (T13.setTop (mkF m 67 #[.val (.int p0), .val (.int p1), .val (.int p2), .val (.int (0 : Int32)), .val (.int (Int32.ofNat i0)), .val (.ref b1), .unset, .unset] [(.int ((p0.toUInt32 >>> ((24 : Int32) &&& 31).toUInt32).toInt32)), (.int (3 : Int32)), (.ref b1)])) _ _ _ _ _ _
            refine own_goW (fun _ k => XS.iloadN X13.here hx rfl (hb hby at_67) rfl k) ?_
            show own_GW _ _ _ (T13.setTop (mkF m 68 #[.val (.int p0), .val (.int p1), .val (.int p2), .val (.int (0 : Int32)), .val (.int (Int32.ofNat i0)), .val (.ref b1), .unset, .unset] [(.int p2), (.int ((p0.toUInt32 >>> ((24 : Int32) &&& 31).toUInt32).toInt32)), (.int (3 : Int32)), (.ref b1)])) _ _ _ _ _ _
            refine own_goW (fun _ k => XS.iconst X13.here hx rfl (hb hby at_68) k) ?_
            show own_GW _ _ _ (T13.setTop (mkF m 69 #[.val (.int p0), .val (.int p1), .val (.int p2), .val (.int (0 : Int32)), .val (.int (Int32.ofNat i0)), .val (.ref b1), .unset, .unset] [(.int (3 : Int32)), (.int p2), (.int ((p0.toUInt32 >>> ((24 : Int32) &&& 31).toUInt32).toInt32)), (.int (3 : Int32)), (.ref b1)])) _ _ _ _ _ _
            refine own_goW (fun _ k => XS.iushr X13.here hx rfl (hb hby at_69) rfl k) ?_
            show own_GW _ _ _ (T13.setTop (mkF m 70 #[.val (.int p0), .val (.int p1), .val (.int p2), .val (.int (0 : Int32)), .val (.int (Int32.ofNat i0)), .val (.ref b1), .unset, .unset] [(.int ((p2.toUInt32 >>> ((3 : Int32) &&& 31).toUInt32).toInt32)), (.int ((p0.toUInt32 >>> ((24 : Int32) &&& 31).toUInt32).toInt32)), (.int (3 : Int32)), (.ref b1)])) _ _ _ _ _ _
            obtain ⟨_, _, ⟨T16, L16, k16, n16⟩, -, X16, ⟨Lc16, hQ16, l16, y16, z16⟩, st16⟩ := Jvm.LawKit.callS X13 hx (y := (⟨"com/example/floe/floe/rest/FramingLinesQuotedStringEndPinLaw", "draw", "(II)C"⟩ : MethodName)) hown (mvT hZ (hw _ (List.mem_of_getElem? (i := 1) rfl))) (mvT hZ (hw _ (List.mem_of_getElem? (i := 2) rfl))) (mvT hZ (hw _ (List.mem_of_getElem? (i := 3) rfl))) (mvT hZ (hw _ (List.mem_of_getElem? (i := 4) rfl))) (by decide) (backOf (W := 2) (rm1 l Z a0 hw [] ((p0.toUInt32 >>> ((24 : Int32) &&& 31).toUInt32).toInt32) ((p2.toUInt32 >>> ((3 : Int32) &&& 31).toUInt32).toInt32) h13 n0) hZ (hw _ (List.mem_of_getElem? (i := 4) rfl)) (hw _ (List.mem_of_getElem? (i := 3) rfl)) (by decide) (by decide)) (g := (mkF m 70 #[.val (.int p0), .val (.int p1), .val (.int p2), .val (.int (0 : Int32)), .val (.int (Int32.ofNat i0)), .val (.ref b1), .unset, .unset] [(.int ((p2.toUInt32 >>> ((3 : Int32) &&& 31).toUInt32).toInt32)), (.int ((p0.toUInt32 >>> ((24 : Int32) &&& 31).toUInt32).toInt32)), (.int (3 : Int32)), (.ref b1)])) rfl (by rw [hml]; rfl) (argsL := [(.int ((p0.toUInt32 >>> ((24 : Int32) &&& 31).toUInt32).toInt32)), (.int ((p2.toUInt32 >>> ((3 : Int32) &&& 31).toUInt32).toInt32))]) (rest := [(.int (3 : Int32)), (.ref b1)]) (lenOf pd_6 rfl) rfl (by show 2 * 0 + _ ≤ _; exact Nat.le_of_eq rfl) (hb hby at_70) (fun _ _ => ⟨rfl, e13, (by decide : 1 + 0 ≤ _), (by decide : 4 + 0 ≤ _)⟩)
            dsimp only [Pt.U, Pt.locs, Pt.cells, Pt.slots] at X16 l16 y16 z16 st16 hQ16
            subst l16 y16 z16
            obtain ⟨rfl, Nq16, eh16⟩ := hQ16
            have N16 := Fr.app N13 Nq16
            refine own_goW (fun _ k => st16 _ k) ?_
            show own_GW _ _ _ (T16.setTop (mkF m 73 #[.val (.int p0), .val (.int p1), .val (.int p2), .val (.int (0 : Int32)), .val (.int (Int32.ofNat i0)), .val (.ref b1), .unset, .unset] [(.int (own_draw ((p0.toUInt32 >>> ((24 : Int32) &&& 31).toUInt32).toInt32) ((p2.toUInt32 >>> ((3 : Int32) &&& 31).toUInt32).toInt32))), (.int (3 : Int32)), (.ref b1)])) _ _ _ _ _ _
            obtain ⟨x3, h_x3⟩ : ∃ z : Int32, z = (own_draw ((p0.toUInt32 >>> ((24 : Int32) &&& 31).toUInt32).toInt32) ((p2.toUInt32 >>> ((3 : Int32) &&& 31).toUInt32).toInt32)) := ⟨_, rfl⟩
            · rw [← h_x3]
              have r_x3 : ¬ x3 < 0 ∧ ¬ (255 : Int32) < x3 := by rw [h_x3]; exact own_drw _ _
              have e_x3 : nar .char x3 = x3 := own_nar8 r_x3
              show own_GW _ _ _ (T16.setTop (mkF m 73 #[.val (.int p0), .val (.int p1), .val (.int p2), .val (.int (0 : Int32)), .val (.int (Int32.ofNat i0)), .val (.ref b1), .unset, .unset] [(.int x3), (.int (3 : Int32)), (.ref b1)])) _ _ _ _ _ _
              obtain ⟨cl17, Ar17, q17, S17, Ng17, H17, G17⟩ := id f15
              have in17 : ¬ ((3 : Int32) < 0 ∨ cl17.slots.size ≤ ((3 : Int32)).toNatClampNeg) := inb_of S17 ⟨by decide, by decide⟩
              obtain ⟨T17, h17, X17, e17, W17, st17⟩ := stC X16 hx hZ eh16 Ar17 (j := (3 : Int32)) in17 (g := (mkF m 73 #[.val (.int p0), .val (.int p1), .val (.int p2), .val (.int (0 : Int32)), .val (.int (Int32.ofNat i0)), .val (.ref b1), .unset, .unset] [(.int x3), (.int (3 : Int32)), (.ref b1)])) rfl rfl (hb hby at_73)
              have N17 := Fr.snoc X17 N16 gg1
              have Zs17 : n0 ≤ h17.size := Nat.le_trans Zs13 (Keep.of_wr W17).1
              have K17_0 : Keep h0 h17 [] := K13_0.wr W17 (Or.inr sz1_0)
              have K17_1 : Keep h0 h17 [] := K13_1.wr W17 (Or.inr sz1_1)
              have f18 : Old Z n0 h17 := f14.wr W17 gg1
              have f19 : Arv Z h17 b1 k1 .char (4 : Int32) [(.int x0), (.int x1), (.int x2), (.int x3)] (.int (0 : Int32)) := (by have q := Arv.set Ar17 q17 S17 Ng17 H17 G17 (fits_nar_char _) W17 3 rfl (Nat.le_of_ble_eq_true rfl); rw [e_x3] at q; exact q)
              refine own_goW (fun _ k => st17 _ k) ?_
              show own_GW _ _ _ (T17.setTop (mkF m 74 #[.val (.int p0), .val (.int p1), .val (.int p2), .val (.int (0 : Int32)), .val (.int (Int32.ofNat i0)), .val (.ref b1), .unset, .unset] [])) _ _ _ _ _ _
              refine own_goW (fun _ k => XS.aload X17.here hx rfl (hb hby at_74) rfl rfl k) ?_
              show own_GW _ _ _ (T17.setTop (mkF m 76 #[.val (.int p0), .val (.int p1), .val (.int p2), .val (.int (0 : Int32)), .val (.int (Int32.ofNat i0)), .val (.ref b1), .unset, .unset] [(.ref b1)])) _ _ _ _ _ _
              refine own_goW (fun _ k => XS.iloadN X17.here hx rfl (hb hby at_76) rfl k) ?_
              show own_GW _ _ _ (T17.setTop (mkF m 77 #[.val (.int p0), .val (.int p1), .val (.int p2), .val (.int (0 : Int32)), .val (.int (Int32.ofNat i0)), .val (.ref b1), .unset, .unset] [(.int (0 : Int32)), (.ref b1)])) _ _ _ _ _ _
              have CQ20 := CR0.trans (CHr.keep K17_1 all0 CR0.1)
              obtain ⟨_, _, ⟨T20, L20, k20, n20⟩, -, X20, hS'20, gh20, ⟨Lc20, hQ20, l20, y20, z20, CC20⟩, st20⟩ := callSS X17 hx (y := (⟨"com/example/floe/floe/rest/FramingLinesQuotedStringEndPinLaw", "make", "([CI)Ljava/lang/String;"⟩ : MethodName)) hown (mvT hZ (hw _ (List.mem_of_getElem? (i := 5) rfl))) (mvT hZ (hw _ (List.mem_of_getElem? (i := 6) rfl))) (mvT hZ (hw _ (List.mem_of_getElem? (i := 3) rfl))) (mvT hZ (hw _ (List.mem_of_getElem? (i := 7) rfl))) (by decide) (backOfSH (W := 0) (rm2a l Z a0 hw [] b1 zc k1 x0 x1 x2 x3 h17 n0 Zs17 f18 P_ZS_java_lang_String_COMPACT_STRINGS hcs f19 (own_all4 r_x0 r_x1 r_x2 r_x3)) hZ (hw _ (List.mem_of_getElem? (i := 7) rfl)) (hw _ (List.mem_of_getElem? (i := 3) rfl)) (by decide) (by decide) (own_EW hw) CQ20.1) (g := (mkF m 77 #[.val (.int p0), .val (.int p1), .val (.int p2), .val (.int (0 : Int32)), .val (.int (Int32.ofNat i0)), .val (.ref b1), .unset, .unset] [(.int (0 : Int32)), (.ref b1)])) rfl (by rw [hml]; rfl) (argsL := [(.ref b1), (.int (0 : Int32))]) (rest := []) (lenOf pd_7 rfl) rfl (by show 2 * 0 + _ ≤ _; exact Nat.le_of_eq rfl) (hb hby at_77) (fun _ _ => ⟨rfl, e17, (by decide : 1 + 2 ≤ _), (by decide : 4 + 4 ≤ _)⟩)
              dsimp only [Pt.U, Pt.locs, Pt.cells, Pt.slots] at X20 l20 y20 z20 st20 hQ20 hS'20 gh20 CC20
              subst l20 y20 z20
              have hk20 : h17.size ≤ T20.heap.size := by rw [← show T17.heap = h17 from e17]; exact gh20
              obtain ⟨X20, hS20, hZ, hown⟩ := rebS hS0 (Nat.le_trans hk0 K17_1.1) X20 hS'20 hk20 hZ hown
              have CR20 := CQ20.trans CC20
              obtain ⟨a20, rfl, Nq20, Kq20, r20_0⟩ := hQ20
              have N20 := Fr.app N17 Nq20
              have f21 : Old Z n0 T20.heap := f18.keep Kq20 all0
              have f22 : Arv Z T20.heap b1 k1 .char (4 : Int32) [(.int x0), (.int x1), (.int x2), (.int x3)] (.int (0 : Int32)) := f19.keep Kq20 nin0
              have Zs20 : n0 ≤ T20.heap.size := Nat.le_trans Zs17 Kq20.1
              have K20_0 : Keep h0 T20.heap [] := K17_0.trans Kq20 all0
              have KS20 : Keep T20.heap T20.heap [] := Keep.refl _ _
              refine own_trW st20 ?_
              show own_GW _ _ _ (T20.setTop (mkF m 80 #[.val (.int p0), .val (.int p1), .val (.int p2), .val (.int (0 : Int32)), .val (.int (Int32.ofNat i0)), .val (.ref b1), .unset, .unset] [(.ref a20)])) _ _ _ _ _ _
              refine own_goW (fun _ k => XS.astore X20.here hx rfl (hb hby at_80) rfl rfl (l' := #[.val (.int p0), .val (.int p1), .val (.int p2), .val (.int (0 : Int32)), .val (.int (Int32.ofNat i0)), .val (.ref b1), .val (.ref a20), .unset]) rfl k) ?_
              show own_GW _ _ _ (T20.setTop (mkF m 82 #[.val (.int p0), .val (.int p1), .val (.int p2), .val (.int (0 : Int32)), .val (.int (Int32.ofNat i0)), .val (.ref b1), .val (.ref a20), .unset] [])) _ _ _ _ _ _
              refine own_goW (fun _ k => XS.aload X20.here hx rfl (hb hby at_82) rfl rfl k) ?_
              show own_GW _ _ _ (T20.setTop (mkF m 84 #[.val (.int p0), .val (.int p1), .val (.int p2), .val (.int (0 : Int32)), .val (.int (Int32.ofNat i0)), .val (.ref b1), .val (.ref a20), .unset] [(.ref a20)])) _ _ _ _ _ _
              refine own_goW (fun _ k => XS.iload X20.here hx rfl (hb hby at_84) rfl k) ?_
              show own_GW _ _ _ (T20.setTop (mkF m 86 #[.val (.int p0), .val (.int p1), .val (.int p2), .val (.int (0 : Int32)), .val (.int (Int32.ofNat i0)), .val (.ref b1), .val (.ref a20), .unset] [(.int (Int32.ofNat i0)), (.ref a20)])) _ _ _ _ _ _
              obtain ⟨_, _, ⟨T23, L23, k23, n23⟩, -, X23, ⟨Lc23, hQ23, l23, y23, z23⟩, st23⟩ := Jvm.LawKit.callS X20 hx (y := (⟨"com/example/floe/floe/rest/FramingLines", "quotedStringEnd", "(Ljava/lang/String;I)I"⟩ : MethodName)) hown (mvT hZ (hw _ (List.mem_of_getElem? (i := 37) rfl))) (mvT hZ (hw _ (List.mem_of_getElem? (i := 38) rfl))) (mvT hZ (hw _ (List.mem_of_getElem? (i := 39) rfl))) (mvT hZ (hw _ (List.mem_of_getElem? (i := 40) rfl))) (by decide) (backOf (W := 0) (rm9 l Z a0 hw [] a20 ([] : List Int32) i0 zc fm T20.heap n0 Zs20 f21 P_ZS_java_lang_String_COMPACT_STRINGS hcs P_ZS_jdk_internal_util_Preconditions_SIOOBE_FORMATTER hfm r20_0 (by simp) (by omega)) hZ (hw _ (List.mem_of_getElem? (i := 40) rfl)) (hw _ (List.mem_of_getElem? (i := 39) rfl)) (by decide) (by decide)) (g := (mkF m 86 #[.val (.int p0), .val (.int p1), .val (.int p2), .val (.int (0 : Int32)), .val (.int (Int32.ofNat i0)), .val (.ref b1), .val (.ref a20), .unset] [(.int (Int32.ofNat i0)), (.ref a20)])) rfl (by rw [hml]; rfl) (argsL := [(.ref a20), (.int (Int32.ofNat i0))]) (rest := []) (lenOf pd_8 rfl) rfl (by show 2 * 0 + _ ≤ _; exact Nat.le_of_eq rfl) (hb hby at_86) (fun _ _ => ⟨rfl, rfl, (by decide : 3 + 0 ≤ _), (by decide : 8 + 0 ≤ _)⟩)
              dsimp only [Pt.U, Pt.locs, Pt.cells, Pt.slots] at X23 l23 y23 z23 st23 hQ23
              subst l23 y23 z23
              obtain ⟨rfl, Nq23, eh23⟩ := hQ23
              have N23 := Fr.app N20 Nq23
              refine own_goW (fun _ k => st23 _ k) ?_
              show own_GW _ _ _ (T23.setTop (mkF m 89 #[.val (.int p0), .val (.int p1), .val (.int p2), .val (.int (0 : Int32)), .val (.int (Int32.ofNat i0)), .val (.ref b1), .val (.ref a20), .unset] [(.int (own_qse ([] : List Int32) i0))])) _ _ _ _ _ _
              refine own_goW (fun _ k => XS.istore X23.here hx rfl (hb hby at_89) rfl (l' := #[.val (.int p0), .val (.int p1), .val (.int p2), .val (.int (0 : Int32)), .val (.int (Int32.ofNat i0)), .val (.ref b1), .val (.ref a20), .val (.int (own_qse ([] : List Int32) i0))]) rfl k) ?_
              show own_GW _ _ _ (T23.setTop (mkF m 91 #[.val (.int p0), .val (.int p1), .val (.int p2), .val (.int (0 : Int32)), .val (.int (Int32.ofNat i0)), .val (.ref b1), .val (.ref a20), .val (.int (own_qse ([] : List Int32) i0))] [])) _ _ _ _ _ _
              refine own_goW (fun _ k => XS.iload X23.here hx rfl (hb hby at_91) rfl k) ?_
              show own_GW _ _ _ (T23.setTop (mkF m 93 #[.val (.int p0), .val (.int p1), .val (.int p2), .val (.int (0 : Int32)), .val (.int (Int32.ofNat i0)), .val (.ref b1), .val (.ref a20), .val (.int (own_qse ([] : List Int32) i0))] [(.int (own_qse ([] : List Int32) i0))])) _ _ _ _ _ _
              refine own_goW (fun _ k => XS.aload X23.here hx rfl (hb hby at_93) rfl rfl k) ?_
              show own_GW _ _ _ (T23.setTop (mkF m 95 #[.val (.int p0), .val (.int p1), .val (.int p2), .val (.int (0 : Int32)), .val (.int (Int32.ofNat i0)), .val (.ref b1), .val (.ref a20), .val (.int (own_qse ([] : List Int32) i0))] [(.ref b1), (.int (own_qse ([] : List Int32) i0))])) _ _ _ _ _ _
              refine own_goW (fun _ k => XS.iloadN X23.here hx rfl (hb hby at_95) rfl k) ?_
              show own_GW _ _ _ (T23.setTop (mkF m 96 #[.val (.int p0), .val (.int p1), .val (.int p2), .val (.int (0 : Int32)), .val (.int (Int32.ofNat i0)), .val (.ref b1), .val (.ref a20), .val (.int (own_qse ([] : List Int32) i0))] [(.int (0 : Int32)), (.ref b1), (.int (own_qse ([] : List Int32) i0))])) _ _ _ _ _ _
              refine own_goW (fun _ k => XS.iload X23.here hx rfl (hb hby at_96) rfl k) ?_
              show own_GW _ _ _ (T23.setTop (mkF m 98 #[.val (.int p0), .val (.int p1), .val (.int p2), .val (.int (0 : Int32)), .val (.int (Int32.ofNat i0)), .val (.ref b1), .val (.ref a20), .val (.int (own_qse ([] : List Int32) i0))] [(.int (Int32.ofNat i0)), (.int (0 : Int32)), (.ref b1), (.int (own_qse ([] : List Int32) i0))])) _ _ _ _ _ _
              obtain ⟨_, _, ⟨T24, L24, k24, n24⟩, -, X24, ⟨Lc24, hQ24, l24, y24, z24⟩, st24⟩ := Jvm.LawKit.callS X23 hx (y := (⟨"com/example/floe/floe/rest/FramingLinesQuotedStringEndPinLaw", "expected", "([CII)I"⟩ : MethodName)) hown (mvT hZ (hw _ (List.mem_of_getElem? (i := 73) rfl))) (mvT hZ (hw _ (List.mem_of_getElem? (i := 74) rfl))) (mvT hZ (hw _ (List.mem_of_getElem? (i := 3) rfl))) (mvT hZ (hw _ (List.mem_of_getElem? (i := 75) rfl))) (by decide) (backOf (W := 1) (rm17 l Z a0 hw [] b1 (0 : Int32) (Int32.ofNat i0) k1 x0 x1 x2 x3 T20.heap n0 Zs20 f22 (by decide) (own_i0 hi5).1 (own_i0 hi5).2) hZ (hw _ (List.mem_of_getElem? (i := 75) rfl)) (hw _ (List.mem_of_getElem? (i := 3) rfl)) (by decide) (by decide)) (g := (mkF m 98 #[.val (.int p0), .val (.int p1), .val (.int p2), .val (.int (0 : Int32)), .val (.int (Int32.ofNat i0)), .val (.ref b1), .val (.ref a20), .val (.int (own_qse ([] : List Int32) i0))] [(.int (Int32.ofNat i0)), (.int (0 : Int32)), (.ref b1), (.int (own_qse ([] : List Int32) i0))])) rfl (by rw [hml]; rfl) (argsL := [(.ref b1), (.int (0 : Int32)), (.int (Int32.ofNat i0))]) (rest := [(.int (own_qse ([] : List Int32) i0))]) (lenOf pd_5 rfl) rfl (by show 2 * 0 + _ ≤ _; exact Nat.le_of_eq rfl) (hb hby at_98) (fun _ _ => ⟨rfl, eh23, (by decide : 3 + 0 ≤ _), (by decide : 8 + 0 ≤ _)⟩)
              dsimp only [Pt.U, Pt.locs, Pt.cells, Pt.slots] at X24 l24 y24 z24 st24 hQ24
              subst l24 y24 z24
              obtain ⟨rfl, Nq24, eh24⟩ := hQ24
              have N24 := Fr.app N23 Nq24
              refine own_goW (fun _ k => st24 _ k) ?_
              show own_GW _ _ _ (T24.setTop (mkF m 101 #[.val (.int p0), .val (.int p1), .val (.int p2), .val (.int (0 : Int32)), .val (.int (Int32.ofNat i0)), .val (.ref b1), .val (.ref a20), .val (.int (own_qse ([] : List Int32) i0))] [(.int (own_expd (0 : Int32) (Int32.ofNat i0) x0 x1 x2 x3)), (.int (own_qse ([] : List Int32) i0))])) _ _ _ _ _ _
              have hc25 : (own_qse ([] : List Int32) i0) = (own_expd (0 : Int32) (Int32.ofNat i0) x0 x1 x2 x3) := own_same0 x0 x1 x2 x3 i0 hi5
              refine own_goW (fun _ k => XS.icmpNo X24.here hx rfl (hb hby at_101) rfl (teq hc25).2 k) ?_
              show own_GW _ _ _ (T24.setTop (mkF m 104 #[.val (.int p0), .val (.int p1), .val (.int p2), .val (.int (0 : Int32)), .val (.int (Int32.ofNat i0)), .val (.ref b1), .val (.ref a20), .val (.int (own_qse ([] : List Int32) i0))] [])) _ _ _ _ _ _
              refine own_goW (fun _ k => XS.iconst X24.here hx rfl (hb hby at_104) k) ?_
              show own_GW _ _ _ (T24.setTop (mkF m 105 #[.val (.int p0), .val (.int p1), .val (.int p2), .val (.int (0 : Int32)), .val (.int (Int32.ofNat i0)), .val (.ref b1), .val (.ref a20), .val (.int (own_qse ([] : List Int32) i0))] [(.int (1 : Int32))])) _ _ _ _ _ _
              refine own_goW (fun _ k => XS.goto X24.here hx rfl (pc0 := 105) (pc' := 109) rfl (hb hby at_105) (by decide) (by decide) k) ?_
              show own_GW _ _ _ (T24.setTop (mkF m 109 #[.val (.int p0), .val (.int p1), .val (.int p2), .val (.int (0 : Int32)), .val (.int (Int32.ofNat i0)), .val (.ref b1), .val (.ref a20), .val (.int (own_qse ([] : List Int32) i0))] [(.int (1 : Int32))])) _ _ _ _ _ _
              have CQ26 := CR20.trans (CHr.keep KS20 all0 CR20.1)
              have CE26 : CHr Z own_EL s.vm s.heap T24.vm T24.heap := by rw [hh, show T24.heap = T20.heap from eh24]; exact CQ26.trans (CHv.at X24 hZ (own_EW hw) CQ26.1)
              exact own_endWN X24 hx hlk (t := .boolean) Bd.returns (by simp) (hb hby at_109) hS20 (show _ ≤ T24.heap.size by rw [show T24.heap = T20.heap from eh24]; exact (Nat.le_trans (Nat.le_refl _) KS20.1)) (by decide) (by decide) CE26 (Q := (Q0 Z p0 p1 p2 zc fm h0 n0)) (by rw [eh24]; exact ⟨rfl, N24, K20_0⟩)
  · rw [hn]
    show own_GW _ _ _ (s₁.setTop (mkF m 6 #[.val (.int p0), .val (.int p1), .val (.int p2), .unset, .unset, .unset, .unset, .unset] [(.int (1 : Int32))])) _ _ _ _ _ _
    refine own_goW (fun _ k => XS.istoreN X0.here hx rfl (hb hby at_6) rfl (l' := #[.val (.int p0), .val (.int p1), .val (.int p2), .val (.int (1 : Int32)), .unset, .unset, .unset, .unset]) rfl k) ?_
    show own_GW _ _ _ (s₁.setTop (mkF m 7 #[.val (.int p0), .val (.int p1), .val (.int p2), .val (.int (1 : Int32)), .unset, .unset, .unset, .unset] [])) _ _ _ _ _ _
    refine own_goW (fun _ k => XS.iloadN X0.here hx rfl (hb hby at_7) rfl k) ?_
    show own_GW _ _ _ (s₁.setTop (mkF m 8 #[.val (.int p0), .val (.int p1), .val (.int p2), .val (.int (1 : Int32)), .unset, .unset, .unset, .unset] [(.int p1)])) _ _ _ _ _ _
    refine own_goW (fun _ k => XS.iconst X0.here hx rfl (hb hby at_8) k) ?_
    show own_GW _ _ _ (s₁.setTop (mkF m 9 #[.val (.int p0), .val (.int p1), .val (.int p2), .val (.int (1 : Int32)), .unset, .unset, .unset, .unset] [(.int (3 : Int32)), (.int p1)])) _ _ _ _ _ _
    refine own_goW (fun _ k => XS.iushr X0.here hx rfl (hb hby at_9) rfl k) ?_
    show own_GW _ _ _ (s₁.setTop (mkF m 10 #[.val (.int p0), .val (.int p1), .val (.int p2), .val (.int (1 : Int32)), .unset, .unset, .unset, .unset] [(.int ((p1.toUInt32 >>> ((3 : Int32) &&& 31).toUInt32).toInt32))])) _ _ _ _ _ _
    refine own_goW (fun _ k => XS.bipush X0.here hx rfl (hb hby at_10) k) ?_
    show own_GW _ _ _ (s₁.setTop (mkF m 12 #[.val (.int p0), .val (.int p1), .val (.int p2), .val (.int (1 : Int32)), .unset, .unset, .unset, .unset] [(.int (7 : Int32)), (.int ((p1.toUInt32 >>> ((3 : Int32) &&& 31).toUInt32).toInt32))])) _ _ _ _ _ _
    refine own_goW (fun _ k => XS.iand X0.here hx rfl (hb hby at_12) rfl k) ?_
    show own_GW _ _ _ (s₁.setTop (mkF m 13 #[.val (.int p0), .val (.int p1), .val (.int p2), .val (.int (1 : Int32)), .unset, .unset, .unset, .unset] [(.int (((p1.toUInt32 >>> ((3 : Int32) &&& 31).toUInt32).toInt32) &&& (7 : Int32)))])) _ _ _ _ _ _
    refine own_goW (fun _ k => XS.bipush X0.here hx rfl (hb hby at_13) k) ?_
    show own_GW _ _ _ (s₁.setTop (mkF m 15 #[.val (.int p0), .val (.int p1), .val (.int p2), .val (.int (1 : Int32)), .unset, .unset, .unset, .unset] [(.int (6 : Int32)), (.int (((p1.toUInt32 >>> ((3 : Int32) &&& 31).toUInt32).toInt32) &&& (7 : Int32)))])) _ _ _ _ _ _
    refine own_goW (fun _ k => iremM X0 hx rfl (hb hby at_15) rfl (by decide) k) ?_
    show own_GW _ _ _ (s₁.setTop (mkF m 16 #[.val (.int p0), .val (.int p1), .val (.int p2), .val (.int (1 : Int32)), .unset, .unset, .unset, .unset] [(.int ((((p1.toUInt32 >>> ((3 : Int32) &&& 31).toUInt32).toInt32) &&& (7 : Int32)) % (6 : Int32)))])) _ _ _ _ _ _
    obtain ⟨i0, hi5, hs⟩ := own_s6 p1
    · rw [hs]
      show own_GW _ _ _ (s₁.setTop (mkF m 16 #[.val (.int p0), .val (.int p1), .val (.int p2), .val (.int (1 : Int32)), .unset, .unset, .unset, .unset] [(.int (Int32.ofNat i0))])) _ _ _ _ _ _
      refine own_goW (fun _ k => XS.istore X0.here hx rfl (hb hby at_16) rfl (l' := #[.val (.int p0), .val (.int p1), .val (.int p2), .val (.int (1 : Int32)), .val (.int (Int32.ofNat i0)), .unset, .unset, .unset]) rfl k) ?_
      show own_GW _ _ _ (s₁.setTop (mkF m 18 #[.val (.int p0), .val (.int p1), .val (.int p2), .val (.int (1 : Int32)), .val (.int (Int32.ofNat i0)), .unset, .unset, .unset] [])) _ _ _ _ _ _
      refine own_goW (fun _ k => XS.iconst X0.here hx rfl (hb hby at_18) k) ?_
      show own_GW _ _ _ (s₁.setTop (mkF m 19 #[.val (.int p0), .val (.int p1), .val (.int p2), .val (.int (1 : Int32)), .val (.int (Int32.ofNat i0)), .unset, .unset, .unset] [(.int (4 : Int32))])) _ _ _ _ _ _
      obtain ⟨T27, h27, k27, X27, e27, E27, A27, st27⟩ := newP X0 hx hZ (hw _ (List.mem_of_getElem? (i := 0) rfl)) e0 (g := (mkF m 19 #[.val (.int p0), .val (.int p1), .val (.int p2), .val (.int (1 : Int32)), .val (.int (Int32.ofNat i0)), .unset, .unset, .unset] [(.int (4 : Int32))])) rfl (hb hby at_19) rfl (by decide) (cap := 4) (by decide) (by decide) (by decide) (by decide)
      obtain ⟨b27, g27⟩ : ∃ z, z = h0.size := ⟨_, rfl⟩
      rw [← g27] at A27 st27
      have gg27 : n0 ≤ b27 := Nat.le_trans Z0 (Nat.le_of_eq g27.symm)
      have sz27_0 : h0.size ≤ b27 := Nat.le_trans K0.1 (Nat.le_of_eq g27.symm)
      have sz27_1 : h0.size ≤ b27 := Nat.le_trans KS0.1 (Nat.le_of_eq g27.symm)
      have Zs27 : n0 ≤ h27.size := Nat.le_trans Z0 E27.1
      have K27_0 : Keep h0 h27 [] := K0.ext E27
      have K27_1 : Keep h0 h27 [] := KS0.ext E27
      have f28 : Old Z n0 h27 := P_Old.ext E27
      have f29 : Arv Z h27 b27 k27 .char (4 : Int32) [(.int (0 : Int32)), (.int (0 : Int32)), (.int (0 : Int32)), (.int (0 : Int32))] (.int (0 : Int32)) := (Arv.new A27 (by decide)).pad (pad_rep [] (.int (0 : Int32)) 4)
      refine own_goW (fun _ k => st27 _ k) ?_
      show own_GW _ _ _ (T27.setTop (mkF m 21 #[.val (.int p0), .val (.int p1), .val (.int p2), .val (.int (1 : Int32)), .val (.int (Int32.ofNat i0)), .unset, .unset, .unset] [(.ref b27)])) _ _ _ _ _ _
      refine own_goW (fun _ k => XS.astore X27.here hx rfl (hb hby at_21) rfl rfl (l' := #[.val (.int p0), .val (.int p1), .val (.int p2), .val (.int (1 : Int32)), .val (.int (Int32.ofNat i0)), .val (.ref b27), .unset, .unset]) rfl k) ?_
      show own_GW _ _ _ (T27.setTop (mkF m 23 #[.val (.int p0), .val (.int p1), .val (.int p2), .val (.int (1 : Int32)), .val (.int (Int32.ofNat i0)), .val (.ref b27), .unset, .unset] [])) _ _ _ _ _ _
      refine own_goW (fun _ k => XS.aload X27.here hx rfl (hb hby at_23) rfl rfl k) ?_
      show own_GW _ _ _ (T27.setTop (mkF m 25 #[.val (.int p0), .val (.int p1), .val (.int p2), .val (.int (1 : Int32)), .val (.int (Int32.ofNat i0)), .val (.ref b27), .unset, .unset] [(.ref b27)])) _ _ _ _ _ _
      refine own_goW (fun _ k => XS.iconst X27.here hx rfl (hb hby at_25) k) ?_
      show own_GW _ _ _ (T27.setTop (mkF m 26 #[.val (.int p0), .val (.int p1), .val (.int p2), .val (.int (1 : Int32)), .val (.int (Int32.ofNat i0)), .val (.ref b27), .unset, .unset] [(.int (0 : Int32)), (.ref b27)])) _ _ _ _ _ _
      refine own_goW (fun _ k => XS.iloadN X27.here hx rfl (hb hby at_26) rfl k) ?_
      show own_GW _ _ _ (T27.setTop (mkF m 27 #[.val (.int p0), .val (.int p1), .val (.int p2), .val (.int (1 : Int32)), .val (.int (Int32.ofNat i0)), .val (.ref b27), .unset, .unset] [(.int p0), (.int (0 : Int32)), (.ref b27)])) _ _ _ _ _ _
      refine own_goW (fun _ k => XS.iloadN X27.here hx rfl (hb hby at_27) rfl k) ?_
      show own_GW _ _ _ (T27.setTop (mkF m 28 #[.val (.int p0), .val (.int p1), .val (.int p2), .val (.int (1 : Int32)), .val (.int (Int32.ofNat i0)), .val (.ref b27), .unset, .unset] [(.int p2), (.int p0), (.int (0 : Int32)), (.ref b27)])) _ _ _ _ _ _
      obtain ⟨_, _, ⟨T30, L30, k30, n30⟩, -, X30, ⟨Lc30, hQ30, l30, y30, z30⟩, st30⟩ := Jvm.LawKit.callS X27 hx (y := (⟨"com/example/floe/floe/rest/FramingLinesQuotedStringEndPinLaw", "draw", "(II)C"⟩ : MethodName)) hown (mvT hZ (hw _ (List.mem_of_getElem? (i := 1) rfl))) (mvT hZ (hw _ (List.mem_of_getElem? (i := 2) rfl))) (mvT hZ (hw _ (List.mem_of_getElem? (i := 3) rfl))) (mvT hZ (hw _ (List.mem_of_getElem? (i := 4) rfl))) (by decide) (backOf (W := 2) (rm1 l Z a0 hw [] p0 p2 h27 n0) hZ (hw _ (List.mem_of_getElem? (i := 4) rfl)) (hw _ (List.mem_of_getElem? (i := 3) rfl)) (by decide) (by decide)) (g := (mkF m 28 #[.val (.int p0), .val (.int p1), .val (.int p2), .val (.int (1 : Int32)), .val (.int (Int32.ofNat i0)), .val (.ref b27), .unset, .unset] [(.int p2), (.int p0), (.int (0 : Int32)), (.ref b27)])) rfl (by rw [hml]; rfl) (argsL := [(.int p0), (.int p2)]) (rest := [(.int (0 : Int32)), (.ref b27)]) (lenOf pd_6 rfl) rfl (by show 2 * 0 + _ ≤ _; exact Nat.le_of_eq rfl) (hb hby at_28) (fun _ _ => ⟨rfl, e27, (by decide : 1 + 0 ≤ _), (by decide : 4 + 0 ≤ _)⟩)
      dsimp only [Pt.U, Pt.locs, Pt.cells, Pt.slots] at X30 l30 y30 z30 st30 hQ30
      subst l30 y30 z30
      obtain ⟨rfl, Nq30, eh30⟩ := hQ30
      have N30 := Fr.app N0 Nq30
      refine own_goW (fun _ k => st30 _ k) ?_
      show own_GW _ _ _ (T30.setTop (mkF m 31 #[.val (.int p0), .val (.int p1), .val (.int p2), .val (.int (1 : Int32)), .val (.int (Int32.ofNat i0)), .val (.ref b27), .unset, .unset] [(.int (own_draw p0 p2)), (.int (0 : Int32)), (.ref b27)])) _ _ _ _ _ _
      obtain ⟨x0, h_x0⟩ : ∃ z : Int32, z = (own_draw p0 p2) := ⟨_, rfl⟩
      · rw [← h_x0]
        have r_x0 : ¬ x0 < 0 ∧ ¬ (255 : Int32) < x0 := by rw [h_x0]; exact own_drw _ _
        have e_x0 : nar .char x0 = x0 := own_nar8 r_x0
        show own_GW _ _ _ (T30.setTop (mkF m 31 #[.val (.int p0), .val (.int p1), .val (.int p2), .val (.int (1 : Int32)), .val (.int (Int32.ofNat i0)), .val (.ref b27), .unset, .unset] [(.int x0), (.int (0 : Int32)), (.ref b27)])) _ _ _ _ _ _
        obtain ⟨cl31, Ar31, q31, S31, Ng31, H31, G31⟩ := id f29
        have in31 : ¬ ((0 : Int32) < 0 ∨ cl31.slots.size ≤ ((0 : Int32)).toNatClampNeg) := inb_of S31 ⟨by decide, by decide⟩
        obtain ⟨T31, h31, X31, e31, W31, st31⟩ := stC X30 hx hZ eh30 Ar31 (j := (0 : Int32)) in31 (g := (mkF m 31 #[.val (.int p0), .val (.int p1), .val (.int p2), .val (.int (1 : Int32)), .val (.int (Int32.ofNat i0)), .val (.ref b27), .unset, .unset] [(.int x0), (.int (0 : Int32)), (.ref b27)])) rfl rfl (hb hby at_31)
        have N31 := Fr.snoc X31 N30 gg27
        have Zs31 : n0 ≤ h31.size := Nat.le_trans Zs27 (Keep.of_wr W31).1
        have K31_0 : Keep h0 h31 [] := K27_0.wr W31 (Or.inr sz27_0)
        have K31_1 : Keep h0 h31 [] := K27_1.wr W31 (Or.inr sz27_1)
        have f32 : Old Z n0 h31 := f28.wr W31 gg27
        have f33 : Arv Z h31 b27 k27 .char (4 : Int32) [(.int x0), (.int (0 : Int32)), (.int (0 : Int32)), (.int (0 : Int32))] (.int (0 : Int32)) := (by have q := Arv.set Ar31 q31 S31 Ng31 H31 G31 (fits_nar_char _) W31 0 rfl (Nat.le_of_ble_eq_true rfl); rw [e_x0] at q; exact q)
        refine own_goW (fun _ k => st31 _ k) ?_
        show own_GW _ _ _ (T31.setTop (mkF m 32 #[.val (.int p0), .val (.int p1), .val (.int p2), .val (.int (1 : Int32)), .val (.int (Int32.ofNat i0)), .val (.ref b27), .unset, .unset] [])) _ _ _ _ _ _
        refine own_goW (fun _ k => XS.aload X31.here hx rfl (hb hby at_32) rfl rfl k) ?_
        show own_GW _ _ _ (T31.setTop (mkF m 34 #[.val (.int p0), .val (.int p1), .val (.int p2), .val (.int (1 : Int32)), .val (.int (Int32.ofNat i0)), .val (.ref b27), .unset, .unset] [(.ref b27)])) _ _ _ _ _ _
        refine own_goW (fun _ k => XS.iconst X31.here hx rfl (hb hby at_34) k) ?_
        show own_GW _ _ _ (T31.setTop (mkF m 35 #[.val (.int p0), .val (.int p1), .val (.int p2), .val (.int (1 : Int32)), .val (.int (Int32.ofNat i0)), .val (.ref b27), .unset, .unset] [(.int (1 : Int32)), (.ref b27)])) _ _ _ _ _ _
        refine own_goW (fun _ k => XS.iloadN X31.here hx rfl (hb hby at_35) rfl k) ?_
        show own_GW _ _ _ (T31.setTop (mkF m 36 #[.val (.int p0), .val (.int p1), .val (.int p2), .val (.int (1 : Int32)), .val (.int (Int32.ofNat i0)), .val (.ref b27), .unset, .unset] [(.int p0), (.int (1 : Int32)), (.ref b27)])) _ _ _ _ _ _
        refine own_goW (fun _ k => XS.bipush X31.here hx rfl (hb hby at_36) k) ?_
        show own_GW _ _ _ (T31.setTop (mkF m 38 #[.val (.int p0), .val (.int p1), .val (.int p2), .val (.int (1 : Int32)), .val (.int (Int32.ofNat i0)), .val (.ref b27), .unset, .unset] [(.int (8 : Int32)), (.int p0), (.int (1 : Int32)), (.ref b27)])) _ _ _ _ _ _
        refine own_goW (fun _ k => XS.iushr X31.here hx rfl (hb hby at_38) rfl k) ?_
        show own_GW _ _ _ (T31.setTop (mkF m 39 #[.val (.int p0), .val (.int p1), .val (.int p2), .val (.int (1 : Int32)), .val (.int (Int32.ofNat i0)), .val (.ref b27), .unset, .unset] [(.int ((p0.toUInt32 >>> ((8 : Int32) &&& 31).toUInt32).toInt32)), (.int (1 : Int32)), (.ref b27)])) _ _ _ _ _ _
        refine own_goW (fun _ k => XS.iloadN X31.here hx rfl (hb hby at_39) rfl k) ?_
        show own_GW _ _ _ (T31.setTop (mkF m 40 #[.val (.int p0), .val (.int p1), .val (.int p2), .val (.int (1 : Int32)), .val (.int (Int32.ofNat i0)), .val (.ref b27), .unset, .unset] [(.int p2), (.int ((p0.toUInt32 >>> ((8 : Int32) &&& 31).toUInt32).toInt32)), (.int (1 : Int32)), (.ref b27)])) _ _ _ _ _ _
        refine own_goW (fun _ k => XS.iconst X31.here hx rfl (hb hby at_40) k) ?_
        show own_GW _ _ _ (T31.setTop (mkF m 41 #[.val (.int p0), .val (.int p1), .val (.int p2), .val (.int (1 : Int32)), .val (.int (Int32.ofNat i0)), .val (.ref b27), .unset, .unset] [(.int (1 : Int32)), (.int p2), (.int ((p0.toUInt32 >>> ((8 : Int32) &&& 31).toUInt32).toInt32)), (.int (1 : Int32)), (.ref b27)])) _ _ _ _ _ _
        refine own_goW (fun _ k => XS.iushr X31.here hx rfl (hb hby at_41) rfl k) ?_
        show own_GW _ _ _ (T31.setTop (mkF m 42 #[.val (.int p0), .val (.int p1), .val (.int p2), .val (.int (1 : Int32)), .val (.int (Int32.ofNat i0)), .val (.ref b27), .unset, .unset] [(.int ((p2.toUInt32 >>> ((1 : Int32) &&& 31).toUInt32).toInt32)), (.int ((p0.toUInt32 >>> ((8 : Int32) &&& 31).toUInt32).toInt32)), (.int (1 : Int32)), (.ref b27)])) _ _ _ _ _ _
        obtain ⟨_, _, ⟨T34, L34, k34, n34⟩, -, X34, ⟨Lc34, hQ34, l34, y34, z34⟩, st34⟩ := Jvm.LawKit.callS X31 hx (y := (⟨"com/example/floe/floe/rest/FramingLinesQuotedStringEndPinLaw", "draw", "(II)C"⟩ : MethodName)) hown (mvT hZ (hw _ (List.mem_of_getElem? (i := 1) rfl))) (mvT hZ (hw _ (List.mem_of_getElem? (i := 2) rfl))) (mvT hZ (hw _ (List.mem_of_getElem? (i := 3) rfl))) (mvT hZ (hw _ (List.mem_of_getElem? (i := 4) rfl))) (by decide) (backOf (W := 2) (rm1 l Z a0 hw [] ((p0.toUInt32 >>> ((8 : Int32) &&& 31).toUInt32).toInt32) ((p2.toUInt32 >>> ((1 : Int32) &&& 31).toUInt32).toInt32) h31 n0) hZ (hw _ (List.mem_of_getElem? (i := 4) rfl)) (hw _ (List.mem_of_getElem? (i := 3) rfl)) (by decide) (by decide)) (g := (mkF m 42 #[.val (.int p0), .val (.int p1), .val (.int p2), .val (.int (1 : Int32)), .val (.int (Int32.ofNat i0)), .val (.ref b27), .unset, .unset] [(.int ((p2.toUInt32 >>> ((1 : Int32) &&& 31).toUInt32).toInt32)), (.int ((p0.toUInt32 >>> ((8 : Int32) &&& 31).toUInt32).toInt32)), (.int (1 : Int32)), (.ref b27)])) rfl (by rw [hml]; rfl) (argsL := [(.int ((p0.toUInt32 >>> ((8 : Int32) &&& 31).toUInt32).toInt32)), (.int ((p2.toUInt32 >>> ((1 : Int32) &&& 31).toUInt32).toInt32))]) (rest := [(.int (1 : Int32)), (.ref b27)]) (lenOf pd_6 rfl) rfl (by show 2 * 0 + _ ≤ _; exact Nat.le_of_eq rfl) (hb hby at_42) (fun _ _ => ⟨rfl, e31, (by decide : 1 + 0 ≤ _), (by decide : 4 + 0 ≤ _)⟩)
        dsimp only [Pt.U, Pt.locs, Pt.cells, Pt.slots] at X34 l34 y34 z34 st34 hQ34
        subst l34 y34 z34
        obtain ⟨rfl, Nq34, eh34⟩ := hQ34
        have N34 := Fr.app N31 Nq34
        refine own_goW (fun _ k => st34 _ k) ?_
        show own_GW _ _ _ (T34.setTop (mkF m 45 #[.val (.int p0), .val (.int p1), .val (.int p2), .val (.int (1 : Int32)), .val (.int (Int32.ofNat i0)), .val (.ref b27), .unset, .unset] [(.int (own_draw ((p0.toUInt32 >>> ((8 : Int32) &&& 31).toUInt32).toInt32) ((p2.toUInt32 >>> ((1 : Int32) &&& 31).toUInt32).toInt32))), (.int (1 : Int32)), (.ref b27)])) _ _ _ _ _ _
        obtain ⟨x1, h_x1⟩ : ∃ z : Int32, z = (own_draw ((p0.toUInt32 >>> ((8 : Int32) &&& 31).toUInt32).toInt32) ((p2.toUInt32 >>> ((1 : Int32) &&& 31).toUInt32).toInt32)) := ⟨_, rfl⟩
        · rw [← h_x1]
          have r_x1 : ¬ x1 < 0 ∧ ¬ (255 : Int32) < x1 := by rw [h_x1]; exact own_drw _ _
          have e_x1 : nar .char x1 = x1 := own_nar8 r_x1
          show own_GW _ _ _ (T34.setTop (mkF m 45 #[.val (.int p0), .val (.int p1), .val (.int p2), .val (.int (1 : Int32)), .val (.int (Int32.ofNat i0)), .val (.ref b27), .unset, .unset] [(.int x1), (.int (1 : Int32)), (.ref b27)])) _ _ _ _ _ _
          obtain ⟨cl35, Ar35, q35, S35, Ng35, H35, G35⟩ := id f33
          have in35 : ¬ ((1 : Int32) < 0 ∨ cl35.slots.size ≤ ((1 : Int32)).toNatClampNeg) := inb_of S35 ⟨by decide, by decide⟩
          obtain ⟨T35, h35, X35, e35, W35, st35⟩ := stC X34 hx hZ eh34 Ar35 (j := (1 : Int32)) in35 (g := (mkF m 45 #[.val (.int p0), .val (.int p1), .val (.int p2), .val (.int (1 : Int32)), .val (.int (Int32.ofNat i0)), .val (.ref b27), .unset, .unset] [(.int x1), (.int (1 : Int32)), (.ref b27)])) rfl rfl (hb hby at_45)
          have N35 := Fr.snoc X35 N34 gg27
          have Zs35 : n0 ≤ h35.size := Nat.le_trans Zs31 (Keep.of_wr W35).1
          have K35_0 : Keep h0 h35 [] := K31_0.wr W35 (Or.inr sz27_0)
          have K35_1 : Keep h0 h35 [] := K31_1.wr W35 (Or.inr sz27_1)
          have f36 : Old Z n0 h35 := f32.wr W35 gg27
          have f37 : Arv Z h35 b27 k27 .char (4 : Int32) [(.int x0), (.int x1), (.int (0 : Int32)), (.int (0 : Int32))] (.int (0 : Int32)) := (by have q := Arv.set Ar35 q35 S35 Ng35 H35 G35 (fits_nar_char _) W35 1 rfl (Nat.le_of_ble_eq_true rfl); rw [e_x1] at q; exact q)
          refine own_goW (fun _ k => st35 _ k) ?_
          show own_GW _ _ _ (T35.setTop (mkF m 46 #[.val (.int p0), .val (.int p1), .val (.int p2), .val (.int (1 : Int32)), .val (.int (Int32.ofNat i0)), .val (.ref b27), .unset, .unset] [])) _ _ _ _ _ _
          refine own_goW (fun _ k => XS.aload X35.here hx rfl (hb hby at_46) rfl rfl k) ?_
          show own_GW _ _ _ (T35.setTop (mkF m 48 #[.val (.int p0), .val (.int p1), .val (.int p2), .val (.int (1 : Int32)), .val (.int (Int32.ofNat i0)), .val (.ref b27), .unset, .unset] [(.ref b27)])) _ _ _ _ _ _
          refine own_goW (fun _ k => XS.iconst X35.here hx rfl (hb hby at_48) k) ?_
          show own_GW _ _ _ (T35.setTop (mkF m 49 #[.val (.int p0), .val (.int p1), .val (.int p2), .val (.int (1 : Int32)), .val (.int (Int32.ofNat i0)), .val (.ref b27), .unset, .unset] [(.int (2 : Int32)), (.ref b27)])) _ _ _ _ _ _
          refine own_goW (fun _ k => XS.iloadN X35.here hx rfl (hb hby at_49) rfl k) ?_
          show own_GW _ _ _ (T35.setTop (mkF m 50 #[.val (.int p0), .val (.int p1), .val (.int p2), .val (.int (1 : Int32)), .val (.int (Int32.ofNat i0)), .val (.ref b27), .unset, .unset] [(.int p0), (.int (2 : Int32)), (.ref b27)])) _ _ _ _ _ _
          refine own_goW (fun _ k => XS.bipush X35.here hx rfl (hb hby at_50) k) ?_
          show own_GW _ _ _ (T35.setTop (mkF m 52 #[.val (.int p0), .val (.int p1), .val (.int p2), .val (.int (1 : Int32)), .val (.int (Int32.ofNat i0)), .val (.ref b27), .unset, .unset] [(.int (16 : Int32)), (.int p0), (.int (2 : Int32)), (.ref b27)])) _ _ _ _ _ _
          refine own_goW (fun _ k => XS.iushr X35.here hx rfl (hb hby at_52) rfl k) ?_
          show own_GW _ _ _ (T35.setTop (mkF m 53 #[.val (.int p0), .val (.int p1), .val (.int p2), .val (.int (1 : Int32)), .val (.int (Int32.ofNat i0)), .val (.ref b27), .unset, .unset] [(.int ((p0.toUInt32 >>> ((16 : Int32) &&& 31).toUInt32).toInt32)), (.int (2 : Int32)), (.ref b27)])) _ _ _ _ _ _
          refine own_goW (fun _ k => XS.iloadN X35.here hx rfl (hb hby at_53) rfl k) ?_
          show own_GW _ _ _ (T35.setTop (mkF m 54 #[.val (.int p0), .val (.int p1), .val (.int p2), .val (.int (1 : Int32)), .val (.int (Int32.ofNat i0)), .val (.ref b27), .unset, .unset] [(.int p2), (.int ((p0.toUInt32 >>> ((16 : Int32) &&& 31).toUInt32).toInt32)), (.int (2 : Int32)), (.ref b27)])) _ _ _ _ _ _
          refine own_goW (fun _ k => XS.iconst X35.here hx rfl (hb hby at_54) k) ?_
          show own_GW _ _ _ (T35.setTop (mkF m 55 #[.val (.int p0), .val (.int p1), .val (.int p2), .val (.int (1 : Int32)), .val (.int (Int32.ofNat i0)), .val (.ref b27), .unset, .unset] [(.int (2 : Int32)), (.int p2), (.int ((p0.toUInt32 >>> ((16 : Int32) &&& 31).toUInt32).toInt32)), (.int (2 : Int32)), (.ref b27)])) _ _ _ _ _ _
          refine own_goW (fun _ k => XS.iushr X35.here hx rfl (hb hby at_55) rfl k) ?_
          show own_GW _ _ _ (T35.setTop (mkF m 56 #[.val (.int p0), .val (.int p1), .val (.int p2), .val (.int (1 : Int32)), .val (.int (Int32.ofNat i0)), .val (.ref b27), .unset, .unset] [(.int ((p2.toUInt32 >>> ((2 : Int32) &&& 31).toUInt32).toInt32)), (.int ((p0.toUInt32 >>> ((16 : Int32) &&& 31).toUInt32).toInt32)), (.int (2 : Int32)), (.ref b27)])) _ _ _ _ _ _
          obtain ⟨_, _, ⟨T38, L38, k38, n38⟩, -, X38, ⟨Lc38, hQ38, l38, y38, z38⟩, st38⟩ := Jvm.LawKit.callS X35 hx (y := (⟨"com/example/floe/floe/rest/FramingLinesQuotedStringEndPinLaw", "draw", "(II)C"⟩ : MethodName)) hown (mvT hZ (hw _ (List.mem_of_getElem? (i := 1) rfl))) (mvT hZ (hw _ (List.mem_of_getElem? (i := 2) rfl))) (mvT hZ (hw _ (List.mem_of_getElem? (i := 3) rfl))) (mvT hZ (hw _ (List.mem_of_getElem? (i := 4) rfl))) (by decide) (backOf (W := 2) (rm1 l Z a0 hw [] ((p0.toUInt32 >>> ((16 : Int32) &&& 31).toUInt32).toInt32) ((p2.toUInt32 >>> ((2 : Int32) &&& 31).toUInt32).toInt32) h35 n0) hZ (hw _ (List.mem_of_getElem? (i := 4) rfl)) (hw _ (List.mem_of_getElem? (i := 3) rfl)) (by decide) (by decide)) (g := (mkF m 56 #[.val (.int p0), .val (.int p1), .val (.int p2), .val (.int (1 : Int32)), .val (.int (Int32.ofNat i0)), .val (.ref b27), .unset, .unset] [(.int ((p2.toUInt32 >>> ((2 : Int32) &&& 31).toUInt32).toInt32)), (.int ((p0.toUInt32 >>> ((16 : Int32) &&& 31).toUInt32).toInt32)), (.int (2 : Int32)), (.ref b27)])) rfl (by rw [hml]; rfl) (argsL := [(.int ((p0.toUInt32 >>> ((16 : Int32) &&& 31).toUInt32).toInt32)), (.int ((p2.toUInt32 >>> ((2 : Int32) &&& 31).toUInt32).toInt32))]) (rest := [(.int (2 : Int32)), (.ref b27)]) (lenOf pd_6 rfl) rfl (by show 2 * 0 + _ ≤ _; exact Nat.le_of_eq rfl) (hb hby at_56) (fun _ _ => ⟨rfl, e35, (by decide : 1 + 0 ≤ _), (by decide : 4 + 0 ≤ _)⟩)
          dsimp only [Pt.U, Pt.locs, Pt.cells, Pt.slots] at X38 l38 y38 z38 st38 hQ38
          subst l38 y38 z38
          obtain ⟨rfl, Nq38, eh38⟩ := hQ38
          have N38 := Fr.app N35 Nq38
          refine own_goW (fun _ k => st38 _ k) ?_
          show own_GW _ _ _ (T38.setTop (mkF m 59 #[.val (.int p0), .val (.int p1), .val (.int p2), .val (.int (1 : Int32)), .val (.int (Int32.ofNat i0)), .val (.ref b27), .unset, .unset] [(.int (own_draw ((p0.toUInt32 >>> ((16 : Int32) &&& 31).toUInt32).toInt32) ((p2.toUInt32 >>> ((2 : Int32) &&& 31).toUInt32).toInt32))), (.int (2 : Int32)), (.ref b27)])) _ _ _ _ _ _
          obtain ⟨x2, h_x2⟩ : ∃ z : Int32, z = (own_draw ((p0.toUInt32 >>> ((16 : Int32) &&& 31).toUInt32).toInt32) ((p2.toUInt32 >>> ((2 : Int32) &&& 31).toUInt32).toInt32)) := ⟨_, rfl⟩
          · rw [← h_x2]
            have r_x2 : ¬ x2 < 0 ∧ ¬ (255 : Int32) < x2 := by rw [h_x2]; exact own_drw _ _
            have e_x2 : nar .char x2 = x2 := own_nar8 r_x2
            show own_GW _ _ _ (T38.setTop (mkF m 59 #[.val (.int p0), .val (.int p1), .val (.int p2), .val (.int (1 : Int32)), .val (.int (Int32.ofNat i0)), .val (.ref b27), .unset, .unset] [(.int x2), (.int (2 : Int32)), (.ref b27)])) _ _ _ _ _ _
            obtain ⟨cl39, Ar39, q39, S39, Ng39, H39, G39⟩ := id f37
            have in39 : ¬ ((2 : Int32) < 0 ∨ cl39.slots.size ≤ ((2 : Int32)).toNatClampNeg) := inb_of S39 ⟨by decide, by decide⟩
            obtain ⟨T39, h39, X39, e39, W39, st39⟩ := stC X38 hx hZ eh38 Ar39 (j := (2 : Int32)) in39 (g := (mkF m 59 #[.val (.int p0), .val (.int p1), .val (.int p2), .val (.int (1 : Int32)), .val (.int (Int32.ofNat i0)), .val (.ref b27), .unset, .unset] [(.int x2), (.int (2 : Int32)), (.ref b27)])) rfl rfl (hb hby at_59)
            have N39 := Fr.snoc X39 N38 gg27
            have Zs39 : n0 ≤ h39.size := Nat.le_trans Zs35 (Keep.of_wr W39).1
            have K39_0 : Keep h0 h39 [] := K35_0.wr W39 (Or.inr sz27_0)
            have K39_1 : Keep h0 h39 [] := K35_1.wr W39 (Or.inr sz27_1)
            have f40 : Old Z n0 h39 := f36.wr W39 gg27
            have f41 : Arv Z h39 b27 k27 .char (4 : Int32) [(.int x0), (.int x1), (.int x2), (.int (0 : Int32))] (.int (0 : Int32)) := (by have q := Arv.set Ar39 q39 S39 Ng39 H39 G39 (fits_nar_char _) W39 2 rfl (Nat.le_of_ble_eq_true rfl); rw [e_x2] at q; exact q)
            refine own_goW (fun _ k => st39 _ k) ?_
            show own_GW _ _ _ (T39.setTop (mkF m 60 #[.val (.int p0), .val (.int p1), .val (.int p2), .val (.int (1 : Int32)), .val (.int (Int32.ofNat i0)), .val (.ref b27), .unset, .unset] [])) _ _ _ _ _ _
            refine own_goW (fun _ k => XS.aload X39.here hx rfl (hb hby at_60) rfl rfl k) ?_
            show own_GW _ _ _ (T39.setTop (mkF m 62 #[.val (.int p0), .val (.int p1), .val (.int p2), .val (.int (1 : Int32)), .val (.int (Int32.ofNat i0)), .val (.ref b27), .unset, .unset] [(.ref b27)])) _ _ _ _ _ _
            refine own_goW (fun _ k => XS.iconst X39.here hx rfl (hb hby at_62) k) ?_
            show own_GW _ _ _ (T39.setTop (mkF m 63 #[.val (.int p0), .val (.int p1), .val (.int p2), .val (.int (1 : Int32)), .val (.int (Int32.ofNat i0)), .val (.ref b27), .unset, .unset] [(.int (3 : Int32)), (.ref b27)])) _ _ _ _ _ _
            refine own_goW (fun _ k => XS.iloadN X39.here hx rfl (hb hby at_63) rfl k) ?_
            show own_GW _ _ _ (T39.setTop (mkF m 64 #[.val (.int p0), .val (.int p1), .val (.int p2), .val (.int (1 : Int32)), .val (.int (Int32.ofNat i0)), .val (.ref b27), .unset, .unset] [(.int p0), (.int (3 : Int32)), (.ref b27)])) _ _ _ _ _ _
            refine own_goW (fun _ k => XS.bipush X39.here hx rfl (hb hby at_64) k) ?_
            show own_GW _ _ _ (T39.setTop (mkF m 66 #[.val (.int p0), .val (.int p1), .val (.int p2), .val (.int (1 : Int32)), .val (.int (Int32.ofNat i0)), .val (.ref b27), .unset, .unset] [(.int (24 : Int32)), (.int p0), (.int (3 : Int32)), (.ref b27)])) _ _ _ _ _ _
            refine own_goW (fun _ k => XS.iushr X39.here hx rfl (hb hby at_66) rfl k) ?_
            show own_GW _ _ _ (T39.setTop (mkF m 67 #[.val (.int p0), .val (.int p1), .val (.int p2), .val (.int (1 : Int32)), .val (.int (Int32.ofNat i0)), .val (.ref b27), .unset, .unset] [(.int ((p0.toUInt32 >>> ((24 : Int32) &&& 31).toUInt32).toInt32)), (.int (3 : Int32)), (.ref b27)])) _ _ _ _ _ _
            refine own_goW (fun _ k => XS.iloadN X39.here hx rfl (hb hby at_67) rfl k) ?_
            show own_GW _ _ _ (T39.setTop (mkF m 68 #[.val (.int p0), .val (.int p1), .val (.int p2), .val (.int (1 : Int32)), .val (.int (Int32.ofNat i0)), .val (.ref b27), .unset, .unset] [(.int p2), (.int ((p0.toUInt32 >>> ((24 : Int32) &&& 31).toUInt32).toInt32)), (.int (3 : Int32)), (.ref b27)])) _ _ _ _ _ _
            refine own_goW (fun _ k => XS.iconst X39.here hx rfl (hb hby at_68) k) ?_
            show own_GW _ _ _ (T39.setTop (mkF m 69 #[.val (.int p0), .val (.int p1), .val (.int p2), .val (.int (1 : Int32)), .val (.int (Int32.ofNat i0)), .val (.ref b27), .unset, .unset] [(.int (3 : Int32)), (.int p2), (.int ((p0.toUInt32 >>> ((24 : Int32) &&& 31).toUInt32).toInt32)), (.int (3 : Int32)), (.ref b27)])) _ _ _ _ _ _
            refine own_goW (fun _ k => XS.iushr X39.here hx rfl (hb hby at_69) rfl k) ?_
            show own_GW _ _ _ (T39.setTop (mkF m 70 #[.val (.int p0), .val (.int p1), .val (.int p2), .val (.int (1 : Int32)), .val (.int (Int32.ofNat i0)), .val (.ref b27), .unset, .unset] [(.int ((p2.toUInt32 >>> ((3 : Int32) &&& 31).toUInt32).toInt32)), (.int ((p0.toUInt32 >>> ((24 : Int32) &&& 31).toUInt32).toInt32)), (.int (3 : Int32)), (.ref b27)])) _ _ _ _ _ _
            obtain ⟨_, _, ⟨T42, L42, k42, n42⟩, -, X42, ⟨Lc42, hQ42, l42, y42, z42⟩, st42⟩ := Jvm.LawKit.callS X39 hx (y := (⟨"com/example/floe/floe/rest/FramingLinesQuotedStringEndPinLaw", "draw", "(II)C"⟩ : MethodName)) hown (mvT hZ (hw _ (List.mem_of_getElem? (i := 1) rfl))) (mvT hZ (hw _ (List.mem_of_getElem? (i := 2) rfl))) (mvT hZ (hw _ (List.mem_of_getElem? (i := 3) rfl))) (mvT hZ (hw _ (List.mem_of_getElem? (i := 4) rfl))) (by decide) (backOf (W := 2) (rm1 l Z a0 hw [] ((p0.toUInt32 >>> ((24 : Int32) &&& 31).toUInt32).toInt32) ((p2.toUInt32 >>> ((3 : Int32) &&& 31).toUInt32).toInt32) h39 n0) hZ (hw _ (List.mem_of_getElem? (i := 4) rfl)) (hw _ (List.mem_of_getElem? (i := 3) rfl)) (by decide) (by decide)) (g := (mkF m 70 #[.val (.int p0), .val (.int p1), .val (.int p2), .val (.int (1 : Int32)), .val (.int (Int32.ofNat i0)), .val (.ref b27), .unset, .unset] [(.int ((p2.toUInt32 >>> ((3 : Int32) &&& 31).toUInt32).toInt32)), (.int ((p0.toUInt32 >>> ((24 : Int32) &&& 31).toUInt32).toInt32)), (.int (3 : Int32)), (.ref b27)])) rfl (by rw [hml]; rfl) (argsL := [(.int ((p0.toUInt32 >>> ((24 : Int32) &&& 31).toUInt32).toInt32)), (.int ((p2.toUInt32 >>> ((3 : Int32) &&& 31).toUInt32).toInt32))]) (rest := [(.int (3 : Int32)), (.ref b27)]) (lenOf pd_6 rfl) rfl (by show 2 * 0 + _ ≤ _; exact Nat.le_of_eq rfl) (hb hby at_70) (fun _ _ => ⟨rfl, e39, (by decide : 1 + 0 ≤ _), (by decide : 4 + 0 ≤ _)⟩)
            dsimp only [Pt.U, Pt.locs, Pt.cells, Pt.slots] at X42 l42 y42 z42 st42 hQ42
            subst l42 y42 z42
            obtain ⟨rfl, Nq42, eh42⟩ := hQ42
            have N42 := Fr.app N39 Nq42
            refine own_goW (fun _ k => st42 _ k) ?_
            show own_GW _ _ _ (T42.setTop (mkF m 73 #[.val (.int p0), .val (.int p1), .val (.int p2), .val (.int (1 : Int32)), .val (.int (Int32.ofNat i0)), .val (.ref b27), .unset, .unset] [(.int (own_draw ((p0.toUInt32 >>> ((24 : Int32) &&& 31).toUInt32).toInt32) ((p2.toUInt32 >>> ((3 : Int32) &&& 31).toUInt32).toInt32))), (.int (3 : Int32)), (.ref b27)])) _ _ _ _ _ _
            obtain ⟨x3, h_x3⟩ : ∃ z : Int32, z = (own_draw ((p0.toUInt32 >>> ((24 : Int32) &&& 31).toUInt32).toInt32) ((p2.toUInt32 >>> ((3 : Int32) &&& 31).toUInt32).toInt32)) := ⟨_, rfl⟩
            · rw [← h_x3]
              have r_x3 : ¬ x3 < 0 ∧ ¬ (255 : Int32) < x3 := by rw [h_x3]; exact own_drw _ _
              have e_x3 : nar .char x3 = x3 := own_nar8 r_x3
              show own_GW _ _ _ (T42.setTop (mkF m 73 #[.val (.int p0), .val (.int p1), .val (.int p2), .val (.int (1 : Int32)), .val (.int (Int32.ofNat i0)), .val (.ref b27), .unset, .unset] [(.int x3), (.int (3 : Int32)), (.ref b27)])) _ _ _ _ _ _
              obtain ⟨cl43, Ar43, q43, S43, Ng43, H43, G43⟩ := id f41
              have in43 : ¬ ((3 : Int32) < 0 ∨ cl43.slots.size ≤ ((3 : Int32)).toNatClampNeg) := inb_of S43 ⟨by decide, by decide⟩
              obtain ⟨T43, h43, X43, e43, W43, st43⟩ := stC X42 hx hZ eh42 Ar43 (j := (3 : Int32)) in43 (g := (mkF m 73 #[.val (.int p0), .val (.int p1), .val (.int p2), .val (.int (1 : Int32)), .val (.int (Int32.ofNat i0)), .val (.ref b27), .unset, .unset] [(.int x3), (.int (3 : Int32)), (.ref b27)])) rfl rfl (hb hby at_73)
              have N43 := Fr.snoc X43 N42 gg27
              have Zs43 : n0 ≤ h43.size := Nat.le_trans Zs39 (Keep.of_wr W43).1
              have K43_0 : Keep h0 h43 [] := K39_0.wr W43 (Or.inr sz27_0)
              have K43_1 : Keep h0 h43 [] := K39_1.wr W43 (Or.inr sz27_1)
              have f44 : Old Z n0 h43 := f40.wr W43 gg27
              have f45 : Arv Z h43 b27 k27 .char (4 : Int32) [(.int x0), (.int x1), (.int x2), (.int x3)] (.int (0 : Int32)) := (by have q := Arv.set Ar43 q43 S43 Ng43 H43 G43 (fits_nar_char _) W43 3 rfl (Nat.le_of_ble_eq_true rfl); rw [e_x3] at q; exact q)
              refine own_goW (fun _ k => st43 _ k) ?_
              show own_GW _ _ _ (T43.setTop (mkF m 74 #[.val (.int p0), .val (.int p1), .val (.int p2), .val (.int (1 : Int32)), .val (.int (Int32.ofNat i0)), .val (.ref b27), .unset, .unset] [])) _ _ _ _ _ _
              refine own_goW (fun _ k => XS.aload X43.here hx rfl (hb hby at_74) rfl rfl k) ?_
              show own_GW _ _ _ (T43.setTop (mkF m 76 #[.val (.int p0), .val (.int p1), .val (.int p2), .val (.int (1 : Int32)), .val (.int (Int32.ofNat i0)), .val (.ref b27), .unset, .unset] [(.ref b27)])) _ _ _ _ _ _
              refine own_goW (fun _ k => XS.iloadN X43.here hx rfl (hb hby at_76) rfl k) ?_
              show own_GW _ _ _ (T43.setTop (mkF m 77 #[.val (.int p0), .val (.int p1), .val (.int p2), .val (.int (1 : Int32)), .val (.int (Int32.ofNat i0)), .val (.ref b27), .unset, .unset] [(.int (1 : Int32)), (.ref b27)])) _ _ _ _ _ _
              obtain ⟨_, _, ⟨T46, L46, k46, n46⟩, -, X46, ⟨Lc46, hQ46, l46, y46, z46⟩, st46⟩ := Jvm.LawKit.callS X43 hx (y := (⟨"com/example/floe/floe/rest/FramingLinesQuotedStringEndPinLaw", "make", "([CI)Ljava/lang/String;"⟩ : MethodName)) hown (mvT hZ (hw _ (List.mem_of_getElem? (i := 5) rfl))) (mvT hZ (hw _ (List.mem_of_getElem? (i := 6) rfl))) (mvT hZ (hw _ (List.mem_of_getElem? (i := 3) rfl))) (mvT hZ (hw _ (List.mem_of_getElem? (i := 7) rfl))) (by decide) (backOf (W := 0) (rm2b l Z a0 hw [] b27 zc k27 x0 x1 x2 x3 h43 n0 Zs43 f44 P_ZS_java_lang_String_COMPACT_STRINGS hcs f45 (own_all4 r_x0 r_x1 r_x2 r_x3)) hZ (hw _ (List.mem_of_getElem? (i := 7) rfl)) (hw _ (List.mem_of_getElem? (i := 3) rfl)) (by decide) (by decide)) (g := (mkF m 77 #[.val (.int p0), .val (.int p1), .val (.int p2), .val (.int (1 : Int32)), .val (.int (Int32.ofNat i0)), .val (.ref b27), .unset, .unset] [(.int (1 : Int32)), (.ref b27)])) rfl (by rw [hml]; rfl) (argsL := [(.ref b27), (.int (1 : Int32))]) (rest := []) (lenOf pd_7 rfl) rfl (by show 2 * 0 + _ ≤ _; exact Nat.le_of_eq rfl) (hb hby at_77) (fun _ _ => ⟨rfl, e43, (by decide : 1 + 3 ≤ _), (by decide : 4 + 6 ≤ _)⟩)
              dsimp only [Pt.U, Pt.locs, Pt.cells, Pt.slots] at X46 l46 y46 z46 st46 hQ46
              subst l46 y46 z46
              obtain ⟨a46, rfl, Nq46, Kq46, r46_0⟩ := hQ46
              have N46 := Fr.app N43 Nq46
              have f47 : Old Z n0 T46.heap := f44.keep Kq46 all0
              have f48 : Arv Z T46.heap b27 k27 .char (4 : Int32) [(.int x0), (.int x1), (.int x2), (.int x3)] (.int (0 : Int32)) := f45.keep Kq46 nin0
              have Zs46 : n0 ≤ T46.heap.size := Nat.le_trans Zs43 Kq46.1
              have K46_0 : Keep h0 T46.heap [] := K43_0.trans Kq46 all0
              have K46_1 : Keep h0 T46.heap [] := K43_1.trans Kq46 all0
              refine own_goW (fun _ k => st46 _ k) ?_
              show own_GW _ _ _ (T46.setTop (mkF m 80 #[.val (.int p0), .val (.int p1), .val (.int p2), .val (.int (1 : Int32)), .val (.int (Int32.ofNat i0)), .val (.ref b27), .unset, .unset] [(.ref a46)])) _ _ _ _ _ _
              refine own_goW (fun _ k => XS.astore X46.here hx rfl (hb hby at_80) rfl rfl (l' := #[.val (.int p0), .val (.int p1), .val (.int p2), .val (.int (1 : Int32)), .val (.int (Int32.ofNat i0)), .val (.ref b27), .val (.ref a46), .unset]) rfl k) ?_
              show own_GW _ _ _ (T46.setTop (mkF m 82 #[.val (.int p0), .val (.int p1), .val (.int p2), .val (.int (1 : Int32)), .val (.int (Int32.ofNat i0)), .val (.ref b27), .val (.ref a46), .unset] [])) _ _ _ _ _ _
              refine own_goW (fun _ k => XS.aload X46.here hx rfl (hb hby at_82) rfl rfl k) ?_
              show own_GW _ _ _ (T46.setTop (mkF m 84 #[.val (.int p0), .val (.int p1), .val (.int p2), .val (.int (1 : Int32)), .val (.int (Int32.ofNat i0)), .val (.ref b27), .val (.ref a46), .unset] [(.ref a46)])) _ _ _ _ _ _
              refine own_goW (fun _ k => XS.iload X46.here hx rfl (hb hby at_84) rfl k) ?_
              show own_GW _ _ _ (T46.setTop (mkF m 86 #[.val (.int p0), .val (.int p1), .val (.int p2), .val (.int (1 : Int32)), .val (.int (Int32.ofNat i0)), .val (.ref b27), .val (.ref a46), .unset] [(.int (Int32.ofNat i0)), (.ref a46)])) _ _ _ _ _ _
              obtain ⟨_, _, ⟨T49, L49, k49, n49⟩, -, X49, ⟨Lc49, hQ49, l49, y49, z49⟩, st49⟩ := Jvm.LawKit.callS X46 hx (y := (⟨"com/example/floe/floe/rest/FramingLines", "quotedStringEnd", "(Ljava/lang/String;I)I"⟩ : MethodName)) hown (mvT hZ (hw _ (List.mem_of_getElem? (i := 37) rfl))) (mvT hZ (hw _ (List.mem_of_getElem? (i := 38) rfl))) (mvT hZ (hw _ (List.mem_of_getElem? (i := 39) rfl))) (mvT hZ (hw _ (List.mem_of_getElem? (i := 40) rfl))) (by decide) (backOf (W := 0) (rm9 l Z a0 hw [] a46 ([x0] : List Int32) i0 zc fm T46.heap n0 Zs46 f47 P_ZS_java_lang_String_COMPACT_STRINGS hcs P_ZS_jdk_internal_util_Preconditions_SIOOBE_FORMATTER hfm r46_0 (by simp) (by omega)) hZ (hw _ (List.mem_of_getElem? (i := 40) rfl)) (hw _ (List.mem_of_getElem? (i := 39) rfl)) (by decide) (by decide)) (g := (mkF m 86 #[.val (.int p0), .val (.int p1), .val (.int p2), .val (.int (1 : Int32)), .val (.int (Int32.ofNat i0)), .val (.ref b27), .val (.ref a46), .unset] [(.int (Int32.ofNat i0)), (.ref a46)])) rfl (by rw [hml]; rfl) (argsL := [(.ref a46), (.int (Int32.ofNat i0))]) (rest := []) (lenOf pd_8 rfl) rfl (by show 2 * 0 + _ ≤ _; exact Nat.le_of_eq rfl) (hb hby at_86) (fun _ _ => ⟨rfl, rfl, (by decide : 4 + 0 ≤ _), (by decide : 10 + 0 ≤ _)⟩)
              dsimp only [Pt.U, Pt.locs, Pt.cells, Pt.slots] at X49 l49 y49 z49 st49 hQ49
              subst l49 y49 z49
              obtain ⟨rfl, Nq49, eh49⟩ := hQ49
              have N49 := Fr.app N46 Nq49
              refine own_goW (fun _ k => st49 _ k) ?_
              show own_GW _ _ _ (T49.setTop (mkF m 89 #[.val (.int p0), .val (.int p1), .val (.int p2), .val (.int (1 : Int32)), .val (.int (Int32.ofNat i0)), .val (.ref b27), .val (.ref a46), .unset] [(.int (own_qse ([x0] : List Int32) i0))])) _ _ _ _ _ _
              refine own_goW (fun _ k => XS.istore X49.here hx rfl (hb hby at_89) rfl (l' := #[.val (.int p0), .val (.int p1), .val (.int p2), .val (.int (1 : Int32)), .val (.int (Int32.ofNat i0)), .val (.ref b27), .val (.ref a46), .val (.int (own_qse ([x0] : List Int32) i0))]) rfl k) ?_
              show own_GW _ _ _ (T49.setTop (mkF m 91 #[.val (.int p0), .val (.int p1), .val (.int p2), .val (.int (1 : Int32)), .val (.int (Int32.ofNat i0)), .val (.ref b27), .val (.ref a46), .val (.int (own_qse ([x0] : List Int32) i0))] [])) _ _ _ _ _ _
              refine own_goW (fun _ k => XS.iload X49.here hx rfl (hb hby at_91) rfl k) ?_
              show own_GW _ _ _ (T49.setTop (mkF m 93 #[.val (.int p0), .val (.int p1), .val (.int p2), .val (.int (1 : Int32)), .val (.int (Int32.ofNat i0)), .val (.ref b27), .val (.ref a46), .val (.int (own_qse ([x0] : List Int32) i0))] [(.int (own_qse ([x0] : List Int32) i0))])) _ _ _ _ _ _
              refine own_goW (fun _ k => XS.aload X49.here hx rfl (hb hby at_93) rfl rfl k) ?_
              show own_GW _ _ _ (T49.setTop (mkF m 95 #[.val (.int p0), .val (.int p1), .val (.int p2), .val (.int (1 : Int32)), .val (.int (Int32.ofNat i0)), .val (.ref b27), .val (.ref a46), .val (.int (own_qse ([x0] : List Int32) i0))] [(.ref b27), (.int (own_qse ([x0] : List Int32) i0))])) _ _ _ _ _ _
              refine own_goW (fun _ k => XS.iloadN X49.here hx rfl (hb hby at_95) rfl k) ?_
              show own_GW _ _ _ (T49.setTop (mkF m 96 #[.val (.int p0), .val (.int p1), .val (.int p2), .val (.int (1 : Int32)), .val (.int (Int32.ofNat i0)), .val (.ref b27), .val (.ref a46), .val (.int (own_qse ([x0] : List Int32) i0))] [(.int (1 : Int32)), (.ref b27), (.int (own_qse ([x0] : List Int32) i0))])) _ _ _ _ _ _
              refine own_goW (fun _ k => XS.iload X49.here hx rfl (hb hby at_96) rfl k) ?_
              show own_GW _ _ _ (T49.setTop (mkF m 98 #[.val (.int p0), .val (.int p1), .val (.int p2), .val (.int (1 : Int32)), .val (.int (Int32.ofNat i0)), .val (.ref b27), .val (.ref a46), .val (.int (own_qse ([x0] : List Int32) i0))] [(.int (Int32.ofNat i0)), (.int (1 : Int32)), (.ref b27), (.int (own_qse ([x0] : List Int32) i0))])) _ _ _ _ _ _
              obtain ⟨_, _, ⟨T50, L50, k50, n50⟩, -, X50, ⟨Lc50, hQ50, l50, y50, z50⟩, st50⟩ := Jvm.LawKit.callS X49 hx (y := (⟨"com/example/floe/floe/rest/FramingLinesQuotedStringEndPinLaw", "expected", "([CII)I"⟩ : MethodName)) hown (mvT hZ (hw _ (List.mem_of_getElem? (i := 73) rfl))) (mvT hZ (hw _ (List.mem_of_getElem? (i := 74) rfl))) (mvT hZ (hw _ (List.mem_of_getElem? (i := 3) rfl))) (mvT hZ (hw _ (List.mem_of_getElem? (i := 75) rfl))) (by decide) (backOf (W := 1) (rm17 l Z a0 hw [] b27 (1 : Int32) (Int32.ofNat i0) k27 x0 x1 x2 x3 T46.heap n0 Zs46 f48 (by decide) (own_i0 hi5).1 (own_i0 hi5).2) hZ (hw _ (List.mem_of_getElem? (i := 75) rfl)) (hw _ (List.mem_of_getElem? (i := 3) rfl)) (by decide) (by decide)) (g := (mkF m 98 #[.val (.int p0), .val (.int p1), .val (.int p2), .val (.int (1 : Int32)), .val (.int (Int32.ofNat i0)), .val (.ref b27), .val (.ref a46), .val (.int (own_qse ([x0] : List Int32) i0))] [(.int (Int32.ofNat i0)), (.int (1 : Int32)), (.ref b27), (.int (own_qse ([x0] : List Int32) i0))])) rfl (by rw [hml]; rfl) (argsL := [(.ref b27), (.int (1 : Int32)), (.int (Int32.ofNat i0))]) (rest := [(.int (own_qse ([x0] : List Int32) i0))]) (lenOf pd_5 rfl) rfl (by show 2 * 0 + _ ≤ _; exact Nat.le_of_eq rfl) (hb hby at_98) (fun _ _ => ⟨rfl, eh49, (by decide : 4 + 0 ≤ _), (by decide : 10 + 0 ≤ _)⟩)
              dsimp only [Pt.U, Pt.locs, Pt.cells, Pt.slots] at X50 l50 y50 z50 st50 hQ50
              subst l50 y50 z50
              obtain ⟨rfl, Nq50, eh50⟩ := hQ50
              have N50 := Fr.app N49 Nq50
              refine own_goW (fun _ k => st50 _ k) ?_
              show own_GW _ _ _ (T50.setTop (mkF m 101 #[.val (.int p0), .val (.int p1), .val (.int p2), .val (.int (1 : Int32)), .val (.int (Int32.ofNat i0)), .val (.ref b27), .val (.ref a46), .val (.int (own_qse ([x0] : List Int32) i0))] [(.int (own_expd (1 : Int32) (Int32.ofNat i0) x0 x1 x2 x3)), (.int (own_qse ([x0] : List Int32) i0))])) _ _ _ _ _ _
              have hc51 : (own_qse ([x0] : List Int32) i0) = (own_expd (1 : Int32) (Int32.ofNat i0) x0 x1 x2 x3) := own_same1 x0 x1 x2 x3 i0 hi5
              refine own_goW (fun _ k => XS.icmpNo X50.here hx rfl (hb hby at_101) rfl (teq hc51).2 k) ?_
              show own_GW _ _ _ (T50.setTop (mkF m 104 #[.val (.int p0), .val (.int p1), .val (.int p2), .val (.int (1 : Int32)), .val (.int (Int32.ofNat i0)), .val (.ref b27), .val (.ref a46), .val (.int (own_qse ([x0] : List Int32) i0))] [])) _ _ _ _ _ _
              refine own_goW (fun _ k => XS.iconst X50.here hx rfl (hb hby at_104) k) ?_
              show own_GW _ _ _ (T50.setTop (mkF m 105 #[.val (.int p0), .val (.int p1), .val (.int p2), .val (.int (1 : Int32)), .val (.int (Int32.ofNat i0)), .val (.ref b27), .val (.ref a46), .val (.int (own_qse ([x0] : List Int32) i0))] [(.int (1 : Int32))])) _ _ _ _ _ _
              refine own_goW (fun _ k => XS.goto X50.here hx rfl (pc0 := 105) (pc' := 109) rfl (hb hby at_105) (by decide) (by decide) k) ?_
              show own_GW _ _ _ (T50.setTop (mkF m 109 #[.val (.int p0), .val (.int p1), .val (.int p2), .val (.int (1 : Int32)), .val (.int (Int32.ofNat i0)), .val (.ref b27), .val (.ref a46), .val (.int (own_qse ([x0] : List Int32) i0))] [(.int (1 : Int32))])) _ _ _ _ _ _
              have CQ52 := CR0.trans (CHr.keep K46_1 all0 CR0.1)
              have CE52 : CHr Z own_EL s.vm s.heap T50.vm T50.heap := by rw [hh, show T50.heap = T46.heap from eh50]; exact CQ52.trans (CHv.at X50 hZ (own_EW hw) CQ52.1)
              exact own_endWN X50 hx hlk (t := .boolean) Bd.returns (by simp) (hb hby at_109) hS0 (show _ ≤ T50.heap.size by rw [show T50.heap = T46.heap from eh50]; exact (Nat.le_trans hk0 K46_1.1)) (by decide) (by decide) CE52 (Q := (Q0 Z p0 p1 p2 zc fm h0 n0)) (by rw [eh50]; exact ⟨rfl, N50, K46_0⟩)
  · rw [hn]
    show own_GW _ _ _ (s₁.setTop (mkF m 6 #[.val (.int p0), .val (.int p1), .val (.int p2), .unset, .unset, .unset, .unset, .unset] [(.int (2 : Int32))])) _ _ _ _ _ _
    refine own_goW (fun _ k => XS.istoreN X0.here hx rfl (hb hby at_6) rfl (l' := #[.val (.int p0), .val (.int p1), .val (.int p2), .val (.int (2 : Int32)), .unset, .unset, .unset, .unset]) rfl k) ?_
    show own_GW _ _ _ (s₁.setTop (mkF m 7 #[.val (.int p0), .val (.int p1), .val (.int p2), .val (.int (2 : Int32)), .unset, .unset, .unset, .unset] [])) _ _ _ _ _ _
    refine own_goW (fun _ k => XS.iloadN X0.here hx rfl (hb hby at_7) rfl k) ?_
    show own_GW _ _ _ (s₁.setTop (mkF m 8 #[.val (.int p0), .val (.int p1), .val (.int p2), .val (.int (2 : Int32)), .unset, .unset, .unset, .unset] [(.int p1)])) _ _ _ _ _ _
    refine own_goW (fun _ k => XS.iconst X0.here hx rfl (hb hby at_8) k) ?_
    show own_GW _ _ _ (s₁.setTop (mkF m 9 #[.val (.int p0), .val (.int p1), .val (.int p2), .val (.int (2 : Int32)), .unset, .unset, .unset, .unset] [(.int (3 : Int32)), (.int p1)])) _ _ _ _ _ _
    refine own_goW (fun _ k => XS.iushr X0.here hx rfl (hb hby at_9) rfl k) ?_
    show own_GW _ _ _ (s₁.setTop (mkF m 10 #[.val (.int p0), .val (.int p1), .val (.int p2), .val (.int (2 : Int32)), .unset, .unset, .unset, .unset] [(.int ((p1.toUInt32 >>> ((3 : Int32) &&& 31).toUInt32).toInt32))])) _ _ _ _ _ _
    refine own_goW (fun _ k => XS.bipush X0.here hx rfl (hb hby at_10) k) ?_
    show own_GW _ _ _ (s₁.setTop (mkF m 12 #[.val (.int p0), .val (.int p1), .val (.int p2), .val (.int (2 : Int32)), .unset, .unset, .unset, .unset] [(.int (7 : Int32)), (.int ((p1.toUInt32 >>> ((3 : Int32) &&& 31).toUInt32).toInt32))])) _ _ _ _ _ _
    refine own_goW (fun _ k => XS.iand X0.here hx rfl (hb hby at_12) rfl k) ?_
    show own_GW _ _ _ (s₁.setTop (mkF m 13 #[.val (.int p0), .val (.int p1), .val (.int p2), .val (.int (2 : Int32)), .unset, .unset, .unset, .unset] [(.int (((p1.toUInt32 >>> ((3 : Int32) &&& 31).toUInt32).toInt32) &&& (7 : Int32)))])) _ _ _ _ _ _
    refine own_goW (fun _ k => XS.bipush X0.here hx rfl (hb hby at_13) k) ?_
    show own_GW _ _ _ (s₁.setTop (mkF m 15 #[.val (.int p0), .val (.int p1), .val (.int p2), .val (.int (2 : Int32)), .unset, .unset, .unset, .unset] [(.int (6 : Int32)), (.int (((p1.toUInt32 >>> ((3 : Int32) &&& 31).toUInt32).toInt32) &&& (7 : Int32)))])) _ _ _ _ _ _
    refine own_goW (fun _ k => iremM X0 hx rfl (hb hby at_15) rfl (by decide) k) ?_
    show own_GW _ _ _ (s₁.setTop (mkF m 16 #[.val (.int p0), .val (.int p1), .val (.int p2), .val (.int (2 : Int32)), .unset, .unset, .unset, .unset] [(.int ((((p1.toUInt32 >>> ((3 : Int32) &&& 31).toUInt32).toInt32) &&& (7 : Int32)) % (6 : Int32)))])) _ _ _ _ _ _
    obtain ⟨i0, hi5, hs⟩ := own_s6 p1
    · rw [hs]
      show own_GW _ _ _ (s₁.setTop (mkF m 16 #[.val (.int p0), .val (.int p1), .val (.int p2), .val (.int (2 : Int32)), .unset, .unset, .unset, .unset] [(.int (Int32.ofNat i0))])) _ _ _ _ _ _
      refine own_goW (fun _ k => XS.istore X0.here hx rfl (hb hby at_16) rfl (l' := #[.val (.int p0), .val (.int p1), .val (.int p2), .val (.int (2 : Int32)), .val (.int (Int32.ofNat i0)), .unset, .unset, .unset]) rfl k) ?_
      show own_GW _ _ _ (s₁.setTop (mkF m 18 #[.val (.int p0), .val (.int p1), .val (.int p2), .val (.int (2 : Int32)), .val (.int (Int32.ofNat i0)), .unset, .unset, .unset] [])) _ _ _ _ _ _
      refine own_goW (fun _ k => XS.iconst X0.here hx rfl (hb hby at_18) k) ?_
      show own_GW _ _ _ (s₁.setTop (mkF m 19 #[.val (.int p0), .val (.int p1), .val (.int p2), .val (.int (2 : Int32)), .val (.int (Int32.ofNat i0)), .unset, .unset, .unset] [(.int (4 : Int32))])) _ _ _ _ _ _
      obtain ⟨T53, h53, k53, X53, e53, E53, A53, st53⟩ := newP X0 hx hZ (hw _ (List.mem_of_getElem? (i := 0) rfl)) e0 (g := (mkF m 19 #[.val (.int p0), .val (.int p1), .val (.int p2), .val (.int (2 : Int32)), .val (.int (Int32.ofNat i0)), .unset, .unset, .unset] [(.int (4 : Int32))])) rfl (hb hby at_19) rfl (by decide) (cap := 4) (by decide) (by decide) (by decide) (by decide)
      obtain ⟨b53, g53⟩ : ∃ z, z = h0.size := ⟨_, rfl⟩
      rw [← g53] at A53 st53
      have gg53 : n0 ≤ b53 := Nat.le_trans Z0 (Nat.le_of_eq g53.symm)
      have sz53_0 : h0.size ≤ b53 := Nat.le_trans K0.1 (Nat.le_of_eq g53.symm)
      have sz53_1 : h0.size ≤ b53 := Nat.le_trans KS0.1 (Nat.le_of_eq g53.symm)
      have Zs53 : n0 ≤ h53.size := Nat.le_trans Z0 E53.1
      have K53_0 : Keep h0 h53 [] := K0.ext E53
      have K53_1 : Keep h0 h53 [] := KS0.ext E53
      have f54 : Old Z n0 h53 := P_Old.ext E53
      have f55 : Arv Z h53 b53 k53 .char (4 : Int32) [(.int (0 : Int32)), (.int (0 : Int32)), (.int (0 : Int32)), (.int (0 : Int32))] (.int (0 : Int32)) := (Arv.new A53 (by decide)).pad (pad_rep [] (.int (0 : Int32)) 4)
      refine own_goW (fun _ k => st53 _ k) ?_
      show own_GW _ _ _ (T53.setTop (mkF m 21 #[.val (.int p0), .val (.int p1), .val (.int p2), .val (.int (2 : Int32)), .val (.int (Int32.ofNat i0)), .unset, .unset, .unset] [(.ref b53)])) _ _ _ _ _ _
      refine own_goW (fun _ k => XS.astore X53.here hx rfl (hb hby at_21) rfl rfl (l' := #[.val (.int p0), .val (.int p1), .val (.int p2), .val (.int (2 : Int32)), .val (.int (Int32.ofNat i0)), .val (.ref b53), .unset, .unset]) rfl k) ?_
      show own_GW _ _ _ (T53.setTop (mkF m 23 #[.val (.int p0), .val (.int p1), .val (.int p2), .val (.int (2 : Int32)), .val (.int (Int32.ofNat i0)), .val (.ref b53), .unset, .unset] [])) _ _ _ _ _ _
      refine own_goW (fun _ k => XS.aload X53.here hx rfl (hb hby at_23) rfl rfl k) ?_
      show own_GW _ _ _ (T53.setTop (mkF m 25 #[.val (.int p0), .val (.int p1), .val (.int p2), .val (.int (2 : Int32)), .val (.int (Int32.ofNat i0)), .val (.ref b53), .unset, .unset] [(.ref b53)])) _ _ _ _ _ _
      refine own_goW (fun _ k => XS.iconst X53.here hx rfl (hb hby at_25) k) ?_
      show own_GW _ _ _ (T53.setTop (mkF m 26 #[.val (.int p0), .val (.int p1), .val (.int p2), .val (.int (2 : Int32)), .val (.int (Int32.ofNat i0)), .val (.ref b53), .unset, .unset] [(.int (0 : Int32)), (.ref b53)])) _ _ _ _ _ _
      refine own_goW (fun _ k => XS.iloadN X53.here hx rfl (hb hby at_26) rfl k) ?_
      show own_GW _ _ _ (T53.setTop (mkF m 27 #[.val (.int p0), .val (.int p1), .val (.int p2), .val (.int (2 : Int32)), .val (.int (Int32.ofNat i0)), .val (.ref b53), .unset, .unset] [(.int p0), (.int (0 : Int32)), (.ref b53)])) _ _ _ _ _ _
      refine own_goW (fun _ k => XS.iloadN X53.here hx rfl (hb hby at_27) rfl k) ?_
      show own_GW _ _ _ (T53.setTop (mkF m 28 #[.val (.int p0), .val (.int p1), .val (.int p2), .val (.int (2 : Int32)), .val (.int (Int32.ofNat i0)), .val (.ref b53), .unset, .unset] [(.int p2), (.int p0), (.int (0 : Int32)), (.ref b53)])) _ _ _ _ _ _
      obtain ⟨_, _, ⟨T56, L56, k56, n56⟩, -, X56, ⟨Lc56, hQ56, l56, y56, z56⟩, st56⟩ := Jvm.LawKit.callS X53 hx (y := (⟨"com/example/floe/floe/rest/FramingLinesQuotedStringEndPinLaw", "draw", "(II)C"⟩ : MethodName)) hown (mvT hZ (hw _ (List.mem_of_getElem? (i := 1) rfl))) (mvT hZ (hw _ (List.mem_of_getElem? (i := 2) rfl))) (mvT hZ (hw _ (List.mem_of_getElem? (i := 3) rfl))) (mvT hZ (hw _ (List.mem_of_getElem? (i := 4) rfl))) (by decide) (backOf (W := 2) (rm1 l Z a0 hw [] p0 p2 h53 n0) hZ (hw _ (List.mem_of_getElem? (i := 4) rfl)) (hw _ (List.mem_of_getElem? (i := 3) rfl)) (by decide) (by decide)) (g := (mkF m 28 #[.val (.int p0), .val (.int p1), .val (.int p2), .val (.int (2 : Int32)), .val (.int (Int32.ofNat i0)), .val (.ref b53), .unset, .unset] [(.int p2), (.int p0), (.int (0 : Int32)), (.ref b53)])) rfl (by rw [hml]; rfl) (argsL := [(.int p0), (.int p2)]) (rest := [(.int (0 : Int32)), (.ref b53)]) (lenOf pd_6 rfl) rfl (by show 2 * 0 + _ ≤ _; exact Nat.le_of_eq rfl) (hb hby at_28) (fun _ _ => ⟨rfl, e53, (by decide : 1 + 0 ≤ _), (by decide : 4 + 0 ≤ _)⟩)
      dsimp only [Pt.U, Pt.locs, Pt.cells, Pt.slots] at X56 l56 y56 z56 st56 hQ56
      subst l56 y56 z56
      obtain ⟨rfl, Nq56, eh56⟩ := hQ56
      have N56 := Fr.app N0 Nq56
      refine own_goW (fun _ k => st56 _ k) ?_
      show own_GW _ _ _ (T56.setTop (mkF m 31 #[.val (.int p0), .val (.int p1), .val (.int p2), .val (.int (2 : Int32)), .val (.int (Int32.ofNat i0)), .val (.ref b53), .unset, .unset] [(.int (own_draw p0 p2)), (.int (0 : Int32)), (.ref b53)])) _ _ _ _ _ _
      obtain ⟨x0, h_x0⟩ : ∃ z : Int32, z = (own_draw p0 p2) := ⟨_, rfl⟩
      · rw [← h_x0]
        have r_x0 : ¬ x0 < 0 ∧ ¬ (255 : Int32) < x0 := by rw [h_x0]; exact own_drw _ _
        have e_x0 : nar .char x0 = x0 := own_nar8 r_x0
        show own_GW _ _ _ (T56.setTop (mkF m 31 #[.val (.int p0), .val (.int p1), .val (.int p2), .val (.int (2 : Int32)), .val (.int (Int32.ofNat i0)), .val (.ref b53), .unset, .unset] [(.int x0), (.int (0 : Int32)), (.ref b53)])) _ _ _ _ _ _
        obtain ⟨cl57, Ar57, q57, S57, Ng57, H57, G57⟩ := id f55
        have in57 : ¬ ((0 : Int32) < 0 ∨ cl57.slots.size ≤ ((0 : Int32)).toNatClampNeg) := inb_of S57 ⟨by decide, by decide⟩
        obtain ⟨T57, h57, X57, e57, W57, st57⟩ := stC X56 hx hZ eh56 Ar57 (j := (0 : Int32)) in57 (g := (mkF m 31 #[.val (.int p0), .val (.int p1), .val (.int p2), .val (.int (2 : Int32)), .val (.int (Int32.ofNat i0)), .val (.ref b53), .unset, .unset] [(.int x0), (.int (0 : Int32)), (.ref b53)])) rfl rfl (hb hby at_31)
        have N57 := Fr.snoc X57 N56 gg53
        have Zs57 : n0 ≤ h57.size := Nat.le_trans Zs53 (Keep.of_wr W57).1
        have K57_0 : Keep h0 h57 [] := K53_0.wr W57 (Or.inr sz53_0)
        have K57_1 : Keep h0 h57 [] := K53_1.wr W57 (Or.inr sz53_1)
        have f58 : Old Z n0 h57 := f54.wr W57 gg53
        have f59 : Arv Z h57 b53 k53 .char (4 : Int32) [(.int x0), (.int (0 : Int32)), (.int (0 : Int32)), (.int (0 : Int32))] (.int (0 : Int32)) := (by have q := Arv.set Ar57 q57 S57 Ng57 H57 G57 (fits_nar_char _) W57 0 rfl (Nat.le_of_ble_eq_true rfl); rw [e_x0] at q; exact q)
        refine own_goW (fun _ k => st57 _ k) ?_
        show own_GW _ _ _ (T57.setTop (mkF m 32 #[.val (.int p0), .val (.int p1), .val (.int p2), .val (.int (2 : Int32)), .val (.int (Int32.ofNat i0)), .val (.ref b53), .unset, .unset] [])) _ _ _ _ _ _
        refine own_goW (fun _ k => XS.aload X57.here hx rfl (hb hby at_32) rfl rfl k) ?_
        show own_GW _ _ _ (T57.setTop (mkF m 34 #[.val (.int p0), .val (.int p1), .val (.int p2), .val (.int (2 : Int32)), .val (.int (Int32.ofNat i0)), .val (.ref b53), .unset, .unset] [(.ref b53)])) _ _ _ _ _ _
        refine own_goW (fun _ k => XS.iconst X57.here hx rfl (hb hby at_34) k) ?_
        show own_GW _ _ _ (T57.setTop (mkF m 35 #[.val (.int p0), .val (.int p1), .val (.int p2), .val (.int (2 : Int32)), .val (.int (Int32.ofNat i0)), .val (.ref b53), .unset, .unset] [(.int (1 : Int32)), (.ref b53)])) _ _ _ _ _ _
        refine own_goW (fun _ k => XS.iloadN X57.here hx rfl (hb hby at_35) rfl k) ?_
        show own_GW _ _ _ (T57.setTop (mkF m 36 #[.val (.int p0), .val (.int p1), .val (.int p2), .val (.int (2 : Int32)), .val (.int (Int32.ofNat i0)), .val (.ref b53), .unset, .unset] [(.int p0), (.int (1 : Int32)), (.ref b53)])) _ _ _ _ _ _
        refine own_goW (fun _ k => XS.bipush X57.here hx rfl (hb hby at_36) k) ?_
        show own_GW _ _ _ (T57.setTop (mkF m 38 #[.val (.int p0), .val (.int p1), .val (.int p2), .val (.int (2 : Int32)), .val (.int (Int32.ofNat i0)), .val (.ref b53), .unset, .unset] [(.int (8 : Int32)), (.int p0), (.int (1 : Int32)), (.ref b53)])) _ _ _ _ _ _
        refine own_goW (fun _ k => XS.iushr X57.here hx rfl (hb hby at_38) rfl k) ?_
        show own_GW _ _ _ (T57.setTop (mkF m 39 #[.val (.int p0), .val (.int p1), .val (.int p2), .val (.int (2 : Int32)), .val (.int (Int32.ofNat i0)), .val (.ref b53), .unset, .unset] [(.int ((p0.toUInt32 >>> ((8 : Int32) &&& 31).toUInt32).toInt32)), (.int (1 : Int32)), (.ref b53)])) _ _ _ _ _ _
        refine own_goW (fun _ k => XS.iloadN X57.here hx rfl (hb hby at_39) rfl k) ?_
        show own_GW _ _ _ (T57.setTop (mkF m 40 #[.val (.int p0), .val (.int p1), .val (.int p2), .val (.int (2 : Int32)), .val (.int (Int32.ofNat i0)), .val (.ref b53), .unset, .unset] [(.int p2), (.int ((p0.toUInt32 >>> ((8 : Int32) &&& 31).toUInt32).toInt32)), (.int (1 : Int32)), (.ref b53)])) _ _ _ _ _ _
        refine own_goW (fun _ k => XS.iconst X57.here hx rfl (hb hby at_40) k) ?_
        show own_GW _ _ _ (T57.setTop (mkF m 41 #[.val (.int p0), .val (.int p1), .val (.int p2), .val (.int (2 : Int32)), .val (.int (Int32.ofNat i0)), .val (.ref b53), .unset, .unset] [(.int (1 : Int32)), (.int p2), (.int ((p0.toUInt32 >>> ((8 : Int32) &&& 31).toUInt32).toInt32)), (.int (1 : Int32)), (.ref b53)])) _ _ _ _ _ _
        refine own_goW (fun _ k => XS.iushr X57.here hx rfl (hb hby at_41) rfl k) ?_
        show own_GW _ _ _ (T57.setTop (mkF m 42 #[.val (.int p0), .val (.int p1), .val (.int p2), .val (.int (2 : Int32)), .val (.int (Int32.ofNat i0)), .val (.ref b53), .unset, .unset] [(.int ((p2.toUInt32 >>> ((1 : Int32) &&& 31).toUInt32).toInt32)), (.int ((p0.toUInt32 >>> ((8 : Int32) &&& 31).toUInt32).toInt32)), (.int (1 : Int32)), (.ref b53)])) _ _ _ _ _ _
        obtain ⟨_, _, ⟨T60, L60, k60, n60⟩, -, X60, ⟨Lc60, hQ60, l60, y60, z60⟩, st60⟩ := Jvm.LawKit.callS X57 hx (y := (⟨"com/example/floe/floe/rest/FramingLinesQuotedStringEndPinLaw", "draw", "(II)C"⟩ : MethodName)) hown (mvT hZ (hw _ (List.mem_of_getElem? (i := 1) rfl))) (mvT hZ (hw _ (List.mem_of_getElem? (i := 2) rfl))) (mvT hZ (hw _ (List.mem_of_getElem? (i := 3) rfl))) (mvT hZ (hw _ (List.mem_of_getElem? (i := 4) rfl))) (by decide) (backOf (W := 2) (rm1 l Z a0 hw [] ((p0.toUInt32 >>> ((8 : Int32) &&& 31).toUInt32).toInt32) ((p2.toUInt32 >>> ((1 : Int32) &&& 31).toUInt32).toInt32) h57 n0) hZ (hw _ (List.mem_of_getElem? (i := 4) rfl)) (hw _ (List.mem_of_getElem? (i := 3) rfl)) (by decide) (by decide)) (g := (mkF m 42 #[.val (.int p0), .val (.int p1), .val (.int p2), .val (.int (2 : Int32)), .val (.int (Int32.ofNat i0)), .val (.ref b53), .unset, .unset] [(.int ((p2.toUInt32 >>> ((1 : Int32) &&& 31).toUInt32).toInt32)), (.int ((p0.toUInt32 >>> ((8 : Int32) &&& 31).toUInt32).toInt32)), (.int (1 : Int32)), (.ref b53)])) rfl (by rw [hml]; rfl) (argsL := [(.int ((p0.toUInt32 >>> ((8 : Int32) &&& 31).toUInt32).toInt32)), (.int ((p2.toUInt32 >>> ((1 : Int32) &&& 31).toUInt32).toInt32))]) (rest := [(.int (1 : Int32)), (.ref b53)]) (lenOf pd_6 rfl) rfl (by show 2 * 0 + _ ≤ _; exact Nat.le_of_eq rfl) (hb hby at_42) (fun _ _ => ⟨rfl, e57, (by decide : 1 + 0 ≤ _), (by decide : 4 + 0 ≤ _)⟩)
        dsimp only [Pt.U, Pt.locs, Pt.cells, Pt.slots] at X60 l60 y60 z60 st60 hQ60
        subst l60 y60 z60
        obtain ⟨rfl, Nq60, eh60⟩ := hQ60
        have N60 := Fr.app N57 Nq60
        refine own_goW (fun _ k => st60 _ k) ?_
        show own_GW _ _ _ (T60.setTop (mkF m 45 #[.val (.int p0), .val (.int p1), .val (.int p2), .val (.int (2 : Int32)), .val (.int (Int32.ofNat i0)), .val (.ref b53), .unset, .unset] [(.int (own_draw ((p0.toUInt32 >>> ((8 : Int32) &&& 31).toUInt32).toInt32) ((p2.toUInt32 >>> ((1 : Int32) &&& 31).toUInt32).toInt32))), (.int (1 : Int32)), (.ref b53)])) _ _ _ _ _ _
        obtain ⟨x1, h_x1⟩ : ∃ z : Int32, z = (own_draw ((p0.toUInt32 >>> ((8 : Int32) &&& 31).toUInt32).toInt32) ((p2.toUInt32 >>> ((1 : Int32) &&& 31).toUInt32).toInt32)) := ⟨_, rfl⟩
        · rw [← h_x1]
          have r_x1 : ¬ x1 < 0 ∧ ¬ (255 : Int32) < x1 := by rw [h_x1]; exact own_drw _ _
          have e_x1 : nar .char x1 = x1 := own_nar8 r_x1
          show own_GW _ _ _ (T60.setTop (mkF m 45 #[.val (.int p0), .val (.int p1), .val (.int p2), .val (.int (2 : Int32)), .val (.int (Int32.ofNat i0)), .val (.ref b53), .unset, .unset] [(.int x1), (.int (1 : Int32)), (.ref b53)])) _ _ _ _ _ _
          obtain ⟨cl61, Ar61, q61, S61, Ng61, H61, G61⟩ := id f59
          have in61 : ¬ ((1 : Int32) < 0 ∨ cl61.slots.size ≤ ((1 : Int32)).toNatClampNeg) := inb_of S61 ⟨by decide, by decide⟩
          obtain ⟨T61, h61, X61, e61, W61, st61⟩ := stC X60 hx hZ eh60 Ar61 (j := (1 : Int32)) in61 (g := (mkF m 45 #[.val (.int p0), .val (.int p1), .val (.int p2), .val (.int (2 : Int32)), .val (.int (Int32.ofNat i0)), .val (.ref b53), .unset, .unset] [(.int x1), (.int (1 : Int32)), (.ref b53)])) rfl rfl (hb hby at_45)
          have N61 := Fr.snoc X61 N60 gg53
          have Zs61 : n0 ≤ h61.size := Nat.le_trans Zs57 (Keep.of_wr W61).1
          have K61_0 : Keep h0 h61 [] := K57_0.wr W61 (Or.inr sz53_0)
          have K61_1 : Keep h0 h61 [] := K57_1.wr W61 (Or.inr sz53_1)
          have f62 : Old Z n0 h61 := f58.wr W61 gg53
          have f63 : Arv Z h61 b53 k53 .char (4 : Int32) [(.int x0), (.int x1), (.int (0 : Int32)), (.int (0 : Int32))] (.int (0 : Int32)) := (by have q := Arv.set Ar61 q61 S61 Ng61 H61 G61 (fits_nar_char _) W61 1 rfl (Nat.le_of_ble_eq_true rfl); rw [e_x1] at q; exact q)
          refine own_goW (fun _ k => st61 _ k) ?_
          show own_GW _ _ _ (T61.setTop (mkF m 46 #[.val (.int p0), .val (.int p1), .val (.int p2), .val (.int (2 : Int32)), .val (.int (Int32.ofNat i0)), .val (.ref b53), .unset, .unset] [])) _ _ _ _ _ _
          refine own_goW (fun _ k => XS.aload X61.here hx rfl (hb hby at_46) rfl rfl k) ?_
          show own_GW _ _ _ (T61.setTop (mkF m 48 #[.val (.int p0), .val (.int p1), .val (.int p2), .val (.int (2 : Int32)), .val (.int (Int32.ofNat i0)), .val (.ref b53), .unset, .unset] [(.ref b53)])) _ _ _ _ _ _
          refine own_goW (fun _ k => XS.iconst X61.here hx rfl (hb hby at_48) k) ?_
          show own_GW _ _ _ (T61.setTop (mkF m 49 #[.val (.int p0), .val (.int p1), .val (.int p2), .val (.int (2 : Int32)), .val (.int (Int32.ofNat i0)), .val (.ref b53), .unset, .unset] [(.int (2 : Int32)), (.ref b53)])) _ _ _ _ _ _
          refine own_goW (fun _ k => XS.iloadN X61.here hx rfl (hb hby at_49) rfl k) ?_
          show own_GW _ _ _ (T61.setTop (mkF m 50 #[.val (.int p0), .val (.int p1), .val (.int p2), .val (.int (2 : Int32)), .val (.int (Int32.ofNat i0)), .val (.ref b53), .unset, .unset] [(.int p0), (.int (2 : Int32)), (.ref b53)])) _ _ _ _ _ _
          refine own_goW (fun _ k => XS.bipush X61.here hx rfl (hb hby at_50) k) ?_
          show own_GW _ _ _ (T61.setTop (mkF m 52 #[.val (.int p0), .val (.int p1), .val (.int p2), .val (.int (2 : Int32)), .val (.int (Int32.ofNat i0)), .val (.ref b53), .unset, .unset] [(.int (16 : Int32)), (.int p0), (.int (2 : Int32)), (.ref b53)])) _ _ _ _ _ _
          refine own_goW (fun _ k => XS.iushr X61.here hx rfl (hb hby at_52) rfl k) ?_
          show own_GW _ _ _ (T61.setTop (mkF m 53 #[.val (.int p0), .val (.int p1), .val (.int p2), .val (.int (2 : Int32)), .val (.int (Int32.ofNat i0)), .val (.ref b53), .unset, .unset] [(.int ((p0.toUInt32 >>> ((16 : Int32) &&& 31).toUInt32).toInt32)), (.int (2 : Int32)), (.ref b53)])) _ _ _ _ _ _
          refine own_goW (fun _ k => XS.iloadN X61.here hx rfl (hb hby at_53) rfl k) ?_
          show own_GW _ _ _ (T61.setTop (mkF m 54 #[.val (.int p0), .val (.int p1), .val (.int p2), .val (.int (2 : Int32)), .val (.int (Int32.ofNat i0)), .val (.ref b53), .unset, .unset] [(.int p2), (.int ((p0.toUInt32 >>> ((16 : Int32) &&& 31).toUInt32).toInt32)), (.int (2 : Int32)), (.ref b53)])) _ _ _ _ _ _
          refine own_goW (fun _ k => XS.iconst X61.here hx rfl (hb hby at_54) k) ?_
          show own_GW _ _ _ (T61.setTop (mkF m 55 #[.val (.int p0), .val (.int p1), .val (.int p2), .val (.int (2 : Int32)), .val (.int (Int32.ofNat i0)), .val (.ref b53), .unset, .unset] [(.int (2 : Int32)), (.int p2), (.int ((p0.toUInt32 >>> ((16 : Int32) &&& 31).toUInt32).toInt32)), (.int (2 : Int32)), (.ref b53)])) _ _ _ _ _ _
          refine own_goW (fun _ k => XS.iushr X61.here hx rfl (hb hby at_55) rfl k) ?_
          show own_GW _ _ _ (T61.setTop (mkF m 56 #[.val (.int p0), .val (.int p1), .val (.int p2), .val (.int (2 : Int32)), .val (.int (Int32.ofNat i0)), .val (.ref b53), .unset, .unset] [(.int ((p2.toUInt32 >>> ((2 : Int32) &&& 31).toUInt32).toInt32)), (.int ((p0.toUInt32 >>> ((16 : Int32) &&& 31).toUInt32).toInt32)), (.int (2 : Int32)), (.ref b53)])) _ _ _ _ _ _
          obtain ⟨_, _, ⟨T64, L64, k64, n64⟩, -, X64, ⟨Lc64, hQ64, l64, y64, z64⟩, st64⟩ := Jvm.LawKit.callS X61 hx (y := (⟨"com/example/floe/floe/rest/FramingLinesQuotedStringEndPinLaw", "draw", "(II)C"⟩ : MethodName)) hown (mvT hZ (hw _ (List.mem_of_getElem? (i := 1) rfl))) (mvT hZ (hw _ (List.mem_of_getElem? (i := 2) rfl))) (mvT hZ (hw _ (List.mem_of_getElem? (i := 3) rfl))) (mvT hZ (hw _ (List.mem_of_getElem? (i := 4) rfl))) (by decide) (backOf (W := 2) (rm1 l Z a0 hw [] ((p0.toUInt32 >>> ((16 : Int32) &&& 31).toUInt32).toInt32) ((p2.toUInt32 >>> ((2 : Int32) &&& 31).toUInt32).toInt32) h61 n0) hZ (hw _ (List.mem_of_getElem? (i := 4) rfl)) (hw _ (List.mem_of_getElem? (i := 3) rfl)) (by decide) (by decide)) (g := (mkF m 56 #[.val (.int p0), .val (.int p1), .val (.int p2), .val (.int (2 : Int32)), .val (.int (Int32.ofNat i0)), .val (.ref b53), .unset, .unset] [(.int ((p2.toUInt32 >>> ((2 : Int32) &&& 31).toUInt32).toInt32)), (.int ((p0.toUInt32 >>> ((16 : Int32) &&& 31).toUInt32).toInt32)), (.int (2 : Int32)), (.ref b53)])) rfl (by rw [hml]; rfl) (argsL := [(.int ((p0.toUInt32 >>> ((16 : Int32) &&& 31).toUInt32).toInt32)), (.int ((p2.toUInt32 >>> ((2 : Int32) &&& 31).toUInt32).toInt32))]) (rest := [(.int (2 : Int32)), (.ref b53)]) (lenOf pd_6 rfl) rfl (by show 2 * 0 + _ ≤ _; exact Nat.le_of_eq rfl) (hb hby at_56) (fun _ _ => ⟨rfl, e61, (by decide : 1 + 0 ≤ _), (by decide : 4 + 0 ≤ _)⟩)
          dsimp only [Pt.U, Pt.locs, Pt.cells, Pt.slots] at X64 l64 y64 z64 st64 hQ64
          subst l64 y64 z64
          obtain ⟨rfl, Nq64, eh64⟩ := hQ64
          have N64 := Fr.app N61 Nq64
          refine own_goW (fun _ k => st64 _ k) ?_
          show own_GW _ _ _ (T64.setTop (mkF m 59 #[.val (.int p0), .val (.int p1), .val (.int p2), .val (.int (2 : Int32)), .val (.int (Int32.ofNat i0)), .val (.ref b53), .unset, .unset] [(.int (own_draw ((p0.toUInt32 >>> ((16 : Int32) &&& 31).toUInt32).toInt32) ((p2.toUInt32 >>> ((2 : Int32) &&& 31).toUInt32).toInt32))), (.int (2 : Int32)), (.ref b53)])) _ _ _ _ _ _
          obtain ⟨x2, h_x2⟩ : ∃ z : Int32, z = (own_draw ((p0.toUInt32 >>> ((16 : Int32) &&& 31).toUInt32).toInt32) ((p2.toUInt32 >>> ((2 : Int32) &&& 31).toUInt32).toInt32)) := ⟨_, rfl⟩
          · rw [← h_x2]
            have r_x2 : ¬ x2 < 0 ∧ ¬ (255 : Int32) < x2 := by rw [h_x2]; exact own_drw _ _
            have e_x2 : nar .char x2 = x2 := own_nar8 r_x2
            show own_GW _ _ _ (T64.setTop (mkF m 59 #[.val (.int p0), .val (.int p1), .val (.int p2), .val (.int (2 : Int32)), .val (.int (Int32.ofNat i0)), .val (.ref b53), .unset, .unset] [(.int x2), (.int (2 : Int32)), (.ref b53)])) _ _ _ _ _ _
            obtain ⟨cl65, Ar65, q65, S65, Ng65, H65, G65⟩ := id f63
            have in65 : ¬ ((2 : Int32) < 0 ∨ cl65.slots.size ≤ ((2 : Int32)).toNatClampNeg) := inb_of S65 ⟨by decide, by decide⟩
            obtain ⟨T65, h65, X65, e65, W65, st65⟩ := stC X64 hx hZ eh64 Ar65 (j := (2 : Int32)) in65 (g := (mkF m 59 #[.val (.int p0), .val (.int p1), .val (.int p2), .val (.int (2 : Int32)), .val (.int (Int32.ofNat i0)), .val (.ref b53), .unset, .unset] [(.int x2), (.int (2 : Int32)), (.ref b53)])) rfl rfl (hb hby at_59)
            have N65 := Fr.snoc X65 N64 gg53
            have Zs65 : n0 ≤ h65.size := Nat.le_trans Zs61 (Keep.of_wr W65).1
            have K65_0 : Keep h0 h65 [] := K61_0.wr W65 (Or.inr sz53_0)
            have K65_1 : Keep h0 h65 [] := K61_1.wr W65 (Or.inr sz53_1)
            have f66 : Old Z n0 h65 := f62.wr W65 gg53
            have f67 : Arv Z h65 b53 k53 .char (4 : Int32) [(.int x0), (.int x1), (.int x2), (.int (0 : Int32))] (.int (0 : Int32)) := (by have q := Arv.set Ar65 q65 S65 Ng65 H65 G65 (fits_nar_char _) W65 2 rfl (Nat.le_of_ble_eq_true rfl); rw [e_x2] at q; exact q)
            refine own_goW (fun _ k => st65 _ k) ?_
            show own_GW _ _ _ (T65.setTop (mkF m 60 #[.val (.int p0), .val (.int p1), .val (.int p2), .val (.int (2 : Int32)), .val (.int (Int32.ofNat i0)), .val (.ref b53), .unset, .unset] [])) _ _ _ _ _ _
            refine own_goW (fun _ k => XS.aload X65.here hx rfl (hb hby at_60) rfl rfl k) ?_
            show own_GW _ _ _ (T65.setTop (mkF m 62 #[.val (.int p0), .val (.int p1), .val (.int p2), .val (.int (2 : Int32)), .val (.int (Int32.ofNat i0)), .val (.ref b53), .unset, .unset] [(.ref b53)])) _ _ _ _ _ _
            refine own_goW (fun _ k => XS.iconst X65.here hx rfl (hb hby at_62) k) ?_
            show own_GW _ _ _ (T65.setTop (mkF m 63 #[.val (.int p0), .val (.int p1), .val (.int p2), .val (.int (2 : Int32)), .val (.int (Int32.ofNat i0)), .val (.ref b53), .unset, .unset] [(.int (3 : Int32)), (.ref b53)])) _ _ _ _ _ _
            refine own_goW (fun _ k => XS.iloadN X65.here hx rfl (hb hby at_63) rfl k) ?_
            show own_GW _ _ _ (T65.setTop (mkF m 64 #[.val (.int p0), .val (.int p1), .val (.int p2), .val (.int (2 : Int32)), .val (.int (Int32.ofNat i0)), .val (.ref b53), .unset, .unset] [(.int p0), (.int (3 : Int32)), (.ref b53)])) _ _ _ _ _ _
            refine own_goW (fun _ k => XS.bipush X65.here hx rfl (hb hby at_64) k) ?_
            show own_GW _ _ _ (T65.setTop (mkF m 66 #[.val (.int p0), .val (.int p1), .val (.int p2), .val (.int (2 : Int32)), .val (.int (Int32.ofNat i0)), .val (.ref b53), .unset, .unset] [(.int (24 : Int32)), (.int p0), (.int (3 : Int32)), (.ref b53)])) _ _ _ _ _ _
            refine own_goW (fun _ k => XS.iushr X65.here hx rfl (hb hby at_66) rfl k) ?_
            show own_GW _ _ _ (T65.setTop (mkF m 67 #[.val (.int p0), .val (.int p1), .val (.int p2), .val (.int (2 : Int32)), .val (.int (Int32.ofNat i0)), .val (.ref b53), .unset, .unset] [(.int ((p0.toUInt32 >>> ((24 : Int32) &&& 31).toUInt32).toInt32)), (.int (3 : Int32)), (.ref b53)])) _ _ _ _ _ _
            refine own_goW (fun _ k => XS.iloadN X65.here hx rfl (hb hby at_67) rfl k) ?_
            show own_GW _ _ _ (T65.setTop (mkF m 68 #[.val (.int p0), .val (.int p1), .val (.int p2), .val (.int (2 : Int32)), .val (.int (Int32.ofNat i0)), .val (.ref b53), .unset, .unset] [(.int p2), (.int ((p0.toUInt32 >>> ((24 : Int32) &&& 31).toUInt32).toInt32)), (.int (3 : Int32)), (.ref b53)])) _ _ _ _ _ _
            refine own_goW (fun _ k => XS.iconst X65.here hx rfl (hb hby at_68) k) ?_
            show own_GW _ _ _ (T65.setTop (mkF m 69 #[.val (.int p0), .val (.int p1), .val (.int p2), .val (.int (2 : Int32)), .val (.int (Int32.ofNat i0)), .val (.ref b53), .unset, .unset] [(.int (3 : Int32)), (.int p2), (.int ((p0.toUInt32 >>> ((24 : Int32) &&& 31).toUInt32).toInt32)), (.int (3 : Int32)), (.ref b53)])) _ _ _ _ _ _
            refine own_goW (fun _ k => XS.iushr X65.here hx rfl (hb hby at_69) rfl k) ?_
            show own_GW _ _ _ (T65.setTop (mkF m 70 #[.val (.int p0), .val (.int p1), .val (.int p2), .val (.int (2 : Int32)), .val (.int (Int32.ofNat i0)), .val (.ref b53), .unset, .unset] [(.int ((p2.toUInt32 >>> ((3 : Int32) &&& 31).toUInt32).toInt32)), (.int ((p0.toUInt32 >>> ((24 : Int32) &&& 31).toUInt32).toInt32)), (.int (3 : Int32)), (.ref b53)])) _ _ _ _ _ _
            obtain ⟨_, _, ⟨T68, L68, k68, n68⟩, -, X68, ⟨Lc68, hQ68, l68, y68, z68⟩, st68⟩ := Jvm.LawKit.callS X65 hx (y := (⟨"com/example/floe/floe/rest/FramingLinesQuotedStringEndPinLaw", "draw", "(II)C"⟩ : MethodName)) hown (mvT hZ (hw _ (List.mem_of_getElem? (i := 1) rfl))) (mvT hZ (hw _ (List.mem_of_getElem? (i := 2) rfl))) (mvT hZ (hw _ (List.mem_of_getElem? (i := 3) rfl))) (mvT hZ (hw _ (List.mem_of_getElem? (i := 4) rfl))) (by decide) (backOf (W := 2) (rm1 l Z a0 hw [] ((p0.toUInt32 >>> ((24 : Int32) &&& 31).toUInt32).toInt32) ((p2.toUInt32 >>> ((3 : Int32) &&& 31).toUInt32).toInt32) h65 n0) hZ (hw _ (List.mem_of_getElem? (i := 4) rfl)) (hw _ (List.mem_of_getElem? (i := 3) rfl)) (by decide) (by decide)) (g := (mkF m 70 #[.val (.int p0), .val (.int p1), .val (.int p2), .val (.int (2 : Int32)), .val (.int (Int32.ofNat i0)), .val (.ref b53), .unset, .unset] [(.int ((p2.toUInt32 >>> ((3 : Int32) &&& 31).toUInt32).toInt32)), (.int ((p0.toUInt32 >>> ((24 : Int32) &&& 31).toUInt32).toInt32)), (.int (3 : Int32)), (.ref b53)])) rfl (by rw [hml]; rfl) (argsL := [(.int ((p0.toUInt32 >>> ((24 : Int32) &&& 31).toUInt32).toInt32)), (.int ((p2.toUInt32 >>> ((3 : Int32) &&& 31).toUInt32).toInt32))]) (rest := [(.int (3 : Int32)), (.ref b53)]) (lenOf pd_6 rfl) rfl (by show 2 * 0 + _ ≤ _; exact Nat.le_of_eq rfl) (hb hby at_70) (fun _ _ => ⟨rfl, e65, (by decide : 1 + 0 ≤ _), (by decide : 4 + 0 ≤ _)⟩)
            dsimp only [Pt.U, Pt.locs, Pt.cells, Pt.slots] at X68 l68 y68 z68 st68 hQ68
            subst l68 y68 z68
            obtain ⟨rfl, Nq68, eh68⟩ := hQ68
            have N68 := Fr.app N65 Nq68
            refine own_goW (fun _ k => st68 _ k) ?_
            show own_GW _ _ _ (T68.setTop (mkF m 73 #[.val (.int p0), .val (.int p1), .val (.int p2), .val (.int (2 : Int32)), .val (.int (Int32.ofNat i0)), .val (.ref b53), .unset, .unset] [(.int (own_draw ((p0.toUInt32 >>> ((24 : Int32) &&& 31).toUInt32).toInt32) ((p2.toUInt32 >>> ((3 : Int32) &&& 31).toUInt32).toInt32))), (.int (3 : Int32)), (.ref b53)])) _ _ _ _ _ _
            obtain ⟨x3, h_x3⟩ : ∃ z : Int32, z = (own_draw ((p0.toUInt32 >>> ((24 : Int32) &&& 31).toUInt32).toInt32) ((p2.toUInt32 >>> ((3 : Int32) &&& 31).toUInt32).toInt32)) := ⟨_, rfl⟩
            · rw [← h_x3]
              have r_x3 : ¬ x3 < 0 ∧ ¬ (255 : Int32) < x3 := by rw [h_x3]; exact own_drw _ _
              have e_x3 : nar .char x3 = x3 := own_nar8 r_x3
              show own_GW _ _ _ (T68.setTop (mkF m 73 #[.val (.int p0), .val (.int p1), .val (.int p2), .val (.int (2 : Int32)), .val (.int (Int32.ofNat i0)), .val (.ref b53), .unset, .unset] [(.int x3), (.int (3 : Int32)), (.ref b53)])) _ _ _ _ _ _
              obtain ⟨cl69, Ar69, q69, S69, Ng69, H69, G69⟩ := id f67
              have in69 : ¬ ((3 : Int32) < 0 ∨ cl69.slots.size ≤ ((3 : Int32)).toNatClampNeg) := inb_of S69 ⟨by decide, by decide⟩
              obtain ⟨T69, h69, X69, e69, W69, st69⟩ := stC X68 hx hZ eh68 Ar69 (j := (3 : Int32)) in69 (g := (mkF m 73 #[.val (.int p0), .val (.int p1), .val (.int p2), .val (.int (2 : Int32)), .val (.int (Int32.ofNat i0)), .val (.ref b53), .unset, .unset] [(.int x3), (.int (3 : Int32)), (.ref b53)])) rfl rfl (hb hby at_73)
              have N69 := Fr.snoc X69 N68 gg53
              have Zs69 : n0 ≤ h69.size := Nat.le_trans Zs65 (Keep.of_wr W69).1
              have K69_0 : Keep h0 h69 [] := K65_0.wr W69 (Or.inr sz53_0)
              have K69_1 : Keep h0 h69 [] := K65_1.wr W69 (Or.inr sz53_1)
              have f70 : Old Z n0 h69 := f66.wr W69 gg53
              have f71 : Arv Z h69 b53 k53 .char (4 : Int32) [(.int x0), (.int x1), (.int x2), (.int x3)] (.int (0 : Int32)) := (by have q := Arv.set Ar69 q69 S69 Ng69 H69 G69 (fits_nar_char _) W69 3 rfl (Nat.le_of_ble_eq_true rfl); rw [e_x3] at q; exact q)
              refine own_goW (fun _ k => st69 _ k) ?_
              show own_GW _ _ _ (T69.setTop (mkF m 74 #[.val (.int p0), .val (.int p1), .val (.int p2), .val (.int (2 : Int32)), .val (.int (Int32.ofNat i0)), .val (.ref b53), .unset, .unset] [])) _ _ _ _ _ _
              refine own_goW (fun _ k => XS.aload X69.here hx rfl (hb hby at_74) rfl rfl k) ?_
              show own_GW _ _ _ (T69.setTop (mkF m 76 #[.val (.int p0), .val (.int p1), .val (.int p2), .val (.int (2 : Int32)), .val (.int (Int32.ofNat i0)), .val (.ref b53), .unset, .unset] [(.ref b53)])) _ _ _ _ _ _
              refine own_goW (fun _ k => XS.iloadN X69.here hx rfl (hb hby at_76) rfl k) ?_
              show own_GW _ _ _ (T69.setTop (mkF m 77 #[.val (.int p0), .val (.int p1), .val (.int p2), .val (.int (2 : Int32)), .val (.int (Int32.ofNat i0)), .val (.ref b53), .unset, .unset] [(.int (2 : Int32)), (.ref b53)])) _ _ _ _ _ _
              obtain ⟨_, _, ⟨T72, L72, k72, n72⟩, -, X72, ⟨Lc72, hQ72, l72, y72, z72⟩, st72⟩ := Jvm.LawKit.callS X69 hx (y := (⟨"com/example/floe/floe/rest/FramingLinesQuotedStringEndPinLaw", "make", "([CI)Ljava/lang/String;"⟩ : MethodName)) hown (mvT hZ (hw _ (List.mem_of_getElem? (i := 5) rfl))) (mvT hZ (hw _ (List.mem_of_getElem? (i := 6) rfl))) (mvT hZ (hw _ (List.mem_of_getElem? (i := 3) rfl))) (mvT hZ (hw _ (List.mem_of_getElem? (i := 7) rfl))) (by decide) (backOf (W := 0) (rm2c l Z a0 hw [] b53 zc k53 x0 x1 x2 x3 h69 n0 Zs69 f70 P_ZS_java_lang_String_COMPACT_STRINGS hcs f71 (own_all4 r_x0 r_x1 r_x2 r_x3)) hZ (hw _ (List.mem_of_getElem? (i := 7) rfl)) (hw _ (List.mem_of_getElem? (i := 3) rfl)) (by decide) (by decide)) (g := (mkF m 77 #[.val (.int p0), .val (.int p1), .val (.int p2), .val (.int (2 : Int32)), .val (.int (Int32.ofNat i0)), .val (.ref b53), .unset, .unset] [(.int (2 : Int32)), (.ref b53)])) rfl (by rw [hml]; rfl) (argsL := [(.ref b53), (.int (2 : Int32))]) (rest := []) (lenOf pd_7 rfl) rfl (by show 2 * 0 + _ ≤ _; exact Nat.le_of_eq rfl) (hb hby at_77) (fun _ _ => ⟨rfl, e69, (by decide : 1 + 3 ≤ _), (by decide : 4 + 8 ≤ _)⟩)
              dsimp only [Pt.U, Pt.locs, Pt.cells, Pt.slots] at X72 l72 y72 z72 st72 hQ72
              subst l72 y72 z72
              obtain ⟨a72, rfl, Nq72, Kq72, r72_0⟩ := hQ72
              have N72 := Fr.app N69 Nq72
              have f73 : Old Z n0 T72.heap := f70.keep Kq72 all0
              have f74 : Arv Z T72.heap b53 k53 .char (4 : Int32) [(.int x0), (.int x1), (.int x2), (.int x3)] (.int (0 : Int32)) := f71.keep Kq72 nin0
              have Zs72 : n0 ≤ T72.heap.size := Nat.le_trans Zs69 Kq72.1
              have K72_0 : Keep h0 T72.heap [] := K69_0.trans Kq72 all0
              have K72_1 : Keep h0 T72.heap [] := K69_1.trans Kq72 all0
              refine own_goW (fun _ k => st72 _ k) ?_
              show own_GW _ _ _ (T72.setTop (mkF m 80 #[.val (.int p0), .val (.int p1), .val (.int p2), .val (.int (2 : Int32)), .val (.int (Int32.ofNat i0)), .val (.ref b53), .unset, .unset] [(.ref a72)])) _ _ _ _ _ _
              refine own_goW (fun _ k => XS.astore X72.here hx rfl (hb hby at_80) rfl rfl (l' := #[.val (.int p0), .val (.int p1), .val (.int p2), .val (.int (2 : Int32)), .val (.int (Int32.ofNat i0)), .val (.ref b53), .val (.ref a72), .unset]) rfl k) ?_
              show own_GW _ _ _ (T72.setTop (mkF m 82 #[.val (.int p0), .val (.int p1), .val (.int p2), .val (.int (2 : Int32)), .val (.int (Int32.ofNat i0)), .val (.ref b53), .val (.ref a72), .unset] [])) _ _ _ _ _ _
              refine own_goW (fun _ k => XS.aload X72.here hx rfl (hb hby at_82) rfl rfl k) ?_
              show own_GW _ _ _ (T72.setTop (mkF m 84 #[.val (.int p0), .val (.int p1), .val (.int p2), .val (.int (2 : Int32)), .val (.int (Int32.ofNat i0)), .val (.ref b53), .val (.ref a72), .unset] [(.ref a72)])) _ _ _ _ _ _
              refine own_goW (fun _ k => XS.iload X72.here hx rfl (hb hby at_84) rfl k) ?_
              show own_GW _ _ _ (T72.setTop (mkF m 86 #[.val (.int p0), .val (.int p1), .val (.int p2), .val (.int (2 : Int32)), .val (.int (Int32.ofNat i0)), .val (.ref b53), .val (.ref a72), .unset] [(.int (Int32.ofNat i0)), (.ref a72)])) _ _ _ _ _ _
              obtain ⟨_, _, ⟨T75, L75, k75, n75⟩, -, X75, ⟨Lc75, hQ75, l75, y75, z75⟩, st75⟩ := Jvm.LawKit.callS X72 hx (y := (⟨"com/example/floe/floe/rest/FramingLines", "quotedStringEnd", "(Ljava/lang/String;I)I"⟩ : MethodName)) hown (mvT hZ (hw _ (List.mem_of_getElem? (i := 37) rfl))) (mvT hZ (hw _ (List.mem_of_getElem? (i := 38) rfl))) (mvT hZ (hw _ (List.mem_of_getElem? (i := 39) rfl))) (mvT hZ (hw _ (List.mem_of_getElem? (i := 40) rfl))) (by decide) (backOf (W := 0) (rm9 l Z a0 hw [] a72 ([x0, x1] : List Int32) i0 zc fm T72.heap n0 Zs72 f73 P_ZS_java_lang_String_COMPACT_STRINGS hcs P_ZS_jdk_internal_util_Preconditions_SIOOBE_FORMATTER hfm r72_0 (by simp) (by omega)) hZ (hw _ (List.mem_of_getElem? (i := 40) rfl)) (hw _ (List.mem_of_getElem? (i := 39) rfl)) (by decide) (by decide)) (g := (mkF m 86 #[.val (.int p0), .val (.int p1), .val (.int p2), .val (.int (2 : Int32)), .val (.int (Int32.ofNat i0)), .val (.ref b53), .val (.ref a72), .unset] [(.int (Int32.ofNat i0)), (.ref a72)])) rfl (by rw [hml]; rfl) (argsL := [(.ref a72), (.int (Int32.ofNat i0))]) (rest := []) (lenOf pd_8 rfl) rfl (by show 2 * 0 + _ ≤ _; exact Nat.le_of_eq rfl) (hb hby at_86) (fun _ _ => ⟨rfl, rfl, (by decide : 4 + 0 ≤ _), (by decide : 12 + 0 ≤ _)⟩)
              dsimp only [Pt.U, Pt.locs, Pt.cells, Pt.slots] at X75 l75 y75 z75 st75 hQ75
              subst l75 y75 z75
              obtain ⟨rfl, Nq75, eh75⟩ := hQ75
              have N75 := Fr.app N72 Nq75
              refine own_goW (fun _ k => st75 _ k) ?_
              show own_GW _ _ _ (T75.setTop (mkF m 89 #[.val (.int p0), .val (.int p1), .val (.int p2), .val (.int (2 : Int32)), .val (.int (Int32.ofNat i0)), .val (.ref b53), .val (.ref a72), .unset] [(.int (own_qse ([x0, x1] : List Int32) i0))])) _ _ _ _ _ _
              refine own_goW (fun _ k => XS.istore X75.here hx rfl (hb hby at_89) rfl (l' := #[.val (.int p0), .val (.int p1), .val (.int p2), .val (.int (2 : Int32)), .val (.int (Int32.ofNat i0)), .val (.ref b53), .val (.ref a72), .val (.int (own_qse ([x0, x1] : List Int32) i0))]) rfl k) ?_
              show own_GW _ _ _ (T75.setTop (mkF m 91 #[.val (.int p0), .val (.int p1), .val (.int p2), .val (.int (2 : Int32)), .val (.int (Int32.ofNat i0)), .val (.ref b53), .val (.ref a72), .val (.int (own_qse ([x0, x1] : List Int32) i0))] [])) _ _ _ _ _ _
              refine own_goW (fun _ k => XS.iload X75.here hx rfl (hb hby at_91) rfl k) ?_
              show own_GW _ _ _ (T75.setTop (mkF m 93 #[.val (.int p0), .val (.int p1), .val (.int p2), .val (.int (2 : Int32)), .val (.int (Int32.ofNat i0)), .val (.ref b53), .val (.ref a72), .val (.int (own_qse ([x0, x1] : List Int32) i0))] [(.int (own_qse ([x0, x1] : List Int32) i0))])) _ _ _ _ _ _
              refine own_goW (fun _ k => XS.aload X75.here hx rfl (hb hby at_93) rfl rfl k) ?_
              show own_GW _ _ _ (T75.setTop (mkF m 95 #[.val (.int p0), .val (.int p1), .val (.int p2), .val (.int (2 : Int32)), .val (.int (Int32.ofNat i0)), .val (.ref b53), .val (.ref a72), .val (.int (own_qse ([x0, x1] : List Int32) i0))] [(.ref b53), (.int (own_qse ([x0, x1] : List Int32) i0))])) _ _ _ _ _ _
              refine own_goW (fun _ k => XS.iloadN X75.here hx rfl (hb hby at_95) rfl k) ?_
              show own_GW _ _ _ (T75.setTop (mkF m 96 #[.val (.int p0), .val (.int p1), .val (.int p2), .val (.int (2 : Int32)), .val (.int (Int32.ofNat i0)), .val (.ref b53), .val (.ref a72), .val (.int (own_qse ([x0, x1] : List Int32) i0))] [(.int (2 : Int32)), (.ref b53), (.int (own_qse ([x0, x1] : List Int32) i0))])) _ _ _ _ _ _
              refine own_goW (fun _ k => XS.iload X75.here hx rfl (hb hby at_96) rfl k) ?_
              show own_GW _ _ _ (T75.setTop (mkF m 98 #[.val (.int p0), .val (.int p1), .val (.int p2), .val (.int (2 : Int32)), .val (.int (Int32.ofNat i0)), .val (.ref b53), .val (.ref a72), .val (.int (own_qse ([x0, x1] : List Int32) i0))] [(.int (Int32.ofNat i0)), (.int (2 : Int32)), (.ref b53), (.int (own_qse ([x0, x1] : List Int32) i0))])) _ _ _ _ _ _
              obtain ⟨_, _, ⟨T76, L76, k76, n76⟩, -, X76, ⟨Lc76, hQ76, l76, y76, z76⟩, st76⟩ := Jvm.LawKit.callS X75 hx (y := (⟨"com/example/floe/floe/rest/FramingLinesQuotedStringEndPinLaw", "expected", "([CII)I"⟩ : MethodName)) hown (mvT hZ (hw _ (List.mem_of_getElem? (i := 73) rfl))) (mvT hZ (hw _ (List.mem_of_getElem? (i := 74) rfl))) (mvT hZ (hw _ (List.mem_of_getElem? (i := 3) rfl))) (mvT hZ (hw _ (List.mem_of_getElem? (i := 75) rfl))) (by decide) (backOf (W := 1) (rm17 l Z a0 hw [] b53 (2 : Int32) (Int32.ofNat i0) k53 x0 x1 x2 x3 T72.heap n0 Zs72 f74 (by decide) (own_i0 hi5).1 (own_i0 hi5).2) hZ (hw _ (List.mem_of_getElem? (i := 75) rfl)) (hw _ (List.mem_of_getElem? (i := 3) rfl)) (by decide) (by decide)) (g := (mkF m 98 #[.val (.int p0), .val (.int p1), .val (.int p2), .val (.int (2 : Int32)), .val (.int (Int32.ofNat i0)), .val (.ref b53), .val (.ref a72), .val (.int (own_qse ([x0, x1] : List Int32) i0))] [(.int (Int32.ofNat i0)), (.int (2 : Int32)), (.ref b53), (.int (own_qse ([x0, x1] : List Int32) i0))])) rfl (by rw [hml]; rfl) (argsL := [(.ref b53), (.int (2 : Int32)), (.int (Int32.ofNat i0))]) (rest := [(.int (own_qse ([x0, x1] : List Int32) i0))]) (lenOf pd_5 rfl) rfl (by show 2 * 0 + _ ≤ _; exact Nat.le_of_eq rfl) (hb hby at_98) (fun _ _ => ⟨rfl, eh75, (by decide : 4 + 0 ≤ _), (by decide : 12 + 0 ≤ _)⟩)
              dsimp only [Pt.U, Pt.locs, Pt.cells, Pt.slots] at X76 l76 y76 z76 st76 hQ76
              subst l76 y76 z76
              obtain ⟨rfl, Nq76, eh76⟩ := hQ76
              have N76 := Fr.app N75 Nq76
              refine own_goW (fun _ k => st76 _ k) ?_
              show own_GW _ _ _ (T76.setTop (mkF m 101 #[.val (.int p0), .val (.int p1), .val (.int p2), .val (.int (2 : Int32)), .val (.int (Int32.ofNat i0)), .val (.ref b53), .val (.ref a72), .val (.int (own_qse ([x0, x1] : List Int32) i0))] [(.int (own_expd (2 : Int32) (Int32.ofNat i0) x0 x1 x2 x3)), (.int (own_qse ([x0, x1] : List Int32) i0))])) _ _ _ _ _ _
              have hc77 : (own_qse ([x0, x1] : List Int32) i0) = (own_expd (2 : Int32) (Int32.ofNat i0) x0 x1 x2 x3) := own_same2 x0 x1 x2 x3 i0 hi5
              refine own_goW (fun _ k => XS.icmpNo X76.here hx rfl (hb hby at_101) rfl (teq hc77).2 k) ?_
              show own_GW _ _ _ (T76.setTop (mkF m 104 #[.val (.int p0), .val (.int p1), .val (.int p2), .val (.int (2 : Int32)), .val (.int (Int32.ofNat i0)), .val (.ref b53), .val (.ref a72), .val (.int (own_qse ([x0, x1] : List Int32) i0))] [])) _ _ _ _ _ _
              refine own_goW (fun _ k => XS.iconst X76.here hx rfl (hb hby at_104) k) ?_
              show own_GW _ _ _ (T76.setTop (mkF m 105 #[.val (.int p0), .val (.int p1), .val (.int p2), .val (.int (2 : Int32)), .val (.int (Int32.ofNat i0)), .val (.ref b53), .val (.ref a72), .val (.int (own_qse ([x0, x1] : List Int32) i0))] [(.int (1 : Int32))])) _ _ _ _ _ _
              refine own_goW (fun _ k => XS.goto X76.here hx rfl (pc0 := 105) (pc' := 109) rfl (hb hby at_105) (by decide) (by decide) k) ?_
              show own_GW _ _ _ (T76.setTop (mkF m 109 #[.val (.int p0), .val (.int p1), .val (.int p2), .val (.int (2 : Int32)), .val (.int (Int32.ofNat i0)), .val (.ref b53), .val (.ref a72), .val (.int (own_qse ([x0, x1] : List Int32) i0))] [(.int (1 : Int32))])) _ _ _ _ _ _
              have CQ78 := CR0.trans (CHr.keep K72_1 all0 CR0.1)
              have CE78 : CHr Z own_EL s.vm s.heap T76.vm T76.heap := by rw [hh, show T76.heap = T72.heap from eh76]; exact CQ78.trans (CHv.at X76 hZ (own_EW hw) CQ78.1)
              exact own_endWN X76 hx hlk (t := .boolean) Bd.returns (by simp) (hb hby at_109) hS0 (show _ ≤ T76.heap.size by rw [show T76.heap = T72.heap from eh76]; exact (Nat.le_trans hk0 K72_1.1)) (by decide) (by decide) CE78 (Q := (Q0 Z p0 p1 p2 zc fm h0 n0)) (by rw [eh76]; exact ⟨rfl, N76, K72_0⟩)
  · rw [hn]
    show own_GW _ _ _ (s₁.setTop (mkF m 6 #[.val (.int p0), .val (.int p1), .val (.int p2), .unset, .unset, .unset, .unset, .unset] [(.int (3 : Int32))])) _ _ _ _ _ _
    refine own_goW (fun _ k => XS.istoreN X0.here hx rfl (hb hby at_6) rfl (l' := #[.val (.int p0), .val (.int p1), .val (.int p2), .val (.int (3 : Int32)), .unset, .unset, .unset, .unset]) rfl k) ?_
    show own_GW _ _ _ (s₁.setTop (mkF m 7 #[.val (.int p0), .val (.int p1), .val (.int p2), .val (.int (3 : Int32)), .unset, .unset, .unset, .unset] [])) _ _ _ _ _ _
    refine own_goW (fun _ k => XS.iloadN X0.here hx rfl (hb hby at_7) rfl k) ?_
    show own_GW _ _ _ (s₁.setTop (mkF m 8 #[.val (.int p0), .val (.int p1), .val (.int p2), .val (.int (3 : Int32)), .unset, .unset, .unset, .unset] [(.int p1)])) _ _ _ _ _ _
    refine own_goW (fun _ k => XS.iconst X0.here hx rfl (hb hby at_8) k) ?_
    show own_GW _ _ _ (s₁.setTop (mkF m 9 #[.val (.int p0), .val (.int p1), .val (.int p2), .val (.int (3 : Int32)), .unset, .unset, .unset, .unset] [(.int (3 : Int32)), (.int p1)])) _ _ _ _ _ _
    refine own_goW (fun _ k => XS.iushr X0.here hx rfl (hb hby at_9) rfl k) ?_
    show own_GW _ _ _ (s₁.setTop (mkF m 10 #[.val (.int p0), .val (.int p1), .val (.int p2), .val (.int (3 : Int32)), .unset, .unset, .unset, .unset] [(.int ((p1.toUInt32 >>> ((3 : Int32) &&& 31).toUInt32).toInt32))])) _ _ _ _ _ _
    refine own_goW (fun _ k => XS.bipush X0.here hx rfl (hb hby at_10) k) ?_
    show own_GW _ _ _ (s₁.setTop (mkF m 12 #[.val (.int p0), .val (.int p1), .val (.int p2), .val (.int (3 : Int32)), .unset, .unset, .unset, .unset] [(.int (7 : Int32)), (.int ((p1.toUInt32 >>> ((3 : Int32) &&& 31).toUInt32).toInt32))])) _ _ _ _ _ _
    refine own_goW (fun _ k => XS.iand X0.here hx rfl (hb hby at_12) rfl k) ?_
    show own_GW _ _ _ (s₁.setTop (mkF m 13 #[.val (.int p0), .val (.int p1), .val (.int p2), .val (.int (3 : Int32)), .unset, .unset, .unset, .unset] [(.int (((p1.toUInt32 >>> ((3 : Int32) &&& 31).toUInt32).toInt32) &&& (7 : Int32)))])) _ _ _ _ _ _
    refine own_goW (fun _ k => XS.bipush X0.here hx rfl (hb hby at_13) k) ?_
    show own_GW _ _ _ (s₁.setTop (mkF m 15 #[.val (.int p0), .val (.int p1), .val (.int p2), .val (.int (3 : Int32)), .unset, .unset, .unset, .unset] [(.int (6 : Int32)), (.int (((p1.toUInt32 >>> ((3 : Int32) &&& 31).toUInt32).toInt32) &&& (7 : Int32)))])) _ _ _ _ _ _
    refine own_goW (fun _ k => iremM X0 hx rfl (hb hby at_15) rfl (by decide) k) ?_
    show own_GW _ _ _ (s₁.setTop (mkF m 16 #[.val (.int p0), .val (.int p1), .val (.int p2), .val (.int (3 : Int32)), .unset, .unset, .unset, .unset] [(.int ((((p1.toUInt32 >>> ((3 : Int32) &&& 31).toUInt32).toInt32) &&& (7 : Int32)) % (6 : Int32)))])) _ _ _ _ _ _
    obtain ⟨i0, hi5, hs⟩ := own_s6 p1
    · rw [hs]
      show own_GW _ _ _ (s₁.setTop (mkF m 16 #[.val (.int p0), .val (.int p1), .val (.int p2), .val (.int (3 : Int32)), .unset, .unset, .unset, .unset] [(.int (Int32.ofNat i0))])) _ _ _ _ _ _
      refine own_goW (fun _ k => XS.istore X0.here hx rfl (hb hby at_16) rfl (l' := #[.val (.int p0), .val (.int p1), .val (.int p2), .val (.int (3 : Int32)), .val (.int (Int32.ofNat i0)), .unset, .unset, .unset]) rfl k) ?_
      show own_GW _ _ _ (s₁.setTop (mkF m 18 #[.val (.int p0), .val (.int p1), .val (.int p2), .val (.int (3 : Int32)), .val (.int (Int32.ofNat i0)), .unset, .unset, .unset] [])) _ _ _ _ _ _
      refine own_goW (fun _ k => XS.iconst X0.here hx rfl (hb hby at_18) k) ?_
      show own_GW _ _ _ (s₁.setTop (mkF m 19 #[.val (.int p0), .val (.int p1), .val (.int p2), .val (.int (3 : Int32)), .val (.int (Int32.ofNat i0)), .unset, .unset, .unset] [(.int (4 : Int32))])) _ _ _ _ _ _
      obtain ⟨T79, h79, k79, X79, e79, E79, A79, st79⟩ := newP X0 hx hZ (hw _ (List.mem_of_getElem? (i := 0) rfl)) e0 (g := (mkF m 19 #[.val (.int p0), .val (.int p1), .val (.int p2), .val (.int (3 : Int32)), .val (.int (Int32.ofNat i0)), .unset, .unset, .unset] [(.int (4 : Int32))])) rfl (hb hby at_19) rfl (by decide) (cap := 4) (by decide) (by decide) (by decide) (by decide)
      obtain ⟨b79, g79⟩ : ∃ z, z = h0.size := ⟨_, rfl⟩
      rw [← g79] at A79 st79
      have gg79 : n0 ≤ b79 := Nat.le_trans Z0 (Nat.le_of_eq g79.symm)
      have sz79_0 : h0.size ≤ b79 := Nat.le_trans K0.1 (Nat.le_of_eq g79.symm)
      have sz79_1 : h0.size ≤ b79 := Nat.le_trans KS0.1 (Nat.le_of_eq g79.symm)
      have Zs79 : n0 ≤ h79.size := Nat.le_trans Z0 E79.1
      have K79_0 : Keep h0 h79 [] := K0.ext E79
      have K79_1 : Keep h0 h79 [] := KS0.ext E79
      have f80 : Old Z n0 h79 := P_Old.ext E79
      have f81 : Arv Z h79 b79 k79 .char (4 : Int32) [(.int (0 : Int32)), (.int (0 : Int32)), (.int (0 : Int32)), (.int (0 : Int32))] (.int (0 : Int32)) := (Arv.new A79 (by decide)).pad (pad_rep [] (.int (0 : Int32)) 4)
      refine own_goW (fun _ k => st79 _ k) ?_
      show own_GW _ _ _ (T79.setTop (mkF m 21 #[.val (.int p0), .val (.int p1), .val (.int p2), .val (.int (3 : Int32)), .val (.int (Int32.ofNat i0)), .unset, .unset, .unset] [(.ref b79)])) _ _ _ _ _ _
      refine own_goW (fun _ k => XS.astore X79.here hx rfl (hb hby at_21) rfl rfl (l' := #[.val (.int p0), .val (.int p1), .val (.int p2), .val (.int (3 : Int32)), .val (.int (Int32.ofNat i0)), .val (.ref b79), .unset, .unset]) rfl k) ?_
      show own_GW _ _ _ (T79.setTop (mkF m 23 #[.val (.int p0), .val (.int p1), .val (.int p2), .val (.int (3 : Int32)), .val (.int (Int32.ofNat i0)), .val (.ref b79), .unset, .unset] [])) _ _ _ _ _ _
      refine own_goW (fun _ k => XS.aload X79.here hx rfl (hb hby at_23) rfl rfl k) ?_
      show own_GW _ _ _ (T79.setTop (mkF m 25 #[.val (.int p0), .val (.int p1), .val (.int p2), .val (.int (3 : Int32)), .val (.int (Int32.ofNat i0)), .val (.ref b79), .unset, .unset] [(.ref b79)])) _ _ _ _ _ _
      refine own_goW (fun _ k => XS.iconst X79.here hx rfl (hb hby at_25) k) ?_
      show own_GW _ _ _ (T79.setTop (mkF m 26 #[.val (.int p0), .val (.int p1), .val (.int p2), .val (.int (3 : Int32)), .val (.int (Int32.ofNat i0)), .val (.ref b79), .unset, .unset] [(.int (0 : Int32)), (.ref b79)])) _ _ _ _ _ _
      refine own_goW (fun _ k => XS.iloadN X79.here hx rfl (hb hby at_26) rfl k) ?_
      show own_GW _ _ _ (T79.setTop (mkF m 27 #[.val (.int p0), .val (.int p1), .val (.int p2), .val (.int (3 : Int32)), .val (.int (Int32.ofNat i0)), .val (.ref b79), .unset, .unset] [(.int p0), (.int (0 : Int32)), (.ref b79)])) _ _ _ _ _ _
      refine own_goW (fun _ k => XS.iloadN X79.here hx rfl (hb hby at_27) rfl k) ?_
      show own_GW _ _ _ (T79.setTop (mkF m 28 #[.val (.int p0), .val (.int p1), .val (.int p2), .val (.int (3 : Int32)), .val (.int (Int32.ofNat i0)), .val (.ref b79), .unset, .unset] [(.int p2), (.int p0), (.int (0 : Int32)), (.ref b79)])) _ _ _ _ _ _
      obtain ⟨_, _, ⟨T82, L82, k82, n82⟩, -, X82, ⟨Lc82, hQ82, l82, y82, z82⟩, st82⟩ := Jvm.LawKit.callS X79 hx (y := (⟨"com/example/floe/floe/rest/FramingLinesQuotedStringEndPinLaw", "draw", "(II)C"⟩ : MethodName)) hown (mvT hZ (hw _ (List.mem_of_getElem? (i := 1) rfl))) (mvT hZ (hw _ (List.mem_of_getElem? (i := 2) rfl))) (mvT hZ (hw _ (List.mem_of_getElem? (i := 3) rfl))) (mvT hZ (hw _ (List.mem_of_getElem? (i := 4) rfl))) (by decide) (backOf (W := 2) (rm1 l Z a0 hw [] p0 p2 h79 n0) hZ (hw _ (List.mem_of_getElem? (i := 4) rfl)) (hw _ (List.mem_of_getElem? (i := 3) rfl)) (by decide) (by decide)) (g := (mkF m 28 #[.val (.int p0), .val (.int p1), .val (.int p2), .val (.int (3 : Int32)), .val (.int (Int32.ofNat i0)), .val (.ref b79), .unset, .unset] [(.int p2), (.int p0), (.int (0 : Int32)), (.ref b79)])) rfl (by rw [hml]; rfl) (argsL := [(.int p0), (.int p2)]) (rest := [(.int (0 : Int32)), (.ref b79)]) (lenOf pd_6 rfl) rfl (by show 2 * 0 + _ ≤ _; exact Nat.le_of_eq rfl) (hb hby at_28) (fun _ _ => ⟨rfl, e79, (by decide : 1 + 0 ≤ _), (by decide : 4 + 0 ≤ _)⟩)
      dsimp only [Pt.U, Pt.locs, Pt.cells, Pt.slots] at X82 l82 y82 z82 st82 hQ82
      subst l82 y82 z82
      obtain ⟨rfl, Nq82, eh82⟩ := hQ82
      have N82 := Fr.app N0 Nq82
      refine own_goW (fun _ k => st82 _ k) ?_
      show own_GW _ _ _ (T82.setTop (mkF m 31 #[.val (.int p0), .val (.int p1), .val (.int p2), .val (.int (3 : Int32)), .val (.int (Int32.ofNat i0)), .val (.ref b79), .unset, .unset] [(.int (own_draw p0 p2)), (.int (0 : Int32)), (.ref b79)])) _ _ _ _ _ _
      obtain ⟨x0, h_x0⟩ : ∃ z : Int32, z = (own_draw p0 p2) := ⟨_, rfl⟩
      · rw [← h_x0]
        have r_x0 : ¬ x0 < 0 ∧ ¬ (255 : Int32) < x0 := by rw [h_x0]; exact own_drw _ _
        have e_x0 : nar .char x0 = x0 := own_nar8 r_x0
        show own_GW _ _ _ (T82.setTop (mkF m 31 #[.val (.int p0), .val (.int p1), .val (.int p2), .val (.int (3 : Int32)), .val (.int (Int32.ofNat i0)), .val (.ref b79), .unset, .unset] [(.int x0), (.int (0 : Int32)), (.ref b79)])) _ _ _ _ _ _
        obtain ⟨cl83, Ar83, q83, S83, Ng83, H83, G83⟩ := id f81
        have in83 : ¬ ((0 : Int32) < 0 ∨ cl83.slots.size ≤ ((0 : Int32)).toNatClampNeg) := inb_of S83 ⟨by decide, by decide⟩
        obtain ⟨T83, h83, X83, e83, W83, st83⟩ := stC X82 hx hZ eh82 Ar83 (j := (0 : Int32)) in83 (g := (mkF m 31 #[.val (.int p0), .val (.int p1), .val (.int p2), .val (.int (3 : Int32)), .val (.int (Int32.ofNat i0)), .val (.ref b79), .unset, .unset] [(.int x0), (.int (0 : Int32)), (.ref b79)])) rfl rfl (hb hby at_31)
        have N83 := Fr.snoc X83 N82 gg79
        have Zs83 : n0 ≤ h83.size := Nat.le_trans Zs79 (Keep.of_wr W83).1
        have K83_0 : Keep h0 h83 [] := K79_0.wr W83 (Or.inr sz79_0)
        have K83_1 : Keep h0 h83 [] := K79_1.wr W83 (Or.inr sz79_1)
        have f84 : Old Z n0 h83 := f80.wr W83 gg79
        have f85 : Arv Z h83 b79 k79 .char (4 : Int32) [(.int x0), (.int (0 : Int32)), (.int (0 : Int32)), (.int (0 : Int32))] (.int (0 : Int32)) := (by have q := Arv.set Ar83 q83 S83 Ng83 H83 G83 (fits_nar_char _) W83 0 rfl (Nat.le_of_ble_eq_true rfl); rw [e_x0] at q; exact q)
        refine own_goW (fun _ k => st83 _ k) ?_
        show own_GW _ _ _ (T83.setTop (mkF m 32 #[.val (.int p0), .val (.int p1), .val (.int p2), .val (.int (3 : Int32)), .val (.int (Int32.ofNat i0)), .val (.ref b79), .unset, .unset] [])) _ _ _ _ _ _
        refine own_goW (fun _ k => XS.aload X83.here hx rfl (hb hby at_32) rfl rfl k) ?_
        show own_GW _ _ _ (T83.setTop (mkF m 34 #[.val (.int p0), .val (.int p1), .val (.int p2), .val (.int (3 : Int32)), .val (.int (Int32.ofNat i0)), .val (.ref b79), .unset, .unset] [(.ref b79)])) _ _ _ _ _ _
        refine own_goW (fun _ k => XS.iconst X83.here hx rfl (hb hby at_34) k) ?_
        show own_GW _ _ _ (T83.setTop (mkF m 35 #[.val (.int p0), .val (.int p1), .val (.int p2), .val (.int (3 : Int32)), .val (.int (Int32.ofNat i0)), .val (.ref b79), .unset, .unset] [(.int (1 : Int32)), (.ref b79)])) _ _ _ _ _ _
        refine own_goW (fun _ k => XS.iloadN X83.here hx rfl (hb hby at_35) rfl k) ?_
        show own_GW _ _ _ (T83.setTop (mkF m 36 #[.val (.int p0), .val (.int p1), .val (.int p2), .val (.int (3 : Int32)), .val (.int (Int32.ofNat i0)), .val (.ref b79), .unset, .unset] [(.int p0), (.int (1 : Int32)), (.ref b79)])) _ _ _ _ _ _
        refine own_goW (fun _ k => XS.bipush X83.here hx rfl (hb hby at_36) k) ?_
        show own_GW _ _ _ (T83.setTop (mkF m 38 #[.val (.int p0), .val (.int p1), .val (.int p2), .val (.int (3 : Int32)), .val (.int (Int32.ofNat i0)), .val (.ref b79), .unset, .unset] [(.int (8 : Int32)), (.int p0), (.int (1 : Int32)), (.ref b79)])) _ _ _ _ _ _
        refine own_goW (fun _ k => XS.iushr X83.here hx rfl (hb hby at_38) rfl k) ?_
        show own_GW _ _ _ (T83.setTop (mkF m 39 #[.val (.int p0), .val (.int p1), .val (.int p2), .val (.int (3 : Int32)), .val (.int (Int32.ofNat i0)), .val (.ref b79), .unset, .unset] [(.int ((p0.toUInt32 >>> ((8 : Int32) &&& 31).toUInt32).toInt32)), (.int (1 : Int32)), (.ref b79)])) _ _ _ _ _ _
        refine own_goW (fun _ k => XS.iloadN X83.here hx rfl (hb hby at_39) rfl k) ?_
        show own_GW _ _ _ (T83.setTop (mkF m 40 #[.val (.int p0), .val (.int p1), .val (.int p2), .val (.int (3 : Int32)), .val (.int (Int32.ofNat i0)), .val (.ref b79), .unset, .unset] [(.int p2), (.int ((p0.toUInt32 >>> ((8 : Int32) &&& 31).toUInt32).toInt32)), (.int (1 : Int32)), (.ref b79)])) _ _ _ _ _ _
        refine own_goW (fun _ k => XS.iconst X83.here hx rfl (hb hby at_40) k) ?_
        show own_GW _ _ _ (T83.setTop (mkF m 41 #[.val (.int p0), .val (.int p1), .val (.int p2), .val (.int (3 : Int32)), .val (.int (Int32.ofNat i0)), .val (.ref b79), .unset, .unset] [(.int (1 : Int32)), (.int p2), (.int ((p0.toUInt32 >>> ((8 : Int32) &&& 31).toUInt32).toInt32)), (.int (1 : Int32)), (.ref b79)])) _ _ _ _ _ _
        refine own_goW (fun _ k => XS.iushr X83.here hx rfl (hb hby at_41) rfl k) ?_
        show own_GW _ _ _ (T83.setTop (mkF m 42 #[.val (.int p0), .val (.int p1), .val (.int p2), .val (.int (3 : Int32)), .val (.int (Int32.ofNat i0)), .val (.ref b79), .unset, .unset] [(.int ((p2.toUInt32 >>> ((1 : Int32) &&& 31).toUInt32).toInt32)), (.int ((p0.toUInt32 >>> ((8 : Int32) &&& 31).toUInt32).toInt32)), (.int (1 : Int32)), (.ref b79)])) _ _ _ _ _ _
        obtain ⟨_, _, ⟨T86, L86, k86, n86⟩, -, X86, ⟨Lc86, hQ86, l86, y86, z86⟩, st86⟩ := Jvm.LawKit.callS X83 hx (y := (⟨"com/example/floe/floe/rest/FramingLinesQuotedStringEndPinLaw", "draw", "(II)C"⟩ : MethodName)) hown (mvT hZ (hw _ (List.mem_of_getElem? (i := 1) rfl))) (mvT hZ (hw _ (List.mem_of_getElem? (i := 2) rfl))) (mvT hZ (hw _ (List.mem_of_getElem? (i := 3) rfl))) (mvT hZ (hw _ (List.mem_of_getElem? (i := 4) rfl))) (by decide) (backOf (W := 2) (rm1 l Z a0 hw [] ((p0.toUInt32 >>> ((8 : Int32) &&& 31).toUInt32).toInt32) ((p2.toUInt32 >>> ((1 : Int32) &&& 31).toUInt32).toInt32) h83 n0) hZ (hw _ (List.mem_of_getElem? (i := 4) rfl)) (hw _ (List.mem_of_getElem? (i := 3) rfl)) (by decide) (by decide)) (g := (mkF m 42 #[.val (.int p0), .val (.int p1), .val (.int p2), .val (.int (3 : Int32)), .val (.int (Int32.ofNat i0)), .val (.ref b79), .unset, .unset] [(.int ((p2.toUInt32 >>> ((1 : Int32) &&& 31).toUInt32).toInt32)), (.int ((p0.toUInt32 >>> ((8 : Int32) &&& 31).toUInt32).toInt32)), (.int (1 : Int32)), (.ref b79)])) rfl (by rw [hml]; rfl) (argsL := [(.int ((p0.toUInt32 >>> ((8 : Int32) &&& 31).toUInt32).toInt32)), (.int ((p2.toUInt32 >>> ((1 : Int32) &&& 31).toUInt32).toInt32))]) (rest := [(.int (1 : Int32)), (.ref b79)]) (lenOf pd_6 rfl) rfl (by show 2 * 0 + _ ≤ _; exact Nat.le_of_eq rfl) (hb hby at_42) (fun _ _ => ⟨rfl, e83, (by decide : 1 + 0 ≤ _), (by decide : 4 + 0 ≤ _)⟩)
        dsimp only [Pt.U, Pt.locs, Pt.cells, Pt.slots] at X86 l86 y86 z86 st86 hQ86
        subst l86 y86 z86
        obtain ⟨rfl, Nq86, eh86⟩ := hQ86
        have N86 := Fr.app N83 Nq86
        refine own_goW (fun _ k => st86 _ k) ?_
        show own_GW _ _ _ (T86.setTop (mkF m 45 #[.val (.int p0), .val (.int p1), .val (.int p2), .val (.int (3 : Int32)), .val (.int (Int32.ofNat i0)), .val (.ref b79), .unset, .unset] [(.int (own_draw ((p0.toUInt32 >>> ((8 : Int32) &&& 31).toUInt32).toInt32) ((p2.toUInt32 >>> ((1 : Int32) &&& 31).toUInt32).toInt32))), (.int (1 : Int32)), (.ref b79)])) _ _ _ _ _ _
        obtain ⟨x1, h_x1⟩ : ∃ z : Int32, z = (own_draw ((p0.toUInt32 >>> ((8 : Int32) &&& 31).toUInt32).toInt32) ((p2.toUInt32 >>> ((1 : Int32) &&& 31).toUInt32).toInt32)) := ⟨_, rfl⟩
        · rw [← h_x1]
          have r_x1 : ¬ x1 < 0 ∧ ¬ (255 : Int32) < x1 := by rw [h_x1]; exact own_drw _ _
          have e_x1 : nar .char x1 = x1 := own_nar8 r_x1
          show own_GW _ _ _ (T86.setTop (mkF m 45 #[.val (.int p0), .val (.int p1), .val (.int p2), .val (.int (3 : Int32)), .val (.int (Int32.ofNat i0)), .val (.ref b79), .unset, .unset] [(.int x1), (.int (1 : Int32)), (.ref b79)])) _ _ _ _ _ _
          obtain ⟨cl87, Ar87, q87, S87, Ng87, H87, G87⟩ := id f85
          have in87 : ¬ ((1 : Int32) < 0 ∨ cl87.slots.size ≤ ((1 : Int32)).toNatClampNeg) := inb_of S87 ⟨by decide, by decide⟩
          obtain ⟨T87, h87, X87, e87, W87, st87⟩ := stC X86 hx hZ eh86 Ar87 (j := (1 : Int32)) in87 (g := (mkF m 45 #[.val (.int p0), .val (.int p1), .val (.int p2), .val (.int (3 : Int32)), .val (.int (Int32.ofNat i0)), .val (.ref b79), .unset, .unset] [(.int x1), (.int (1 : Int32)), (.ref b79)])) rfl rfl (hb hby at_45)
          have N87 := Fr.snoc X87 N86 gg79
          have Zs87 : n0 ≤ h87.size := Nat.le_trans Zs83 (Keep.of_wr W87).1
          have K87_0 : Keep h0 h87 [] := K83_0.wr W87 (Or.inr sz79_0)
          have K87_1 : Keep h0 h87 [] := K83_1.wr W87 (Or.inr sz79_1)
          have f88 : Old Z n0 h87 := f84.wr W87 gg79
          have f89 : Arv Z h87 b79 k79 .char (4 : Int32) [(.int x0), (.int x1), (.int (0 : Int32)), (.int (0 : Int32))] (.int (0 : Int32)) := (by have q := Arv.set Ar87 q87 S87 Ng87 H87 G87 (fits_nar_char _) W87 1 rfl (Nat.le_of_ble_eq_true rfl); rw [e_x1] at q; exact q)
          refine own_goW (fun _ k => st87 _ k) ?_
          show own_GW _ _ _ (T87.setTop (mkF m 46 #[.val (.int p0), .val (.int p1), .val (.int p2), .val (.int (3 : Int32)), .val (.int (Int32.ofNat i0)), .val (.ref b79), .unset, .unset] [])) _ _ _ _ _ _
          refine own_goW (fun _ k => XS.aload X87.here hx rfl (hb hby at_46) rfl rfl k) ?_
          show own_GW _ _ _ (T87.setTop (mkF m 48 #[.val (.int p0), .val (.int p1), .val (.int p2), .val (.int (3 : Int32)), .val (.int (Int32.ofNat i0)), .val (.ref b79), .unset, .unset] [(.ref b79)])) _ _ _ _ _ _
          refine own_goW (fun _ k => XS.iconst X87.here hx rfl (hb hby at_48) k) ?_
          show own_GW _ _ _ (T87.setTop (mkF m 49 #[.val (.int p0), .val (.int p1), .val (.int p2), .val (.int (3 : Int32)), .val (.int (Int32.ofNat i0)), .val (.ref b79), .unset, .unset] [(.int (2 : Int32)), (.ref b79)])) _ _ _ _ _ _
          refine own_goW (fun _ k => XS.iloadN X87.here hx rfl (hb hby at_49) rfl k) ?_
          show own_GW _ _ _ (T87.setTop (mkF m 50 #[.val (.int p0), .val (.int p1), .val (.int p2), .val (.int (3 : Int32)), .val (.int (Int32.ofNat i0)), .val (.ref b79), .unset, .unset] [(.int p0), (.int (2 : Int32)), (.ref b79)])) _ _ _ _ _ _
          refine own_goW (fun _ k => XS.bipush X87.here hx rfl (hb hby at_50) k) ?_
          show own_GW _ _ _ (T87.setTop (mkF m 52 #[.val (.int p0), .val (.int p1), .val (.int p2), .val (.int (3 : Int32)), .val (.int (Int32.ofNat i0)), .val (.ref b79), .unset, .unset] [(.int (16 : Int32)), (.int p0), (.int (2 : Int32)), (.ref b79)])) _ _ _ _ _ _
          refine own_goW (fun _ k => XS.iushr X87.here hx rfl (hb hby at_52) rfl k) ?_
          show own_GW _ _ _ (T87.setTop (mkF m 53 #[.val (.int p0), .val (.int p1), .val (.int p2), .val (.int (3 : Int32)), .val (.int (Int32.ofNat i0)), .val (.ref b79), .unset, .unset] [(.int ((p0.toUInt32 >>> ((16 : Int32) &&& 31).toUInt32).toInt32)), (.int (2 : Int32)), (.ref b79)])) _ _ _ _ _ _
          refine own_goW (fun _ k => XS.iloadN X87.here hx rfl (hb hby at_53) rfl k) ?_
          show own_GW _ _ _ (T87.setTop (mkF m 54 #[.val (.int p0), .val (.int p1), .val (.int p2), .val (.int (3 : Int32)), .val (.int (Int32.ofNat i0)), .val (.ref b79), .unset, .unset] [(.int p2), (.int ((p0.toUInt32 >>> ((16 : Int32) &&& 31).toUInt32).toInt32)), (.int (2 : Int32)), (.ref b79)])) _ _ _ _ _ _
          refine own_goW (fun _ k => XS.iconst X87.here hx rfl (hb hby at_54) k) ?_
          show own_GW _ _ _ (T87.setTop (mkF m 55 #[.val (.int p0), .val (.int p1), .val (.int p2), .val (.int (3 : Int32)), .val (.int (Int32.ofNat i0)), .val (.ref b79), .unset, .unset] [(.int (2 : Int32)), (.int p2), (.int ((p0.toUInt32 >>> ((16 : Int32) &&& 31).toUInt32).toInt32)), (.int (2 : Int32)), (.ref b79)])) _ _ _ _ _ _
          refine own_goW (fun _ k => XS.iushr X87.here hx rfl (hb hby at_55) rfl k) ?_
          show own_GW _ _ _ (T87.setTop (mkF m 56 #[.val (.int p0), .val (.int p1), .val (.int p2), .val (.int (3 : Int32)), .val (.int (Int32.ofNat i0)), .val (.ref b79), .unset, .unset] [(.int ((p2.toUInt32 >>> ((2 : Int32) &&& 31).toUInt32).toInt32)), (.int ((p0.toUInt32 >>> ((16 : Int32) &&& 31).toUInt32).toInt32)), (.int (2 : Int32)), (.ref b79)])) _ _ _ _ _ _
          obtain ⟨_, _, ⟨T90, L90, k90, n90⟩, -, X90, ⟨Lc90, hQ90, l90, y90, z90⟩, st90⟩ := Jvm.LawKit.callS X87 hx (y := (⟨"com/example/floe/floe/rest/FramingLinesQuotedStringEndPinLaw", "draw", "(II)C"⟩ : MethodName)) hown (mvT hZ (hw _ (List.mem_of_getElem? (i := 1) rfl))) (mvT hZ (hw _ (List.mem_of_getElem? (i := 2) rfl))) (mvT hZ (hw _ (List.mem_of_getElem? (i := 3) rfl))) (mvT hZ (hw _ (List.mem_of_getElem? (i := 4) rfl))) (by decide) (backOf (W := 2) (rm1 l Z a0 hw [] ((p0.toUInt32 >>> ((16 : Int32) &&& 31).toUInt32).toInt32) ((p2.toUInt32 >>> ((2 : Int32) &&& 31).toUInt32).toInt32) h87 n0) hZ (hw _ (List.mem_of_getElem? (i := 4) rfl)) (hw _ (List.mem_of_getElem? (i := 3) rfl)) (by decide) (by decide)) (g := (mkF m 56 #[.val (.int p0), .val (.int p1), .val (.int p2), .val (.int (3 : Int32)), .val (.int (Int32.ofNat i0)), .val (.ref b79), .unset, .unset] [(.int ((p2.toUInt32 >>> ((2 : Int32) &&& 31).toUInt32).toInt32)), (.int ((p0.toUInt32 >>> ((16 : Int32) &&& 31).toUInt32).toInt32)), (.int (2 : Int32)), (.ref b79)])) rfl (by rw [hml]; rfl) (argsL := [(.int ((p0.toUInt32 >>> ((16 : Int32) &&& 31).toUInt32).toInt32)), (.int ((p2.toUInt32 >>> ((2 : Int32) &&& 31).toUInt32).toInt32))]) (rest := [(.int (2 : Int32)), (.ref b79)]) (lenOf pd_6 rfl) rfl (by show 2 * 0 + _ ≤ _; exact Nat.le_of_eq rfl) (hb hby at_56) (fun _ _ => ⟨rfl, e87, (by decide : 1 + 0 ≤ _), (by decide : 4 + 0 ≤ _)⟩)
          dsimp only [Pt.U, Pt.locs, Pt.cells, Pt.slots] at X90 l90 y90 z90 st90 hQ90
          subst l90 y90 z90
          obtain ⟨rfl, Nq90, eh90⟩ := hQ90
          have N90 := Fr.app N87 Nq90
          refine own_goW (fun _ k => st90 _ k) ?_
          show own_GW _ _ _ (T90.setTop (mkF m 59 #[.val (.int p0), .val (.int p1), .val (.int p2), .val (.int (3 : Int32)), .val (.int (Int32.ofNat i0)), .val (.ref b79), .unset, .unset] [(.int (own_draw ((p0.toUInt32 >>> ((16 : Int32) &&& 31).toUInt32).toInt32) ((p2.toUInt32 >>> ((2 : Int32) &&& 31).toUInt32).toInt32))), (.int (2 : Int32)), (.ref b79)])) _ _ _ _ _ _
          obtain ⟨x2, h_x2⟩ : ∃ z : Int32, z = (own_draw ((p0.toUInt32 >>> ((16 : Int32) &&& 31).toUInt32).toInt32) ((p2.toUInt32 >>> ((2 : Int32) &&& 31).toUInt32).toInt32)) := ⟨_, rfl⟩
          · rw [← h_x2]
            have r_x2 : ¬ x2 < 0 ∧ ¬ (255 : Int32) < x2 := by rw [h_x2]; exact own_drw _ _
            have e_x2 : nar .char x2 = x2 := own_nar8 r_x2
            show own_GW _ _ _ (T90.setTop (mkF m 59 #[.val (.int p0), .val (.int p1), .val (.int p2), .val (.int (3 : Int32)), .val (.int (Int32.ofNat i0)), .val (.ref b79), .unset, .unset] [(.int x2), (.int (2 : Int32)), (.ref b79)])) _ _ _ _ _ _
            obtain ⟨cl91, Ar91, q91, S91, Ng91, H91, G91⟩ := id f89
            have in91 : ¬ ((2 : Int32) < 0 ∨ cl91.slots.size ≤ ((2 : Int32)).toNatClampNeg) := inb_of S91 ⟨by decide, by decide⟩
            obtain ⟨T91, h91, X91, e91, W91, st91⟩ := stC X90 hx hZ eh90 Ar91 (j := (2 : Int32)) in91 (g := (mkF m 59 #[.val (.int p0), .val (.int p1), .val (.int p2), .val (.int (3 : Int32)), .val (.int (Int32.ofNat i0)), .val (.ref b79), .unset, .unset] [(.int x2), (.int (2 : Int32)), (.ref b79)])) rfl rfl (hb hby at_59)
            have N91 := Fr.snoc X91 N90 gg79
            have Zs91 : n0 ≤ h91.size := Nat.le_trans Zs87 (Keep.of_wr W91).1
            have K91_0 : Keep h0 h91 [] := K87_0.wr W91 (Or.inr sz79_0)
            have K91_1 : Keep h0 h91 [] := K87_1.wr W91 (Or.inr sz79_1)
            have f92 : Old Z n0 h91 := f88.wr W91 gg79
            have f93 : Arv Z h91 b79 k79 .char (4 : Int32) [(.int x0), (.int x1), (.int x2), (.int (0 : Int32))] (.int (0 : Int32)) := (by have q := Arv.set Ar91 q91 S91 Ng91 H91 G91 (fits_nar_char _) W91 2 rfl (Nat.le_of_ble_eq_true rfl); rw [e_x2] at q; exact q)
            refine own_goW (fun _ k => st91 _ k) ?_
            show own_GW _ _ _ (T91.setTop (mkF m 60 #[.val (.int p0), .val (.int p1), .val (.int p2), .val (.int (3 : Int32)), .val (.int (Int32.ofNat i0)), .val (.ref b79), .unset, .unset] [])) _ _ _ _ _ _
            refine own_goW (fun _ k => XS.aload X91.here hx rfl (hb hby at_60) rfl rfl k) ?_
            show own_GW _ _ _ (T91.setTop (mkF m 62 #[.val (.int p0), .val (.int p1), .val (.int p2), .val (.int (3 : Int32)), .val (.int (Int32.ofNat i0)), .val (.ref b79), .unset, .unset] [(.ref b79)])) _ _ _ _ _ _
            refine own_goW (fun _ k => XS.iconst X91.here hx rfl (hb hby at_62) k) ?_
            show own_GW _ _ _ (T91.setTop (mkF m 63 #[.val (.int p0), .val (.int p1), .val (.int p2), .val (.int (3 : Int32)), .val (.int (Int32.ofNat i0)), .val (.ref b79), .unset, .unset] [(.int (3 : Int32)), (.ref b79)])) _ _ _ _ _ _
            refine own_goW (fun _ k => XS.iloadN X91.here hx rfl (hb hby at_63) rfl k) ?_
            show own_GW _ _ _ (T91.setTop (mkF m 64 #[.val (.int p0), .val (.int p1), .val (.int p2), .val (.int (3 : Int32)), .val (.int (Int32.ofNat i0)), .val (.ref b79), .unset, .unset] [(.int p0), (.int (3 : Int32)), (.ref b79)])) _ _ _ _ _ _
            refine own_goW (fun _ k => XS.bipush X91.here hx rfl (hb hby at_64) k) ?_
            show own_GW _ _ _ (T91.setTop (mkF m 66 #[.val (.int p0), .val (.int p1), .val (.int p2), .val (.int (3 : Int32)), .val (.int (Int32.ofNat i0)), .val (.ref b79), .unset, .unset] [(.int (24 : Int32)), (.int p0), (.int (3 : Int32)), (.ref b79)])) _ _ _ _ _ _
            refine own_goW (fun _ k => XS.iushr X91.here hx rfl (hb hby at_66) rfl k) ?_
            show own_GW _ _ _ (T91.setTop (mkF m 67 #[.val (.int p0), .val (.int p1), .val (.int p2), .val (.int (3 : Int32)), .val (.int (Int32.ofNat i0)), .val (.ref b79), .unset, .unset] [(.int ((p0.toUInt32 >>> ((24 : Int32) &&& 31).toUInt32).toInt32)), (.int (3 : Int32)), (.ref b79)])) _ _ _ _ _ _
            refine own_goW (fun _ k => XS.iloadN X91.here hx rfl (hb hby at_67) rfl k) ?_
            show own_GW _ _ _ (T91.setTop (mkF m 68 #[.val (.int p0), .val (.int p1), .val (.int p2), .val (.int (3 : Int32)), .val (.int (Int32.ofNat i0)), .val (.ref b79), .unset, .unset] [(.int p2), (.int ((p0.toUInt32 >>> ((24 : Int32) &&& 31).toUInt32).toInt32)), (.int (3 : Int32)), (.ref b79)])) _ _ _ _ _ _
            refine own_goW (fun _ k => XS.iconst X91.here hx rfl (hb hby at_68) k) ?_
            show own_GW _ _ _ (T91.setTop (mkF m 69 #[.val (.int p0), .val (.int p1), .val (.int p2), .val (.int (3 : Int32)), .val (.int (Int32.ofNat i0)), .val (.ref b79), .unset, .unset] [(.int (3 : Int32)), (.int p2), (.int ((p0.toUInt32 >>> ((24 : Int32) &&& 31).toUInt32).toInt32)), (.int (3 : Int32)), (.ref b79)])) _ _ _ _ _ _
            refine own_goW (fun _ k => XS.iushr X91.here hx rfl (hb hby at_69) rfl k) ?_
            show own_GW _ _ _ (T91.setTop (mkF m 70 #[.val (.int p0), .val (.int p1), .val (.int p2), .val (.int (3 : Int32)), .val (.int (Int32.ofNat i0)), .val (.ref b79), .unset, .unset] [(.int ((p2.toUInt32 >>> ((3 : Int32) &&& 31).toUInt32).toInt32)), (.int ((p0.toUInt32 >>> ((24 : Int32) &&& 31).toUInt32).toInt32)), (.int (3 : Int32)), (.ref b79)])) _ _ _ _ _ _
            obtain ⟨_, _, ⟨T94, L94, k94, n94⟩, -, X94, ⟨Lc94, hQ94, l94, y94, z94⟩, st94⟩ := Jvm.LawKit.callS X91 hx (y := (⟨"com/example/floe/floe/rest/FramingLinesQuotedStringEndPinLaw", "draw", "(II)C"⟩ : MethodName)) hown (mvT hZ (hw _ (List.mem_of_getElem? (i := 1) rfl))) (mvT hZ (hw _ (List.mem_of_getElem? (i := 2) rfl))) (mvT hZ (hw _ (List.mem_of_getElem? (i := 3) rfl))) (mvT hZ (hw _ (List.mem_of_getElem? (i := 4) rfl))) (by decide) (backOf (W := 2) (rm1 l Z a0 hw [] ((p0.toUInt32 >>> ((24 : Int32) &&& 31).toUInt32).toInt32) ((p2.toUInt32 >>> ((3 : Int32) &&& 31).toUInt32).toInt32) h91 n0) hZ (hw _ (List.mem_of_getElem? (i := 4) rfl)) (hw _ (List.mem_of_getElem? (i := 3) rfl)) (by decide) (by decide)) (g := (mkF m 70 #[.val (.int p0), .val (.int p1), .val (.int p2), .val (.int (3 : Int32)), .val (.int (Int32.ofNat i0)), .val (.ref b79), .unset, .unset] [(.int ((p2.toUInt32 >>> ((3 : Int32) &&& 31).toUInt32).toInt32)), (.int ((p0.toUInt32 >>> ((24 : Int32) &&& 31).toUInt32).toInt32)), (.int (3 : Int32)), (.ref b79)])) rfl (by rw [hml]; rfl) (argsL := [(.int ((p0.toUInt32 >>> ((24 : Int32) &&& 31).toUInt32).toInt32)), (.int ((p2.toUInt32 >>> ((3 : Int32) &&& 31).toUInt32).toInt32))]) (rest := [(.int (3 : Int32)), (.ref b79)]) (lenOf pd_6 rfl) rfl (by show 2 * 0 + _ ≤ _; exact Nat.le_of_eq rfl) (hb hby at_70) (fun _ _ => ⟨rfl, e91, (by decide : 1 + 0 ≤ _), (by decide : 4 + 0 ≤ _)⟩)
            dsimp only [Pt.U, Pt.locs, Pt.cells, Pt.slots] at X94 l94 y94 z94 st94 hQ94
            subst l94 y94 z94
            obtain ⟨rfl, Nq94, eh94⟩ := hQ94
            have N94 := Fr.app N91 Nq94
            refine own_goW (fun _ k => st94 _ k) ?_
            show own_GW _ _ _ (T94.setTop (mkF m 73 #[.val (.int p0), .val (.int p1), .val (.int p2), .val (.int (3 : Int32)), .val (.int (Int32.ofNat i0)), .val (.ref b79), .unset, .unset] [(.int (own_draw ((p0.toUInt32 >>> ((24 : Int32) &&& 31).toUInt32).toInt32) ((p2.toUInt32 >>> ((3 : Int32) &&& 31).toUInt32).toInt32))), (.int (3 : Int32)), (.ref b79)])) _ _ _ _ _ _
            obtain ⟨x3, h_x3⟩ : ∃ z : Int32, z = (own_draw ((p0.toUInt32 >>> ((24 : Int32) &&& 31).toUInt32).toInt32) ((p2.toUInt32 >>> ((3 : Int32) &&& 31).toUInt32).toInt32)) := ⟨_, rfl⟩
            · rw [← h_x3]
              have r_x3 : ¬ x3 < 0 ∧ ¬ (255 : Int32) < x3 := by rw [h_x3]; exact own_drw _ _
              have e_x3 : nar .char x3 = x3 := own_nar8 r_x3
              show own_GW _ _ _ (T94.setTop (mkF m 73 #[.val (.int p0), .val (.int p1), .val (.int p2), .val (.int (3 : Int32)), .val (.int (Int32.ofNat i0)), .val (.ref b79), .unset, .unset] [(.int x3), (.int (3 : Int32)), (.ref b79)])) _ _ _ _ _ _
              obtain ⟨cl95, Ar95, q95, S95, Ng95, H95, G95⟩ := id f93
              have in95 : ¬ ((3 : Int32) < 0 ∨ cl95.slots.size ≤ ((3 : Int32)).toNatClampNeg) := inb_of S95 ⟨by decide, by decide⟩
              obtain ⟨T95, h95, X95, e95, W95, st95⟩ := stC X94 hx hZ eh94 Ar95 (j := (3 : Int32)) in95 (g := (mkF m 73 #[.val (.int p0), .val (.int p1), .val (.int p2), .val (.int (3 : Int32)), .val (.int (Int32.ofNat i0)), .val (.ref b79), .unset, .unset] [(.int x3), (.int (3 : Int32)), (.ref b79)])) rfl rfl (hb hby at_73)
              have N95 := Fr.snoc X95 N94 gg79
              have Zs95 : n0 ≤ h95.size := Nat.le_trans Zs91 (Keep.of_wr W95).1
              have K95_0 : Keep h0 h95 [] := K91_0.wr W95 (Or.inr sz79_0)
              have K95_1 : Keep h0 h95 [] := K91_1.wr W95 (Or.inr sz79_1)
              have f96 : Old Z n0 h95 := f92.wr W95 gg79
              have f97 : Arv Z h95 b79 k79 .char (4 : Int32) [(.int x0), (.int x1), (.int x2), (.int x3)] (.int (0 : Int32)) := (by have q := Arv.set Ar95 q95 S95 Ng95 H95 G95 (fits_nar_char _) W95 3 rfl (Nat.le_of_ble_eq_true rfl); rw [e_x3] at q; exact q)
              refine own_goW (fun _ k => st95 _ k) ?_
              show own_GW _ _ _ (T95.setTop (mkF m 74 #[.val (.int p0), .val (.int p1), .val (.int p2), .val (.int (3 : Int32)), .val (.int (Int32.ofNat i0)), .val (.ref b79), .unset, .unset] [])) _ _ _ _ _ _
              refine own_goW (fun _ k => XS.aload X95.here hx rfl (hb hby at_74) rfl rfl k) ?_
              show own_GW _ _ _ (T95.setTop (mkF m 76 #[.val (.int p0), .val (.int p1), .val (.int p2), .val (.int (3 : Int32)), .val (.int (Int32.ofNat i0)), .val (.ref b79), .unset, .unset] [(.ref b79)])) _ _ _ _ _ _
              refine own_goW (fun _ k => XS.iloadN X95.here hx rfl (hb hby at_76) rfl k) ?_
              show own_GW _ _ _ (T95.setTop (mkF m 77 #[.val (.int p0), .val (.int p1), .val (.int p2), .val (.int (3 : Int32)), .val (.int (Int32.ofNat i0)), .val (.ref b79), .unset, .unset] [(.int (3 : Int32)), (.ref b79)])) _ _ _ _ _ _
              obtain ⟨_, _, ⟨T98, L98, k98, n98⟩, -, X98, ⟨Lc98, hQ98, l98, y98, z98⟩, st98⟩ := Jvm.LawKit.callS X95 hx (y := (⟨"com/example/floe/floe/rest/FramingLinesQuotedStringEndPinLaw", "make", "([CI)Ljava/lang/String;"⟩ : MethodName)) hown (mvT hZ (hw _ (List.mem_of_getElem? (i := 5) rfl))) (mvT hZ (hw _ (List.mem_of_getElem? (i := 6) rfl))) (mvT hZ (hw _ (List.mem_of_getElem? (i := 3) rfl))) (mvT hZ (hw _ (List.mem_of_getElem? (i := 7) rfl))) (by decide) (backOf (W := 0) (rm2d l Z a0 hw [] b79 zc k79 x0 x1 x2 x3 h95 n0 Zs95 f96 P_ZS_java_lang_String_COMPACT_STRINGS hcs f97 (own_all4 r_x0 r_x1 r_x2 r_x3)) hZ (hw _ (List.mem_of_getElem? (i := 7) rfl)) (hw _ (List.mem_of_getElem? (i := 3) rfl)) (by decide) (by decide)) (g := (mkF m 77 #[.val (.int p0), .val (.int p1), .val (.int p2), .val (.int (3 : Int32)), .val (.int (Int32.ofNat i0)), .val (.ref b79), .unset, .unset] [(.int (3 : Int32)), (.ref b79)])) rfl (by rw [hml]; rfl) (argsL := [(.ref b79), (.int (3 : Int32))]) (rest := []) (lenOf pd_7 rfl) rfl (by show 2 * 0 + _ ≤ _; exact Nat.le_of_eq rfl) (hb hby at_77) (fun _ _ => ⟨rfl, e95, (by decide : 1 + 3 ≤ _), (by decide : 4 + 10 ≤ _)⟩)
              dsimp only [Pt.U, Pt.locs, Pt.cells, Pt.slots] at X98 l98 y98 z98 st98 hQ98
              subst l98 y98 z98
              obtain ⟨a98, rfl, Nq98, Kq98, r98_0⟩ := hQ98
              have N98 := Fr.app N95 Nq98
              have f99 : Old Z n0 T98.heap := f96.keep Kq98 all0
              have f100 : Arv Z T98.heap b79 k79 .char (4 : Int32) [(.int x0), (.int x1), (.int x2), (.int x3)] (.int (0 : Int32)) := f97.keep Kq98 nin0
              have Zs98 : n0 ≤ T98.heap.size := Nat.le_trans Zs95 Kq98.1
              have K98_0 : Keep h0 T98.heap [] := K95_0.trans Kq98 all0
              have K98_1 : Keep h0 T98.heap [] := K95_1.trans Kq98 all0
              refine own_goW (fun _ k => st98 _ k) ?_
              show own_GW _ _ _ (T98.setTop (mkF m 80 #[.val (.int p0), .val (.int p1), .val (.int p2), .val (.int (3 : Int32)), .val (.int (Int32.ofNat i0)), .val (.ref b79), .unset, .unset] [(.ref a98)])) _ _ _ _ _ _
              refine own_goW (fun _ k => XS.astore X98.here hx rfl (hb hby at_80) rfl rfl (l' := #[.val (.int p0), .val (.int p1), .val (.int p2), .val (.int (3 : Int32)), .val (.int (Int32.ofNat i0)), .val (.ref b79), .val (.ref a98), .unset]) rfl k) ?_
              show own_GW _ _ _ (T98.setTop (mkF m 82 #[.val (.int p0), .val (.int p1), .val (.int p2), .val (.int (3 : Int32)), .val (.int (Int32.ofNat i0)), .val (.ref b79), .val (.ref a98), .unset] [])) _ _ _ _ _ _
              refine own_goW (fun _ k => XS.aload X98.here hx rfl (hb hby at_82) rfl rfl k) ?_
              show own_GW _ _ _ (T98.setTop (mkF m 84 #[.val (.int p0), .val (.int p1), .val (.int p2), .val (.int (3 : Int32)), .val (.int (Int32.ofNat i0)), .val (.ref b79), .val (.ref a98), .unset] [(.ref a98)])) _ _ _ _ _ _
              refine own_goW (fun _ k => XS.iload X98.here hx rfl (hb hby at_84) rfl k) ?_
              show own_GW _ _ _ (T98.setTop (mkF m 86 #[.val (.int p0), .val (.int p1), .val (.int p2), .val (.int (3 : Int32)), .val (.int (Int32.ofNat i0)), .val (.ref b79), .val (.ref a98), .unset] [(.int (Int32.ofNat i0)), (.ref a98)])) _ _ _ _ _ _
              obtain ⟨_, _, ⟨T101, L101, k101, n101⟩, -, X101, ⟨Lc101, hQ101, l101, y101, z101⟩, st101⟩ := Jvm.LawKit.callS X98 hx (y := (⟨"com/example/floe/floe/rest/FramingLines", "quotedStringEnd", "(Ljava/lang/String;I)I"⟩ : MethodName)) hown (mvT hZ (hw _ (List.mem_of_getElem? (i := 37) rfl))) (mvT hZ (hw _ (List.mem_of_getElem? (i := 38) rfl))) (mvT hZ (hw _ (List.mem_of_getElem? (i := 39) rfl))) (mvT hZ (hw _ (List.mem_of_getElem? (i := 40) rfl))) (by decide) (backOf (W := 0) (rm9 l Z a0 hw [] a98 ([x0, x1, x2] : List Int32) i0 zc fm T98.heap n0 Zs98 f99 P_ZS_java_lang_String_COMPACT_STRINGS hcs P_ZS_jdk_internal_util_Preconditions_SIOOBE_FORMATTER hfm r98_0 (by simp) (by omega)) hZ (hw _ (List.mem_of_getElem? (i := 40) rfl)) (hw _ (List.mem_of_getElem? (i := 39) rfl)) (by decide) (by decide)) (g := (mkF m 86 #[.val (.int p0), .val (.int p1), .val (.int p2), .val (.int (3 : Int32)), .val (.int (Int32.ofNat i0)), .val (.ref b79), .val (.ref a98), .unset] [(.int (Int32.ofNat i0)), (.ref a98)])) rfl (by rw [hml]; rfl) (argsL := [(.ref a98), (.int (Int32.ofNat i0))]) (rest := []) (lenOf pd_8 rfl) rfl (by show 2 * 0 + _ ≤ _; exact Nat.le_of_eq rfl) (hb hby at_86) (fun _ _ => ⟨rfl, rfl, (by decide : 4 + 0 ≤ _), (by decide : 14 + 0 ≤ _)⟩)
              dsimp only [Pt.U, Pt.locs, Pt.cells, Pt.slots] at X101 l101 y101 z101 st101 hQ101
              subst l101 y101 z101
              obtain ⟨rfl, Nq101, eh101⟩ := hQ101
              have N101 := Fr.app N98 Nq101
              refine own_goW (fun _ k => st101 _ k) ?_
              show own_GW _ _ _ (T101.setTop (mkF m 89 #[.val (.int p0), .val (.int p1), .val (.int p2), .val (.int (3 : Int32)), .val (.int (Int32.ofNat i0)), .val (.ref b79), .val (.ref a98), .unset] [(.int (own_qse ([x0, x1, x2] : List Int32) i0))])) _ _ _ _ _ _
              refine own_goW (fun _ k => XS.istore X101.here hx rfl (hb hby at_89) rfl (l' := #[.val (.int p0), .val (.int p1), .val (.int p2), .val (.int (3 : Int32)), .val (.int (Int32.ofNat i0)), .val (.ref b79), .val (.ref a98), .val (.int (own_qse ([x0, x1, x2] : List Int32) i0))]) rfl k) ?_
              show own_GW _ _ _ (T101.setTop (mkF m 91 #[.val (.int p0), .val (.int p1), .val (.int p2), .val (.int (3 : Int32)), .val (.int (Int32.ofNat i0)), .val (.ref b79), .val (.ref a98), .val (.int (own_qse ([x0, x1, x2] : List Int32) i0))] [])) _ _ _ _ _ _
              refine own_goW (fun _ k => XS.iload X101.here hx rfl (hb hby at_91) rfl k) ?_
              show own_GW _ _ _ (T101.setTop (mkF m 93 #[.val (.int p0), .val (.int p1), .val (.int p2), .val (.int (3 : Int32)), .val (.int (Int32.ofNat i0)), .val (.ref b79), .val (.ref a98), .val (.int (own_qse ([x0, x1, x2] : List Int32) i0))] [(.int (own_qse ([x0, x1, x2] : List Int32) i0))])) _ _ _ _ _ _
              refine own_goW (fun _ k => XS.aload X101.here hx rfl (hb hby at_93) rfl rfl k) ?_
              show own_GW _ _ _ (T101.setTop (mkF m 95 #[.val (.int p0), .val (.int p1), .val (.int p2), .val (.int (3 : Int32)), .val (.int (Int32.ofNat i0)), .val (.ref b79), .val (.ref a98), .val (.int (own_qse ([x0, x1, x2] : List Int32) i0))] [(.ref b79), (.int (own_qse ([x0, x1, x2] : List Int32) i0))])) _ _ _ _ _ _
              refine own_goW (fun _ k => XS.iloadN X101.here hx rfl (hb hby at_95) rfl k) ?_
              show own_GW _ _ _ (T101.setTop (mkF m 96 #[.val (.int p0), .val (.int p1), .val (.int p2), .val (.int (3 : Int32)), .val (.int (Int32.ofNat i0)), .val (.ref b79), .val (.ref a98), .val (.int (own_qse ([x0, x1, x2] : List Int32) i0))] [(.int (3 : Int32)), (.ref b79), (.int (own_qse ([x0, x1, x2] : List Int32) i0))])) _ _ _ _ _ _
              refine own_goW (fun _ k => XS.iload X101.here hx rfl (hb hby at_96) rfl k) ?_
              show own_GW _ _ _ (T101.setTop (mkF m 98 #[.val (.int p0), .val (.int p1), .val (.int p2), .val (.int (3 : Int32)), .val (.int (Int32.ofNat i0)), .val (.ref b79), .val (.ref a98), .val (.int (own_qse ([x0, x1, x2] : List Int32) i0))] [(.int (Int32.ofNat i0)), (.int (3 : Int32)), (.ref b79), (.int (own_qse ([x0, x1, x2] : List Int32) i0))])) _ _ _ _ _ _
              obtain ⟨_, _, ⟨T102, L102, k102, n102⟩, -, X102, ⟨Lc102, hQ102, l102, y102, z102⟩, st102⟩ := Jvm.LawKit.callS X101 hx (y := (⟨"com/example/floe/floe/rest/FramingLinesQuotedStringEndPinLaw", "expected", "([CII)I"⟩ : MethodName)) hown (mvT hZ (hw _ (List.mem_of_getElem? (i := 73) rfl))) (mvT hZ (hw _ (List.mem_of_getElem? (i := 74) rfl))) (mvT hZ (hw _ (List.mem_of_getElem? (i := 3) rfl))) (mvT hZ (hw _ (List.mem_of_getElem? (i := 75) rfl))) (by decide) (backOf (W := 1) (rm17 l Z a0 hw [] b79 (3 : Int32) (Int32.ofNat i0) k79 x0 x1 x2 x3 T98.heap n0 Zs98 f100 (by decide) (own_i0 hi5).1 (own_i0 hi5).2) hZ (hw _ (List.mem_of_getElem? (i := 75) rfl)) (hw _ (List.mem_of_getElem? (i := 3) rfl)) (by decide) (by decide)) (g := (mkF m 98 #[.val (.int p0), .val (.int p1), .val (.int p2), .val (.int (3 : Int32)), .val (.int (Int32.ofNat i0)), .val (.ref b79), .val (.ref a98), .val (.int (own_qse ([x0, x1, x2] : List Int32) i0))] [(.int (Int32.ofNat i0)), (.int (3 : Int32)), (.ref b79), (.int (own_qse ([x0, x1, x2] : List Int32) i0))])) rfl (by rw [hml]; rfl) (argsL := [(.ref b79), (.int (3 : Int32)), (.int (Int32.ofNat i0))]) (rest := [(.int (own_qse ([x0, x1, x2] : List Int32) i0))]) (lenOf pd_5 rfl) rfl (by show 2 * 0 + _ ≤ _; exact Nat.le_of_eq rfl) (hb hby at_98) (fun _ _ => ⟨rfl, eh101, (by decide : 4 + 0 ≤ _), (by decide : 14 + 0 ≤ _)⟩)
              dsimp only [Pt.U, Pt.locs, Pt.cells, Pt.slots] at X102 l102 y102 z102 st102 hQ102
              subst l102 y102 z102
              obtain ⟨rfl, Nq102, eh102⟩ := hQ102
              have N102 := Fr.app N101 Nq102
              refine own_goW (fun _ k => st102 _ k) ?_
              show own_GW _ _ _ (T102.setTop (mkF m 101 #[.val (.int p0), .val (.int p1), .val (.int p2), .val (.int (3 : Int32)), .val (.int (Int32.ofNat i0)), .val (.ref b79), .val (.ref a98), .val (.int (own_qse ([x0, x1, x2] : List Int32) i0))] [(.int (own_expd (3 : Int32) (Int32.ofNat i0) x0 x1 x2 x3)), (.int (own_qse ([x0, x1, x2] : List Int32) i0))])) _ _ _ _ _ _
              have hc103 : (own_qse ([x0, x1, x2] : List Int32) i0) = (own_expd (3 : Int32) (Int32.ofNat i0) x0 x1 x2 x3) := own_same3 x0 x1 x2 x3 i0 hi5
              refine own_goW (fun _ k => XS.icmpNo X102.here hx rfl (hb hby at_101) rfl (teq hc103).2 k) ?_
              show own_GW _ _ _ (T102.setTop (mkF m 104 #[.val (.int p0), .val (.int p1), .val (.int p2), .val (.int (3 : Int32)), .val (.int (Int32.ofNat i0)), .val (.ref b79), .val (.ref a98), .val (.int (own_qse ([x0, x1, x2] : List Int32) i0))] [])) _ _ _ _ _ _
              refine own_goW (fun _ k => XS.iconst X102.here hx rfl (hb hby at_104) k) ?_
              show own_GW _ _ _ (T102.setTop (mkF m 105 #[.val (.int p0), .val (.int p1), .val (.int p2), .val (.int (3 : Int32)), .val (.int (Int32.ofNat i0)), .val (.ref b79), .val (.ref a98), .val (.int (own_qse ([x0, x1, x2] : List Int32) i0))] [(.int (1 : Int32))])) _ _ _ _ _ _
              refine own_goW (fun _ k => XS.goto X102.here hx rfl (pc0 := 105) (pc' := 109) rfl (hb hby at_105) (by decide) (by decide) k) ?_
              show own_GW _ _ _ (T102.setTop (mkF m 109 #[.val (.int p0), .val (.int p1), .val (.int p2), .val (.int (3 : Int32)), .val (.int (Int32.ofNat i0)), .val (.ref b79), .val (.ref a98), .val (.int (own_qse ([x0, x1, x2] : List Int32) i0))] [(.int (1 : Int32))])) _ _ _ _ _ _
              have CQ104 := CR0.trans (CHr.keep K98_1 all0 CR0.1)
              have CE104 : CHr Z own_EL s.vm s.heap T102.vm T102.heap := by rw [hh, show T102.heap = T98.heap from eh102]; exact CQ104.trans (CHv.at X102 hZ (own_EW hw) CQ104.1)
              exact own_endWN X102 hx hlk (t := .boolean) Bd.returns (by simp) (hb hby at_109) hS0 (show _ ≤ T102.heap.size by rw [show T102.heap = T98.heap from eh102]; exact (Nat.le_trans hk0 K98_1.1)) (by decide) (by decide) CE104 (Q := (Q0 Z p0 p1 p2 zc fm h0 n0)) (by rw [eh102]; exact ⟨rfl, N102, K98_0⟩)
  · rw [hn]
    show own_GW _ _ _ (s₁.setTop (mkF m 6 #[.val (.int p0), .val (.int p1), .val (.int p2), .unset, .unset, .unset, .unset, .unset] [(.int (4 : Int32))])) _ _ _ _ _ _
    refine own_goW (fun _ k => XS.istoreN X0.here hx rfl (hb hby at_6) rfl (l' := #[.val (.int p0), .val (.int p1), .val (.int p2), .val (.int (4 : Int32)), .unset, .unset, .unset, .unset]) rfl k) ?_
    show own_GW _ _ _ (s₁.setTop (mkF m 7 #[.val (.int p0), .val (.int p1), .val (.int p2), .val (.int (4 : Int32)), .unset, .unset, .unset, .unset] [])) _ _ _ _ _ _
    refine own_goW (fun _ k => XS.iloadN X0.here hx rfl (hb hby at_7) rfl k) ?_
    show own_GW _ _ _ (s₁.setTop (mkF m 8 #[.val (.int p0), .val (.int p1), .val (.int p2), .val (.int (4 : Int32)), .unset, .unset, .unset, .unset] [(.int p1)])) _ _ _ _ _ _
    refine own_goW (fun _ k => XS.iconst X0.here hx rfl (hb hby at_8) k) ?_
    show own_GW _ _ _ (s₁.setTop (mkF m 9 #[.val (.int p0), .val (.int p1), .val (.int p2), .val (.int (4 : Int32)), .unset, .unset, .unset, .unset] [(.int (3 : Int32)), (.int p1)])) _ _ _ _ _ _
    refine own_goW (fun _ k => XS.iushr X0.here hx rfl (hb hby at_9) rfl k) ?_
    show own_GW _ _ _ (s₁.setTop (mkF m 10 #[.val (.int p0), .val (.int p1), .val (.int p2), .val (.int (4 : Int32)), .unset, .unset, .unset, .unset] [(.int ((p1.toUInt32 >>> ((3 : Int32) &&& 31).toUInt32).toInt32))])) _ _ _ _ _ _
    refine own_goW (fun _ k => XS.bipush X0.here hx rfl (hb hby at_10) k) ?_
    show own_GW _ _ _ (s₁.setTop (mkF m 12 #[.val (.int p0), .val (.int p1), .val (.int p2), .val (.int (4 : Int32)), .unset, .unset, .unset, .unset] [(.int (7 : Int32)), (.int ((p1.toUInt32 >>> ((3 : Int32) &&& 31).toUInt32).toInt32))])) _ _ _ _ _ _
    refine own_goW (fun _ k => XS.iand X0.here hx rfl (hb hby at_12) rfl k) ?_
    show own_GW _ _ _ (s₁.setTop (mkF m 13 #[.val (.int p0), .val (.int p1), .val (.int p2), .val (.int (4 : Int32)), .unset, .unset, .unset, .unset] [(.int (((p1.toUInt32 >>> ((3 : Int32) &&& 31).toUInt32).toInt32) &&& (7 : Int32)))])) _ _ _ _ _ _
    refine own_goW (fun _ k => XS.bipush X0.here hx rfl (hb hby at_13) k) ?_
    show own_GW _ _ _ (s₁.setTop (mkF m 15 #[.val (.int p0), .val (.int p1), .val (.int p2), .val (.int (4 : Int32)), .unset, .unset, .unset, .unset] [(.int (6 : Int32)), (.int (((p1.toUInt32 >>> ((3 : Int32) &&& 31).toUInt32).toInt32) &&& (7 : Int32)))])) _ _ _ _ _ _
    refine own_goW (fun _ k => iremM X0 hx rfl (hb hby at_15) rfl (by decide) k) ?_
    show own_GW _ _ _ (s₁.setTop (mkF m 16 #[.val (.int p0), .val (.int p1), .val (.int p2), .val (.int (4 : Int32)), .unset, .unset, .unset, .unset] [(.int ((((p1.toUInt32 >>> ((3 : Int32) &&& 31).toUInt32).toInt32) &&& (7 : Int32)) % (6 : Int32)))])) _ _ _ _ _ _
    obtain ⟨i0, hi5, hs⟩ := own_s6 p1
    · rw [hs]
      show own_GW _ _ _ (s₁.setTop (mkF m 16 #[.val (.int p0), .val (.int p1), .val (.int p2), .val (.int (4 : Int32)), .unset, .unset, .unset, .unset] [(.int (Int32.ofNat i0))])) _ _ _ _ _ _
      refine own_goW (fun _ k => XS.istore X0.here hx rfl (hb hby at_16) rfl (l' := #[.val (.int p0), .val (.int p1), .val (.int p2), .val (.int (4 : Int32)), .val (.int (Int32.ofNat i0)), .unset, .unset, .unset]) rfl k) ?_
      show own_GW _ _ _ (s₁.setTop (mkF m 18 #[.val (.int p0), .val (.int p1), .val (.int p2), .val (.int (4 : Int32)), .val (.int (Int32.ofNat i0)), .unset, .unset, .unset] [])) _ _ _ _ _ _
      refine own_goW (fun _ k => XS.iconst X0.here hx rfl (hb hby at_18) k) ?_
      show own_GW _ _ _ (s₁.setTop (mkF m 19 #[.val (.int p0), .val (.int p1), .val (.int p2), .val (.int (4 : Int32)), .val (.int (Int32.ofNat i0)), .unset, .unset, .unset] [(.int (4 : Int32))])) _ _ _ _ _ _
      obtain ⟨T105, h105, k105, X105, e105, E105, A105, st105⟩ := newP X0 hx hZ (hw _ (List.mem_of_getElem? (i := 0) rfl)) e0 (g := (mkF m 19 #[.val (.int p0), .val (.int p1), .val (.int p2), .val (.int (4 : Int32)), .val (.int (Int32.ofNat i0)), .unset, .unset, .unset] [(.int (4 : Int32))])) rfl (hb hby at_19) rfl (by decide) (cap := 4) (by decide) (by decide) (by decide) (by decide)
      obtain ⟨b105, g105⟩ : ∃ z, z = h0.size := ⟨_, rfl⟩
      rw [← g105] at A105 st105
      have gg105 : n0 ≤ b105 := Nat.le_trans Z0 (Nat.le_of_eq g105.symm)
      have sz105_0 : h0.size ≤ b105 := Nat.le_trans K0.1 (Nat.le_of_eq g105.symm)
      have sz105_1 : h0.size ≤ b105 := Nat.le_trans KS0.1 (Nat.le_of_eq g105.symm)
      have Zs105 : n0 ≤ h105.size := Nat.le_trans Z0 E105.1
      have K105_0 : Keep h0 h105 [] := K0.ext E105
      have K105_1 : Keep h0 h105 [] := KS0.ext E105
      have f106 : Old Z n0 h105 := P_Old.ext E105
      have f107 : Arv Z h105 b105 k105 .char (4 : Int32) [(.int (0 : Int32)), (.int (0 : Int32)), (.int (0 : Int32)), (.int (0 : Int32))] (.int (0 : Int32)) := (Arv.new A105 (by decide)).pad (pad_rep [] (.int (0 : Int32)) 4)
      refine own_goW (fun _ k => st105 _ k) ?_
      show own_GW _ _ _ (T105.setTop (mkF m 21 #[.val (.int p0), .val (.int p1), .val (.int p2), .val (.int (4 : Int32)), .val (.int (Int32.ofNat i0)), .unset, .unset, .unset] [(.ref b105)])) _ _ _ _ _ _
      refine own_goW (fun _ k => XS.astore X105.here hx rfl (hb hby at_21) rfl rfl (l' := #[.val (.int p0), .val (.int p1), .val (.int p2), .val (.int (4 : Int32)), .val (.int (Int32.ofNat i0)), .val (.ref b105), .unset, .unset]) rfl k) ?_
      show own_GW _ _ _ (T105.setTop (mkF m 23 #[.val (.int p0), .val (.int p1), .val (.int p2), .val (.int (4 : Int32)), .val (.int (Int32.ofNat i0)), .val (.ref b105), .unset, .unset] [])) _ _ _ _ _ _
      refine own_goW (fun _ k => XS.aload X105.here hx rfl (hb hby at_23) rfl rfl k) ?_
      show own_GW _ _ _ (T105.setTop (mkF m 25 #[.val (.int p0), .val (.int p1), .val (.int p2), .val (.int (4 : Int32)), .val (.int (Int32.ofNat i0)), .val (.ref b105), .unset, .unset] [(.ref b105)])) _ _ _ _ _ _
      refine own_goW (fun _ k => XS.iconst X105.here hx rfl (hb hby at_25) k) ?_
      show own_GW _ _ _ (T105.setTop (mkF m 26 #[.val (.int p0), .val (.int p1), .val (.int p2), .val (.int (4 : Int32)), .val (.int (Int32.ofNat i0)), .val (.ref b105), .unset, .unset] [(.int (0 : Int32)), (.ref b105)])) _ _ _ _ _ _
      refine own_goW (fun _ k => XS.iloadN X105.here hx rfl (hb hby at_26) rfl k) ?_
      show own_GW _ _ _ (T105.setTop (mkF m 27 #[.val (.int p0), .val (.int p1), .val (.int p2), .val (.int (4 : Int32)), .val (.int (Int32.ofNat i0)), .val (.ref b105), .unset, .unset] [(.int p0), (.int (0 : Int32)), (.ref b105)])) _ _ _ _ _ _
      refine own_goW (fun _ k => XS.iloadN X105.here hx rfl (hb hby at_27) rfl k) ?_
      show own_GW _ _ _ (T105.setTop (mkF m 28 #[.val (.int p0), .val (.int p1), .val (.int p2), .val (.int (4 : Int32)), .val (.int (Int32.ofNat i0)), .val (.ref b105), .unset, .unset] [(.int p2), (.int p0), (.int (0 : Int32)), (.ref b105)])) _ _ _ _ _ _
      obtain ⟨_, _, ⟨T108, L108, k108, n108⟩, -, X108, ⟨Lc108, hQ108, l108, y108, z108⟩, st108⟩ := Jvm.LawKit.callS X105 hx (y := (⟨"com/example/floe/floe/rest/FramingLinesQuotedStringEndPinLaw", "draw", "(II)C"⟩ : MethodName)) hown (mvT hZ (hw _ (List.mem_of_getElem? (i := 1) rfl))) (mvT hZ (hw _ (List.mem_of_getElem? (i := 2) rfl))) (mvT hZ (hw _ (List.mem_of_getElem? (i := 3) rfl))) (mvT hZ (hw _ (List.mem_of_getElem? (i := 4) rfl))) (by decide) (backOf (W := 2) (rm1 l Z a0 hw [] p0 p2 h105 n0) hZ (hw _ (List.mem_of_getElem? (i := 4) rfl)) (hw _ (List.mem_of_getElem? (i := 3) rfl)) (by decide) (by decide)) (g := (mkF m 28 #[.val (.int p0), .val (.int p1), .val (.int p2), .val (.int (4 : Int32)), .val (.int (Int32.ofNat i0)), .val (.ref b105), .unset, .unset] [(.int p2), (.int p0), (.int (0 : Int32)), (.ref b105)])) rfl (by rw [hml]; rfl) (argsL := [(.int p0), (.int p2)]) (rest := [(.int (0 : Int32)), (.ref b105)]) (lenOf pd_6 rfl) rfl (by show 2 * 0 + _ ≤ _; exact Nat.le_of_eq rfl) (hb hby at_28) (fun _ _ => ⟨rfl, e105, (by decide : 1 + 0 ≤ _), (by decide : 4 + 0 ≤ _)⟩)
      dsimp only [Pt.U, Pt.locs, Pt.cells, Pt.slots] at X108 l108 y108 z108 st108 hQ108
      subst l108 y108 z108
      obtain ⟨rfl, Nq108, eh108⟩ := hQ108
      have N108 := Fr.app N0 Nq108
      refine own_goW (fun _ k => st108 _ k) ?_
      show own_GW _ _ _ (T108.setTop (mkF m 31 #[.val (.int p0), .val (.int p1), .val (.int p2), .val (.int (4 : Int32)), .val (.int (Int32.ofNat i0)), .val (.ref b105), .unset, .unset] [(.int (own_draw p0 p2)), (.int (0 : Int32)), (.ref b105)])) _ _ _ _ _ _
      obtain ⟨x0, h_x0⟩ : ∃ z : Int32, z = (own_draw p0 p2) := ⟨_, rfl⟩
      · rw [← h_x0]
        have r_x0 : ¬ x0 < 0 ∧ ¬ (255 : Int32) < x0 := by rw [h_x0]; exact own_drw _ _
        have e_x0 : nar .char x0 = x0 := own_nar8 r_x0
        show own_GW _ _ _ (T108.setTop (mkF m 31 #[.val (.int p0), .val (.int p1), .val (.int p2), .val (.int (4 : Int32)), .val (.int (Int32.ofNat i0)), .val (.ref b105), .unset, .unset] [(.int x0), (.int (0 : Int32)), (.ref b105)])) _ _ _ _ _ _
        obtain ⟨cl109, Ar109, q109, S109, Ng109, H109, G109⟩ := id f107
        have in109 : ¬ ((0 : Int32) < 0 ∨ cl109.slots.size ≤ ((0 : Int32)).toNatClampNeg) := inb_of S109 ⟨by decide, by decide⟩
        obtain ⟨T109, h109, X109, e109, W109, st109⟩ := stC X108 hx hZ eh108 Ar109 (j := (0 : Int32)) in109 (g := (mkF m 31 #[.val (.int p0), .val (.int p1), .val (.int p2), .val (.int (4 : Int32)), .val (.int (Int32.ofNat i0)), .val (.ref b105), .unset, .unset] [(.int x0), (.int (0 : Int32)), (.ref b105)])) rfl rfl (hb hby at_31)
        have N109 := Fr.snoc X109 N108 gg105
        have Zs109 : n0 ≤ h109.size := Nat.le_trans Zs105 (Keep.of_wr W109).1
        have K109_0 : Keep h0 h109 [] := K105_0.wr W109 (Or.inr sz105_0)
        have K109_1 : Keep h0 h109 [] := K105_1.wr W109 (Or.inr sz105_1)
        have f110 : Old Z n0 h109 := f106.wr W109 gg105
        have f111 : Arv Z h109 b105 k105 .char (4 : Int32) [(.int x0), (.int (0 : Int32)), (.int (0 : Int32)), (.int (0 : Int32))] (.int (0 : Int32)) := (by have q := Arv.set Ar109 q109 S109 Ng109 H109 G109 (fits_nar_char _) W109 0 rfl (Nat.le_of_ble_eq_true rfl); rw [e_x0] at q; exact q)
        refine own_goW (fun _ k => st109 _ k) ?_
        show own_GW _ _ _ (T109.setTop (mkF m 32 #[.val (.int p0), .val (.int p1), .val (.int p2), .val (.int (4 : Int32)), .val (.int (Int32.ofNat i0)), .val (.ref b105), .unset, .unset] [])) _ _ _ _ _ _
        refine own_goW (fun _ k => XS.aload X109.here hx rfl (hb hby at_32) rfl rfl k) ?_
        show own_GW _ _ _ (T109.setTop (mkF m 34 #[.val (.int p0), .val (.int p1), .val (.int p2), .val (.int (4 : Int32)), .val (.int (Int32.ofNat i0)), .val (.ref b105), .unset, .unset] [(.ref b105)])) _ _ _ _ _ _
        refine own_goW (fun _ k => XS.iconst X109.here hx rfl (hb hby at_34) k) ?_
        show own_GW _ _ _ (T109.setTop (mkF m 35 #[.val (.int p0), .val (.int p1), .val (.int p2), .val (.int (4 : Int32)), .val (.int (Int32.ofNat i0)), .val (.ref b105), .unset, .unset] [(.int (1 : Int32)), (.ref b105)])) _ _ _ _ _ _
        refine own_goW (fun _ k => XS.iloadN X109.here hx rfl (hb hby at_35) rfl k) ?_
        show own_GW _ _ _ (T109.setTop (mkF m 36 #[.val (.int p0), .val (.int p1), .val (.int p2), .val (.int (4 : Int32)), .val (.int (Int32.ofNat i0)), .val (.ref b105), .unset, .unset] [(.int p0), (.int (1 : Int32)), (.ref b105)])) _ _ _ _ _ _
        refine own_goW (fun _ k => XS.bipush X109.here hx rfl (hb hby at_36) k) ?_
        show own_GW _ _ _ (T109.setTop (mkF m 38 #[.val (.int p0), .val (.int p1), .val (.int p2), .val (.int (4 : Int32)), .val (.int (Int32.ofNat i0)), .val (.ref b105), .unset, .unset] [(.int (8 : Int32)), (.int p0), (.int (1 : Int32)), (.ref b105)])) _ _ _ _ _ _
        refine own_goW (fun _ k => XS.iushr X109.here hx rfl (hb hby at_38) rfl k) ?_
        show own_GW _ _ _ (T109.setTop (mkF m 39 #[.val (.int p0), .val (.int p1), .val (.int p2), .val (.int (4 : Int32)), .val (.int (Int32.ofNat i0)), .val (.ref b105), .unset, .unset] [(.int ((p0.toUInt32 >>> ((8 : Int32) &&& 31).toUInt32).toInt32)), (.int (1 : Int32)), (.ref b105)])) _ _ _ _ _ _
        refine own_goW (fun _ k => XS.iloadN X109.here hx rfl (hb hby at_39) rfl k) ?_
        show own_GW _ _ _ (T109.setTop (mkF m 40 #[.val (.int p0), .val (.int p1), .val (.int p2), .val (.int (4 : Int32)), .val (.int (Int32.ofNat i0)), .val (.ref b105), .unset, .unset] [(.int p2), (.int ((p0.toUInt32 >>> ((8 : Int32) &&& 31).toUInt32).toInt32)), (.int (1 : Int32)), (.ref b105)])) _ _ _ _ _ _
        refine own_goW (fun _ k => XS.iconst X109.here hx rfl (hb hby at_40) k) ?_
        show own_GW _ _ _ (T109.setTop (mkF m 41 #[.val (.int p0), .val (.int p1), .val (.int p2), .val (.int (4 : Int32)), .val (.int (Int32.ofNat i0)), .val (.ref b105), .unset, .unset] [(.int (1 : Int32)), (.int p2), (.int ((p0.toUInt32 >>> ((8 : Int32) &&& 31).toUInt32).toInt32)), (.int (1 : Int32)), (.ref b105)])) _ _ _ _ _ _
        refine own_goW (fun _ k => XS.iushr X109.here hx rfl (hb hby at_41) rfl k) ?_
        show own_GW _ _ _ (T109.setTop (mkF m 42 #[.val (.int p0), .val (.int p1), .val (.int p2), .val (.int (4 : Int32)), .val (.int (Int32.ofNat i0)), .val (.ref b105), .unset, .unset] [(.int ((p2.toUInt32 >>> ((1 : Int32) &&& 31).toUInt32).toInt32)), (.int ((p0.toUInt32 >>> ((8 : Int32) &&& 31).toUInt32).toInt32)), (.int (1 : Int32)), (.ref b105)])) _ _ _ _ _ _
        obtain ⟨_, _, ⟨T112, L112, k112, n112⟩, -, X112, ⟨Lc112, hQ112, l112, y112, z112⟩, st112⟩ := Jvm.LawKit.callS X109 hx (y := (⟨"com/example/floe/floe/rest/FramingLinesQuotedStringEndPinLaw", "draw", "(II)C"⟩ : MethodName)) hown (mvT hZ (hw _ (List.mem_of_getElem? (i := 1) rfl))) (mvT hZ (hw _ (List.mem_of_getElem? (i := 2) rfl))) (mvT hZ (hw _ (List.mem_of_getElem? (i := 3) rfl))) (mvT hZ (hw _ (List.mem_of_getElem? (i := 4) rfl))) (by decide) (backOf (W := 2) (rm1 l Z a0 hw [] ((p0.toUInt32 >>> ((8 : Int32) &&& 31).toUInt32).toInt32) ((p2.toUInt32 >>> ((1 : Int32) &&& 31).toUInt32).toInt32) h109 n0) hZ (hw _ (List.mem_of_getElem? (i := 4) rfl)) (hw _ (List.mem_of_getElem? (i := 3) rfl)) (by decide) (by decide)) (g := (mkF m 42 #[.val (.int p0), .val (.int p1), .val (.int p2), .val (.int (4 : Int32)), .val (.int (Int32.ofNat i0)), .val (.ref b105), .unset, .unset] [(.int ((p2.toUInt32 >>> ((1 : Int32) &&& 31).toUInt32).toInt32)), (.int ((p0.toUInt32 >>> ((8 : Int32) &&& 31).toUInt32).toInt32)), (.int (1 : Int32)), (.ref b105)])) rfl (by rw [hml]; rfl) (argsL := [(.int ((p0.toUInt32 >>> ((8 : Int32) &&& 31).toUInt32).toInt32)), (.int ((p2.toUInt32 >>> ((1 : Int32) &&& 31).toUInt32).toInt32))]) (rest := [(.int (1 : Int32)), (.ref b105)]) (lenOf pd_6 rfl) rfl (by show 2 * 0 + _ ≤ _; exact Nat.le_of_eq rfl) (hb hby at_42) (fun _ _ => ⟨rfl, e109, (by decide : 1 + 0 ≤ _), (by decide : 4 + 0 ≤ _)⟩)
        dsimp only [Pt.U, Pt.locs, Pt.cells, Pt.slots] at X112 l112 y112 z112 st112 hQ112
        subst l112 y112 z112
        obtain ⟨rfl, Nq112, eh112⟩ := hQ112
        have N112 := Fr.app N109 Nq112
        refine own_goW (fun _ k => st112 _ k) ?_
        show own_GW _ _ _ (T112.setTop (mkF m 45 #[.val (.int p0), .val (.int p1), .val (.int p2), .val (.int (4 : Int32)), .val (.int (Int32.ofNat i0)), .val (.ref b105), .unset, .unset] [(.int (own_draw ((p0.toUInt32 >>> ((8 : Int32) &&& 31).toUInt32).toInt32) ((p2.toUInt32 >>> ((1 : Int32) &&& 31).toUInt32).toInt32))), (.int (1 : Int32)), (.ref b105)])) _ _ _ _ _ _
        obtain ⟨x1, h_x1⟩ : ∃ z : Int32, z = (own_draw ((p0.toUInt32 >>> ((8 : Int32) &&& 31).toUInt32).toInt32) ((p2.toUInt32 >>> ((1 : Int32) &&& 31).toUInt32).toInt32)) := ⟨_, rfl⟩
        · rw [← h_x1]
          have r_x1 : ¬ x1 < 0 ∧ ¬ (255 : Int32) < x1 := by rw [h_x1]; exact own_drw _ _
          have e_x1 : nar .char x1 = x1 := own_nar8 r_x1
          show own_GW _ _ _ (T112.setTop (mkF m 45 #[.val (.int p0), .val (.int p1), .val (.int p2), .val (.int (4 : Int32)), .val (.int (Int32.ofNat i0)), .val (.ref b105), .unset, .unset] [(.int x1), (.int (1 : Int32)), (.ref b105)])) _ _ _ _ _ _
          obtain ⟨cl113, Ar113, q113, S113, Ng113, H113, G113⟩ := id f111
          have in113 : ¬ ((1 : Int32) < 0 ∨ cl113.slots.size ≤ ((1 : Int32)).toNatClampNeg) := inb_of S113 ⟨by decide, by decide⟩
          obtain ⟨T113, h113, X113, e113, W113, st113⟩ := stC X112 hx hZ eh112 Ar113 (j := (1 : Int32)) in113 (g := (mkF m 45 #[.val (.int p0), .val (.int p1), .val (.int p2), .val (.int (4 : Int32)), .val (.int (Int32.ofNat i0)), .val (.ref b105), .unset, .unset] [(.int x1), (.int (1 : Int32)), (.ref b105)])) rfl rfl (hb hby at_45)
          have N113 := Fr.snoc X113 N112 gg105
          have Zs113 : n0 ≤ h113.size := Nat.le_trans Zs109 (Keep.of_wr W113).1
          have K113_0 : Keep h0 h113 [] := K109_0.wr W113 (Or.inr sz105_0)
          have K113_1 : Keep h0 h113 [] := K109_1.wr W113 (Or.inr sz105_1)
          have f114 : Old Z n0 h113 := f110.wr W113 gg105
          have f115 : Arv Z h113 b105 k105 .char (4 : Int32) [(.int x0), (.int x1), (.int (0 : Int32)), (.int (0 : Int32))] (.int (0 : Int32)) := (by have q := Arv.set Ar113 q113 S113 Ng113 H113 G113 (fits_nar_char _) W113 1 rfl (Nat.le_of_ble_eq_true rfl); rw [e_x1] at q; exact q)
          refine own_goW (fun _ k => st113 _ k) ?_
          show own_GW _ _ _ (T113.setTop (mkF m 46 #[.val (.int p0), .val (.int p1), .val (.int p2), .val (.int (4 : Int32)), .val (.int (Int32.ofNat i0)), .val (.ref b105), .unset, .unset] [])) _ _ _ _ _ _
          refine own_goW (fun _ k => XS.aload X113.here hx rfl (hb hby at_46) rfl rfl k) ?_
          show own_GW _ _ _ (T113.setTop (mkF m 48 #[.val (.int p0), .val (.int p1), .val (.int p2), .val (.int (4 : Int32)), .val (.int (Int32.ofNat i0)), .val (.ref b105), .unset, .unset] [(.ref b105)])) _ _ _ _ _ _
          refine own_goW (fun _ k => XS.iconst X113.here hx rfl (hb hby at_48) k) ?_
          show own_GW _ _ _ (T113.setTop (mkF m 49 #[.val (.int p0), .val (.int p1), .val (.int p2), .val (.int (4 : Int32)), .val (.int (Int32.ofNat i0)), .val (.ref b105), .unset, .unset] [(.int (2 : Int32)), (.ref b105)])) _ _ _ _ _ _
          refine own_goW (fun _ k => XS.iloadN X113.here hx rfl (hb hby at_49) rfl k) ?_
          show own_GW _ _ _ (T113.setTop (mkF m 50 #[.val (.int p0), .val (.int p1), .val (.int p2), .val (.int (4 : Int32)), .val (.int (Int32.ofNat i0)), .val (.ref b105), .unset, .unset] [(.int p0), (.int (2 : Int32)), (.ref b105)])) _ _ _ _ _ _
          refine own_goW (fun _ k => XS.bipush X113.here hx rfl (hb hby at_50) k) ?_
          show own_GW _ _ _ (T113.setTop (mkF m 52 #[.val (.int p0), .val (.int p1), .val (.int p2), .val (.int (4 : Int32)), .val (.int (Int32.ofNat i0)), .val (.ref b105), .unset, .unset] [(.int (16 : Int32)), (.int p0), (.int (2 : Int32)), (.ref b105)])) _ _ _ _ _ _
          refine own_goW (fun _ k => XS.iushr X113.here hx rfl (hb hby at_52) rfl k) ?_
          show own_GW _ _ _ (T113.setTop (mkF m 53 #[.val (.int p0), .val (.int p1), .val (.int p2), .val (.int (4 : Int32)), .val (.int (Int32.ofNat i0)), .val (.ref b105), .unset, .unset] [(.int ((p0.toUInt32 >>> ((16 : Int32) &&& 31).toUInt32).toInt32)), (.int (2 : Int32)), (.ref b105)])) _ _ _ _ _ _
          refine own_goW (fun _ k => XS.iloadN X113.here hx rfl (hb hby at_53) rfl k) ?_
          show own_GW _ _ _ (T113.setTop (mkF m 54 #[.val (.int p0), .val (.int p1), .val (.int p2), .val (.int (4 : Int32)), .val (.int (Int32.ofNat i0)), .val (.ref b105), .unset, .unset] [(.int p2), (.int ((p0.toUInt32 >>> ((16 : Int32) &&& 31).toUInt32).toInt32)), (.int (2 : Int32)), (.ref b105)])) _ _ _ _ _ _
          refine own_goW (fun _ k => XS.iconst X113.here hx rfl (hb hby at_54) k) ?_
          show own_GW _ _ _ (T113.setTop (mkF m 55 #[.val (.int p0), .val (.int p1), .val (.int p2), .val (.int (4 : Int32)), .val (.int (Int32.ofNat i0)), .val (.ref b105), .unset, .unset] [(.int (2 : Int32)), (.int p2), (.int ((p0.toUInt32 >>> ((16 : Int32) &&& 31).toUInt32).toInt32)), (.int (2 : Int32)), (.ref b105)])) _ _ _ _ _ _
          refine own_goW (fun _ k => XS.iushr X113.here hx rfl (hb hby at_55) rfl k) ?_
          show own_GW _ _ _ (T113.setTop (mkF m 56 #[.val (.int p0), .val (.int p1), .val (.int p2), .val (.int (4 : Int32)), .val (.int (Int32.ofNat i0)), .val (.ref b105), .unset, .unset] [(.int ((p2.toUInt32 >>> ((2 : Int32) &&& 31).toUInt32).toInt32)), (.int ((p0.toUInt32 >>> ((16 : Int32) &&& 31).toUInt32).toInt32)), (.int (2 : Int32)), (.ref b105)])) _ _ _ _ _ _
          obtain ⟨_, _, ⟨T116, L116, k116, n116⟩, -, X116, ⟨Lc116, hQ116, l116, y116, z116⟩, st116⟩ := Jvm.LawKit.callS X113 hx (y := (⟨"com/example/floe/floe/rest/FramingLinesQuotedStringEndPinLaw", "draw", "(II)C"⟩ : MethodName)) hown (mvT hZ (hw _ (List.mem_of_getElem? (i := 1) rfl))) (mvT hZ (hw _ (List.mem_of_getElem? (i := 2) rfl))) (mvT hZ (hw _ (List.mem_of_getElem? (i := 3) rfl))) (mvT hZ (hw _ (List.mem_of_getElem? (i := 4) rfl))) (by decide) (backOf (W := 2) (rm1 l Z a0 hw [] ((p0.toUInt32 >>> ((16 : Int32) &&& 31).toUInt32).toInt32) ((p2.toUInt32 >>> ((2 : Int32) &&& 31).toUInt32).toInt32) h113 n0) hZ (hw _ (List.mem_of_getElem? (i := 4) rfl)) (hw _ (List.mem_of_getElem? (i := 3) rfl)) (by decide) (by decide)) (g := (mkF m 56 #[.val (.int p0), .val (.int p1), .val (.int p2), .val (.int (4 : Int32)), .val (.int (Int32.ofNat i0)), .val (.ref b105), .unset, .unset] [(.int ((p2.toUInt32 >>> ((2 : Int32) &&& 31).toUInt32).toInt32)), (.int ((p0.toUInt32 >>> ((16 : Int32) &&& 31).toUInt32).toInt32)), (.int (2 : Int32)), (.ref b105)])) rfl (by rw [hml]; rfl) (argsL := [(.int ((p0.toUInt32 >>> ((16 : Int32) &&& 31).toUInt32).toInt32)), (.int ((p2.toUInt32 >>> ((2 : Int32) &&& 31).toUInt32).toInt32))]) (rest := [(.int (2 : Int32)), (.ref b105)]) (lenOf pd_6 rfl) rfl (by show 2 * 0 + _ ≤ _; exact Nat.le_of_eq rfl) (hb hby at_56) (fun _ _ => ⟨rfl, e113, (by decide : 1 + 0 ≤ _), (by decide : 4 + 0 ≤ _)⟩)
          dsimp only [Pt.U, Pt.locs, Pt.cells, Pt.slots] at X116 l116 y116 z116 st116 hQ116
          subst l116 y116 z116
          obtain ⟨rfl, Nq116, eh116⟩ := hQ116
          have N116 := Fr.app N113 Nq116
          refine own_goW (fun _ k => st116 _ k) ?_
          show own_GW _ _ _ (T116.setTop (mkF m 59 #[.val (.int p0), .val (.int p1), .val (.int p2), .val (.int (4 : Int32)), .val (.int (Int32.ofNat i0)), .val (.ref b105), .unset, .unset] [(.int (own_draw ((p0.toUInt32 >>> ((16 : Int32) &&& 31).toUInt32).toInt32) ((p2.toUInt32 >>> ((2 : Int32) &&& 31).toUInt32).toInt32))), (.int (2 : Int32)), (.ref b105)])) _ _ _ _ _ _
          obtain ⟨x2, h_x2⟩ : ∃ z : Int32, z = (own_draw ((p0.toUInt32 >>> ((16 : Int32) &&& 31).toUInt32).toInt32) ((p2.toUInt32 >>> ((2 : Int32) &&& 31).toUInt32).toInt32)) := ⟨_, rfl⟩
          · rw [← h_x2]
            have r_x2 : ¬ x2 < 0 ∧ ¬ (255 : Int32) < x2 := by rw [h_x2]; exact own_drw _ _
            have e_x2 : nar .char x2 = x2 := own_nar8 r_x2
            show own_GW _ _ _ (T116.setTop (mkF m 59 #[.val (.int p0), .val (.int p1), .val (.int p2), .val (.int (4 : Int32)), .val (.int (Int32.ofNat i0)), .val (.ref b105), .unset, .unset] [(.int x2), (.int (2 : Int32)), (.ref b105)])) _ _ _ _ _ _
            obtain ⟨cl117, Ar117, q117, S117, Ng117, H117, G117⟩ := id f115
            have in117 : ¬ ((2 : Int32) < 0 ∨ cl117.slots.size ≤ ((2 : Int32)).toNatClampNeg) := inb_of S117 ⟨by decide, by decide⟩
            obtain ⟨T117, h117, X117, e117, W117, st117⟩ := stC X116 hx hZ eh116 Ar117 (j := (2 : Int32)) in117 (g := (mkF m 59 #[.val (.int p0), .val (.int p1), .val (.int p2), .val (.int (4 : Int32)), .val (.int (Int32.ofNat i0)), .val (.ref b105), .unset, .unset] [(.int x2), (.int (2 : Int32)), (.ref b105)])) rfl rfl (hb hby at_59)
            have N117 := Fr.snoc X117 N116 gg105
            have Zs117 : n0 ≤ h117.size := Nat.le_trans Zs113 (Keep.of_wr W117).1
            have K117_0 : Keep h0 h117 [] := K113_0.wr W117 (Or.inr sz105_0)
            have K117_1 : Keep h0 h117 [] := K113_1.wr W117 (Or.inr sz105_1)
            have f118 : Old Z n0 h117 := f114.wr W117 gg105
            have f119 : Arv Z h117 b105 k105 .char (4 : Int32) [(.int x0), (.int x1), (.int x2), (.int (0 : Int32))] (.int (0 : Int32)) := (by have q := Arv.set Ar117 q117 S117 Ng117 H117 G117 (fits_nar_char _) W117 2 rfl (Nat.le_of_ble_eq_true rfl); rw [e_x2] at q; exact q)
            refine own_goW (fun _ k => st117 _ k) ?_
            show own_GW _ _ _ (T117.setTop (mkF m 60 #[.val (.int p0), .val (.int p1), .val (.int p2), .val (.int (4 : Int32)), .val (.int (Int32.ofNat i0)), .val (.ref b105), .unset, .unset] [])) _ _ _ _ _ _
            refine own_goW (fun _ k => XS.aload X117.here hx rfl (hb hby at_60) rfl rfl k) ?_
            show own_GW _ _ _ (T117.setTop (mkF m 62 #[.val (.int p0), .val (.int p1), .val (.int p2), .val (.int (4 : Int32)), .val (.int (Int32.ofNat i0)), .val (.ref b105), .unset, .unset] [(.ref b105)])) _ _ _ _ _ _
            refine own_goW (fun _ k => XS.iconst X117.here hx rfl (hb hby at_62) k) ?_
            show own_GW _ _ _ (T117.setTop (mkF m 63 #[.val (.int p0), .val (.int p1), .val (.int p2), .val (.int (4 : Int32)), .val (.int (Int32.ofNat i0)), .val (.ref b105), .unset, .unset] [(.int (3 : Int32)), (.ref b105)])) _ _ _ _ _ _
            refine own_goW (fun _ k => XS.iloadN X117.here hx rfl (hb hby at_63) rfl k) ?_
            show own_GW _ _ _ (T117.setTop (mkF m 64 #[.val (.int p0), .val (.int p1), .val (.int p2), .val (.int (4 : Int32)), .val (.int (Int32.ofNat i0)), .val (.ref b105), .unset, .unset] [(.int p0), (.int (3 : Int32)), (.ref b105)])) _ _ _ _ _ _
            refine own_goW (fun _ k => XS.bipush X117.here hx rfl (hb hby at_64) k) ?_
            show own_GW _ _ _ (T117.setTop (mkF m 66 #[.val (.int p0), .val (.int p1), .val (.int p2), .val (.int (4 : Int32)), .val (.int (Int32.ofNat i0)), .val (.ref b105), .unset, .unset] [(.int (24 : Int32)), (.int p0), (.int (3 : Int32)), (.ref b105)])) _ _ _ _ _ _
            refine own_goW (fun _ k => XS.iushr X117.here hx rfl (hb hby at_66) rfl k) ?_
            show own_GW _ _ _ (T117.setTop (mkF m 67 #[.val (.int p0), .val (.int p1), .val (.int p2), .val (.int (4 : Int32)), .val (.int (Int32.ofNat i0)), .val (.ref b105), .unset, .unset] [(.int ((p0.toUInt32 >>> ((24 : Int32) &&& 31).toUInt32).toInt32)), (.int (3 : Int32)), (.ref b105)])) _ _ _ _ _ _
            refine own_goW (fun _ k => XS.iloadN X117.here hx rfl (hb hby at_67) rfl k) ?_
            show own_GW _ _ _ (T117.setTop (mkF m 68 #[.val (.int p0), .val (.int p1), .val (.int p2), .val (.int (4 : Int32)), .val (.int (Int32.ofNat i0)), .val (.ref b105), .unset, .unset] [(.int p2), (.int ((p0.toUInt32 >>> ((24 : Int32) &&& 31).toUInt32).toInt32)), (.int (3 : Int32)), (.ref b105)])) _ _ _ _ _ _
            refine own_goW (fun _ k => XS.iconst X117.here hx rfl (hb hby at_68) k) ?_
            show own_GW _ _ _ (T117.setTop (mkF m 69 #[.val (.int p0), .val (.int p1), .val (.int p2), .val (.int (4 : Int32)), .val (.int (Int32.ofNat i0)), .val (.ref b105), .unset, .unset] [(.int (3 : Int32)), (.int p2), (.int ((p0.toUInt32 >>> ((24 : Int32) &&& 31).toUInt32).toInt32)), (.int (3 : Int32)), (.ref b105)])) _ _ _ _ _ _
            refine own_goW (fun _ k => XS.iushr X117.here hx rfl (hb hby at_69) rfl k) ?_
            show own_GW _ _ _ (T117.setTop (mkF m 70 #[.val (.int p0), .val (.int p1), .val (.int p2), .val (.int (4 : Int32)), .val (.int (Int32.ofNat i0)), .val (.ref b105), .unset, .unset] [(.int ((p2.toUInt32 >>> ((3 : Int32) &&& 31).toUInt32).toInt32)), (.int ((p0.toUInt32 >>> ((24 : Int32) &&& 31).toUInt32).toInt32)), (.int (3 : Int32)), (.ref b105)])) _ _ _ _ _ _
            obtain ⟨_, _, ⟨T120, L120, k120, n120⟩, -, X120, ⟨Lc120, hQ120, l120, y120, z120⟩, st120⟩ := Jvm.LawKit.callS X117 hx (y := (⟨"com/example/floe/floe/rest/FramingLinesQuotedStringEndPinLaw", "draw", "(II)C"⟩ : MethodName)) hown (mvT hZ (hw _ (List.mem_of_getElem? (i := 1) rfl))) (mvT hZ (hw _ (List.mem_of_getElem? (i := 2) rfl))) (mvT hZ (hw _ (List.mem_of_getElem? (i := 3) rfl))) (mvT hZ (hw _ (List.mem_of_getElem? (i := 4) rfl))) (by decide) (backOf (W := 2) (rm1 l Z a0 hw [] ((p0.toUInt32 >>> ((24 : Int32) &&& 31).toUInt32).toInt32) ((p2.toUInt32 >>> ((3 : Int32) &&& 31).toUInt32).toInt32) h117 n0) hZ (hw _ (List.mem_of_getElem? (i := 4) rfl)) (hw _ (List.mem_of_getElem? (i := 3) rfl)) (by decide) (by decide)) (g := (mkF m 70 #[.val (.int p0), .val (.int p1), .val (.int p2), .val (.int (4 : Int32)), .val (.int (Int32.ofNat i0)), .val (.ref b105), .unset, .unset] [(.int ((p2.toUInt32 >>> ((3 : Int32) &&& 31).toUInt32).toInt32)), (.int ((p0.toUInt32 >>> ((24 : Int32) &&& 31).toUInt32).toInt32)), (.int (3 : Int32)), (.ref b105)])) rfl (by rw [hml]; rfl) (argsL := [(.int ((p0.toUInt32 >>> ((24 : Int32) &&& 31).toUInt32).toInt32)), (.int ((p2.toUInt32 >>> ((3 : Int32) &&& 31).toUInt32).toInt32))]) (rest := [(.int (3 : Int32)), (.ref b105)]) (lenOf pd_6 rfl) rfl (by show 2 * 0 + _ ≤ _; exact Nat.le_of_eq rfl) (hb hby at_70) (fun _ _ => ⟨rfl, e117, (by decide : 1 + 0 ≤ _), (by decide : 4 + 0 ≤ _)⟩)
            dsimp only [Pt.U, Pt.locs, Pt.cells, Pt.slots] at X120 l120 y120 z120 st120 hQ120
            subst l120 y120 z120
            obtain ⟨rfl, Nq120, eh120⟩ := hQ120
            have N120 := Fr.app N117 Nq120
            refine own_goW (fun _ k => st120 _ k) ?_
            show own_GW _ _ _ (T120.setTop (mkF m 73 #[.val (.int p0), .val (.int p1), .val (.int p2), .val (.int (4 : Int32)), .val (.int (Int32.ofNat i0)), .val (.ref b105), .unset, .unset] [(.int (own_draw ((p0.toUInt32 >>> ((24 : Int32) &&& 31).toUInt32).toInt32) ((p2.toUInt32 >>> ((3 : Int32) &&& 31).toUInt32).toInt32))), (.int (3 : Int32)), (.ref b105)])) _ _ _ _ _ _
            obtain ⟨x3, h_x3⟩ : ∃ z : Int32, z = (own_draw ((p0.toUInt32 >>> ((24 : Int32) &&& 31).toUInt32).toInt32) ((p2.toUInt32 >>> ((3 : Int32) &&& 31).toUInt32).toInt32)) := ⟨_, rfl⟩
            · rw [← h_x3]
              have r_x3 : ¬ x3 < 0 ∧ ¬ (255 : Int32) < x3 := by rw [h_x3]; exact own_drw _ _
              have e_x3 : nar .char x3 = x3 := own_nar8 r_x3
              show own_GW _ _ _ (T120.setTop (mkF m 73 #[.val (.int p0), .val (.int p1), .val (.int p2), .val (.int (4 : Int32)), .val (.int (Int32.ofNat i0)), .val (.ref b105), .unset, .unset] [(.int x3), (.int (3 : Int32)), (.ref b105)])) _ _ _ _ _ _
              obtain ⟨cl121, Ar121, q121, S121, Ng121, H121, G121⟩ := id f119
              have in121 : ¬ ((3 : Int32) < 0 ∨ cl121.slots.size ≤ ((3 : Int32)).toNatClampNeg) := inb_of S121 ⟨by decide, by decide⟩
              obtain ⟨T121, h121, X121, e121, W121, st121⟩ := stC X120 hx hZ eh120 Ar121 (j := (3 : Int32)) in121 (g := (mkF m 73 #[.val (.int p0), .val (.int p1), .val (.int p2), .val (.int (4 : Int32)), .val (.int (Int32.ofNat i0)), .val (.ref b105), .unset, .unset] [(.int x3), (.int (3 : Int32)), (.ref b105)])) rfl rfl (hb hby at_73)
              have N121 := Fr.snoc X121 N120 gg105
              have Zs121 : n0 ≤ h121.size := Nat.le_trans Zs117 (Keep.of_wr W121).1
              have K121_0 : Keep h0 h121 [] := K117_0.wr W121 (Or.inr sz105_0)
              have K121_1 : Keep h0 h121 [] := K117_1.wr W121 (Or.inr sz105_1)
              have f122 : Old Z n0 h121 := f118.wr W121 gg105
              have f123 : Arv Z h121 b105 k105 .char (4 : Int32) [(.int x0), (.int x1), (.int x2), (.int x3)] (.int (0 : Int32)) := (by have q := Arv.set Ar121 q121 S121 Ng121 H121 G121 (fits_nar_char _) W121 3 rfl (Nat.le_of_ble_eq_true rfl); rw [e_x3] at q; exact q)
              refine own_goW (fun _ k => st121 _ k) ?_
              show own_GW _ _ _ (T121.setTop (mkF m 74 #[.val (.int p0), .val (.int p1), .val (.int p2), .val (.int (4 : Int32)), .val (.int (Int32.ofNat i0)), .val (.ref b105), .unset, .unset] [])) _ _ _ _ _ _
              refine own_goW (fun _ k => XS.aload X121.here hx rfl (hb hby at_74) rfl rfl k) ?_
              show own_GW _ _ _ (T121.setTop (mkF m 76 #[.val (.int p0), .val (.int p1), .val (.int p2), .val (.int (4 : Int32)), .val (.int (Int32.ofNat i0)), .val (.ref b105), .unset, .unset] [(.ref b105)])) _ _ _ _ _ _
              refine own_goW (fun _ k => XS.iloadN X121.here hx rfl (hb hby at_76) rfl k) ?_
              show own_GW _ _ _ (T121.setTop (mkF m 77 #[.val (.int p0), .val (.int p1), .val (.int p2), .val (.int (4 : Int32)), .val (.int (Int32.ofNat i0)), .val (.ref b105), .unset, .unset] [(.int (4 : Int32)), (.ref b105)])) _ _ _ _ _ _
              obtain ⟨_, _, ⟨T124, L124, k124, n124⟩, -, X124, ⟨Lc124, hQ124, l124, y124, z124⟩, st124⟩ := Jvm.LawKit.callS X121 hx (y := (⟨"com/example/floe/floe/rest/FramingLinesQuotedStringEndPinLaw", "make", "([CI)Ljava/lang/String;"⟩ : MethodName)) hown (mvT hZ (hw _ (List.mem_of_getElem? (i := 5) rfl))) (mvT hZ (hw _ (List.mem_of_getElem? (i := 6) rfl))) (mvT hZ (hw _ (List.mem_of_getElem? (i := 3) rfl))) (mvT hZ (hw _ (List.mem_of_getElem? (i := 7) rfl))) (by decide) (backOf (W := 0) (rm2e l Z a0 hw [] b105 zc k105 x0 x1 x2 x3 h121 n0 Zs121 f122 P_ZS_java_lang_String_COMPACT_STRINGS hcs f123 (own_all4 r_x0 r_x1 r_x2 r_x3)) hZ (hw _ (List.mem_of_getElem? (i := 7) rfl)) (hw _ (List.mem_of_getElem? (i := 3) rfl)) (by decide) (by decide)) (g := (mkF m 77 #[.val (.int p0), .val (.int p1), .val (.int p2), .val (.int (4 : Int32)), .val (.int (Int32.ofNat i0)), .val (.ref b105), .unset, .unset] [(.int (4 : Int32)), (.ref b105)])) rfl (by rw [hml]; rfl) (argsL := [(.ref b105), (.int (4 : Int32))]) (rest := []) (lenOf pd_7 rfl) rfl (by show 2 * 0 + _ ≤ _; exact Nat.le_of_eq rfl) (hb hby at_77) (fun _ _ => ⟨rfl, e121, (by decide : 1 + 3 ≤ _), (by decide : 4 + 12 ≤ _)⟩)
              dsimp only [Pt.U, Pt.locs, Pt.cells, Pt.slots] at X124 l124 y124 z124 st124 hQ124
              subst l124 y124 z124
              obtain ⟨a124, rfl, Nq124, Kq124, r124_0⟩ := hQ124
              have N124 := Fr.app N121 Nq124
              have f125 : Old Z n0 T124.heap := f122.keep Kq124 all0
              have f126 : Arv Z T124.heap b105 k105 .char (4 : Int32) [(.int x0), (.int x1), (.int x2), (.int x3)] (.int (0 : Int32)) := f123.keep Kq124 nin0
              have Zs124 : n0 ≤ T124.heap.size := Nat.le_trans Zs121 Kq124.1
              have K124_0 : Keep h0 T124.heap [] := K121_0.trans Kq124 all0
              have K124_1 : Keep h0 T124.heap [] := K121_1.trans Kq124 all0
              refine own_goW (fun _ k => st124 _ k) ?_
              show own_GW _ _ _ (T124.setTop (mkF m 80 #[.val (.int p0), .val (.int p1), .val (.int p2), .val (.int (4 : Int32)), .val (.int (Int32.ofNat i0)), .val (.ref b105), .unset, .unset] [(.ref a124)])) _ _ _ _ _ _
              refine own_goW (fun _ k => XS.astore X124.here hx rfl (hb hby at_80) rfl rfl (l' := #[.val (.int p0), .val (.int p1), .val (.int p2), .val (.int (4 : Int32)), .val (.int (Int32.ofNat i0)), .val (.ref b105), .val (.ref a124), .unset]) rfl k) ?_
              show own_GW _ _ _ (T124.setTop (mkF m 82 #[.val (.int p0), .val (.int p1), .val (.int p2), .val (.int (4 : Int32)), .val (.int (Int32.ofNat i0)), .val (.ref b105), .val (.ref a124), .unset] [])) _ _ _ _ _ _
              refine own_goW (fun _ k => XS.aload X124.here hx rfl (hb hby at_82) rfl rfl k) ?_
              show own_GW _ _ _ (T124.setTop (mkF m 84 #[.val (.int p0), .val (.int p1), .val (.int p2), .val (.int (4 : Int32)), .val (.int (Int32.ofNat i0)), .val (.ref b105), .val (.ref a124), .unset] [(.ref a124)])) _ _ _ _ _ _
              refine own_goW (fun _ k => XS.iload X124.here hx rfl (hb hby at_84) rfl k) ?_
              show own_GW _ _ _ (T124.setTop (mkF m 86 #[.val (.int p0), .val (.int p1), .val (.int p2), .val (.int (4 : Int32)), .val (.int (Int32.ofNat i0)), .val (.ref b105), .val (.ref a124), .unset] [(.int (Int32.ofNat i0)), (.ref a124)])) _ _ _ _ _ _
              obtain ⟨_, _, ⟨T127, L127, k127, n127⟩, -, X127, ⟨Lc127, hQ127, l127, y127, z127⟩, st127⟩ := Jvm.LawKit.callS X124 hx (y := (⟨"com/example/floe/floe/rest/FramingLines", "quotedStringEnd", "(Ljava/lang/String;I)I"⟩ : MethodName)) hown (mvT hZ (hw _ (List.mem_of_getElem? (i := 37) rfl))) (mvT hZ (hw _ (List.mem_of_getElem? (i := 38) rfl))) (mvT hZ (hw _ (List.mem_of_getElem? (i := 39) rfl))) (mvT hZ (hw _ (List.mem_of_getElem? (i := 40) rfl))) (by decide) (backOf (W := 0) (rm9 l Z a0 hw [] a124 ([x0, x1, x2, x3] : List Int32) i0 zc fm T124.heap n0 Zs124 f125 P_ZS_java_lang_String_COMPACT_STRINGS hcs P_ZS_jdk_internal_util_Preconditions_SIOOBE_FORMATTER hfm r124_0 (by simp) (by omega)) hZ (hw _ (List.mem_of_getElem? (i := 40) rfl)) (hw _ (List.mem_of_getElem? (i := 39) rfl)) (by decide) (by decide)) (g := (mkF m 86 #[.val (.int p0), .val (.int p1), .val (.int p2), .val (.int (4 : Int32)), .val (.int (Int32.ofNat i0)), .val (.ref b105), .val (.ref a124), .unset] [(.int (Int32.ofNat i0)), (.ref a124)])) rfl (by rw [hml]; rfl) (argsL := [(.ref a124), (.int (Int32.ofNat i0))]) (rest := []) (lenOf pd_8 rfl) rfl (by show 2 * 0 + _ ≤ _; exact Nat.le_of_eq rfl) (hb hby at_86) (fun _ _ => ⟨rfl, rfl, (by decide : 4 + 0 ≤ _), (by decide : 16 + 0 ≤ _)⟩)
              dsimp only [Pt.U, Pt.locs, Pt.cells, Pt.slots] at X127 l127 y127 z127 st127 hQ127
              subst l127 y127 z127
              obtain ⟨rfl, Nq127, eh127⟩ := hQ127
              have N127 := Fr.app N124 Nq127
              refine own_goW (fun _ k => st127 _ k) ?_
              show own_GW _ _ _ (T127.setTop (mkF m 89 #[.val (.int p0), .val (.int p1), .val (.int p2), .val (.int (4 : Int32)), .val (.int (Int32.ofNat i0)), .val (.ref b105), .val (.ref a124), .unset] [(.int (own_qse ([x0, x1, x2, x3] : List Int32) i0))])) _ _ _ _ _ _
              refine own_goW (fun _ k => XS.istore X127.here hx rfl (hb hby at_89) rfl (l' := #[.val (.int p0), .val (.int p1), .val (.int p2), .val (.int (4 : Int32)), .val (.int (Int32.ofNat i0)), .val (.ref b105), .val (.ref a124), .val (.int (own_qse ([x0, x1, x2, x3] : List Int32) i0))]) rfl k) ?_
              show own_GW _ _ _ (T127.setTop (mkF m 91 #[.val (.int p0), .val (.int p1), .val (.int p2), .val (.int (4 : Int32)), .val (.int (Int32.ofNat i0)), .val (.ref b105), .val (.ref a124), .val (.int (own_qse ([x0, x1, x2, x3] : List Int32) i0))] [])) _ _ _ _ _ _
              refine own_goW (fun _ k => XS.iload X127.here hx rfl (hb hby at_91) rfl k) ?_
              show own_GW _ _ _ (T127.setTop (mkF m 93 #[.val (.int p0), .val (.int p1), .val (.int p2), .val (.int (4 : Int32)), .val (.int (Int32.ofNat i0)), .val (.ref b105), .val (.ref a124), .val (.int (own_qse ([x0, x1, x2, x3] : List Int32) i0))] [(.int (own_qse ([x0, x1, x2, x3] : List Int32) i0))])) _ _ _ _ _ _
              refine own_goW (fun _ k => XS.aload X127.here hx rfl (hb hby at_93) rfl rfl k) ?_
              show own_GW _ _ _ (T127.setTop (mkF m 95 #[.val (.int p0), .val (.int p1), .val (.int p2), .val (.int (4 : Int32)), .val (.int (Int32.ofNat i0)), .val (.ref b105), .val (.ref a124), .val (.int (own_qse ([x0, x1, x2, x3] : List Int32) i0))] [(.ref b105), (.int (own_qse ([x0, x1, x2, x3] : List Int32) i0))])) _ _ _ _ _ _
              refine own_goW (fun _ k => XS.iloadN X127.here hx rfl (hb hby at_95) rfl k) ?_
              show own_GW _ _ _ (T127.setTop (mkF m 96 #[.val (.int p0), .val (.int p1), .val (.int p2), .val (.int (4 : Int32)), .val (.int (Int32.ofNat i0)), .val (.ref b105), .val (.ref a124), .val (.int (own_qse ([x0, x1, x2, x3] : List Int32) i0))] [(.int (4 : Int32)), (.ref b105), (.int (own_qse ([x0, x1, x2, x3] : List Int32) i0))])) _ _ _ _ _ _
              refine own_goW (fun _ k => XS.iload X127.here hx rfl (hb hby at_96) rfl k) ?_
              show own_GW _ _ _ (T127.setTop (mkF m 98 #[.val (.int p0), .val (.int p1), .val (.int p2), .val (.int (4 : Int32)), .val (.int (Int32.ofNat i0)), .val (.ref b105), .val (.ref a124), .val (.int (own_qse ([x0, x1, x2, x3] : List Int32) i0))] [(.int (Int32.ofNat i0)), (.int (4 : Int32)), (.ref b105), (.int (own_qse ([x0, x1, x2, x3] : List Int32) i0))])) _ _ _ _ _ _
              obtain ⟨_, _, ⟨T128, L128, k128, n128⟩, -, X128, ⟨Lc128, hQ128, l128, y128, z128⟩, st128⟩ := Jvm.LawKit.callS X127 hx (y := (⟨"com/example/floe/floe/rest/FramingLinesQuotedStringEndPinLaw", "expected", "([CII)I"⟩ : MethodName)) hown (mvT hZ (hw _ (List.mem_of_getElem? (i := 73) rfl))) (mvT hZ (hw _ (List.mem_of_getElem? (i := 74) rfl))) (mvT hZ (hw _ (List.mem_of_getElem? (i := 3) rfl))) (mvT hZ (hw _ (List.mem_of_getElem? (i := 75) rfl))) (by decide) (backOf (W := 1) (rm17 l Z a0 hw [] b105 (4 : Int32) (Int32.ofNat i0) k105 x0 x1 x2 x3 T124.heap n0 Zs124 f126 (by decide) (own_i0 hi5).1 (own_i0 hi5).2) hZ (hw _ (List.mem_of_getElem? (i := 75) rfl)) (hw _ (List.mem_of_getElem? (i := 3) rfl)) (by decide) (by decide)) (g := (mkF m 98 #[.val (.int p0), .val (.int p1), .val (.int p2), .val (.int (4 : Int32)), .val (.int (Int32.ofNat i0)), .val (.ref b105), .val (.ref a124), .val (.int (own_qse ([x0, x1, x2, x3] : List Int32) i0))] [(.int (Int32.ofNat i0)), (.int (4 : Int32)), (.ref b105), (.int (own_qse ([x0, x1, x2, x3] : List Int32) i0))])) rfl (by rw [hml]; rfl) (argsL := [(.ref b105), (.int (4 : Int32)), (.int (Int32.ofNat i0))]) (rest := [(.int (own_qse ([x0, x1, x2, x3] : List Int32) i0))]) (lenOf pd_5 rfl) rfl (by show 2 * 0 + _ ≤ _; exact Nat.le_of_eq rfl) (hb hby at_98) (fun _ _ => ⟨rfl, eh127, (by decide : 4 + 0 ≤ _), (by decide : 16 + 0 ≤ _)⟩)
              dsimp only [Pt.U, Pt.locs, Pt.cells, Pt.slots] at X128 l128 y128 z128 st128 hQ128
              subst l128 y128 z128
              obtain ⟨rfl, Nq128, eh128⟩ := hQ128
              have N128 := Fr.app N127 Nq128
              refine own_goW (fun _ k => st128 _ k) ?_
              show own_GW _ _ _ (T128.setTop (mkF m 101 #[.val (.int p0), .val (.int p1), .val (.int p2), .val (.int (4 : Int32)), .val (.int (Int32.ofNat i0)), .val (.ref b105), .val (.ref a124), .val (.int (own_qse ([x0, x1, x2, x3] : List Int32) i0))] [(.int (own_expd (4 : Int32) (Int32.ofNat i0) x0 x1 x2 x3)), (.int (own_qse ([x0, x1, x2, x3] : List Int32) i0))])) _ _ _ _ _ _
              have hc129 : (own_qse ([x0, x1, x2, x3] : List Int32) i0) = (own_expd (4 : Int32) (Int32.ofNat i0) x0 x1 x2 x3) := own_same4 x0 x1 x2 x3 i0 hi5
              refine own_goW (fun _ k => XS.icmpNo X128.here hx rfl (hb hby at_101) rfl (teq hc129).2 k) ?_
              show own_GW _ _ _ (T128.setTop (mkF m 104 #[.val (.int p0), .val (.int p1), .val (.int p2), .val (.int (4 : Int32)), .val (.int (Int32.ofNat i0)), .val (.ref b105), .val (.ref a124), .val (.int (own_qse ([x0, x1, x2, x3] : List Int32) i0))] [])) _ _ _ _ _ _
              refine own_goW (fun _ k => XS.iconst X128.here hx rfl (hb hby at_104) k) ?_
              show own_GW _ _ _ (T128.setTop (mkF m 105 #[.val (.int p0), .val (.int p1), .val (.int p2), .val (.int (4 : Int32)), .val (.int (Int32.ofNat i0)), .val (.ref b105), .val (.ref a124), .val (.int (own_qse ([x0, x1, x2, x3] : List Int32) i0))] [(.int (1 : Int32))])) _ _ _ _ _ _
              refine own_goW (fun _ k => XS.goto X128.here hx rfl (pc0 := 105) (pc' := 109) rfl (hb hby at_105) (by decide) (by decide) k) ?_
              show own_GW _ _ _ (T128.setTop (mkF m 109 #[.val (.int p0), .val (.int p1), .val (.int p2), .val (.int (4 : Int32)), .val (.int (Int32.ofNat i0)), .val (.ref b105), .val (.ref a124), .val (.int (own_qse ([x0, x1, x2, x3] : List Int32) i0))] [(.int (1 : Int32))])) _ _ _ _ _ _
              have CQ130 := CR0.trans (CHr.keep K124_1 all0 CR0.1)
              have CE130 : CHr Z own_EL s.vm s.heap T128.vm T128.heap := by rw [hh, show T128.heap = T124.heap from eh128]; exact CQ130.trans (CHv.at X128 hZ (own_EW hw) CQ130.1)
              exact own_endWN X128 hx hlk (t := .boolean) Bd.returns (by simp) (hb hby at_109) hS0 (show _ ≤ T128.heap.size by rw [show T128.heap = T124.heap from eh128]; exact (Nat.le_trans hk0 K124_1.1)) (by decide) (by decide) CE130 (Q := (Q0 Z p0 p1 p2 zc fm h0 n0)) (by rw [eh128]; exact ⟨rfl, N128, K124_0⟩)
set_option maxRecDepth 65536 in
set_option maxHeartbeats 40000000 in
theorem comes_1 {Post : Tables → Env → Array Value → State → Outcome → State → Prop} (hpost : ∀ tb e args s v u, (limb_1_1.after args s (.returned v) u = true ∧ limb_1_2.after args s (.returned v) u = true ∧ True) → ReturnedEndW s (.returned v) u (Jvm.fieldLocs frame_1_writes args s ++ Jvm.arrayLocs frame_1_arrays args s ++ Jvm.staticLocs frame_1_statics s) 24 1152 → Post tb e args s (.returned v) u) :
    ArmFor flags0 classFile x code maxLocals ret World_1 tables_1 room_1 Calls_1 rest_1 Pre_1 Post := by
  intro l hfl _ _ p e ha hc hk s m args below hf hA hF happ hP
  obtain ⟨hcalls, hrest, hpre⟩ := hP
  obtain ⟨-, -, -, hnamed, -, -, -, hat⟩ := (Spec.applies_iff hf).mp happ
  obtain ⟨hg, hn⟩ := and_e (Cond.before_iff.mp (show (Jvm.Cond.and given_1 narrow_1).before args s = true from hpre))
  obtain ⟨g0, hg1⟩ := and_e hg
  obtain ⟨a0, r0⟩ := and_e hg1
  obtain ⟨a1, r1⟩ := and_e r0
  obtain ⟨w0, w1, w2, rfl⟩ : ∃ w0 w1 w2 : Value, args = #[w0, w1, w2] := by
    have hs : args.size = 3 := by simpa [Cond.value, given_1] using g0
    obtain ⟨L⟩ := args
    match L, hs with
    | [w0, w1, w2], _ => exact ⟨w0, w1, w2, rfl⟩
  have hw := fun d (hd : d ∈ tables_1) => atoms_spec (ws := Jvm.Cond.code x code maxLocals ret :: tables_1) hat d (List.mem_cons_of_mem _ hd)
  have hfit : Fit s := fun {y c} hc i hi => by
    obtain ⟨ha, rfl⟩ := Array.getElem?_eq_some_iff.mp hc
    have q := List.all_eq_true.mp ((Array.all_eq_true_iff_forall_mem.mp hF) _ (Array.getElem_mem ha)) i (List.mem_range.mpr hi)
    simpa [Array.getElem?_eq_getElem hi] using q
  obtain ⟨i0, ei0⟩ := is_v a0
  obtain rfl : w0 = (.int i0) := Option.some.inj ei0
  obtain ⟨i1, ei1⟩ := is_v a1
  obtain rfl : w1 = (.int i1) := Option.some.inj ei1
  obtain ⟨i2, ei2⟩ := is_v r1
  obtain rfl : w2 = (.int i2) := Option.some.inj ei2
  obtain ⟨hsets, hown0⟩ := atoms_of _ (rest_1_c_eq ▸ (show rest_1_c.before _ s = true from hrest))
  have n5 := not_v (Cond.before_iff.mp (hsets _ (List.mem_of_getElem? (i := 2) rfl)))
  obtain ⟨zc, ez⟩ := is_v (Cond.before_iff.mp (hsets _ (List.mem_of_getElem? (i := 1) rfl)))
  have SZ : Sta s s.heap "java/lang/String" "COMPACT_STRINGS" "Z" (.int zc) := Sta.start ez (Or.inl (hsets _ (List.mem_of_getElem? (i := 0) rfl)))
  have hz : ¬ (zc = (0 : Int32)) := gotF (Cond.eq_ints ez (Term.int_eval (0))) n5
  obtain ⟨fm, ef, rf⟩ := isR_v (Cond.before_iff.mp (hsets _ (List.mem_of_getElem? (i := 8) rfl)))
  have SF : Sta s s.heap "jdk/internal/util/Preconditions" "SIOOBE_FORMATTER" "Ljava/util/function/BiFunction;" fm := Sta.start ef (Or.inl (hsets _ (List.mem_of_getElem? (i := 7) rfl)))
  obtain ⟨hcl, -⟩ := hcalls
  have hCH : CHv s own_EL s.vm s.heap := CHv.start (own_EW hw) (fun p hp => hcl p hp) (hsets _ (List.mem_of_getElem? (i := 2) rfl)) (hw _ (List.mem_of_getElem? (i := 26) rfl)) (hw _ (List.mem_of_getElem? (i := 9) rfl))
  obtain ⟨n, o, h1, h2, h3, _, L, rfl, ⟨rfl, N, -⟩, -, hq⟩ := rm0 l s _ hw tables_1 i0 i1 i2 zc fm s.heap s.heap.size (Nat.le_refl _) (Old.start s) SZ hz SF rf p e ha hc hk s m _ below hf ((Spec.applies_iff_loose hf).mp happ).1 ⟨rfl, State.Warmed39.refl s, rfl, hCH⟩ trivial
  refine ⟨n, _, h1, h2, h3, hpost _ _ _ _ _ _ ⟨Cond.after_iff.mpr rfl, Cond.after_iff.mpr (eq_i res_at (Term.int_eval (1)) (rfl)), trivial⟩ ⟨hq.1, hq.2.1, hq.2.2.1, (hq.2.2.2.sift fun y hy => Or.inr (N y hy)).mono (by decide) (by decide)⟩⟩
theorem main_1_1 : Claimed_1_1 := comes_1 fun _ _ _ _ _ _ h hF => ⟨h.1, hF⟩
theorem main_1_2 : Claimed_1_2 := comes_1 fun _ _ _ _ _ _ h hF => ⟨h.2.1, hF⟩
end Jvm.Pilot.@@N@@
namespace Jvm.Pilot.@@N@@
open Jvm Jvm.ClassFile Sem Op Lib Jvm.Free Jvm.Stand Jvm.Pilot.@@N@@.Jvm.D
/-! MADE BY PROGRAM (witnessworld.py) out of the Statement's table words and the real class files: 20 classes; the members and pool entries that the words name. The judged class is class 1, her method 1. -/
namespace start1
open Jvm.ClassFile
def u (s : String) : CpInfo := .utf8 (stringToUtf16 s)
/-- a pool by its gaps: so many unusable entries, then the entry; so many at the end -/
def gap : Nat → List CpInfo → List CpInfo
  | 0, r => r
  | n + 1, r => .unusable :: gap n r
def poolList (es : List (Nat × CpInfo)) (last : Nat) : List CpInfo := es.foldr (fun e r => gap e.1 (e.2 :: r)) (gap last [])
def pool (es : List (Nat × CpInfo)) (last : Nat) : Array CpInfo := ⟨poolList es last⟩
def fileOf (pool : Array CpInfo) (this : Nat) (attrs : Array Attribute := #[]) (ms : Array MethodInfo := #[]) (fl : Nat := 33) (sup : Nat := 0) (ifs : Array Nat := #[]) (fds : Array FieldInfo := #[]) : ClassFile where
  minorVersion := 0
  majorVersion := 65
  constantPool := pool
  accessFlags := fl
  thisClass := this
  superClass := sup
  interfaces := ifs
  fields := fds
  methods := ms
  attributes := attrs
def plain (name : String) (sup : Option ClassId) : Class where
  name := name
  kind := .ordinary
  loader := none
  accessFlags := 33
  super := sup
  interfaces := #[]
  cf := none
  fields := #[]
  methods := #[]
  instanceTypes := #[]
  staticTypes := #[]
  resolved := #[]
  callSites := []
  init := .initialized
  statics := none
  mirror := none

def pool0 : Array CpInfo := pool [(5, u "<init>"), (0, u "()V"), (1, .class_ 10), (1, u "java/lang/Object")] 113

def k0c0 : Code := { maxStack := 0, maxLocals := 1, code := object_method_1_code, exceptionTable := #[], attributes := #[] }
def k0m0 : Method := { name := "<init>", desc := "()V", sig := { parameters := [], returnType := none }, accessFlags := 1, code := some k0c0 }
/-- java/lang/Object -/
def k0 : Class := { plain "java/lang/Object" none with
  accessFlags := 33
  interfaces := #[]
  cf := some (fileOf pool0 8 #[] #[{ accessFlags := 1, nameIndex := 5, descriptorIndex := 6, attributes := #[] }] 33 0 #[] #[])
  fields := #[]
  methods := #[k0m0]
  instanceTypes := #[]
  staticTypes := #[]
  resolved := Array.replicate 124 none
  statics := none }

def pool1 : Array CpInfo := pool [(2, .class_ 4), (1, u "java/lang/Object"), (0, u "<init>"), (0, u "()V"), (0, .methodref 8 9), (0, .class_ 10), (0, .nameAndType 11 12), (0, u "com/example/floe/floe/rest/FramingLinesQuotedStringEndPinLaw"), (0, u "draw"), (0, u "(II)C"), (0, .methodref 8 14), (0, .nameAndType 15 16), (0, u "make"), (0, u "([CI)Ljava/lang/String;"), (0, .methodref 18 19), (0, .class_ 20), (0, .nameAndType 21 22), (0, u "com/example/floe/floe/rest/FramingLines"), (0, u "quotedStringEnd"), (0, u "(Ljava/lang/String;I)I"), (0, .methodref 8 24), (0, .nameAndType 25 26), (0, u "expected"), (0, u "([CII)I"), (0, .string 28), (0, u ""), (0, .class_ 30), (0, u "java/lang/String"), (0, .methodref 29 32), (0, .nameAndType 5 33), (0, u "([C)V"), (0, .methodref 8 35), (0, .nameAndType 36 37), (0, u "ctl"), (0, u "(C)Z"), (0, .methodref 8 39), (0, .nameAndType 40 26), (0, u "unit"), (2, u "law"), (0, u "(III)Z")] 5

def k1m0 : Method := { name := "<init>", desc := "()V", sig := { parameters := [], returnType := none }, accessFlags := 1, code := none }
def k1c1 : Code := { maxStack := 5, maxLocals := 8, code := code, exceptionTable := #[], attributes := #[] }
def k1m1 : Method := { name := "law", desc := "(III)Z", sig := { parameters := [.int, .int, .int], returnType := some .boolean }, accessFlags := 9, code := some k1c1 }
def k1c2 : Code := { maxStack := 2, maxLocals := 4, code := method_3_code, exceptionTable := #[], attributes := #[] }
def k1m2 : Method := { name := "draw", desc := "(II)C", sig := { parameters := [.int, .int], returnType := some .char }, accessFlags := 10, code := some k1c2 }
def k1c3 : Code := { maxStack := 7, maxLocals := 2, code := method_4_code, exceptionTable := #[], attributes := #[] }
def k1m3 : Method := { name := "make", desc := "([CI)Ljava/lang/String;", sig := { parameters := [(.array .char), .int], returnType := some (.object "java/lang/String") }, accessFlags := 10, code := some k1c3 }
def k1c4 : Code := { maxStack := 2, maxLocals := 1, code := method_5_code, exceptionTable := #[], attributes := #[] }
def k1m4 : Method := { name := "ctl", desc := "(C)Z", sig := { parameters := [.char], returnType := some .boolean }, accessFlags := 10, code := some k1c4 }
def k1c5 : Code := { maxStack := 3, maxLocals := 4, code := method_6_code, exceptionTable := #[], attributes := #[] }
def k1m5 : Method := { name := "unit", desc := "([CII)I", sig := { parameters := [(.array .char), .int, .int], returnType := some .int }, accessFlags := 10, code := some k1c5 }
def k1c6 : Code := { maxStack := 3, maxLocals := 5, code := method_7_code, exceptionTable := #[], attributes := #[] }
def k1m6 : Method := { name := "expected", desc := "([CII)I", sig := { parameters := [(.array .char), .int, .int], returnType := some .int }, accessFlags := 10, code := some k1c6 }
/-- com/example/floe/floe/rest/FramingLinesQuotedStringEndPinLaw -/
def k1 : Class := { plain "com/example/floe/floe/rest/FramingLinesQuotedStringEndPinLaw" (some 0) with
  accessFlags := 49
  interfaces := #[]
  cf := some (fileOf pool1 8 #[] #[{ accessFlags := 1, nameIndex := 5, descriptorIndex := 6, attributes := #[] }, { accessFlags := 9, nameIndex := 43, descriptorIndex := 44, attributes := #[] }, { accessFlags := 10, nameIndex := 11, descriptorIndex := 12, attributes := #[] }, { accessFlags := 10, nameIndex := 15, descriptorIndex := 16, attributes := #[] }, { accessFlags := 10, nameIndex := 36, descriptorIndex := 37, attributes := #[] }, { accessFlags := 10, nameIndex := 40, descriptorIndex := 26, attributes := #[] }, { accessFlags := 10, nameIndex := 25, descriptorIndex := 26, attributes := #[] }] 49 2 #[] #[])
  fields := #[]
  methods := #[k1m0, k1m1, k1m2, k1m3, k1m4, k1m5, k1m6]
  instanceTypes := #[]
  staticTypes := #[]
  resolved := Array.replicate 50 none
  statics := none }

def pool2 : Array CpInfo := pool [(1, .class_ 2), (0, u "java/io/Serializable"), (0, .class_ 4), (0, u "java/lang/Object")] 2

/-- java/io/Serializable -/
def k2 : Class := { plain "java/io/Serializable" (some 0) with
  accessFlags := 1537
  interfaces := #[]
  cf := some (fileOf pool2 1 #[] #[] 1537 3 #[] #[])
  fields := #[]
  methods := #[]
  instanceTypes := #[]
  staticTypes := #[]
  resolved := Array.replicate 7 none
  statics := none }

def pool3 : Array CpInfo := pool [(1, .class_ 2), (0, u "java/lang/Comparable"), (0, .class_ 4), (0, u "java/lang/Object")] 7

/-- java/lang/Comparable -/
def k3 : Class := { plain "java/lang/Comparable" (some 0) with
  accessFlags := 1537
  interfaces := #[]
  cf := some (fileOf pool3 1 #[] #[] 1537 3 #[] #[])
  fields := #[]
  methods := #[]
  instanceTypes := #[]
  staticTypes := #[]
  resolved := Array.replicate 12 none
  statics := none }

def pool4 : Array CpInfo := pool [(2, .class_ 4), (1, u "java/lang/CharSequence"), (42, .class_ 48), (0, u "java/lang/CharSequence$1CodePointIterator"), (10, .class_ 60), (0, u "java/lang/CharSequence$1CharIterator"), (5, .class_ 67), (0, u "java/lang/Object")] 63

/-- java/lang/CharSequence -/
def k4 : Class := { plain "java/lang/CharSequence" (some 0) with
  accessFlags := 1537
  interfaces := #[]
  cf := some (fileOf pool4 2 #[.nestMembers #[47, 59]] #[] 1537 66 #[] #[])
  fields := #[]
  methods := #[]
  instanceTypes := #[]
  staticTypes := #[]
  resolved := Array.replicate 131 none
  statics := none }

def pool5 : Array CpInfo := pool [(1, .class_ 2), (0, u "java/lang/constant/Constable"), (0, .class_ 4), (0, u "java/lang/Object")] 6

/-- java/lang/constant/Constable -/
def k5 : Class := { plain "java/lang/constant/Constable" (some 0) with
  accessFlags := 1537
  interfaces := #[]
  cf := some (fileOf pool5 1 #[] #[] 1537 3 #[] #[])
  fields := #[]
  methods := #[]
  instanceTypes := #[]
  staticTypes := #[]
  resolved := Array.replicate 11 none
  statics := none }

def pool6 : Array CpInfo := pool [(1, .class_ 2), (0, u "java/lang/constant/ConstantDesc"), (0, .class_ 4), (0, u "java/lang/Object")] 32

/-- java/lang/constant/ConstantDesc -/
def k6 : Class := { plain "java/lang/constant/ConstantDesc" (some 0) with
  accessFlags := 1537
  interfaces := #[]
  cf := some (fileOf pool6 1 #[] #[] 1537 3 #[] #[])
  fields := #[]
  methods := #[]
  instanceTypes := #[]
  staticTypes := #[]
  resolved := Array.replicate 37 none
  statics := none }

def pool7 : Array CpInfo := pool [(1, .methodref 2 3), (0, .class_ 4), (0, .nameAndType 5 6), (0, u "java/lang/Object"), (0, u "<init>"), (0, u "()V"), (2, .fieldref 10 11), (0, .class_ 12), (0, .nameAndType 13 14), (0, u "java/lang/String"), (0, u "value"), (0, u "[B"), (0, .fieldref 10 16), (0, .nameAndType 17 18), (0, u "coder"), (0, u "B"), (2, u "hash"), (0, u "I"), (2, u "hashIsZero"), (0, u "Z"), (0, .methodref 10 28), (0, .nameAndType 5 29), (0, u "([CIILjava/lang/Void;)V"), (8, .fieldref 10 39), (0, .nameAndType 40 26), (0, u "COMPACT_STRINGS"), (1, .class_ 44), (1, u "java/lang/StringUTF16"), (0, u "compress"), (1, .methodref 42 48), (0, .nameAndType 49 50), (0, u "coderFromArrayLen"), (0, u "([BI)B"), (56, .class_ 109), (1, u "java/lang/StringLatin1"), (32, u "()Z"), (34, .methodref 42 178), (0, .nameAndType 45 179), (0, u "([CII)[B"), (154, u "()I"), (0, .methodref 10 336), (0, .nameAndType 17 337), (0, u "()B"), (25, u "([BI)C"), (27, u "(II)V"), (35, u "(I)C"), (64, .methodref 10 493), (0, .nameAndType 494 142), (0, u "isLatin1"), (0, .methodref 107 496), (0, .nameAndType 497 363), (0, u "charAt"), (3, u "checkIndex"), (5, u "length"), (67, .class_ 576), (0, u "java/lang/CharSequence"), (22, u "CASE_INSENSITIVE_ORDER"), (0, u "Ljava/util/Comparator;"), (409, u "([C)V"), (42, .fieldref 1054 1055), (0, .class_ 1056), (0, .nameAndType 1057 1058), (0, u "jdk/internal/util/Preconditions"), (0, u "SIOOBE_FORMATTER"), (0, u "Ljava/util/function/BiFunction;"), (0, .methodref 1054 1060), (0, .nameAndType 501 1061), (0, u "(IILjava/util/function/BiFunction;)I"), (39, u "serialPersistentFields"), (0, u "[Ljava/io/ObjectStreamField;"), (0, .class_ 1104), (0, u "java/lang/String$CaseInsensitiveComparator"), (1, .class_ 1107), (0, u "java/io/Serializable"), (0, .class_ 1109), (0, u "java/lang/Comparable"), (0, .class_ 1111), (0, u "java/lang/constant/Constable"), (0, .class_ 1113), (0, u "java/lang/constant/ConstantDesc"), (2, u "serialVersionUID"), (0, u "J"), (3, u "REPL"), (0, u "C"), (2, u "LATIN1"), (1, u "UTF16")] 323

def k7m0 : Method := { name := "<init>", desc := "()V", sig := { parameters := [], returnType := none }, accessFlags := 1, code := none }
def k7c1 : Code := { maxStack := 5, maxLocals := 2, code := jdk_42_method_3_code, exceptionTable := #[], attributes := #[] }
def k7m1 : Method := { name := "<init>", desc := "([C)V", sig := { parameters := [(.array .char)], returnType := none }, accessFlags := 1, code := some k7c1 }
def k7c2 : Code := { maxStack := 2, maxLocals := 1, code := jdk_42_method_54_code, exceptionTable := #[], attributes := #[] }
def k7m2 : Method := { name := "length", desc := "()I", sig := { parameters := [], returnType := some .int }, accessFlags := 1, code := some k7c2 }
def k7c3 : Code := { maxStack := 2, maxLocals := 2, code := jdk_42_method_56_code, exceptionTable := #[], attributes := #[] }
def k7m3 : Method := { name := "charAt", desc := "(I)C", sig := { parameters := [.int], returnType := some .char }, accessFlags := 1, code := some k7c3 }
def k7c4 : Code := { maxStack := 4, maxLocals := 6, code := jdk_42_method_149_code, exceptionTable := #[], attributes := #[] }
def k7m4 : Method := { name := "<init>", desc := "([CIILjava/lang/Void;)V", sig := { parameters := [(.array .char), .int, .int, (.object "java/lang/Void")], returnType := none }, accessFlags := 2, code := some k7c4 }
def k7c5 : Code := { maxStack := 1, maxLocals := 1, code := jdk_42_method_152_code, exceptionTable := #[], attributes := #[] }
def k7m5 : Method := { name := "coder", desc := "()B", sig := { parameters := [], returnType := some .byte }, accessFlags := 0, code := some k7c5 }
def k7c6 : Code := { maxStack := 1, maxLocals := 1, code := jdk_42_method_154_code, exceptionTable := #[], attributes := #[] }
def k7m6 : Method := { name := "isLatin1", desc := "()Z", sig := { parameters := [], returnType := some .boolean }, accessFlags := 0, code := some k7c6 }
def k7c7 : Code := { maxStack := 3, maxLocals := 2, code := jdk_42_method_155_code, exceptionTable := #[], attributes := #[] }
def k7m7 : Method := { name := "checkIndex", desc := "(II)V", sig := { parameters := [.int, .int], returnType := none }, accessFlags := 8, code := some k7c7 }
/-- java/lang/String -/
def k7 : Class := { plain "java/lang/String" (some 0) with
  accessFlags := 49
  interfaces := #[2, 3, 4, 5, 6]
  cf := some (fileOf pool7 10 #[.nestMembers #[1103]] #[{ accessFlags := 1, nameIndex := 5, descriptorIndex := 6, attributes := #[] }, { accessFlags := 1, nameIndex := 5, descriptorIndex := 1010, attributes := #[] }, { accessFlags := 1, nameIndex := 507, descriptorIndex := 334, attributes := #[] }, { accessFlags := 1, nameIndex := 497, descriptorIndex := 427, attributes := #[] }, { accessFlags := 2, nameIndex := 5, descriptorIndex := 29, attributes := #[] }, { accessFlags := 0, nameIndex := 17, descriptorIndex := 337, attributes := #[] }, { accessFlags := 0, nameIndex := 494, descriptorIndex := 142, attributes := #[] }, { accessFlags := 8, nameIndex := 501, descriptorIndex := 391, attributes := #[] }] 49 2 #[1106, 1108, 575, 1110, 1112] #[{ accessFlags := 18, nameIndex := 13, descriptorIndex := 14, attributes := #[] }, { accessFlags := 18, nameIndex := 17, descriptorIndex := 18, attributes := #[] }, { accessFlags := 2, nameIndex := 21, descriptorIndex := 22, attributes := #[] }, { accessFlags := 2, nameIndex := 25, descriptorIndex := 26, attributes := #[] }, { accessFlags := 26, nameIndex := 1116, descriptorIndex := 1117, attributes := #[] }, { accessFlags := 24, nameIndex := 40, descriptorIndex := 26, attributes := #[] }, { accessFlags := 26, nameIndex := 1101, descriptorIndex := 1102, attributes := #[] }, { accessFlags := 26, nameIndex := 1121, descriptorIndex := 1122, attributes := #[] }, { accessFlags := 25, nameIndex := 599, descriptorIndex := 600, attributes := #[] }, { accessFlags := 24, nameIndex := 1125, descriptorIndex := 18, attributes := #[] }, { accessFlags := 24, nameIndex := 1127, descriptorIndex := 18, attributes := #[] }])
  fields := #[{ name := "value", type := (.array .byte), accessFlags := 18, slot := 0, constantValue := 0 }, { name := "coder", type := .byte, accessFlags := 18, slot := 1, constantValue := 0 }, { name := "hash", type := .int, accessFlags := 2, slot := 2, constantValue := 0 }, { name := "hashIsZero", type := .boolean, accessFlags := 2, slot := 3, constantValue := 0 }, { name := "serialVersionUID", type := .long, accessFlags := 26, slot := 0, constantValue := 0 }, { name := "COMPACT_STRINGS", type := .boolean, accessFlags := 24, slot := 1, constantValue := 0 }, { name := "serialPersistentFields", type := (.array (.object "java/io/ObjectStreamField")), accessFlags := 26, slot := 2, constantValue := 0 }, { name := "REPL", type := .char, accessFlags := 26, slot := 3, constantValue := 0 }, { name := "CASE_INSENSITIVE_ORDER", type := (.object "java/util/Comparator"), accessFlags := 25, slot := 4, constantValue := 0 }, { name := "LATIN1", type := .byte, accessFlags := 24, slot := 5, constantValue := 0 }, { name := "UTF16", type := .byte, accessFlags := 24, slot := 6, constantValue := 0 }]
  methods := #[k7m0, k7m1, k7m2, k7m3, k7m4, k7m5, k7m6, k7m7]
  instanceTypes := #[(.array .byte), .byte, .int, .boolean]
  staticTypes := #[.long, .boolean, (.array (.object "java/io/ObjectStreamField")), .char, (.object "java/util/Comparator"), .byte, .byte]
  resolved := Array.replicate 1451 none
  statics := some 0 }

def pool8 : Array CpInfo := pool [(6, .class_ 8), (1, u "java/lang/Object"), (0, u "<init>"), (0, u "()V"), (1, .class_ 14), (1, u "java/lang/StringUTF16"), (31, u "$assertionsDisabled"), (0, u "Z"), (13, u "HI_BYTE_SHIFT"), (0, u "I"), (2, u "LO_BYTE_SHIFT"), (49, .methodref 12 116), (0, .nameAndType 117 118), (0, u "compress"), (0, u "([CI[BII)I"), (3, u "([CII)[B"), (138, u "coderFromArrayLen"), (0, u "([BI)B"), (106, .class_ 371), (1, u "java/lang/StringUTF16$LinesSpliterator"), (58, u "MAX_LENGTH"), (196, .class_ 628), (0, u "java/lang/StringUTF16$CodePointsSpliterator"), (0, .class_ 630), (0, u "java/lang/StringUTF16$CharsSpliterator")] 4

def k8m0 : Method := { name := "<init>", desc := "()V", sig := { parameters := [], returnType := none }, accessFlags := 0, code := none }
def k8c1 : Code := { maxStack := 2, maxLocals := 2, code := jdk_52_method_15_code, exceptionTable := #[], attributes := #[] }
def k8m1 : Method := { name := "coderFromArrayLen", desc := "([BI)B", sig := { parameters := [(.array .byte), .int], returnType := some .byte }, accessFlags := 8, code := some k8c1 }
def k8c2 : Code := { maxStack := 5, maxLocals := 6, code := jdk_52_method_16_code, exceptionTable := #[], attributes := #[] }
def k8m2 : Method := { name := "compress", desc := "([CII)[B", sig := { parameters := [(.array .char), .int, .int], returnType := some (.array .byte) }, accessFlags := 9, code := some k8c2 }
def k8c3 : Code := { maxStack := 3, maxLocals := 7, code := jdk_52_method_21_code, exceptionTable := #[], attributes := #[] }
def k8m3 : Method := { name := "compress", desc := "([CI[BII)I", sig := { parameters := [(.array .char), .int, (.array .byte), .int, .int], returnType := some .int }, accessFlags := 9, code := some k8c3 }
/-- java/lang/StringUTF16 -/
def k8 : Class := { plain "java/lang/StringUTF16" (some 0) with
  accessFlags := 48
  interfaces := #[]
  cf := some (fileOf pool8 12 #[.nestMembers #[627, 629, 369]] #[{ accessFlags := 0, nameIndex := 9, descriptorIndex := 10, attributes := #[] }, { accessFlags := 8, nameIndex := 261, descriptorIndex := 262, attributes := #[] }, { accessFlags := 9, nameIndex := 117, descriptorIndex := 122, attributes := #[] }, { accessFlags := 9, nameIndex := 117, descriptorIndex := 118, attributes := #[] }] 48 6 #[] #[{ accessFlags := 26, nameIndex := 61, descriptorIndex := 62, attributes := #[] }, { accessFlags := 26, nameIndex := 65, descriptorIndex := 62, attributes := #[] }, { accessFlags := 24, nameIndex := 430, descriptorIndex := 62, attributes := #[] }, { accessFlags := 4120, nameIndex := 46, descriptorIndex := 47, attributes := #[] }])
  fields := #[{ name := "HI_BYTE_SHIFT", type := .int, accessFlags := 26, slot := 0, constantValue := 0 }, { name := "LO_BYTE_SHIFT", type := .int, accessFlags := 26, slot := 1, constantValue := 0 }, { name := "MAX_LENGTH", type := .int, accessFlags := 24, slot := 2, constantValue := 0 }, { name := "$assertionsDisabled", type := .boolean, accessFlags := 4120, slot := 3, constantValue := 0 }]
  methods := #[k8m0, k8m1, k8m2, k8m3]
  instanceTypes := #[]
  staticTypes := #[.int, .int, .int, .boolean]
  resolved := Array.replicate 635 none
  statics := none }

def pool9 : Array CpInfo := pool [(2, .class_ 4), (1, u "java/lang/Object"), (3, .class_ 10), (1, u "com/example/floe/floe/rest/FramingLines"), (0, u "in"), (0, u "Ljava/io/InputStream;"), (2, u "what"), (0, u "Ljava/lang/String;"), (2, u "most"), (0, u "I"), (2, u "left"), (8, u "()I"), (9, .class_ 43), (0, u "com/example/floe/floe/rest/FramingLines$TooLongException"), (12, .class_ 57), (0, u "java/lang/String"), (13, .class_ 72), (0, u "com/example/floe/floe/rest/FramingLines$MalformedException"), (16, .methodref 56 90), (0, .nameAndType 91 92), (0, u "charAt"), (0, u "(I)C"), (32, .class_ 126), (0, u "com/example/floe/floe/rest/FramingLines$Field"), (6, u "(Ljava/lang/String;I)I"), (0, .methodref 56 135), (0, .nameAndType 136 32), (0, u "length"), (5, .methodref 8 143), (0, .nameAndType 144 145), (0, u "isControl"), (0, u "(I)Z"), (3, u "TOKEN_SYMBOLS"), (14, u "quotedStringEnd")] 38

def k9c0 : Code := { maxStack := 2, maxLocals := 3, code := prog_33_method_7_code, exceptionTable := #[], attributes := #[] }
def k9m0 : Method := { name := "quotedStringEnd", desc := "(Ljava/lang/String;I)I", sig := { parameters := [(.object "java/lang/String"), .int], returnType := some .int }, accessFlags := 8, code := some k9c0 }
def k9c1 : Code := { maxStack := 2, maxLocals := 1, code := prog_33_method_11_code, exceptionTable := #[], attributes := #[] }
def k9m1 : Method := { name := "isControl", desc := "(I)Z", sig := { parameters := [.int], returnType := some .boolean }, accessFlags := 10, code := some k9c1 }
/-- com/example/floe/floe/rest/FramingLines -/
def k9 : Class := { plain "com/example/floe/floe/rest/FramingLines" (some 0) with
  accessFlags := 48
  interfaces := #[]
  cf := some (fileOf pool9 8 #[.nestMembers #[125, 42, 71]] #[{ accessFlags := 8, nameIndex := 164, descriptorIndex := 133, attributes := #[] }, { accessFlags := 10, nameIndex := 144, descriptorIndex := 145, attributes := #[] }] 48 2 #[] #[{ accessFlags := 26, nameIndex := 149, descriptorIndex := 16, attributes := #[] }, { accessFlags := 18, nameIndex := 11, descriptorIndex := 12, attributes := #[] }, { accessFlags := 18, nameIndex := 15, descriptorIndex := 16, attributes := #[] }, { accessFlags := 18, nameIndex := 19, descriptorIndex := 20, attributes := #[] }, { accessFlags := 2, nameIndex := 23, descriptorIndex := 20, attributes := #[] }])
  fields := #[{ name := "TOKEN_SYMBOLS", type := (.object "java/lang/String"), accessFlags := 26, slot := 0, constantValue := 0 }, { name := "in", type := (.object "java/io/InputStream"), accessFlags := 18, slot := 0, constantValue := 0 }, { name := "what", type := (.object "java/lang/String"), accessFlags := 18, slot := 1, constantValue := 0 }, { name := "most", type := .int, accessFlags := 18, slot := 2, constantValue := 0 }, { name := "left", type := .int, accessFlags := 2, slot := 3, constantValue := 0 }]
  methods := #[k9m0, k9m1]
  instanceTypes := #[(.object "java/io/InputStream"), (.object "java/lang/String"), .int, .int]
  staticTypes := #[(.object "java/lang/String")]
  resolved := Array.replicate 203 none
  statics := none }

def pool10 : Array CpInfo := pool [(1, .class_ 2), (0, u "java/lang/String"), (1, .class_ 6), (1, u "java/lang/Object"), (0, u "<init>"), (0, u "()V"), (0, .methodref 1 10), (0, .nameAndType 11 12), (0, u "checkIndex"), (0, u "(II)V"), (1, .class_ 16), (1, u "java/lang/StringLatin1"), (36, u "([BI)C"), (67, u "$assertionsDisabled"), (0, u "Z"), (98, .class_ 223), (1, u "java/lang/StringLatin1$LinesSpliterator"), (28, u "charAt"), (137, .class_ 391), (0, u "java/lang/StringLatin1$CharsSpliterator")] 3

def k10m0 : Method := { name := "<init>", desc := "()V", sig := { parameters := [], returnType := none }, accessFlags := 0, code := none }
def k10c1 : Code := { maxStack := 2, maxLocals := 2, code := jdk_43_method_2_code, exceptionTable := #[], attributes := #[] }
def k10m1 : Method := { name := "charAt", desc := "([BI)C", sig := { parameters := [(.array .byte), .int], returnType := some .char }, accessFlags := 9, code := some k10c1 }
/-- java/lang/StringLatin1 -/
def k10 : Class := { plain "java/lang/StringLatin1" (some 0) with
  accessFlags := 48
  interfaces := #[]
  cf := some (fileOf pool10 14 #[.nestMembers #[390, 221]] #[{ accessFlags := 0, nameIndex := 7, descriptorIndex := 8, attributes := #[] }, { accessFlags := 9, nameIndex := 252, descriptorIndex := 53, attributes := #[] }] 48 4 #[] #[{ accessFlags := 4120, nameIndex := 121, descriptorIndex := 122, attributes := #[] }])
  fields := #[{ name := "$assertionsDisabled", type := .boolean, accessFlags := 4120, slot := 0, constantValue := 0 }]
  methods := #[k10m0, k10m1]
  instanceTypes := #[]
  staticTypes := #[.boolean]
  resolved := Array.replicate 395 none
  statics := none }

def pool11 : Array CpInfo := pool [(2, .class_ 4), (1, u "java/lang/Object"), (0, u "<init>"), (0, u "()V"), (17, .class_ 26), (1, u "jdk/internal/util/Preconditions"), (6, u "checkIndex"), (21, .class_ 56), (0, u "jdk/internal/util/Preconditions$4"), (57, .class_ 115), (0, u "jdk/internal/util/Preconditions$1"), (7, u "SIOOBE_FORMATTER"), (0, u "Ljava/util/function/BiFunction;"), (0, .class_ 126), (0, u "jdk/internal/util/Preconditions$2"), (3, u "AIOOBE_FORMATTER"), (0, .class_ 132), (0, u "jdk/internal/util/Preconditions$3"), (3, u "IOOBE_FORMATTER"), (41, u "(IILjava/util/function/BiFunction;)I")] 15

def k11m0 : Method := { name := "<init>", desc := "()V", sig := { parameters := [], returnType := none }, accessFlags := 1, code := none }
def k11c1 : Code := { maxStack := 3, maxLocals := 3, code := jdk_41_method_11_code, exceptionTable := #[], attributes := #[] }
def k11m1 : Method := { name := "checkIndex", desc := "(IILjava/util/function/BiFunction;)I", sig := { parameters := [.int, .int, (.object "java/util/function/BiFunction")], returnType := some .int }, accessFlags := 9, code := some k11c1 }
/-- jdk/internal/util/Preconditions -/
def k11 : Class := { plain "jdk/internal/util/Preconditions" (some 0) with
  accessFlags := 33
  interfaces := #[]
  cf := some (fileOf pool11 24 #[.nestMembers #[55, 131, 125, 114]] #[{ accessFlags := 1, nameIndex := 5, descriptorIndex := 6, attributes := #[] }, { accessFlags := 9, nameIndex := 33, descriptorIndex := 178, attributes := #[] }] 33 2 #[] #[{ accessFlags := 25, nameIndex := 123, descriptorIndex := 124, attributes := #[] }, { accessFlags := 25, nameIndex := 130, descriptorIndex := 124, attributes := #[] }, { accessFlags := 25, nameIndex := 136, descriptorIndex := 124, attributes := #[] }])
  fields := #[{ name := "SIOOBE_FORMATTER", type := (.object "java/util/function/BiFunction"), accessFlags := 25, slot := 0, constantValue := 0 }, { name := "AIOOBE_FORMATTER", type := (.object "java/util/function/BiFunction"), accessFlags := 25, slot := 1, constantValue := 0 }, { name := "IOOBE_FORMATTER", type := (.object "java/util/function/BiFunction"), accessFlags := 25, slot := 2, constantValue := 0 }]
  methods := #[k11m0, k11m1]
  instanceTypes := #[]
  staticTypes := #[(.object "java/util/function/BiFunction"), (.object "java/util/function/BiFunction"), (.object "java/util/function/BiFunction")]
  resolved := Array.replicate 194 none
  statics := some 1 }

def pool12 : Array CpInfo := pool [(9, u "<init>"), (6, .class_ 18), (1, u "java/lang/Object"), (0, u "()V"), (1, .class_ 23), (1, u "jdk/internal/util/ArraysSupport"), (0, u "LOG2_ARRAY_LONG_INDEX_SCALE"), (0, u "I"), (2, u "U"), (0, u "Ljdk/internal/misc/Unsafe;"), (8, u "BIG_ENDIAN"), (0, u "Z"), (8, u "LOG2_BYTE_BIT_SIZE"), (4, u "LOG2_ARRAY_INT_INDEX_SCALE"), (54, u "JLA"), (0, u "Ljdk/internal/access/JavaLangAccess;"), (11, u "LOG2_ARRAY_BOOLEAN_INDEX_SCALE"), (9, u "LOG2_ARRAY_BYTE_INDEX_SCALE"), (5, u "LOG2_ARRAY_CHAR_INDEX_SCALE"), (5, u "LOG2_ARRAY_SHORT_INDEX_SCALE"), (18, u "LOG2_ARRAY_FLOAT_INDEX_SCALE"), (24, u "LOG2_ARRAY_DOUBLE_INDEX_SCALE"), (89, u "T_BOOLEAN"), (2, u "T_CHAR"), (1, u "T_FLOAT"), (1, u "T_DOUBLE"), (1, u "T_BYTE"), (1, u "T_SHORT"), (1, u "T_INT"), (1, u "T_LONG"), (1, u "SOFT_MAX_ARRAY_LENGTH")] 83

def k12m0 : Method := { name := "<init>", desc := "()V", sig := { parameters := [], returnType := none }, accessFlags := 2, code := none }
/-- jdk/internal/util/ArraysSupport -/
def k12 : Class := { plain "jdk/internal/util/ArraysSupport" (some 0) with
  accessFlags := 33
  interfaces := #[]
  cf := some (fileOf pool12 21 #[] #[{ accessFlags := 2, nameIndex := 9, descriptorIndex := 19, attributes := #[] }] 33 16 #[] #[{ accessFlags := 24, nameIndex := 28, descriptorIndex := 29, attributes := #[] }, { accessFlags := 26, nameIndex := 38, descriptorIndex := 39, attributes := #[] }, { accessFlags := 25, nameIndex := 121, descriptorIndex := 25, attributes := #[] }, { accessFlags := 25, nameIndex := 131, descriptorIndex := 25, attributes := #[] }, { accessFlags := 25, nameIndex := 137, descriptorIndex := 25, attributes := #[] }, { accessFlags := 25, nameIndex := 143, descriptorIndex := 25, attributes := #[] }, { accessFlags := 25, nameIndex := 53, descriptorIndex := 25, attributes := #[] }, { accessFlags := 25, nameIndex := 24, descriptorIndex := 25, attributes := #[] }, { accessFlags := 25, nameIndex := 162, descriptorIndex := 25, attributes := #[] }, { accessFlags := 25, nameIndex := 187, descriptorIndex := 25, attributes := #[] }, { accessFlags := 26, nameIndex := 48, descriptorIndex := 25, attributes := #[] }, { accessFlags := 25, nameIndex := 277, descriptorIndex := 25, attributes := #[] }, { accessFlags := 25, nameIndex := 280, descriptorIndex := 25, attributes := #[] }, { accessFlags := 25, nameIndex := 282, descriptorIndex := 25, attributes := #[] }, { accessFlags := 25, nameIndex := 284, descriptorIndex := 25, attributes := #[] }, { accessFlags := 25, nameIndex := 286, descriptorIndex := 25, attributes := #[] }, { accessFlags := 25, nameIndex := 288, descriptorIndex := 25, attributes := #[] }, { accessFlags := 25, nameIndex := 290, descriptorIndex := 25, attributes := #[] }, { accessFlags := 25, nameIndex := 292, descriptorIndex := 25, attributes := #[] }, { accessFlags := 26, nameIndex := 108, descriptorIndex := 109, attributes := #[] }, { accessFlags := 25, nameIndex := 294, descriptorIndex := 25, attributes := #[] }])
  fields := #[{ name := "U", type := (.object "jdk/internal/misc/Unsafe"), accessFlags := 24, slot := 0, constantValue := 0 }, { name := "BIG_ENDIAN", type := .boolean, accessFlags := 26, slot := 1, constantValue := 0 }, { name := "LOG2_ARRAY_BOOLEAN_INDEX_SCALE", type := .int, accessFlags := 25, slot := 2, constantValue := 0 }, { name := "LOG2_ARRAY_BYTE_INDEX_SCALE", type := .int, accessFlags := 25, slot := 3, constantValue := 0 }, { name := "LOG2_ARRAY_CHAR_INDEX_SCALE", type := .int, accessFlags := 25, slot := 4, constantValue := 0 }, { name := "LOG2_ARRAY_SHORT_INDEX_SCALE", type := .int, accessFlags := 25, slot := 5, constantValue := 0 }, { name := "LOG2_ARRAY_INT_INDEX_SCALE", type := .int, accessFlags := 25, slot := 6, constantValue := 0 }, { name := "LOG2_ARRAY_LONG_INDEX_SCALE", type := .int, accessFlags := 25, slot := 7, constantValue := 0 }, { name := "LOG2_ARRAY_FLOAT_INDEX_SCALE", type := .int, accessFlags := 25, slot := 8, constantValue := 0 }, { name := "LOG2_ARRAY_DOUBLE_INDEX_SCALE", type := .int, accessFlags := 25, slot := 9, constantValue := 0 }, { name := "LOG2_BYTE_BIT_SIZE", type := .int, accessFlags := 26, slot := 10, constantValue := 0 }, { name := "T_BOOLEAN", type := .int, accessFlags := 25, slot := 11, constantValue := 0 }, { name := "T_CHAR", type := .int, accessFlags := 25, slot := 12, constantValue := 0 }, { name := "T_FLOAT", type := .int, accessFlags := 25, slot := 13, constantValue := 0 }, { name := "T_DOUBLE", type := .int, accessFlags := 25, slot := 14, constantValue := 0 }, { name := "T_BYTE", type := .int, accessFlags := 25, slot := 15, constantValue := 0 }, { name := "T_SHORT", type := .int, accessFlags := 25, slot := 16, constantValue := 0 }, { name := "T_INT", type := .int, accessFlags := 25, slot := 17, constantValue := 0 }, { name := "T_LONG", type := .int, accessFlags := 25, slot := 18, constantValue := 0 }, { name := "JLA", type := (.object "jdk/internal/access/JavaLangAccess"), accessFlags := 26, slot := 19, constantValue := 0 }, { name := "SOFT_MAX_ARRAY_LENGTH", type := .int, accessFlags := 25, slot := 20, constantValue := 0 }]
  methods := #[k12m0]
  instanceTypes := #[]
  staticTypes := #[(.object "jdk/internal/misc/Unsafe"), .boolean, .int, .int, .int, .int, .int, .int, .int, .int, .int, .int, .int, .int, .int, .int, .int, .int, .int, (.object "jdk/internal/access/JavaLangAccess"), .int]
  resolved := Array.replicate 378 none
  statics := none }

def pool13 : Array CpInfo := pool [(1, u "java/lang/Cloneable"), (0, .class_ 1), (0, u "java/lang/Object"), (0, .class_ 3)] 3

/-- java/lang/Cloneable -/
def k13 : Class := { plain "java/lang/Cloneable" (some 0) with
  accessFlags := 1537
  interfaces := #[]
  cf := some (fileOf pool13 2 #[] #[] 1537 4 #[] #[])
  fields := #[]
  methods := #[]
  instanceTypes := #[]
  staticTypes := #[]
  resolved := Array.replicate 8 none
  statics := none }

/-- the primitive byte -/
def k14 : Class := { plain "byte" none with kind := .primitive 'B', accessFlags := 0x411 }
/-- [B -/
def k15 : Class := { plain "[B" (some 0) with kind := .array 14 .byte, interfaces := #[13, 2], accessFlags := 1041 }

/-- the primitive char -/
def k16 : Class := { plain "char" none with kind := .primitive 'C', accessFlags := 0x411 }
/-- [C -/
def k17 : Class := { plain "[C" (some 0) with kind := .array 16 .char, interfaces := #[13, 2], accessFlags := 1041 }

/-- the primitive int -/
def k18 : Class := { plain "int" none with kind := .primitive 'I', accessFlags := 0x411 }
/-- [I -/
def k19 : Class := { plain "[I" (some 0) with kind := .array 18 .int, interfaces := #[13, 2], accessFlags := 1041 }

def heap : Heap := #[{ cls := 7, slots := #[.long 0, .int 1, .null, .int 0, .null, .int 0, .int 0], vm := .statics 7 },
  { cls := 11, slots := #[.null, .null, .null], vm := .statics 11 }]
def classes : Array Class := #[k0, k1, k2, k3, k4, k5, k6, k7, k8, k9, k10, k11, k12, k13, k14, k15, k16, k17, k18, k19]
def interned : List (Array UInt16 × Addr) := []
def slotsUsed : Nat := 10
def theMethod : MethodId := ⟨1, 1⟩
def args0 : Array Value := #[.int 5, .int 6, .int 7]
def aboutOver (below : List Frame) : State where
  vm := { classes := classes, interned := interned.toArray }
  heap := heap
  slotsUsed := slotsUsed
  threads := #[{ frames := .invoking theMethod args0 :: below }]
def below0 : List Frame := [.native { method := ⟨0, 0⟩, args := #[] }]
def about1 : State := aboutOver below0
def p0 : Program := .bare "" "" ""
def e0 : Env := launch0.env 0 0 0
theorem w_frames : about1.frames = Frame.invoking theMethod args0 :: below0 := rfl
set_option maxRecDepth 65536 in
theorem w_args : argsFit about1.vm theMethod args0 = true := by decide +kernel
set_option maxRecDepth 65536 in
theorem w_heap : heapFits about1 = true := by decide +kernel
set_option maxRecDepth 65536 in
theorem w_runnable : about1.curStatus? = some .runnable := by decide +kernel
set_option maxRecDepth 65536 in
theorem w_alone : about1.alone = true := by decide +kernel
set_option maxRecDepth 65536 in
theorem w_named : about1.methodNamed? x = some theMethod := by decide +kernel
set_option maxRecDepth 65536 in
theorem w_hears : about1.hears theMethod below0 = true := by decide +kernel
set_option maxRecDepth 65536 in
theorem w_ripe : about1.ripe theMethod args0 below0 = true := by decide +kernel
theorem w_running : about1.status = .running := rfl
set_option maxRecDepth 65536 in
theorem w_room : about1.hasRoom e0.platform room_1 = true :=
  launch0.hasRoom_least _ room_1 (by decide +kernel) (by decide +kernel) (by decide +kernel) (by decide +kernel) (by decide +kernel) (by decide +kernel)
theorem allAtoms_all (ts : List Jvm.Cond) (a : Array Jvm.Value) (st : Jvm.State) : (allAtoms ts).before a st = ts.all (fun c => c.before a st) := by
  induction ts with
  | nil => rfl
  | cons c t ih =>
    show (Jvm.Cond.and c (allAtoms t)).before a st = _
    rw [Jvm.Cond.before_and, ih, List.all_cons]
def words1 : List Jvm.Cond := Jvm.Cond.code x code maxLocals ret :: tables_1
/-- a 'code' word, met by the world's own term for the bytes: nothing is compared byte by byte -/
theorem code_word {y : MethodName} {bytes : ByteArray} {mx : Nat} {rt : Option FieldType} {a : Array Value} {s : State} {m : MethodId} {meth : Method} {c : Code} (h1 : s.methodNamed? y = some m) (h2 : s.vm.method? m = some meth) (h3 : meth.code = some c) (h4 : c.code = bytes)
    (h5 : (c.maxLocals == mx && c.exceptionTable.isEmpty && decide (c.maxStack ≤ mostOperands) && decide (meth.sig.returnType = rt) && !meth.locks && decide (parseMethodDescriptor y.desc = some meth.sig)) = true) : (Jvm.Cond.code y bytes mx rt).before a s = true := by
  simp only [Bool.and_eq_true, beq_iff_eq, Bool.not_eq_true', decide_eq_true_eq] at h5
  obtain ⟨⟨⟨⟨⟨g1, g2⟩, g3⟩, g4⟩, g5⟩, g6⟩ := h5
  simp [Cond.before, Cond.holds, Cond.value, h1, h2, h3, h4, g1, g2, g3, g4, g5, g6]
def isCode : Jvm.Cond → Bool
  | .code _ _ _ _ => true
  | _ => false
theorem all_split {L : List Jvm.Cond} {P : Jvm.Cond → Bool} (h1 : L.all (fun c => isCode c || P c) = true) (h2 : ∀ c ∈ L.filter isCode, P c = true) : L.all P = true := by
  refine List.all_eq_true.mpr fun c hc => ?_
  have h := List.all_eq_true.mp h1 c hc
  rcases Bool.eq_false_or_eq_true (isCode c) with hi | hi
  · exact h2 c (List.mem_filter.mpr ⟨hc, hi⟩)
  · simpa [hi] using h
set_option maxRecDepth 65536 in
theorem w_c0 : (Jvm.Cond.code x code maxLocals ret).before args0 about1 = true := code_word (m := ⟨1, 1⟩) (meth := k1m1) (c := k1c1) (by decide +kernel) rfl rfl rfl (by decide +kernel)
set_option maxRecDepth 65536 in
theorem w_c1 : (Jvm.Cond.code ({ cls := "com/example/floe/floe/rest/FramingLinesQuotedStringEndPinLaw", name := "draw", desc := "(II)C" } : Jvm.MethodName) method_3_code (4 : Nat) (Option.some Jvm.ClassFile.FieldType.char)).before args0 about1 = true := code_word (m := ⟨1, 2⟩) (meth := k1m2) (c := k1c2) (by decide +kernel) rfl rfl rfl (by decide +kernel)
set_option maxRecDepth 65536 in
theorem w_c2 : (Jvm.Cond.code ({ cls := "com/example/floe/floe/rest/FramingLinesQuotedStringEndPinLaw", name := "make", desc := "([CI)Ljava/lang/String;" } : Jvm.MethodName) method_4_code (2 : Nat) (Option.some (Jvm.ClassFile.FieldType.object "java/lang/String"))).before args0 about1 = true := code_word (m := ⟨1, 3⟩) (meth := k1m3) (c := k1c3) (by decide +kernel) rfl rfl rfl (by decide +kernel)
set_option maxRecDepth 65536 in
theorem w_c3 : (Jvm.Cond.code ({ cls := "java/lang/String", name := "<init>", desc := "([C)V" } : Jvm.MethodName) jdk_42_method_3_code (2 : Nat) (Option.none : Option Jvm.ClassFile.FieldType)).before args0 about1 = true := code_word (m := ⟨7, 1⟩) (meth := k7m1) (c := k7c1) (by decide +kernel) rfl rfl rfl (by decide +kernel)
set_option maxRecDepth 65536 in
theorem w_c4 : (Jvm.Cond.code ({ cls := "java/lang/String", name := "<init>", desc := "([CIILjava/lang/Void;)V" } : Jvm.MethodName) jdk_42_method_149_code (6 : Nat) (Option.none : Option Jvm.ClassFile.FieldType)).before args0 about1 = true := code_word (m := ⟨7, 4⟩) (meth := k7m4) (c := k7c4) (by decide +kernel) rfl rfl rfl (by decide +kernel)
set_option maxRecDepth 65536 in
theorem w_c5 : (Jvm.Cond.code ({ cls := "java/lang/Object", name := "<init>", desc := "()V" } : Jvm.MethodName) object_method_1_code (1 : Nat) (Option.none : Option Jvm.ClassFile.FieldType)).before args0 about1 = true := code_word (m := ⟨0, 0⟩) (meth := k0m0) (c := k0c0) (by decide +kernel) rfl rfl rfl (by decide +kernel)
set_option maxRecDepth 65536 in
theorem w_c6 : (Jvm.Cond.code ({ cls := "java/lang/StringUTF16", name := "compress", desc := "([CII)[B" } : Jvm.MethodName) jdk_52_method_16_code (6 : Nat) (Option.some (Jvm.ClassFile.FieldType.array Jvm.ClassFile.FieldType.byte))).before args0 about1 = true := code_word (m := ⟨8, 2⟩) (meth := k8m2) (c := k8c2) (by decide +kernel) rfl rfl rfl (by decide +kernel)
set_option maxRecDepth 65536 in
theorem w_c7 : (Jvm.Cond.code ({ cls := "java/lang/StringUTF16", name := "compress", desc := "([CI[BII)I" } : Jvm.MethodName) jdk_52_method_21_code (7 : Nat) (Option.some Jvm.ClassFile.FieldType.int)).before args0 about1 = true := code_word (m := ⟨8, 3⟩) (meth := k8m3) (c := k8c3) (by decide +kernel) rfl rfl rfl (by decide +kernel)
set_option maxRecDepth 65536 in
theorem w_c8 : (Jvm.Cond.code ({ cls := "java/lang/StringUTF16", name := "coderFromArrayLen", desc := "([BI)B" } : Jvm.MethodName) jdk_52_method_15_code (2 : Nat) (Option.some Jvm.ClassFile.FieldType.byte)).before args0 about1 = true := code_word (m := ⟨8, 1⟩) (meth := k8m1) (c := k8c1) (by decide +kernel) rfl rfl rfl (by decide +kernel)
set_option maxRecDepth 65536 in
theorem w_c9 : (Jvm.Cond.code ({ cls := "com/example/floe/floe/rest/FramingLines", name := "quotedStringEnd", desc := "(Ljava/lang/String;I)I" } : Jvm.MethodName) prog_33_method_7_code (3 : Nat) (Option.some Jvm.ClassFile.FieldType.int)).before args0 about1 = true := code_word (m := ⟨9, 0⟩) (meth := k9m0) (c := k9c0) (by decide +kernel) rfl rfl rfl (by decide +kernel)
set_option maxRecDepth 65536 in
theorem w_c10 : (Jvm.Cond.code ({ cls := "java/lang/String", name := "length", desc := "()I" } : Jvm.MethodName) jdk_42_method_54_code (1 : Nat) (Option.some Jvm.ClassFile.FieldType.int)).before args0 about1 = true := code_word (m := ⟨7, 2⟩) (meth := k7m2) (c := k7c2) (by decide +kernel) rfl rfl rfl (by decide +kernel)
set_option maxRecDepth 65536 in
theorem w_c11 : (Jvm.Cond.code ({ cls := "java/lang/String", name := "coder", desc := "()B" } : Jvm.MethodName) jdk_42_method_152_code (1 : Nat) (Option.some Jvm.ClassFile.FieldType.byte)).before args0 about1 = true := code_word (m := ⟨7, 5⟩) (meth := k7m5) (c := k7c5) (by decide +kernel) rfl rfl rfl (by decide +kernel)
set_option maxRecDepth 65536 in
theorem w_c12 : (Jvm.Cond.code ({ cls := "java/lang/String", name := "charAt", desc := "(I)C" } : Jvm.MethodName) jdk_42_method_56_code (2 : Nat) (Option.some Jvm.ClassFile.FieldType.char)).before args0 about1 = true := code_word (m := ⟨7, 3⟩) (meth := k7m3) (c := k7c3) (by decide +kernel) rfl rfl rfl (by decide +kernel)
set_option maxRecDepth 65536 in
theorem w_c13 : (Jvm.Cond.code ({ cls := "java/lang/String", name := "isLatin1", desc := "()Z" } : Jvm.MethodName) jdk_42_method_154_code (1 : Nat) (Option.some Jvm.ClassFile.FieldType.boolean)).before args0 about1 = true := code_word (m := ⟨7, 6⟩) (meth := k7m6) (c := k7c6) (by decide +kernel) rfl rfl rfl (by decide +kernel)
set_option maxRecDepth 65536 in
theorem w_c14 : (Jvm.Cond.code ({ cls := "java/lang/StringLatin1", name := "charAt", desc := "([BI)C" } : Jvm.MethodName) jdk_43_method_2_code (2 : Nat) (Option.some Jvm.ClassFile.FieldType.char)).before args0 about1 = true := code_word (m := ⟨10, 1⟩) (meth := k10m1) (c := k10c1) (by decide +kernel) rfl rfl rfl (by decide +kernel)
set_option maxRecDepth 65536 in
theorem w_c15 : (Jvm.Cond.code ({ cls := "java/lang/String", name := "checkIndex", desc := "(II)V" } : Jvm.MethodName) jdk_42_method_155_code (2 : Nat) (Option.none : Option Jvm.ClassFile.FieldType)).before args0 about1 = true := code_word (m := ⟨7, 7⟩) (meth := k7m7) (c := k7c7) (by decide +kernel) rfl rfl rfl (by decide +kernel)
set_option maxRecDepth 65536 in
theorem w_c16 : (Jvm.Cond.code ({ cls := "jdk/internal/util/Preconditions", name := "checkIndex", desc := "(IILjava/util/function/BiFunction;)I" } : Jvm.MethodName) jdk_41_method_11_code (3 : Nat) (Option.some Jvm.ClassFile.FieldType.int)).before args0 about1 = true := code_word (m := ⟨11, 1⟩) (meth := k11m1) (c := k11c1) (by decide +kernel) rfl rfl rfl (by decide +kernel)
set_option maxRecDepth 65536 in
theorem w_c17 : (Jvm.Cond.code ({ cls := "com/example/floe/floe/rest/FramingLinesQuotedStringEndPinLaw", name := "expected", desc := "([CII)I" } : Jvm.MethodName) method_7_code (5 : Nat) (Option.some Jvm.ClassFile.FieldType.int)).before args0 about1 = true := code_word (m := ⟨1, 6⟩) (meth := k1m6) (c := k1c6) (by decide +kernel) rfl rfl rfl (by decide +kernel)
set_option maxRecDepth 65536 in
theorem w_c18 : (Jvm.Cond.code ({ cls := "com/example/floe/floe/rest/FramingLines", name := "isControl", desc := "(I)Z" } : Jvm.MethodName) prog_33_method_11_code (1 : Nat) (Option.some Jvm.ClassFile.FieldType.boolean)).before args0 about1 = true := code_word (m := ⟨9, 1⟩) (meth := k9m1) (c := k9c1) (by decide +kernel) rfl rfl rfl (by decide +kernel)
set_option maxRecDepth 65536 in
theorem w_c19 : (Jvm.Cond.code ({ cls := "com/example/floe/floe/rest/FramingLinesQuotedStringEndPinLaw", name := "unit", desc := "([CII)I" } : Jvm.MethodName) method_6_code (4 : Nat) (Option.some Jvm.ClassFile.FieldType.int)).before args0 about1 = true := code_word (m := ⟨1, 5⟩) (meth := k1m5) (c := k1c5) (by decide +kernel) rfl rfl rfl (by decide +kernel)
set_option maxRecDepth 65536 in
theorem w_c20 : (Jvm.Cond.code ({ cls := "com/example/floe/floe/rest/FramingLinesQuotedStringEndPinLaw", name := "ctl", desc := "(C)Z" } : Jvm.MethodName) method_5_code (1 : Nat) (Option.some Jvm.ClassFile.FieldType.boolean)).before args0 about1 = true := code_word (m := ⟨1, 4⟩) (meth := k1m4) (c := k1c4) (by decide +kernel) rfl rfl rfl (by decide +kernel)
def codes1 : List Jvm.Cond := [Jvm.Cond.code x code maxLocals ret, Jvm.Cond.code ({ cls := "com/example/floe/floe/rest/FramingLinesQuotedStringEndPinLaw", name := "draw", desc := "(II)C" } : Jvm.MethodName) method_3_code (4 : Nat) (Option.some Jvm.ClassFile.FieldType.char), Jvm.Cond.code ({ cls := "com/example/floe/floe/rest/FramingLinesQuotedStringEndPinLaw", name := "make", desc := "([CI)Ljava/lang/String;" } : Jvm.MethodName) method_4_code (2 : Nat) (Option.some (Jvm.ClassFile.FieldType.object "java/lang/String")), Jvm.Cond.code ({ cls := "java/lang/String", name := "<init>", desc := "([C)V" } : Jvm.MethodName) jdk_42_method_3_code (2 : Nat) (Option.none : Option Jvm.ClassFile.FieldType), Jvm.Cond.code ({ cls := "java/lang/String", name := "<init>", desc := "([CIILjava/lang/Void;)V" } : Jvm.MethodName) jdk_42_method_149_code (6 : Nat) (Option.none : Option Jvm.ClassFile.FieldType), Jvm.Cond.code ({ cls := "java/lang/Object", name := "<init>", desc := "()V" } : Jvm.MethodName) object_method_1_code (1 : Nat) (Option.none : Option Jvm.ClassFile.FieldType), Jvm.Cond.code ({ cls := "java/lang/StringUTF16", name := "compress", desc := "([CII)[B" } : Jvm.MethodName) jdk_52_method_16_code (6 : Nat) (Option.some (Jvm.ClassFile.FieldType.array Jvm.ClassFile.FieldType.byte)), Jvm.Cond.code ({ cls := "java/lang/StringUTF16", name := "compress", desc := "([CI[BII)I" } : Jvm.MethodName) jdk_52_method_21_code (7 : Nat) (Option.some Jvm.ClassFile.FieldType.int), Jvm.Cond.code ({ cls := "java/lang/StringUTF16", name := "coderFromArrayLen", desc := "([BI)B" } : Jvm.MethodName) jdk_52_method_15_code (2 : Nat) (Option.some Jvm.ClassFile.FieldType.byte), Jvm.Cond.code ({ cls := "com/example/floe/floe/rest/FramingLines", name := "quotedStringEnd", desc := "(Ljava/lang/String;I)I" } : Jvm.MethodName) prog_33_method_7_code (3 : Nat) (Option.some Jvm.ClassFile.FieldType.int), Jvm.Cond.code ({ cls := "java/lang/String", name := "length", desc := "()I" } : Jvm.MethodName) jdk_42_method_54_code (1 : Nat) (Option.some Jvm.ClassFile.FieldType.int), Jvm.Cond.code ({ cls := "java/lang/String", name := "coder", desc := "()B" } : Jvm.MethodName) jdk_42_method_152_code (1 : Nat) (Option.some Jvm.ClassFile.FieldType.byte), Jvm.Cond.code ({ cls := "java/lang/String", name := "charAt", desc := "(I)C" } : Jvm.MethodName) jdk_42_method_56_code (2 : Nat) (Option.some Jvm.ClassFile.FieldType.char), Jvm.Cond.code ({ cls := "java/lang/String", name := "isLatin1", desc := "()Z" } : Jvm.MethodName) jdk_42_method_154_code (1 : Nat) (Option.some Jvm.ClassFile.FieldType.boolean), Jvm.Cond.code ({ cls := "java/lang/StringLatin1", name := "charAt", desc := "([BI)C" } : Jvm.MethodName) jdk_43_method_2_code (2 : Nat) (Option.some Jvm.ClassFile.FieldType.char), Jvm.Cond.code ({ cls := "java/lang/String", name := "checkIndex", desc := "(II)V" } : Jvm.MethodName) jdk_42_method_155_code (2 : Nat) (Option.none : Option Jvm.ClassFile.FieldType), Jvm.Cond.code ({ cls := "jdk/internal/util/Preconditions", name := "checkIndex", desc := "(IILjava/util/function/BiFunction;)I" } : Jvm.MethodName) jdk_41_method_11_code (3 : Nat) (Option.some Jvm.ClassFile.FieldType.int), Jvm.Cond.code ({ cls := "com/example/floe/floe/rest/FramingLinesQuotedStringEndPinLaw", name := "expected", desc := "([CII)I" } : Jvm.MethodName) method_7_code (5 : Nat) (Option.some Jvm.ClassFile.FieldType.int), Jvm.Cond.code ({ cls := "com/example/floe/floe/rest/FramingLines", name := "isControl", desc := "(I)Z" } : Jvm.MethodName) prog_33_method_11_code (1 : Nat) (Option.some Jvm.ClassFile.FieldType.boolean), Jvm.Cond.code ({ cls := "com/example/floe/floe/rest/FramingLinesQuotedStringEndPinLaw", name := "unit", desc := "([CII)I" } : Jvm.MethodName) method_6_code (4 : Nat) (Option.some Jvm.ClassFile.FieldType.int), Jvm.Cond.code ({ cls := "com/example/floe/floe/rest/FramingLinesQuotedStringEndPinLaw", name := "ctl", desc := "(C)Z" } : Jvm.MethodName) method_5_code (1 : Nat) (Option.some Jvm.ClassFile.FieldType.boolean)]
set_option maxRecDepth 65536 in
theorem codes_eq : words1.filter isCode = codes1 := rfl
theorem w_codes : ∀ c ∈ words1.filter isCode, c.before args0 about1 = true := by
  rw [codes_eq]
  intro c hc
  simp only [codes1, List.mem_cons, List.not_mem_nil, or_false] at hc
  rcases hc with rfl | rfl | rfl | rfl | rfl | rfl | rfl | rfl | rfl | rfl | rfl | rfl | rfl | rfl | rfl | rfl | rfl | rfl | rfl | rfl | rfl
  · exact w_c0
  · exact w_c1
  · exact w_c2
  · exact w_c3
  · exact w_c4
  · exact w_c5
  · exact w_c6
  · exact w_c7
  · exact w_c8
  · exact w_c9
  · exact w_c10
  · exact w_c11
  · exact w_c12
  · exact w_c13
  · exact w_c14
  · exact w_c15
  · exact w_c16
  · exact w_c17
  · exact w_c18
  · exact w_c19
  · exact w_c20
set_option maxRecDepth 65536 in
theorem w_t1 : (words1.take 24).all (fun c => isCode c || c.before args0 about1) = true := by decide +kernel
set_option maxRecDepth 65536 in
theorem w_t2 : ((words1.drop 24).take 24).all (fun c => isCode c || c.before args0 about1) = true := by decide +kernel
set_option maxRecDepth 65536 in
theorem w_t3 : (((words1.drop 24).drop 24).take 24).all (fun c => isCode c || c.before args0 about1) = true := by decide +kernel
set_option maxRecDepth 65536 in
theorem w_t4 : (((words1.drop 24).drop 24).drop 24).all (fun c => isCode c || c.before args0 about1) = true := by decide +kernel
theorem w_tables : (allAtoms (Jvm.Cond.code x code maxLocals ret :: tables_1)).before args0 about1 = true := by
  rw [allAtoms_all]
  show words1.all (fun c => c.before args0 about1) = true
  refine all_split ?_ w_codes
  rw [← List.take_append_drop 24 words1, List.all_append, w_t1, ← List.take_append_drop 24 (words1.drop 24), List.all_append, w_t2, ← List.take_append_drop 24 ((words1.drop 24).drop 24), List.all_append, w_t3, w_t4]
  rfl
set_option maxRecDepth 65536 in
theorem w_rest : rest_1_c.before args0 about1 = true := by decide +kernel
set_option maxRecDepth 65536 in
theorem w_case : (Jvm.Cond.and given_1 narrow_1).before args0 about1 = true := by decide +kernel
set_option maxRecDepth 65536 in
theorem w_consts : constsHeld consts_1 about1 := Jvm.Lit.constsHeldB_iff.mp (by decide +kernel)
theorem w_applies : (headSpec (Jvm.Cond.code x code maxLocals ret :: tables_1) room_1).applies x e0.platform about1 = true :=
  (Spec.applies_iff w_frames).mpr ⟨w_running, w_runnable, w_alone, w_named, w_hears, w_ripe, w_room, w_tables⟩
theorem atStart : AtStart classFile x code maxLocals ret World_1 tables_1 room_1 Calls_1 rest_1 Pre_1 launch0 p0 e0 about1 theMethod args0 below0 :=
  ⟨lists_1, trivial, launch0.admits_env _ _ _, launch0.least_env, fairChoices_fair.cas, fairChoices_fair.clock, w_frames, w_args, w_heap, w_applies, ⟨w_consts, trivial⟩, w_rest, w_case⟩
end start1
theorem witness_1 : WitnessClaimed_1 := ⟨start1.p0, start1.e0, start1.about1, start1.theMethod, start1.args0, start1.below0, start1.atStart⟩
end Jvm.Pilot.@@N@@
