import JvmDerived
import JvmDerived.Pilot.@@N@@Statement
import JvmDerived.Pilot.@@N@@Code
set_option linter.unusedVariables false
set_option linter.unusedSimpArgs false
@@BLOCK:NumsL.lean.txt@@
namespace Jvm.Pilot.@@N@@
open Jvm Jvm.ClassFile Sem Op Lib Jvm.Free Jvm.Stand Jvm.LawKit Jvm.RoadKit Bundle Jvm.Pilot.@@N@@.Jvm.D
/-! general: a run that comes to its end with what Q says -/
def own_G (tb : Tables) (e : Env) (below : List Frame) (S : State) (s : State) (C N : Nat) (Q : Option Value → Heap → List Loc → Prop) : Prop :=
  ∃ t o, Steps tb e below S t ∧ t.status = .running ∧ Ended t below o ∧ ∃ v L, o = .returned v ∧ Q v t.heap L ∧ FrameEnd s o t L C N
def own_P (n0 : Nat) (h0 : Heap) (w : Option Value) (v : Option Value) (h : Heap) (L : List Loc) : Prop := v = w ∧ Fr n0 L ∧ h = h0
section Own
variable {tb : Tables} {p : Program} {l : Launch} {e : Env} {R : Room} {s : State} {m : MethodId} {args : Array Value} {below : List Frame} {meth : Method} {c : Code} {T S S' : State} {locs : List Loc} {cells slots C N n0 : Nat} {h0 : Heap} {Q : Option Value → Heap → List Loc → Prop}
theorem own_go (h : ∀ t, Steps tb e below S' t → Steps tb e below S t) (k : own_G tb e below S' s C N Q) : own_G tb e below S s C N Q := by
  obtain ⟨t, o, a, b⟩ := k
  exact ⟨t, o, h t a, b⟩
theorem own_tr (h : Steps tb e below S S') (k : own_G tb e below S' s C N Q) : own_G tb e below S s C N Q := by
  obtain ⟨t, o, a, b⟩ := k
  exact ⟨t, o, h.trans a, b⟩
theorem own_itI {P : Prop} [Decidable P] {A B : Int32} (h : P) (k : own_G tb e below S s C N (own_P n0 h0 (some (.int A)))) : own_G tb e below S s C N (own_P n0 h0 (some (.int (if P then A else B)))) := by rw [if_pos h]; exact k
theorem own_ifI {P : Prop} [Decidable P] {A B : Int32} (h : ¬ P) (k : own_G tb e below S s C N (own_P n0 h0 (some (.int B)))) : own_G tb e below S s C N (own_P n0 h0 (some (.int (if P then A else B)))) := by rw [if_neg h]; exact k
theorem own_itJ {P : Prop} [Decidable P] {A B : Int64} (h : P) (k : own_G tb e below S s C N (own_P n0 h0 (some (.long A)))) : own_G tb e below S s C N (own_P n0 h0 (some (.long (if P then A else B)))) := by rw [if_pos h]; exact k
theorem own_ifJ {P : Prop} [Decidable P] {A B : Int64} (h : ¬ P) (k : own_G tb e below S s C N (own_P n0 h0 (some (.long B)))) : own_G tb e below S s C N (own_P n0 h0 (some (.long (if P then A else B)))) := by rw [if_neg h]; exact k
theorem own_endO {w : Value} {t : FieldType} {i : Instr} (X : Stand p l e R s m args below meth c T locs cells slots) (hx : p.tables.exec = Jvm.exec) (hlk : meth.locks = false) {pc : Nat} {Ls : Array Slot} {rest : List Value} (hret : meth.sig.returnType = some t) (hn : narrow t w = w)
    (hi : (i = .ireturn ∧ (t = .int ∨ t = .boolean ∨ t = .byte ∨ t = .char ∨ t = .short) ∧ ∃ z, w = .int z) ∨ (i = .lreturn ∧ t = .long ∧ ∃ z, w = .long z) ∨ (i = .dreturn ∧ t = .double ∧ ∃ z, w = .double z) ∨ (i = .freturn ∧ t = .float ∧ ∃ z, w = .float z) ∨ (i = .areturn ∧ t.isReference = true ∧ w.isRef = true))
    (hd : decode c.code pc = .ok (i, 1)) (hC : cells ≤ C) (hN : slots ≤ N) (hQ : Q (some w) T.heap locs) : own_G p.tables e below (T.setTop (mkF m pc Ls (w :: rest))) s C N Q := by
  obtain ⟨fs, hr, hrun, hended, hW, hsame⟩ := X.leave (v := some w) (fun h => by rw [hret] at h; cases h) hlk
  exact ⟨_, _, retOut X hx hret hn hi hd hr, hrun, hended, _, _, rfl, hQ, ⟨_, rfl⟩, hW, hsame.mono hC hN⟩
theorem own_endI {z : Int32} (X : Stand p l e R s m args below meth c T locs cells slots) (hx : p.tables.exec = Jvm.exec) (hlk : meth.locks = false) {pc : Nat} {Ls : Array Slot} {rest : List Value} (hret : meth.sig.returnType = some .int)
    (hd : decode c.code pc = .ok (.ireturn, 1)) (hC : cells ≤ C) (hN : slots ≤ N) (hQ : Q (some (.int z)) T.heap locs) : own_G p.tables e below (T.setTop (mkF m pc Ls (.int z :: rest))) s C N Q :=
  own_endO X hx hlk hret rfl (Or.inl ⟨rfl, Or.inl rfl, z, rfl⟩) hd hC hN hQ
theorem own_endJ {z : Int64} (X : Stand p l e R s m args below meth c T locs cells slots) (hx : p.tables.exec = Jvm.exec) (hlk : meth.locks = false) {pc : Nat} {Ls : Array Slot} {rest : List Value} (hret : meth.sig.returnType = some .long)
    (hd : decode c.code pc = .ok (.lreturn, 1)) (hC : cells ≤ C) (hN : slots ≤ N) (hQ : Q (some (.long z)) T.heap locs) : own_G p.tables e below (T.setTop (mkF m pc Ls (.long z :: rest))) s C N Q :=
  own_endO X hx hlk hret rfl (Or.inr (Or.inl ⟨rfl, rfl, z, rfl⟩)) hd hC hN hQ
theorem own_endR {w : Value} {t : FieldType} (X : Stand p l e R s m args below meth c T locs cells slots) (hx : p.tables.exec = Jvm.exec) (hlk : meth.locks = false) {pc : Nat} {Ls : Array Slot} {rest : List Value} (hret : meth.sig.returnType = some t) (hn : narrow t w = w) (ht : t.isReference = true) (hw : w.isRef = true)
    (hd : decode c.code pc = .ok (.areturn, 1)) (hC : cells ≤ C) (hN : slots ≤ N) (hQ : Q (some w) T.heap locs) : own_G p.tables e below (T.setTop (mkF m pc Ls (w :: rest))) s C N Q :=
  own_endO X hx hlk hret hn (Or.inr (Or.inr (Or.inr (Or.inr ⟨rfl, ht, hw⟩)))) hd hC hN hQ
theorem own_endN {z : Int32} {t : FieldType} (X : Stand p l e R s m args below meth c T locs cells slots) (hx : p.tables.exec = Jvm.exec) (hlk : meth.locks = false) {pc : Nat} {Ls : Array Slot} {rest : List Value} (hret : meth.sig.returnType = some t) (ht : t = .boolean ∨ t = .byte ∨ t = .char ∨ t = .short)
    (hd : decode c.code pc = .ok (.ireturn, 1)) (hC : cells ≤ C) (hN : slots ≤ N) (hQ : Q (some (.int (nar t z))) T.heap locs) : own_G p.tables e below (T.setTop (mkF m pc Ls (.int z :: rest))) s C N Q := by
  obtain ⟨fs, hr, hrun, hended, hW, hsame⟩ := X.leave (v := some (.int (nar t z))) (fun h => by rw [hret] at h; cases h) hlk
  exact ⟨_, _, retN X hx hret ht hd hr, hrun, hended, _, _, rfl, hQ, ⟨_, rfl⟩, hW, hsame.mono hC hN⟩
theorem own_endV (X : Stand p l e R s m args below meth c T locs cells slots) (hx : p.tables.exec = Jvm.exec) (hlk : meth.locks = false) {pc : Nat} {Ls : Array Slot} (hret : meth.sig.returnType = none)
    (hd : decode c.code pc = .ok (.return_, 1)) (hC : cells ≤ C) (hN : slots ≤ N) (hQ : Q none T.heap locs) : own_G p.tables e below (T.setTop (mkF m pc Ls [])) s C N Q := by
  obtain ⟨fs, hr, hrun, hended, hW, hsame⟩ := X.leave (v := none) (fun _ => rfl) hlk
  exact ⟨_, _, X.returnOut hx hret hd hr, hrun, hended, _, _, rfl, hQ, ⟨_, rfl⟩, hW, hsame.mono hC hN⟩
end Own
/-! plain facts: lists that a loop fills -/
def own_fam (g : Nat → Value) (d : Value) (n i : Nat) : List Value := (List.range n).map (fun j => if j < i then g j else d)
theorem own_fam_len (g : Nat → Value) (d : Value) (n i : Nat) : (own_fam g d n i).length = n := by
  unfold own_fam; rw [List.length_map, List.length_range]
theorem own_fam_at (g : Nat → Value) (d : Value) (n i k : Nat) : (own_fam g d n i).getD k d = if k < n ∧ k < i then g k else d := by
  unfold own_fam
  rw [List.getD_eq_getElem?_getD, List.getElem?_map]
  by_cases h : k < n
  · rw [List.getElem?_range h]
    show (if k < i then g k else d) = _
    by_cases h2 : k < i
    · rw [if_pos h2, if_pos ⟨h, h2⟩]
    · rw [if_neg h2, if_neg (fun q => h2 q.2)]
  · rw [List.getElem?_eq_none (by rw [List.length_range]; omega)]
    rw [if_neg (fun q => h q.1)]
    rfl
theorem own_fam_pad (g : Nat → Value) (d : Value) (n k : Nat) : (own_fam g d n 0).getD k d = ([] : List Value).getD k d := by
  rw [own_fam_at, if_neg (fun q => Nat.not_lt_zero _ q.2)]; rfl
theorem own_fam_get (g : Nat → Value) (d : Value) (n i k : Nat) (h : k < n) (h2 : k < i) : (own_fam g d n i).getD k d = g k := by
  rw [own_fam_at, if_pos ⟨h, h2⟩]
theorem own_fam_set (g g' : Nat → Value) (d v : Value) (n i : Nat) (hg : ∀ j, j < i → g' j = g j) (hv : g' i = v) : (own_fam g d n i).set i v = own_fam g' d n (i + 1) := by
  unfold own_fam
  apply List.ext_getElem?
  intro k
  rw [List.getElem?_set, List.getElem?_map, List.getElem?_map]
  by_cases h : k < n
  · rw [List.getElem?_range h]
    by_cases e : i = k
    · subst e
      rw [if_pos rfl, if_pos (by rw [List.length_map, List.length_range]; exact h)]
      show some v = some (if i < i + 1 then g' i else d)
      rw [if_pos (Nat.lt_succ_self _), hv]
    · rw [if_neg e]
      show some (if k < i then g k else d) = some (if k < i + 1 then g' k else d)
      by_cases h2 : k < i
      · rw [if_pos h2, if_pos (by omega), hg k h2]
      · rw [if_neg h2, if_neg (by omega)]
  · rw [List.getElem?_eq_none (l := List.range n) (by rw [List.length_range]; omega)]
    by_cases e : i = k
    · subst e
      rw [if_pos rfl, if_neg (by rw [List.length_map, List.length_range]; exact h)]
      rfl
    · rw [if_neg e]; rfl
/-! the index -/
theorem own_ix (i : Nat) (h : i < 2147483648) : (Int32.ofNat i).toInt = i := by
  exact Int32.toInt_ofNat_of_lt (by omega)
theorem own_cl (i : Nat) (h : i < 2147483648) : (Int32.ofNat i).toNatClampNeg = i := by
  show (Int32.ofNat i).toInt.toNat = i
  rw [own_ix i h]; rfl
theorem own_nn (i : Nat) (h : i < 2147483648) : ¬ Int32.ofNat i < 0 := by
  rw [Int32.lt_iff_toInt_lt, own_ix i h]
  simp only [Int32.reduceToInt]
  omega
theorem own_ltI (i j : Nat) (hi : i < 2147483648) (hj : j < 2147483648) : Int32.ofNat i < Int32.ofNat j ↔ i < j := by
  rw [Int32.lt_iff_toInt_lt, own_ix i hi, own_ix j hj]
  omega
theorem own_eqI (i j : Nat) (hi : i < 2147483648) (hj : j < 2147483648) : Int32.ofNat i = Int32.ofNat j ↔ i = j := by
  rw [← Int32.toInt_inj, own_ix i hi, own_ix j hj]
  omega
theorem own_inc (i : Nat) : Int32.ofNat i + 1 = Int32.ofNat (i + 1) := by
  rw [Int32.ofNat_add]; rfl
theorem own_inb {i n : Nat} (h : i < n) (hn : n < 2147483648) : ¬ Int32.ofNat i < 0 ∧ Int32.ofNat i < Int32.ofNat n := ⟨own_nn i (by omega), (own_ltI i n (by omega) hn).mpr h⟩
/-! facts of the heap that speak of many objects -/
def own_BD (Z : State) (h : Heap) (o : Addr) (v : Int64) : Prop := Exa Z h o "java/math/BigDecimal" ∧ Fld Z h o "java/math/BigDecimal" "scale" "I" (.int 0) ∧ Fld Z h o "java/math/BigDecimal" "intCompact" "J" (.long v)
theorem own_BD.ext {Z : State} {h h' : Heap} {o : Addr} {v : Int64} (F : own_BD Z h o v) (E : Ext h h') : own_BD Z h' o v := ⟨F.1.ext E, F.2.1.ext E, F.2.2.ext E⟩
theorem own_BD.keep {Z : State} {h h' : Heap} {o : Addr} {v : Int64} {ws : List Addr} (F : own_BD Z h o v) (K : Keep h h' ws) (q : o ∉ ws) : own_BD Z h' o v := ⟨F.1.keep K, F.2.1.keep K q, F.2.2.keep K q⟩
theorem own_BD.wr {Z : State} {h h' : Heap} {o a : Addr} {v : Int64} {sl : Nat} {w : Value} (F : own_BD Z h o v) (W : Wr h h' a sl w) (q : o ≠ a) : own_BD Z h' o v := ⟨F.1.wr W, F.2.1.other W (Or.inl q), F.2.2.other W (Or.inl q)⟩
def own_BDs (Z : State) (h : Heap) (sf : Nat → Addr) (i : Nat) : Prop := ∀ j, j < i → own_BD Z h (sf j) (Int64.ofNat j)
theorem own_BDs.ext {Z : State} {h h' : Heap} {sf : Nat → Addr} {i : Nat} (F : own_BDs Z h sf i) (E : Ext h h') : own_BDs Z h' sf i := fun j hj => (F j hj).ext E
theorem own_BDs.keep {Z : State} {h h' : Heap} {sf : Nat → Addr} {i : Nat} {ws : List Addr} (F : own_BDs Z h sf i) (K : Keep h h' ws) (q : ∀ j, j < i → sf j ∉ ws) : own_BDs Z h' sf i := fun j hj => (F j hj).keep K (q j hj)
theorem own_BDs.wr {Z : State} {h h' : Heap} {sf : Nat → Addr} {i sl : Nat} {a : Addr} {w : Value} (F : own_BDs Z h sf i) (W : Wr h h' a sl w) (q : ∀ j, j < i → sf j ≠ a) : own_BDs Z h' sf i := fun j hj => (F j hj).wr W (q j hj)
theorem own_BDs.snoc {Z : State} {h : Heap} {sf : Nat → Addr} {i : Nat} {b : Addr} (F : own_BDs Z h sf i) (G : own_BD Z h b (Int64.ofNat i)) : own_BDs Z h (fun j => if j = i then b else sf j) (i + 1) := fun j hj => by
  show own_BD Z h (if j = i then b else sf j) _
  by_cases e : j = i
  · rw [if_pos e, e]; exact G
  · rw [if_neg e]; exact F j (by omega)
def own_bl (j : Nat) : Int32 := if j = 0 then 0 else 1
def own_bv (j : Nat) : List Value := if j = 0 then [] else [.int (Int32.ofNat j - 1)]
def own_Bef (Z : State) (h : Heap) (bf : Nat → Addr) (i n1 : Nat) : Prop := ∀ j, j < i → n1 ≤ bf j ∧ ∃ k, Arv Z h (bf j) k .int (own_bl j) (own_bv j) (.int 0)
theorem own_Bef.ext {Z : State} {h h' : Heap} {bf : Nat → Addr} {i n1 : Nat} (F : own_Bef Z h bf i n1) (E : Ext h h') : own_Bef Z h' bf i n1 := fun j hj => ⟨(F j hj).1, (F j hj).2.imp fun _ q => q.ext E⟩
theorem own_Bef.keep {Z : State} {h h' : Heap} {bf : Nat → Addr} {i n1 : Nat} {ws : List Addr} (F : own_Bef Z h bf i n1) (K : Keep h h' ws) (q : ∀ j, j < i → bf j ∉ ws) : own_Bef Z h' bf i n1 := fun j hj => ⟨(F j hj).1, (F j hj).2.imp fun _ r => r.keep K (q j hj)⟩
theorem own_Bef.wr {Z : State} {h h' : Heap} {bf : Nat → Addr} {i n1 sl : Nat} {a : Addr} {w : Value} (F : own_Bef Z h bf i n1) (W : Wr h h' a sl w) (q : ∀ j, j < i → bf j ≠ a) : own_Bef Z h' bf i n1 := fun j hj => ⟨(F j hj).1, (F j hj).2.imp fun _ r => r.other W (q j hj)⟩
theorem own_Bef.lt {Z : State} {h : Heap} {bf : Nat → Addr} {i n1 : Nat} (F : own_Bef Z h bf i n1) (j : Nat) (hj : j < i) : bf j < h.size := by obtain ⟨k, q⟩ := (F j hj).2; exact q.lt
theorem own_Bef.ne {Z : State} {h : Heap} {bf : Nat → Addr} {i n1 : Nat} (F : own_Bef Z h bf i n1) {x : Addr} (hx : x < n1) : ∀ j, j < i → bf j ≠ x := fun j hj e => Nat.lt_irrefl _ (Nat.lt_of_lt_of_le hx (e ▸ (F j hj).1))
theorem own_Bef.fresh {Z : State} {h : Heap} {bf : Nat → Addr} {i n1 : Nat} (F : own_Bef Z h bf i n1) {x : Addr} (hx : h.size ≤ x) : ∀ j, j < i → bf j ≠ x := fun j hj e => Nat.lt_irrefl _ (Nat.lt_of_lt_of_le (e ▸ F.lt j hj) hx)
theorem own_Bef.snoc {Z : State} {h : Heap} {bf : Nat → Addr} {i n1 : Nat} {b : Addr} (F : own_Bef Z h bf i n1) (hb : n1 ≤ b) (G : ∃ k, Arv Z h b k .int (own_bl i) (own_bv i) (.int 0)) : own_Bef Z h (fun j => if j = i then b else bf j) (i + 1) n1 := fun j hj => by
  show n1 ≤ (if j = i then b else bf j) ∧ ∃ k, Arv Z h (if j = i then b else bf j) k .int (own_bl j) (own_bv j) (.int 0)
  by_cases e : j = i
  · rw [if_pos e, e]; exact ⟨hb, G⟩
  · rw [if_neg e]; exact F j (by omega)
abbrev own_gi : Nat → Value := fun j => .int (Int32.ofNat j)
abbrev own_gr (f : Nat → Addr) : Nat → Value := fun j => .ref (f j)
theorem own_gr_set (f : Nat → Addr) (n i : Nat) (b : Addr) : (own_fam (own_gr f) .null n i).set i (.ref b) = own_fam (own_gr (fun j => if j = i then b else f j)) .null n (i + 1) :=
  own_fam_set _ _ _ _ _ _ (fun j hj => by show Value.ref (if j = i then b else f j) = _; rw [if_neg (by omega)]) (by show Value.ref (if i = i then b else f i) = _; rw [if_pos rfl])
theorem own_gi_set (n i : Nat) : (own_fam own_gi (.int 0) n i).set i (.int (Int32.ofNat i)) = own_fam own_gi (.int 0) n (i + 1) := own_fam_set _ _ _ _ _ _ (fun _ _ => rfl) rfl
theorem own_n15 (p : Int32) : ∃ n : Nat, n ≤ 15 ∧ p &&& 15 = Int32.ofNat n := by
  have e := Jvm.Kit.i32_mask p 15 (k := 4) (by decide) (by decide)
  refine ⟨(p &&& 15).toInt.toNat, by omega, ?_⟩
  apply Int32.toInt_inj.mp
  rw [own_ix _ (by omega)]
  omega

theorem own_BDs.lt {Z : State} {h : Heap} {sf : Nat → Addr} {i : Nat} (F : own_BDs Z h sf i) (j : Nat) (hj : j < i) : sf j < h.size := (F j hj).1.lt
theorem own_BDs.fresh {Z : State} {h : Heap} {sf : Nat → Addr} {i : Nat} (F : own_BDs Z h sf i) {x : Addr} (hx : h.size ≤ x) : ∀ j, j < i → sf j ≠ x := fun j hj e => Nat.lt_irrefl _ (Nat.lt_of_lt_of_le (e ▸ F.lt j hj) hx)
/-! longs from 0 to 16 -/
theorem own_l2i (x : Nat) (h : x ≤ 16) : (Int64.ofNat x).toInt32 = Int32.ofNat x := (by decide : ∀ k : Fin 17, (Int64.ofNat k.val).toInt32 = Int32.ofNat k.val) ⟨x, by omega⟩
theorem own_i2l (x : Nat) (h : x ≤ 16) : (Int32.ofNat x).toInt64 = Int64.ofNat x := (by decide : ∀ k : Fin 17, (Int32.ofNat k.val).toInt64 = Int64.ofNat k.val) ⟨x, by omega⟩
theorem own_l0 (x : Nat) (h : x ≤ 16) : ¬ Int64.ofNat x < 0 := (by decide : ∀ k : Fin 17, ¬ Int64.ofNat k.val < 0) ⟨x, by omega⟩
theorem own_lmin (x : Nat) (h : x ≤ 16) : ¬ Int64.ofNat x = -9223372036854775808 := (by decide : ∀ k : Fin 17, ¬ Int64.ofNat k.val = -9223372036854775808) ⟨x, by omega⟩
theorem own_l11 (x : Nat) (h : x ≤ 16) (q : Int64.ofNat x < (11 : Int32).toInt64) : x < 11 := (by decide : ∀ k : Fin 17, Int64.ofNat k.val < (11 : Int32).toInt64 → k.val < 11) ⟨x, by omega⟩ q
theorem own_ladd (x : Nat) : Int64.ofNat x + 1 = Int64.ofNat (x + 1) := by rw [Int64.ofNat_add]; rfl
theorem own_lov (x : Nat) (h : x ≤ 15) : ¬ (Int64.ofNat (x + 1) ^^^ Int64.ofNat x) &&& (Int64.ofNat (x + 1) ^^^ (1 : Int64)) < 0 := (by decide : ∀ k : Fin 16, ¬ (Int64.ofNat (k.val + 1) ^^^ Int64.ofNat k.val) &&& (Int64.ofNat (k.val + 1) ^^^ (1 : Int64)) < 0) ⟨x, by omega⟩
theorem own_leq (x y : Nat) (h : x ≤ 16) (g : y ≤ 16) (q : x < y) : ¬ Int64.ofNat x = Int64.ofNat y := (by decide : ∀ (k l : Fin 17), k.val < l.val → ¬ Int64.ofNat k.val = Int64.ofNat l.val) ⟨x, by omega⟩ ⟨y, by omega⟩ q
theorem own_lgt (x y : Nat) (h : x ≤ 16) (g : y ≤ 16) (q : x < y) : ¬ Int64.ofNat y < Int64.ofNat x := (by decide : ∀ (k l : Fin 17), k.val < l.val → ¬ Int64.ofNat l.val < Int64.ofNat k.val) ⟨x, by omega⟩ ⟨y, by omega⟩ q
theorem own_m1 (x : Nat) (h : x ≤ 16) : ¬ Int32.ofNat x = -1 := (by decide : ∀ k : Fin 17, ¬ Int32.ofNat k.val = -1) ⟨x, by omega⟩
theorem own_dec (x : Nat) (h : x ≤ 16) (q : ¬ x = 0) : Int32.ofNat x - 1 = Int32.ofNat (x - 1) := (by decide : ∀ k : Fin 17, ¬ k.val = 0 → Int32.ofNat k.val - 1 = Int32.ofNat (k.val - 1)) ⟨x, by omega⟩ q
theorem own_z (x : Nat) (h : x ≤ 16) : Int32.ofNat x = 0 ↔ x = 0 := (by decide : ∀ k : Fin 17, Int32.ofNat k.val = 0 ↔ k.val = 0) ⟨x, by omega⟩

def own_Le (n1 : Nat) (h : Heap) : Prop := n1 ≤ h.size
theorem own_Le.ext {n1 : Nat} {h h' : Heap} (F : own_Le n1 h) (E : Ext h h') : own_Le n1 h' := Nat.le_trans F E.1
theorem own_Le.keep {n1 : Nat} {h h' : Heap} {ws : List Addr} (F : own_Le n1 h) (K : Keep h h' ws) (_ : ∀ _ _ : Nat, True) : own_Le n1 h' := Nat.le_trans F K.1
theorem own_Le.wr {n1 sl : Nat} {h h' : Heap} {a : Addr} {w : Value} (F : own_Le n1 h) (W : Wr h h' a sl w) (_ : True) : own_Le n1 h' := Nat.le_trans F (Keep.of_wr W).1
theorem own_Le.fresh {n1 : Nat} {h : Heap} (F : own_Le n1 h) {x : Addr} (hx : h.size ≤ x) : n1 ≤ x := Nat.le_trans F hx
theorem own_Bef.at0 {Z : State} {h : Heap} {bf : Nat → Addr} {i n1 : Nat} (F : own_Bef Z h bf i n1) {j : Nat} (hj : j < i) (e : j = 0) : ∃ k, Arv Z h (bf j) k .int (0 : Int32) [] (.int 0) := by
  obtain ⟨k, q⟩ := (F j hj).2
  refine ⟨k, ?_⟩
  have e1 : own_bl j = 0 := if_pos e
  have e2 : own_bv j = [] := if_pos e
  rw [e1, e2] at q
  exact q
theorem own_Bef.at1 {Z : State} {h : Heap} {bf : Nat → Addr} {i n1 : Nat} (F : own_Bef Z h bf i n1) {j : Nat} (hj : j < i) (hl : j ≤ 16) (e : ¬ j = 0) : ∃ k, Arv Z h (bf j) k .int (1 : Int32) [.int (Int32.ofNat (j - 1))] (.int 0) := by
  obtain ⟨k, q⟩ := (F j hj).2
  refine ⟨k, ?_⟩
  have e1 : own_bl j = 1 := if_neg e
  have e2 : own_bv j = [.int (Int32.ofNat j - 1)] := if_neg e
  rw [e1, e2, own_dec j hl e] at q
  exact q
theorem own_mk0 {Z : State} {h : Heap} {b : Addr} {k : ClassId} {j : Nat} (e : j = 0) (A : Arv Z h b k .int (0 : Int32) [] (.int 0)) : ∃ k, Arv Z h b k .int (own_bl j) (own_bv j) (.int 0) := by
  have e1 : own_bl j = 0 := if_pos e
  have e2 : own_bv j = [] := if_pos e
  rw [e1, e2]
  exact ⟨k, A⟩
theorem own_mk1 {Z : State} {h : Heap} {b : Addr} {k : ClassId} {j : Nat} (e : ¬ j = 0) (A : Arv Z h b k .int (1 : Int32) [.int (Int32.ofNat j - 1)] (.int 0)) : ∃ k, Arv Z h b k .int (own_bl j) (own_bv j) (.int 0) := by
  have e1 : own_bl j = 1 := if_neg e
  have e2 : own_bv j = [.int (Int32.ofNat j - 1)] := if_neg e
  rw [e1, e2]
  exact ⟨k, A⟩
theorem own_rem (p : Int32) (n : Nat) (h : 0 < n) (hn : n ≤ 15) : ∃ k, k < n ∧ (p &&& 2147483647) % Int32.ofNat n = Int32.ofNat k := by
  have e := Jvm.Kit.i32_mask p 2147483647 (k := 31) (by decide) (by decide)
  have hp : 0 ≤ (p &&& 2147483647).toInt := by omega
  have e2 : ((p &&& 2147483647) % Int32.ofNat n).toInt = (p &&& 2147483647).toInt % (n : Int) := by
    rw [Int32.toInt_mod, own_ix n (by omega), Int.tmod_eq_emod_of_nonneg hp]
  have h1 : 0 ≤ (p &&& 2147483647).toInt % (n : Int) := Int.emod_nonneg _ (by omega)
  have h2 : (p &&& 2147483647).toInt % (n : Int) < n := Int.emod_lt_of_pos _ (by omega)
  refine ⟨((p &&& 2147483647) % Int32.ofNat n).toInt.toNat, by omega, ?_⟩
  apply Int32.toInt_inj.mp
  rw [own_ix _ (by omega)]
  omega
def own_ok (s : Slot) : Prop := s = .unset ∨ (∃ z : Int32, s = .val (.int z)) ∨ (∃ a : Addr, s = .val (.ref a))
theorem own_selp {s : State} {args : Array Value} {C : String} {y z : MethodName} (hsel : (Cond.selects C z z).before args s = true) (e : y.cls = z.cls) (hpriv : s.PrivateAt y) (hinst : (Cond.instanceMethod y).before args s = true) (hy : y.cls ≠ "java/lang/invoke/MethodHandle" ∧ y.cls ≠ "java/lang/invoke/VarHandle") : (Cond.selects y.cls y y).before args s = true := by
  obtain ⟨c2, r2, m2, q1, q2, q3, q4, kP, hkP, hkPi⟩ := Cond.selects_spec hsel
  exact Jvm.Stand.selects_self_of_private (by rw [e]; exact findClass_of_methodNamed q3) hkP hkPi hpriv hinst hy

theorem own_fst {Z : State} {args : Array Value} {t : Term} {C n d : String} {v : Value} {a : Addr} (h : (Term.field t C n d).eval args Z none [] Z = some v) (ht : t.eval args Z none [] Z = some (.ref a)) : Fld Z Z.heap a C n d v := Fld.start (by simpa [Term.eval, ht] using h)
theorem own_bds {Z : State} {args : Array Value} {t : Term} {a : Addr} {v : Int64} (ht : t.eval args Z none [] Z = some (.ref a)) (h1 : (Cond.exactly t "java/math/BigDecimal").value args Z none Z [] = some true) (h2 : (Cond.eq (.field t "java/math/BigDecimal" "scale" "I") (.int 0)).value args Z none Z [] = some true) (h3 : (Cond.eq (.field t "java/math/BigDecimal" "intCompact" "J") (.long v)).value args Z none Z [] = some true) : own_BD Z Z.heap a v :=
  ⟨Exa.start ht h1, own_fst (eqv_i (F := .int 0) (Term.int_eval 0) h2) ht, own_fst (eqv_l (F := .long v) (by simp [Term.eval]) h3) ht⟩
def own_zz (z0 z1 z2 z3 z4 z5 z6 z7 z8 z9 z10 : Addr) : Nat → Addr
  | 0 => z0 | 1 => z1 | 2 => z2 | 3 => z3 | 4 => z4 | 5 => z5 | 6 => z6 | 7 => z7 | 8 => z8 | 9 => z9 | _ => z10
theorem own_zb {Z : State} {h : Heap} {z0 z1 z2 z3 z4 z5 z6 z7 z8 z9 z10 : Addr} (h0 : own_BD Z h z0 0) (h1 : own_BD Z h z1 1) (h2 : own_BD Z h z2 2) (h3 : own_BD Z h z3 3) (h4 : own_BD Z h z4 4) (h5 : own_BD Z h z5 5) (h6 : own_BD Z h z6 6) (h7 : own_BD Z h z7 7) (h8 : own_BD Z h z8 8) (h9 : own_BD Z h z9 9) (h10 : own_BD Z h z10 10) : own_BDs Z h (own_zz z0 z1 z2 z3 z4 z5 z6 z7 z8 z9 z10) 11 := fun j hj =>
  match j, hj with
  | 0, _ => h0 | 1, _ => h1 | 2, _ => h2 | 3, _ => h3 | 4, _ => h4 | 5, _ => h5 | 6, _ => h6 | 7, _ => h7 | 8, _ => h8 | 9, _ => h9 | 10, _ => h10
  | j + 11, q => absurd q (by omega)
theorem own_zv {Z : State} {h : Heap} {a : Addr} {k : ClassId} {z0 z1 z2 z3 z4 z5 z6 z7 z8 z9 z10 : Addr} (A : Arv Z h a k (.object "java/math/BigDecimal") 11 [.ref z0, .ref z1, .ref z2, .ref z3, .ref z4, .ref z5, .ref z6, .ref z7, .ref z8, .ref z9, .ref z10] .null) : Arv Z h a k (.object "java/math/BigDecimal") 11 (own_fam (own_gr (own_zz z0 z1 z2 z3 z4 z5 z6 z7 z8 z9 z10)) .null 11 11) .null := A
theorem own_len {Z : State} {args : Array Value} {t : Term} {a : Addr} {c : Cell} {ty : FieldType} {n : Int32} (ht : t.eval args Z none [] Z = some (.ref a)) (A : Arr Z Z.heap a c ty) (h : (Jvm.Cond.eq (.length t) (.int n)).value args Z none Z [] = some true) : c.slots.size < 2 ^ 31 ∧ c.slots.size.toInt32 = n := by
  have e := eqv_i (F := .int n) (Term.int_eval n) h
  by_cases hl : c.slots.size < 2 ^ 31
  · refine ⟨hl, ?_⟩
    have e2 := len_f ht (A.fin (Vm.Alike.refl _)) hl
    exact Value.int.inj (Option.some.inj (e2.symm.trans e))
  · exfalso
    have e3 := A.fin (Vm.Alike.refl _)
    simp [Term.eval, ht, e3, hl] at e
theorem own_elr {Z : State} {args : Array Value} {t : Term} {a z : Addr} {c : Cell} {ty : FieldType} {j : Int32} (ht : t.eval args Z none [] Z = some (.ref a)) (A : Arr Z Z.heap a c ty) (h : (Term.elem t (.int j)).eval args Z none [] Z = some (.ref z)) : c.slots[j.toNatClampNeg]? = some (.ref z) :=
  (elem_in h ht (Term.int_eval j) A.1).2

theorem d7_0 : decode jdk_22_method_1_code 0 = .ok (.aload_n 0, 1) := by decide +kernel
theorem d7_1 : decode jdk_22_method_1_code 1 = .ok (.invokespecial 1, 3) := by decide +kernel
theorem d7_4 : decode jdk_22_method_1_code 4 = .ok (.return_, 1) := by decide +kernel
theorem pn_0 : plainName "java/util/AbstractCollection" = true := by first | (simp [plainName, overriddenIn]; done) | decide +kernel
theorem ef_7 (m : MethodId) (p0 : Addr) : entryFrame m #[(.ref p0)] 1 = mkF m 0 #[.val (.ref p0)] [] := by first | (simp [entryFrame, mkF, argsToLocals, Value.category]; done) | rfl
def Q7 (Z : State) (p0 : Addr) (h0 : Heap) (n0 : Nat) (v : Option Value) (h : Heap) (L : List Loc) : Prop := v = none ∧ Fr n0 L ∧ h = h0
set_option maxRecDepth 65536 in
set_option maxHeartbeats 40000000 in
theorem rm7 (l : Launch) (Z : State) (a0 : Array Value) (hw : ∀ d ∈ tables_1, d.before a0 Z = true) (ws : List Jvm.Cond) (p0 : Addr) (h0 : Heap) (n0 : Nat) :
    MetFree l (⟨"java/util/AbstractCollection", "<init>", "()V"⟩ : MethodName) (head1 (Jvm.Cond.code (⟨"java/util/AbstractCollection", "<init>", "()V"⟩ : MethodName) jdk_22_method_1_code 1 none :: ws) ({ frames := 1, cells := 0, slots := 0, locals := 12 } : Room)) (fun a U => a = #[(.ref p0)] ∧ Z.Warmed39 U.vm ∧ U.heap = h0) (fun _ _ _ _ _ => True) (fun _ U o U' => ∃ v L, o = .returned v ∧ (Q7 Z p0 h0 n0) v U'.heap L ∧ FrameEnd U o U' L ({ frames := 1, cells := 0, slots := 0, locals := 12 } : Room).cells ({ frames := 1, cells := 0, slots := 0, locals := 12 } : Room).slots) := by
  refine MetFree.of_bodySF (plainFor_of_name pn_0) hisR ?_
  intro p e s m args below meth c s₁ Bd hml0 hP hK
  obtain ⟨rfl, hZ, hh⟩ := hP
  have hx := Bd.exec
  have hby := Bd.bytes
  have hml : c.maxLocals = 1 := hml0
  have hown : s.vm.findClass "java/util/AbstractCollection" = some m.cls := findClass_of_methodNamed Bd.named
  have hnm := (name_of_methodNamed Bd.named Bd.method).1
  have hlk : meth.locks = false := BodyLoose.notSynchronized Bd
  have X0 : Stand p l e ({ frames := 1, cells := 0, slots := 0, locals := 12 } : Room) s m #[(.ref p0)] below meth c s₁ [] 0 0 := Stand.of_body Bd
  have e0 : s₁.heap = h0 := by rw [← hh, Bd.state]; rfl
  have N0 := Fr.nil n0
  show own_G p.tables e below (s₁.setTop (entryFrame m #[(.ref p0)] 1)) s ({ frames := 1, cells := 0, slots := 0, locals := 12 } : Room).cells ({ frames := 1, cells := 0, slots := 0, locals := 12 } : Room).slots (Q7 Z p0 h0 n0)
  refine own_go (fun _ k => castTop (ef_7 m p0) k) ?_
  show own_G _ _ _ (s₁.setTop (mkF m 0 #[.val (.ref p0)] [])) _ _ _ _
  refine own_go (fun _ k => XS.aloadN X0.here hx rfl (hb hby d7_0) rfl rfl k) ?_
  show own_G _ _ _ (s₁.setTop (mkF m 1 #[.val (.ref p0)] [(.ref p0)])) _ _ _ _
  obtain ⟨T1, X1, e1, st1⟩ := initO X0 hx hZ hown (hw _ (List.mem_of_getElem? (i := 46) rfl)) (hw _ (List.mem_of_getElem? (i := 13) rfl)) (hw _ (List.mem_of_getElem? (i := 14) rfl)) e0 (g := (mkF m 1 #[.val (.ref p0)] [(.ref p0)])) rfl (by rw [hml]; rfl) rfl (hb hby d7_1) (by decide) (W := 0) (by show 2 * 0 + _ ≤ _; exact Nat.le_of_eq rfl) (by decide)
  refine own_go (fun _ k => st1 _ k) ?_
  show own_G _ _ _ (T1.setTop (mkF m 4 #[.val (.ref p0)] [])) _ _ _ _
  exact own_endV X1 hx hlk Bd.returns (hb hby d7_4) (by decide) (by decide) (Q := (Q7 Z p0 h0 n0)) (by rw [e1]; exact ⟨rfl, N0, rfl⟩)
theorem d26_0 : decode jdk_18_method_1_code 0 = .ok (.aload_n 0, 1) := by decide +kernel
theorem d26_1 : decode jdk_18_method_1_code 1 = .ok (.invokespecial 1, 3) := by decide +kernel
theorem d26_4 : decode jdk_18_method_1_code 4 = .ok (.return_, 1) := by decide +kernel
theorem pn_1 : plainName "java/lang/Number" = true := by first | (simp [plainName, overriddenIn]; done) | decide +kernel
theorem ef_26 (m : MethodId) (p0 : Addr) : entryFrame m #[(.ref p0)] 1 = mkF m 0 #[.val (.ref p0)] [] := by first | (simp [entryFrame, mkF, argsToLocals, Value.category]; done) | rfl
def Q26 (Z : State) (p0 : Addr) (h0 : Heap) (n0 : Nat) (v : Option Value) (h : Heap) (L : List Loc) : Prop := v = none ∧ Fr n0 L ∧ h = h0
set_option maxRecDepth 65536 in
set_option maxHeartbeats 40000000 in
theorem rm26 (l : Launch) (Z : State) (a0 : Array Value) (hw : ∀ d ∈ tables_1, d.before a0 Z = true) (ws : List Jvm.Cond) (p0 : Addr) (h0 : Heap) (n0 : Nat) :
    MetFree l (⟨"java/lang/Number", "<init>", "()V"⟩ : MethodName) (head1 (Jvm.Cond.code (⟨"java/lang/Number", "<init>", "()V"⟩ : MethodName) jdk_18_method_1_code 1 none :: ws) ({ frames := 1, cells := 0, slots := 0, locals := 12 } : Room)) (fun a U => a = #[(.ref p0)] ∧ Z.Warmed39 U.vm ∧ U.heap = h0) (fun _ _ _ _ _ => True) (fun _ U o U' => ∃ v L, o = .returned v ∧ (Q26 Z p0 h0 n0) v U'.heap L ∧ FrameEnd U o U' L ({ frames := 1, cells := 0, slots := 0, locals := 12 } : Room).cells ({ frames := 1, cells := 0, slots := 0, locals := 12 } : Room).slots) := by
  refine MetFree.of_bodySF (plainFor_of_name pn_1) hisR ?_
  intro p e s m args below meth c s₁ Bd hml0 hP hK
  obtain ⟨rfl, hZ, hh⟩ := hP
  have hx := Bd.exec
  have hby := Bd.bytes
  have hml : c.maxLocals = 1 := hml0
  have hown : s.vm.findClass "java/lang/Number" = some m.cls := findClass_of_methodNamed Bd.named
  have hnm := (name_of_methodNamed Bd.named Bd.method).1
  have hlk : meth.locks = false := BodyLoose.notSynchronized Bd
  have X0 : Stand p l e ({ frames := 1, cells := 0, slots := 0, locals := 12 } : Room) s m #[(.ref p0)] below meth c s₁ [] 0 0 := Stand.of_body Bd
  have e0 : s₁.heap = h0 := by rw [← hh, Bd.state]; rfl
  have N0 := Fr.nil n0
  show own_G p.tables e below (s₁.setTop (entryFrame m #[(.ref p0)] 1)) s ({ frames := 1, cells := 0, slots := 0, locals := 12 } : Room).cells ({ frames := 1, cells := 0, slots := 0, locals := 12 } : Room).slots (Q26 Z p0 h0 n0)
  refine own_go (fun _ k => castTop (ef_26 m p0) k) ?_
  show own_G _ _ _ (s₁.setTop (mkF m 0 #[.val (.ref p0)] [])) _ _ _ _
  refine own_go (fun _ k => XS.aloadN X0.here hx rfl (hb hby d26_0) rfl rfl k) ?_
  show own_G _ _ _ (s₁.setTop (mkF m 1 #[.val (.ref p0)] [(.ref p0)])) _ _ _ _
  obtain ⟨T1, X1, e1, st1⟩ := initO X0 hx hZ hown (hw _ (List.mem_of_getElem? (i := 155) rfl)) (hw _ (List.mem_of_getElem? (i := 13) rfl)) (hw _ (List.mem_of_getElem? (i := 14) rfl)) e0 (g := (mkF m 1 #[.val (.ref p0)] [(.ref p0)])) rfl (by rw [hml]; rfl) rfl (hb hby d26_1) (by decide) (W := 0) (by show 2 * 0 + _ ≤ _; exact Nat.le_of_eq rfl) (by decide)
  refine own_go (fun _ k => st1 _ k) ?_
  show own_G _ _ _ (T1.setTop (mkF m 4 #[.val (.ref p0)] [])) _ _ _ _
  exact own_endV X1 hx hlk Bd.returns (hb hby d26_4) (by decide) (by decide) (Q := (Q26 Z p0 h0 n0)) (by rw [e1]; exact ⟨rfl, N0, rfl⟩)
theorem d6_0 : decode jdk_39_method_1_code 0 = .ok (.aload_n 0, 1) := by decide +kernel
theorem d6_1 : decode jdk_39_method_1_code 1 = .ok (.invokespecial 1, 3) := by decide +kernel
theorem d6_4 : decode jdk_39_method_1_code 4 = .ok (.aload_n 0, 1) := by decide +kernel
theorem d6_5 : decode jdk_39_method_1_code 5 = .ok (.iconst 0, 1) := by decide +kernel
theorem d6_6 : decode jdk_39_method_1_code 6 = .ok (.putfield 7, 3) := by decide +kernel
theorem d6_9 : decode jdk_39_method_1_code 9 = .ok (.return_, 1) := by decide +kernel
theorem pd_0 : parseMethodDescriptor "()V" = some ⟨[], none⟩ := by decide +kernel
theorem pn_2 : plainName "java/util/AbstractList" = true := by first | (simp [plainName, overriddenIn]; done) | decide +kernel
theorem ef_6 (m : MethodId) (p0 : Addr) : entryFrame m #[(.ref p0)] 1 = mkF m 0 #[.val (.ref p0)] [] := by first | (simp [entryFrame, mkF, argsToLocals, Value.category]; done) | rfl
def Q6 (Z : State) (p0 : Addr) (h0 : Heap) (n0 : Nat) (v : Option Value) (h : Heap) (L : List Loc) : Prop := v = none ∧ Fr n0 L ∧ Keep h0 h [p0] ∧ Exa Z h p0 "java/util/Collections$CopiesList" ∧ Fld Z h p0 "java/util/AbstractList" "modCount" "I" (.int (0 : Int32)) ∧ Fld Z h p0 "java/util/Collections$CopiesList" "n" "I" (.int (0 : Int32)) ∧ Fld Z h p0 "java/util/Collections$CopiesList" "element" "Ljava/lang/Object;" .null
set_option maxRecDepth 65536 in
set_option maxHeartbeats 40000000 in
theorem rm6 (l : Launch) (Z : State) (a0 : Array Value) (hw : ∀ d ∈ tables_1, d.before a0 Z = true) (ws : List Jvm.Cond) (p0 : Addr) (h0 : Heap) (n0 : Nat) (Z0 : n0 ≤ h0.size) (P_E_p0 : Exa Z h0 p0 "java/util/Collections$CopiesList") (P_F_p0_modCount : Fld Z h0 p0 "java/util/AbstractList" "modCount" "I" (.int (0 : Int32))) (P_F_p0_n : Fld Z h0 p0 "java/util/Collections$CopiesList" "n" "I" (.int (0 : Int32))) (P_F_p0_element : Fld Z h0 p0 "java/util/Collections$CopiesList" "element" "Ljava/lang/Object;" .null) (g_p0 : n0 ≤ p0) :
    MetFree l (⟨"java/util/AbstractList", "<init>", "()V"⟩ : MethodName) (head1 (Jvm.Cond.code (⟨"java/util/AbstractList", "<init>", "()V"⟩ : MethodName) jdk_39_method_1_code 1 none :: ws) ({ frames := 2, cells := 0, slots := 0, locals := 24 } : Room)) (fun a U => a = #[(.ref p0)] ∧ Z.Warmed39 U.vm ∧ U.heap = h0) (fun _ _ _ _ _ => True) (fun _ U o U' => ∃ v L, o = .returned v ∧ (Q6 Z p0 h0 n0) v U'.heap L ∧ FrameEnd U o U' L ({ frames := 2, cells := 0, slots := 0, locals := 24 } : Room).cells ({ frames := 2, cells := 0, slots := 0, locals := 24 } : Room).slots) := by
  refine MetFree.of_bodySF (plainFor_of_name pn_2) hisR ?_
  intro p e s m args below meth c s₁ Bd hml0 hP hK
  obtain ⟨rfl, hZ, hh⟩ := hP
  have hx := Bd.exec
  have hby := Bd.bytes
  have hml : c.maxLocals = 1 := hml0
  have hown : s.vm.findClass "java/util/AbstractList" = some m.cls := findClass_of_methodNamed Bd.named
  have hnm := (name_of_methodNamed Bd.named Bd.method).1
  have hlk : meth.locks = false := BodyLoose.notSynchronized Bd
  have X0 : Stand p l e ({ frames := 2, cells := 0, slots := 0, locals := 24 } : Room) s m #[(.ref p0)] below meth c s₁ [] 0 0 := Stand.of_body Bd
  have e0 : s₁.heap = h0 := by rw [← hh, Bd.state]; rfl
  have N0 := Fr.nil n0
  have K0 : Keep h0 h0 [p0] := Keep.refl h0 [p0]
  show own_G p.tables e below (s₁.setTop (entryFrame m #[(.ref p0)] 1)) s ({ frames := 2, cells := 0, slots := 0, locals := 24 } : Room).cells ({ frames := 2, cells := 0, slots := 0, locals := 24 } : Room).slots (Q6 Z p0 h0 n0)
  refine own_go (fun _ k => castTop (ef_6 m p0) k) ?_
  show own_G _ _ _ (s₁.setTop (mkF m 0 #[.val (.ref p0)] [])) _ _ _ _
  refine own_go (fun _ k => XS.aloadN X0.here hx rfl (hb hby d6_0) rfl rfl k) ?_
  show own_G _ _ _ (s₁.setTop (mkF m 1 #[.val (.ref p0)] [(.ref p0)])) _ _ _ _
  obtain ⟨_, _, ⟨T1, L1, k1, n1⟩, -, X1, ⟨Lc1, hQ1, l1, y1, z1⟩, st1⟩ := X0.specialBack hx (y := (⟨"java/util/AbstractCollection", "<init>", "()V"⟩ : MethodName)) rfl hown (mvT hZ (hw _ (List.mem_of_getElem? (i := 40) rfl))) (mvT hZ (hw _ (List.mem_of_getElem? (i := 41) rfl))) (mvT hZ (hw _ (List.mem_of_getElem? (i := 45) rfl))) (by decide) (backOf (W := 0) (rm7 l Z a0 hw [] p0 h0 n0) hZ (hw _ (List.mem_of_getElem? (i := 45) rfl)) (hw _ (List.mem_of_getElem? (i := 44) rfl)) (by decide) (by decide)) (g := (mkF m 1 #[.val (.ref p0)] [(.ref p0)])) rfl (by rw [hml]; rfl) (Steps.refl _) (a := p0) (argsL := []) (rest := []) (lenOf pd_0 rfl) rfl (by show 2 * 0 + _ ≤ _; exact Nat.le_of_eq rfl) (hb hby d6_1) (fun _ _ => ⟨rfl, e0, (by decide : 0 + 0 ≤ _), (by decide : 0 + 0 ≤ _)⟩)
  dsimp only [Pt.U, Pt.locs, Pt.cells, Pt.slots] at X1 l1 y1 z1 st1 hQ1
  rw [l1] at X1
  subst y1 z1
  obtain ⟨rfl, Nq1, eh1⟩ := hQ1
  have N1 := Fr.app N0 Nq1
  refine own_tr st1 ?_
  show own_G _ _ _ (T1.setTop (mkF m 4 #[.val (.ref p0)] [])) _ _ _ _
  refine own_go (fun _ k => XS.aloadN X1.here hx rfl (hb hby d6_4) rfl rfl k) ?_
  show own_G _ _ _ (T1.setTop (mkF m 5 #[.val (.ref p0)] [(.ref p0)])) _ _ _ _
  refine own_go (fun _ k => XS.iconst X1.here hx rfl (hb hby d6_5) k) ?_
  show own_G _ _ _ (T1.setTop (mkF m 6 #[.val (.ref p0)] [(.int (0 : Int32)), (.ref p0)])) _ _ _ _
  obtain ⟨T2, h2, X2, e2, W2, st2⟩ := putF X1 hx hZ hown (host := "") (Or.inl (hw _ (List.mem_of_getElem? (i := 47) rfl))) Via.refl eh1 P_F_p0_modCount P_E_p0 (Or.inl (hw _ (List.mem_of_getElem? (i := 48) rfl))) (hw _ (List.mem_of_getElem? (i := 28) rfl)) (ty := .int) (by decide) rfl rfl (g := (mkF m 6 #[.val (.ref p0)] [(.int (0 : Int32)), (.ref p0)])) rfl rfl (hb hby d6_6)
  have N2 := Fr.snoc X2 N1 g_p0
  have Zs2 : n0 ≤ h2.size := Nat.le_trans Z0 (Keep.of_wr W2).1
  have K2_0 : Keep h0 h2 [p0] := K0.wr W2 (Or.inl (List.mem_of_getElem? (i := 0) rfl))
  have f3 : Exa Z h2 p0 "java/util/Collections$CopiesList" := P_E_p0.wr W2
  have f4 : Fld Z h2 p0 "java/util/AbstractList" "modCount" "I" (.int (0 : Int32)) := P_F_p0_modCount.same W2
  have f5 : Fld Z h2 p0 "java/util/Collections$CopiesList" "n" "I" (.int (0 : Int32)) := P_F_p0_n.other W2 (Or.inr (slot_ne (Or.inr (hw _ (List.mem_of_getElem? (i := 51) rfl))) (Or.inl (hw _ (List.mem_of_getElem? (i := 48) rfl))) (by decide) (t := .int) (t' := .int) (by decide) (by decide)))
  have f6 : Fld Z h2 p0 "java/util/Collections$CopiesList" "element" "Ljava/lang/Object;" .null := P_F_p0_element.other W2 (Or.inr (slot_ne (Or.inr (hw _ (List.mem_of_getElem? (i := 53) rfl))) (Or.inl (hw _ (List.mem_of_getElem? (i := 48) rfl))) (by decide) (t := (.object "java/lang/Object")) (t' := .int) (by decide) (by decide)))
  refine own_go (fun _ k => st2 _ k) ?_
  show own_G _ _ _ (T2.setTop (mkF m 9 #[.val (.ref p0)] [])) _ _ _ _
  exact own_endV X2 hx hlk Bd.returns (hb hby d6_9) (by decide) (by decide) (Q := (Q6 Z p0 h0 n0)) (by rw [e2]; exact ⟨rfl, N2, K2_0, f3, f4, f5, f6⟩)
theorem d5_0 : decode jdk_2479_method_1_code 0 = .ok (.aload_n 0, 1) := by decide +kernel
theorem d5_1 : decode jdk_2479_method_1_code 1 = .ok (.invokespecial 1, 3) := by decide +kernel
theorem d5_4 : decode jdk_2479_method_1_code 4 = .ok (.getstatic 7, 3) := by decide +kernel
theorem d5_7 : decode jdk_2479_method_1_code 7 = .ok (.ifCond .ne 15, 3) := by decide +kernel
theorem d5_10 : decode jdk_2479_method_1_code 10 = .ok (.iload_n 1, 1) := by decide +kernel
theorem d5_11 : decode jdk_2479_method_1_code 11 = .ok (.ifCond .ge 11, 3) := by decide +kernel
theorem d5_14 : decode jdk_2479_method_1_code 14 = .ok (.new 13, 3) := by decide +kernel
theorem d5_17 : decode jdk_2479_method_1_code 17 = .ok (.dup, 1) := by decide +kernel
theorem d5_18 : decode jdk_2479_method_1_code 18 = .ok (.invokespecial 15, 3) := by decide +kernel
theorem d5_21 : decode jdk_2479_method_1_code 21 = .ok (.athrow, 1) := by decide +kernel
theorem d5_22 : decode jdk_2479_method_1_code 22 = .ok (.aload_n 0, 1) := by decide +kernel
theorem d5_23 : decode jdk_2479_method_1_code 23 = .ok (.iload_n 1, 1) := by decide +kernel
theorem d5_24 : decode jdk_2479_method_1_code 24 = .ok (.putfield 16, 3) := by decide +kernel
theorem d5_27 : decode jdk_2479_method_1_code 27 = .ok (.aload_n 0, 1) := by decide +kernel
theorem d5_28 : decode jdk_2479_method_1_code 28 = .ok (.aload_n 2, 1) := by decide +kernel
theorem d5_29 : decode jdk_2479_method_1_code 29 = .ok (.putfield 20, 3) := by decide +kernel
theorem d5_32 : decode jdk_2479_method_1_code 32 = .ok (.return_, 1) := by decide +kernel
theorem pn_3 : plainName "java/util/Collections$CopiesList" = true := by first | (simp [plainName, overriddenIn]; done) | decide +kernel
theorem ef_5 (m : MethodId) (p0 : Addr) (p1 : Int32) (p2 : Addr) : entryFrame m #[(.ref p0), (.int p1), (.ref p2)] 3 = mkF m 0 #[.val (.ref p0), .val (.int p1), .val (.ref p2)] [] := by first | (simp [entryFrame, mkF, argsToLocals, Value.category]; done) | rfl
def Q5 (Z : State) (p0 : Addr) (p1 : Int32) (p2 : Addr) (h0 : Heap) (n0 : Nat) (v : Option Value) (h : Heap) (L : List Loc) : Prop := v = none ∧ Fr n0 L ∧ Keep h0 h [p0] ∧ Exa Z h p0 "java/util/Collections$CopiesList" ∧ Fld Z h p0 "java/util/Collections$CopiesList" "n" "I" (.int p1) ∧ Fld Z h p0 "java/util/Collections$CopiesList" "element" "Ljava/lang/Object;" (.ref p2)
set_option maxRecDepth 65536 in
set_option maxHeartbeats 40000000 in
theorem rm5 (l : Launch) (Z : State) (a0 : Array Value) (hw : ∀ d ∈ tables_1, d.before a0 Z = true) (ws : List Jvm.Cond) (p0 : Addr) (p1 : Int32) (p2 : Addr) (h0 : Heap) (n0 : Nat) (Z0 : n0 ≤ h0.size) (P_E_p0 : Exa Z h0 p0 "java/util/Collections$CopiesList") (P_F_p0_modCount : Fld Z h0 p0 "java/util/AbstractList" "modCount" "I" (.int (0 : Int32))) (P_F_p0_n : Fld Z h0 p0 "java/util/Collections$CopiesList" "n" "I" (.int (0 : Int32))) (P_F_p0_element : Fld Z h0 p0 "java/util/Collections$CopiesList" "element" "Ljava/lang/Object;" .null) (g_p0 : n0 ≤ p0) (P_Old : Old Z n0 h0) (P_ZS_java_util_Collections_CopiesList__assertionsDisabled : Sta Z Z.heap "java/util/Collections$CopiesList" "$assertionsDisabled" "Z" (.int (1 : Int32))) :
    MetFree l (⟨"java/util/Collections$CopiesList", "<init>", "(ILjava/lang/Object;)V"⟩ : MethodName) (head1 (Jvm.Cond.code (⟨"java/util/Collections$CopiesList", "<init>", "(ILjava/lang/Object;)V"⟩ : MethodName) jdk_2479_method_1_code 3 none :: ws) ({ frames := 3, cells := 0, slots := 0, locals := 36 } : Room)) (fun a U => a = #[(.ref p0), (.int p1), (.ref p2)] ∧ Z.Warmed39 U.vm ∧ U.heap = h0) (fun _ _ _ _ _ => True) (fun _ U o U' => ∃ v L, o = .returned v ∧ (Q5 Z p0 p1 p2 h0 n0) v U'.heap L ∧ FrameEnd U o U' L ({ frames := 3, cells := 0, slots := 0, locals := 36 } : Room).cells ({ frames := 3, cells := 0, slots := 0, locals := 36 } : Room).slots) := by
  refine MetFree.of_bodySF (plainFor_of_name pn_3) hisR ?_
  intro p e s m args below meth c s₁ Bd hml0 hP hK
  obtain ⟨rfl, hZ, hh⟩ := hP
  have hx := Bd.exec
  have hby := Bd.bytes
  have hml : c.maxLocals = 3 := hml0
  have hown : s.vm.findClass "java/util/Collections$CopiesList" = some m.cls := findClass_of_methodNamed Bd.named
  have hnm := (name_of_methodNamed Bd.named Bd.method).1
  have hlk : meth.locks = false := BodyLoose.notSynchronized Bd
  have X0 : Stand p l e ({ frames := 3, cells := 0, slots := 0, locals := 36 } : Room) s m #[(.ref p0), (.int p1), (.ref p2)] below meth c s₁ [] 0 0 := Stand.of_body Bd
  have e0 : s₁.heap = h0 := by rw [← hh, Bd.state]; rfl
  have N0 := Fr.nil n0
  have K0 : Keep h0 h0 [p0] := Keep.refl h0 [p0]
  show own_G p.tables e below (s₁.setTop (entryFrame m #[(.ref p0), (.int p1), (.ref p2)] 3)) s ({ frames := 3, cells := 0, slots := 0, locals := 36 } : Room).cells ({ frames := 3, cells := 0, slots := 0, locals := 36 } : Room).slots (Q5 Z p0 p1 p2 h0 n0)
  refine own_go (fun _ k => castTop (ef_5 m p0 p1 p2) k) ?_
  show own_G _ _ _ (s₁.setTop (mkF m 0 #[.val (.ref p0), .val (.int p1), .val (.ref p2)] [])) _ _ _ _
  refine own_go (fun _ k => XS.aloadN X0.here hx rfl (hb hby d5_0) rfl rfl k) ?_
  show own_G _ _ _ (s₁.setTop (mkF m 1 #[.val (.ref p0), .val (.int p1), .val (.ref p2)] [(.ref p0)])) _ _ _ _
  obtain ⟨_, _, ⟨T1, L1, k1, n1⟩, -, X1, ⟨Lc1, hQ1, l1, y1, z1⟩, st1⟩ := X0.specialBack hx (y := (⟨"java/util/AbstractList", "<init>", "()V"⟩ : MethodName)) rfl hown (mvT hZ (hw _ (List.mem_of_getElem? (i := 34) rfl))) (mvT hZ (hw _ (List.mem_of_getElem? (i := 35) rfl))) (mvT hZ (hw _ (List.mem_of_getElem? (i := 39) rfl))) (by decide) (backOf (W := 0) (rm6 l Z a0 hw [] p0  h0 n0 Z0 P_E_p0 P_F_p0_modCount P_F_p0_n P_F_p0_element g_p0) hZ (hw _ (List.mem_of_getElem? (i := 39) rfl)) (hw _ (List.mem_of_getElem? (i := 38) rfl)) (by decide) (by decide)) (g := (mkF m 1 #[.val (.ref p0), .val (.int p1), .val (.ref p2)] [(.ref p0)])) rfl (by rw [hml]; rfl) (Steps.refl _) (a := p0) (argsL := []) (rest := []) (lenOf pd_0 rfl) rfl (by show 2 * 0 + _ ≤ _; exact Nat.le_of_eq rfl) (hb hby d5_1) (fun _ _ => ⟨rfl, e0, (by decide : 0 + 0 ≤ _), (by decide : 0 + 0 ≤ _)⟩)
  dsimp only [Pt.U, Pt.locs, Pt.cells, Pt.slots] at X1 l1 y1 z1 st1 hQ1
  rw [l1] at X1
  subst y1 z1
  obtain ⟨rfl, Nq1, Kq1, r1_0, r1_1, r1_2, r1_3⟩ := hQ1
  have N1 := Fr.app N0 Nq1
  have f2 : Exa Z T1.heap p0 "java/util/Collections$CopiesList" := P_E_p0.keep Kq1
  have f3 : Old Z n0 T1.heap := P_Old.keep Kq1 (allS g_p0 all0)
  have Zs1 : n0 ≤ T1.heap.size := Nat.le_trans Z0 Kq1.1
  have K1_0 : Keep h0 T1.heap [p0] := K0.trans Kq1 (allS (Or.inl (List.mem_of_getElem? (i := 0) rfl)) all0)
  refine own_tr st1 ?_
  show own_G _ _ _ (T1.setTop (mkF m 4 #[.val (.ref p0), .val (.int p1), .val (.ref p2)] [])) _ _ _ _
  obtain ⟨T4, X4, e4, st4⟩ := getS2 X1 hx hZ hown (host := "") (Or.inl (hw _ (List.mem_of_getElem? (i := 49) rfl))) Via.refl rfl (P_ZS_java_util_Collections_CopiesList__assertionsDisabled.ext f3.2) (g := (mkF m 4 #[.val (.ref p0), .val (.int p1), .val (.ref p2)] [])) rfl (hb hby d5_4)
  refine own_go (fun _ k => st4 _ k) ?_
  show own_G _ _ _ (T4.setTop (mkF m 7 #[.val (.ref p0), .val (.int p1), .val (.ref p2)] [(.int (1 : Int32))])) _ _ _ _
  have hc5 : ¬ ((1 : Int32) = (0 : Int32)) := (by decide)
  refine own_go (fun _ k => XS.ifYes X4.here hx rfl (pc0 := 7) (pc' := 22) rfl (hb hby d5_7) rfl ((if0 _ _).trans (feq hc5).2) (by decide) (by decide) k) ?_
  show own_G _ _ _ (T4.setTop (mkF m 22 #[.val (.ref p0), .val (.int p1), .val (.ref p2)] [])) _ _ _ _
  refine own_go (fun _ k => XS.aloadN X4.here hx rfl (hb hby d5_22) rfl rfl k) ?_
  show own_G _ _ _ (T4.setTop (mkF m 23 #[.val (.ref p0), .val (.int p1), .val (.ref p2)] [(.ref p0)])) _ _ _ _
  refine own_go (fun _ k => XS.iloadN X4.here hx rfl (hb hby d5_23) rfl k) ?_
  show own_G _ _ _ (T4.setTop (mkF m 24 #[.val (.ref p0), .val (.int p1), .val (.ref p2)] [(.int p1), (.ref p0)])) _ _ _ _
  obtain ⟨T6, h6, X6, e6, W6, st6⟩ := putF X4 hx hZ hown (host := "") (Or.inl (hw _ (List.mem_of_getElem? (i := 50) rfl))) Via.refl e4 r1_2 r1_0 (Or.inr ⟨(hw _ (List.mem_of_getElem? (i := 51) rfl)), rfl, hnm⟩) (hw _ (List.mem_of_getElem? (i := 28) rfl)) (ty := .int) (by decide) rfl rfl (g := (mkF m 24 #[.val (.ref p0), .val (.int p1), .val (.ref p2)] [(.int p1), (.ref p0)])) rfl rfl (hb hby d5_24)
  have N6 := Fr.snoc X6 N1 g_p0
  have Zs6 : n0 ≤ h6.size := Nat.le_trans Zs1 (Keep.of_wr W6).1
  have K6_0 : Keep h0 h6 [p0] := K1_0.wr W6 (Or.inl (List.mem_of_getElem? (i := 0) rfl))
  have f7 : Exa Z h6 p0 "java/util/Collections$CopiesList" := r1_0.wr W6
  have f8 : Old Z n0 h6 := f3.wr W6 g_p0
  have f9 : Fld Z h6 p0 "java/util/AbstractList" "modCount" "I" (.int (0 : Int32)) := r1_1.other W6 (Or.inr (slot_ne (Or.inl (hw _ (List.mem_of_getElem? (i := 48) rfl))) (Or.inr (hw _ (List.mem_of_getElem? (i := 51) rfl))) (by decide) (t := .int) (t' := .int) (by decide) (by decide)))
  have f10 : Fld Z h6 p0 "java/util/Collections$CopiesList" "n" "I" (.int p1) := r1_2.same W6
  have f11 : Fld Z h6 p0 "java/util/Collections$CopiesList" "element" "Ljava/lang/Object;" .null := r1_3.other W6 (Or.inr (slot_ne (Or.inr (hw _ (List.mem_of_getElem? (i := 53) rfl))) (Or.inr (hw _ (List.mem_of_getElem? (i := 51) rfl))) (by decide) (t := (.object "java/lang/Object")) (t' := .int) (by decide) (by decide)))
  refine own_go (fun _ k => st6 _ k) ?_
  show own_G _ _ _ (T6.setTop (mkF m 27 #[.val (.ref p0), .val (.int p1), .val (.ref p2)] [])) _ _ _ _
  refine own_go (fun _ k => XS.aloadN X6.here hx rfl (hb hby d5_27) rfl rfl k) ?_
  show own_G _ _ _ (T6.setTop (mkF m 28 #[.val (.ref p0), .val (.int p1), .val (.ref p2)] [(.ref p0)])) _ _ _ _
  refine own_go (fun _ k => XS.aloadN X6.here hx rfl (hb hby d5_28) rfl rfl k) ?_
  show own_G _ _ _ (T6.setTop (mkF m 29 #[.val (.ref p0), .val (.int p1), .val (.ref p2)] [(.ref p2), (.ref p0)])) _ _ _ _
  obtain ⟨T12, h12, X12, e12, W12, st12⟩ := putF X6 hx hZ hown (host := "") (Or.inl (hw _ (List.mem_of_getElem? (i := 52) rfl))) Via.refl e6 f11 f7 (Or.inr ⟨(hw _ (List.mem_of_getElem? (i := 53) rfl)), rfl, hnm⟩) (hw _ (List.mem_of_getElem? (i := 28) rfl)) (ty := (.object "java/lang/Object")) (by decide) rfl rfl (g := (mkF m 29 #[.val (.ref p0), .val (.int p1), .val (.ref p2)] [(.ref p2), (.ref p0)])) rfl rfl (hb hby d5_29)
  have N12 := Fr.snoc X12 N6 g_p0
  have Zs12 : n0 ≤ h12.size := Nat.le_trans Zs6 (Keep.of_wr W12).1
  have K12_0 : Keep h0 h12 [p0] := K6_0.wr W12 (Or.inl (List.mem_of_getElem? (i := 0) rfl))
  have f13 : Exa Z h12 p0 "java/util/Collections$CopiesList" := f7.wr W12
  have f14 : Old Z n0 h12 := f8.wr W12 g_p0
  have f15 : Fld Z h12 p0 "java/util/AbstractList" "modCount" "I" (.int (0 : Int32)) := f9.other W12 (Or.inr (slot_ne (Or.inl (hw _ (List.mem_of_getElem? (i := 48) rfl))) (Or.inr (hw _ (List.mem_of_getElem? (i := 53) rfl))) (by decide) (t := .int) (t' := (.object "java/lang/Object")) (by decide) (by decide)))
  have f16 : Fld Z h12 p0 "java/util/Collections$CopiesList" "n" "I" (.int p1) := f10.other W12 (Or.inr (slot_ne (Or.inr (hw _ (List.mem_of_getElem? (i := 51) rfl))) (Or.inr (hw _ (List.mem_of_getElem? (i := 53) rfl))) (by decide) (t := .int) (t' := (.object "java/lang/Object")) (by decide) (by decide)))
  have f17 : Fld Z h12 p0 "java/util/Collections$CopiesList" "element" "Ljava/lang/Object;" (.ref p2) := f11.same W12
  refine own_go (fun _ k => st12 _ k) ?_
  show own_G _ _ _ (T12.setTop (mkF m 32 #[.val (.ref p0), .val (.int p1), .val (.ref p2)] [])) _ _ _ _
  exact own_endV X12 hx hlk Bd.returns (hb hby d5_32) (by decide) (by decide) (Q := (Q5 Z p0 p1 p2 h0 n0)) (by rw [e12]; exact ⟨rfl, N12, K12_0, f13, f16, f17⟩)
theorem d4_0 : decode jdk_79_method_76_code 0 = .ok (.iload_n 0, 1) := by decide +kernel
theorem d4_1 : decode jdk_79_method_76_code 1 = .ok (.ifCond .ge 31, 3) := by decide +kernel
theorem d4_4 : decode jdk_79_method_76_code 4 = .ok (.new 398, 3) := by decide +kernel
theorem d4_7 : decode jdk_79_method_76_code 7 = .ok (.dup, 1) := by decide +kernel
theorem d4_8 : decode jdk_79_method_76_code 8 = .ok (.new 400, 3) := by decide +kernel
theorem d4_11 : decode jdk_79_method_76_code 11 = .ok (.dup, 1) := by decide +kernel
theorem d4_12 : decode jdk_79_method_76_code 12 = .ok (.invokespecial 402, 3) := by decide +kernel
theorem d4_15 : decode jdk_79_method_76_code 15 = .ok (.ldc_w 403, 3) := by decide +kernel
theorem d4_18 : decode jdk_79_method_76_code 18 = .ok (.invokevirtual 405, 3) := by decide +kernel
theorem d4_21 : decode jdk_79_method_76_code 21 = .ok (.iload_n 0, 1) := by decide +kernel
theorem d4_22 : decode jdk_79_method_76_code 22 = .ok (.invokevirtual 409, 3) := by decide +kernel
theorem d4_25 : decode jdk_79_method_76_code 25 = .ok (.invokevirtual 412, 3) := by decide +kernel
theorem d4_28 : decode jdk_79_method_76_code 28 = .ok (.invokespecial 416, 3) := by decide +kernel
theorem d4_31 : decode jdk_79_method_76_code 31 = .ok (.athrow, 1) := by decide +kernel
theorem d4_32 : decode jdk_79_method_76_code 32 = .ok (.new 417, 3) := by decide +kernel
theorem d4_35 : decode jdk_79_method_76_code 35 = .ok (.dup, 1) := by decide +kernel
theorem d4_36 : decode jdk_79_method_76_code 36 = .ok (.iload_n 0, 1) := by decide +kernel
theorem d4_37 : decode jdk_79_method_76_code 37 = .ok (.aload_n 1, 1) := by decide +kernel
theorem d4_38 : decode jdk_79_method_76_code 38 = .ok (.invokespecial 419, 3) := by decide +kernel
theorem d4_41 : decode jdk_79_method_76_code 41 = .ok (.areturn, 1) := by decide +kernel
theorem pd_1 : parseMethodDescriptor "(ILjava/lang/Object;)V" = some ⟨[.int, (.object "java/lang/Object")], none⟩ := by decide +kernel
theorem pn_4 : plainName "java/util/Collections" = true := by first | (simp [plainName, overriddenIn]; done) | decide +kernel
theorem ef_4 (m : MethodId) (p0 : Int32) (p1 : Addr) : entryFrame m #[(.int p0), (.ref p1)] 2 = mkF m 0 #[.val (.int p0), .val (.ref p1)] [] := by first | (simp [entryFrame, mkF, argsToLocals, Value.category]; done) | rfl
def Q4 (Z : State) (p0 : Int32) (p1 : Addr) (h0 : Heap) (n0 : Nat) (v : Option Value) (h : Heap) (L : List Loc) : Prop := ∃ (b : Addr), v = some (.ref b) ∧ Fr n0 L ∧ Keep h0 h [] ∧ Exa Z h b "java/util/Collections$CopiesList" ∧ Fld Z h b "java/util/Collections$CopiesList" "n" "I" (.int p0) ∧ Fld Z h b "java/util/Collections$CopiesList" "element" "Ljava/lang/Object;" (.ref p1)
set_option maxRecDepth 65536 in
set_option maxHeartbeats 40000000 in
theorem rm4 (l : Launch) (Z : State) (a0 : Array Value) (hw : ∀ d ∈ tables_1, d.before a0 Z = true) (ws : List Jvm.Cond) (p0 : Int32) (p1 : Addr) (h0 : Heap) (n0 : Nat) (Z0 : n0 ≤ h0.size) (P_Old : Old Z n0 h0) (P_ZS_java_util_Collections_CopiesList__assertionsDisabled : Sta Z Z.heap "java/util/Collections$CopiesList" "$assertionsDisabled" "Z" (.int (1 : Int32))) (hp : ¬ p0 < 0) :
    MetFree l (⟨"java/util/Collections", "nCopies", "(ILjava/lang/Object;)Ljava/util/List;"⟩ : MethodName) (head1 (Jvm.Cond.code (⟨"java/util/Collections", "nCopies", "(ILjava/lang/Object;)Ljava/util/List;"⟩ : MethodName) jdk_79_method_76_code 2 (some (.object "java/util/List")) :: ws) ({ frames := 4, cells := 1, slots := 3, locals := 51 } : Room)) (fun a U => a = #[(.int p0), (.ref p1)] ∧ Z.Warmed39 U.vm ∧ U.heap = h0) (fun _ _ _ _ _ => True) (fun _ U o U' => ∃ v L, o = .returned v ∧ (Q4 Z p0 p1 h0 n0) v U'.heap L ∧ FrameEnd U o U' L ({ frames := 4, cells := 1, slots := 3, locals := 51 } : Room).cells ({ frames := 4, cells := 1, slots := 3, locals := 51 } : Room).slots) := by
  refine MetFree.of_bodySF (plainFor_of_name pn_4) hisR ?_
  intro p e s m args below meth c s₁ Bd hml0 hP hK
  obtain ⟨rfl, hZ, hh⟩ := hP
  have hx := Bd.exec
  have hby := Bd.bytes
  have hml : c.maxLocals = 2 := hml0
  have hown : s.vm.findClass "java/util/Collections" = some m.cls := findClass_of_methodNamed Bd.named
  have hnm := (name_of_methodNamed Bd.named Bd.method).1
  have hlk : meth.locks = false := BodyLoose.notSynchronized Bd
  have X0 : Stand p l e ({ frames := 4, cells := 1, slots := 3, locals := 51 } : Room) s m #[(.int p0), (.ref p1)] below meth c s₁ [] 0 0 := Stand.of_body Bd
  have e0 : s₁.heap = h0 := by rw [← hh, Bd.state]; rfl
  have N0 := Fr.nil n0
  have K0 : Keep h0 h0 [] := Keep.refl h0 []
  show own_G p.tables e below (s₁.setTop (entryFrame m #[(.int p0), (.ref p1)] 2)) s ({ frames := 4, cells := 1, slots := 3, locals := 51 } : Room).cells ({ frames := 4, cells := 1, slots := 3, locals := 51 } : Room).slots (Q4 Z p0 p1 h0 n0)
  refine own_go (fun _ k => castTop (ef_4 m p0 p1) k) ?_
  show own_G _ _ _ (s₁.setTop (mkF m 0 #[.val (.int p0), .val (.ref p1)] [])) _ _ _ _
  refine own_go (fun _ k => XS.iloadN X0.here hx rfl (hb hby d4_0) rfl k) ?_
  show own_G _ _ _ (s₁.setTop (mkF m 1 #[.val (.int p0), .val (.ref p1)] [(.int p0)])) _ _ _ _
  have hc1 : ¬ (p0 < (0 : Int32)) := hp
  refine own_go (fun _ k => XS.ifYes X0.here hx rfl (pc0 := 1) (pc' := 32) rfl (hb hby d4_1) rfl ((if0 _ _).trans (flt hc1).2.1) (by decide) (by decide) k) ?_
  show own_G _ _ _ (s₁.setTop (mkF m 32 #[.val (.int p0), .val (.ref p1)] [])) _ _ _ _
  obtain ⟨T2, h2, X2, e2, E2, A2, D2, -, st2⟩ := newO X0 hx hZ hown (hw _ (List.mem_of_getElem? (i := 27) rfl)) (hw _ (List.mem_of_getElem? (i := 28) rfl)) (hw _ (List.mem_of_getElem? (i := 29) rfl)) e0 (g := (mkF m 32 #[.val (.int p0), .val (.ref p1)] [])) rfl (hb hby d4_32) (by decide) (by decide)
  obtain ⟨b2, g2⟩ : ∃ z, z = h0.size := ⟨_, rfl⟩
  rw [← g2] at A2 D2 st2
  have gg2 : n0 ≤ b2 := Nat.le_trans Z0 (Nat.le_of_eq g2.symm)
  have sz2_0 : h0.size ≤ b2 := Nat.le_trans K0.1 (Nat.le_of_eq g2.symm)
  have Zs2 : n0 ≤ h2.size := Nat.le_trans Z0 E2.1
  have K2_0 : Keep h0 h2 [] := K0.ext E2
  have f3 : Old Z n0 h2 := P_Old.ext E2
  have f4 : Exa Z h2 b2 "java/util/Collections$CopiesList" := A2
  have f5 : Fld Z h2 b2 "java/util/AbstractList" "modCount" "I" (.int (0 : Int32)) := D2 (Or.inl (hw _ (List.mem_of_getElem? (i := 48) rfl))) (ty := .int) (by decide)
  have f6 : Fld Z h2 b2 "java/util/Collections$CopiesList" "n" "I" (.int (0 : Int32)) := D2 (Or.inr (hw _ (List.mem_of_getElem? (i := 51) rfl))) (ty := .int) (by decide)
  have f7 : Fld Z h2 b2 "java/util/Collections$CopiesList" "element" "Ljava/lang/Object;" .null := D2 (Or.inr (hw _ (List.mem_of_getElem? (i := 53) rfl))) (ty := (.object "java/lang/Object")) (by decide)
  refine own_go (fun _ k => st2 _ k) ?_
  show own_G _ _ _ (T2.setTop (mkF m 35 #[.val (.int p0), .val (.ref p1)] [(.ref b2)])) _ _ _ _
  refine own_go (fun _ k => XS.dup X2.here hx rfl (hb hby d4_35) rfl rfl k) ?_
  show own_G _ _ _ (T2.setTop (mkF m 36 #[.val (.int p0), .val (.ref p1)] [(.ref b2), (.ref b2)])) _ _ _ _
  refine own_go (fun _ k => XS.iloadN X2.here hx rfl (hb hby d4_36) rfl k) ?_
  show own_G _ _ _ (T2.setTop (mkF m 37 #[.val (.int p0), .val (.ref p1)] [(.int p0), (.ref b2), (.ref b2)])) _ _ _ _
  refine own_go (fun _ k => XS.aloadN X2.here hx rfl (hb hby d4_37) rfl rfl k) ?_
  show own_G _ _ _ (T2.setTop (mkF m 38 #[.val (.int p0), .val (.ref p1)] [(.ref p1), (.int p0), (.ref b2), (.ref b2)])) _ _ _ _
  obtain ⟨_, _, ⟨T8, L8, k8, n8⟩, -, X8, ⟨Lc8, hQ8, l8, y8, z8⟩, st8⟩ := X2.specialBack hx (y := (⟨"java/util/Collections$CopiesList", "<init>", "(ILjava/lang/Object;)V"⟩ : MethodName)) rfl hown (mvT hZ (hw _ (List.mem_of_getElem? (i := 30) rfl))) (mvT hZ (hw _ (List.mem_of_getElem? (i := 31) rfl))) (mvT hZ (hw _ (List.mem_of_getElem? (i := 33) rfl))) (by decide) (backOf (W := 1) (rm5 l Z a0 hw [] b2 p0 p1  h2 n0 Zs2 f4 f5 f6 f7 gg2 f3 P_ZS_java_util_Collections_CopiesList__assertionsDisabled) hZ (hw _ (List.mem_of_getElem? (i := 33) rfl)) (hw _ (List.mem_of_getElem? (i := 29) rfl)) (by decide) (by decide)) (g := (mkF m 38 #[.val (.int p0), .val (.ref p1)] [(.ref p1), (.int p0), (.ref b2), (.ref b2)])) rfl (by rw [hml]; rfl) (Steps.refl _) (a := b2) (argsL := [(.int p0), (.ref p1)]) (rest := [(.ref b2)]) (lenOf pd_1 rfl) rfl (by show 2 * 0 + _ ≤ _; exact Nat.le_of_eq rfl) (hb hby d4_38) (fun _ _ => ⟨rfl, e2, (by decide : 1 + 0 ≤ _), (by decide : 3 + 0 ≤ _)⟩)
  dsimp only [Pt.U, Pt.locs, Pt.cells, Pt.slots] at X8 l8 y8 z8 st8 hQ8
  rw [l8] at X8
  subst y8 z8
  obtain ⟨rfl, Nq8, Kq8, r8_0, r8_1, r8_2⟩ := hQ8
  have N8 := Fr.app N0 Nq8
  have f9 : Old Z n0 T8.heap := f3.keep Kq8 (allS gg2 all0)
  have f10 : Exa Z T8.heap b2 "java/util/Collections$CopiesList" := f4.keep Kq8
  have Zs8 : n0 ≤ T8.heap.size := Nat.le_trans Zs2 Kq8.1
  have K8_0 : Keep h0 T8.heap [] := K2_0.trans Kq8 (allS (Or.inr sz2_0) all0)
  refine own_tr st8 ?_
  show own_G _ _ _ (T8.setTop (mkF m 41 #[.val (.int p0), .val (.ref p1)] [(.ref b2)])) _ _ _ _
  exact own_endR X8 hx hlk Bd.returns rfl rfl rfl (hb hby d4_41) (by decide) (by decide) (Q := (Q4 Z p0 p1 h0 n0)) ⟨b2, rfl, N8, K8_0, r8_0, r8_1, r8_2⟩
theorem d25_0 : decode jdk_17_method_1_code 0 = .ok (.aload_n 0, 1) := by decide +kernel
theorem d25_1 : decode jdk_17_method_1_code 1 = .ok (.invokespecial 11, 3) := by decide +kernel
theorem d25_4 : decode jdk_17_method_1_code 4 = .ok (.aload_n 0, 1) := by decide +kernel
theorem d25_5 : decode jdk_17_method_1_code 5 = .ok (.iload 4, 2) := by decide +kernel
theorem d25_7 : decode jdk_17_method_1_code 7 = .ok (.putfield 17, 3) := by decide +kernel
theorem d25_10 : decode jdk_17_method_1_code 10 = .ok (.aload_n 0, 1) := by decide +kernel
theorem d25_11 : decode jdk_17_method_1_code 11 = .ok (.iload 5, 2) := by decide +kernel
theorem d25_13 : decode jdk_17_method_1_code 13 = .ok (.putfield 21, 3) := by decide +kernel
theorem d25_16 : decode jdk_17_method_1_code 16 = .ok (.aload_n 0, 1) := by decide +kernel
theorem d25_17 : decode jdk_17_method_1_code 17 = .ok (.lload_n 2, 1) := by decide +kernel
theorem d25_18 : decode jdk_17_method_1_code 18 = .ok (.putfield 24, 3) := by decide +kernel
theorem d25_21 : decode jdk_17_method_1_code 21 = .ok (.aload_n 0, 1) := by decide +kernel
theorem d25_22 : decode jdk_17_method_1_code 22 = .ok (.aload_n 1, 1) := by decide +kernel
theorem d25_23 : decode jdk_17_method_1_code 23 = .ok (.putfield 28, 3) := by decide +kernel
theorem d25_26 : decode jdk_17_method_1_code 26 = .ok (.return_, 1) := by decide +kernel
theorem pn_5 : plainName "java/math/BigDecimal" = true := by first | (simp [plainName, overriddenIn]; done) | decide +kernel
theorem ef_25 (m : MethodId) (p0 : Addr) (p2 : Int64) : entryFrame m #[(.ref p0), .null, (.long p2), (.int (0 : Int32)), (.int (0 : Int32))] 6 = mkF m 0 #[.val (.ref p0), .val .null, .val (.long p2), .second, .val (.int (0 : Int32)), .val (.int (0 : Int32))] [] := by first | (simp [entryFrame, mkF, argsToLocals, Value.category]; done) | rfl
def Q25 (Z : State) (p0 : Addr) (p2 : Int64) (h0 : Heap) (n0 : Nat) (v : Option Value) (h : Heap) (L : List Loc) : Prop := v = none ∧ Fr n0 L ∧ Keep h0 h [p0] ∧ Exa Z h p0 "java/math/BigDecimal" ∧ Fld Z h p0 "java/math/BigDecimal" "scale" "I" (.int (0 : Int32)) ∧ Fld Z h p0 "java/math/BigDecimal" "intCompact" "J" (.long p2)
set_option maxRecDepth 65536 in
set_option maxHeartbeats 40000000 in
theorem rm25 (l : Launch) (Z : State) (a0 : Array Value) (hw : ∀ d ∈ tables_1, d.before a0 Z = true) (ws : List Jvm.Cond) (p0 : Addr) (p2 : Int64) (h0 : Heap) (n0 : Nat) (Z0 : n0 ≤ h0.size) (P_E_p0 : Exa Z h0 p0 "java/math/BigDecimal") (P_F_p0_scale : Fld Z h0 p0 "java/math/BigDecimal" "scale" "I" (.int (0 : Int32))) (P_F_p0_precision : Fld Z h0 p0 "java/math/BigDecimal" "precision" "I" (.int (0 : Int32))) (P_F_p0_intCompact : Fld Z h0 p0 "java/math/BigDecimal" "intCompact" "J" (.long (0 : Int64))) (P_F_p0_intVal : Fld Z h0 p0 "java/math/BigDecimal" "intVal" "Ljava/math/BigInteger;" .null) (g_p0 : n0 ≤ p0) :
    MetFree l (⟨"java/math/BigDecimal", "<init>", "(Ljava/math/BigInteger;JII)V"⟩ : MethodName) (head1 (Jvm.Cond.code (⟨"java/math/BigDecimal", "<init>", "(Ljava/math/BigInteger;JII)V"⟩ : MethodName) jdk_17_method_1_code 6 none :: ws) ({ frames := 2, cells := 0, slots := 0, locals := 24 } : Room)) (fun a U => a = #[(.ref p0), .null, (.long p2), (.int (0 : Int32)), (.int (0 : Int32))] ∧ Z.Warmed39 U.vm ∧ U.heap = h0) (fun _ _ _ _ _ => True) (fun _ U o U' => ∃ v L, o = .returned v ∧ (Q25 Z p0 p2 h0 n0) v U'.heap L ∧ FrameEnd U o U' L ({ frames := 2, cells := 0, slots := 0, locals := 24 } : Room).cells ({ frames := 2, cells := 0, slots := 0, locals := 24 } : Room).slots) := by
  refine MetFree.of_bodySF (plainFor_of_name pn_5) hisR ?_
  intro p e s m args below meth c s₁ Bd hml0 hP hK
  obtain ⟨rfl, hZ, hh⟩ := hP
  have hx := Bd.exec
  have hby := Bd.bytes
  have hml : c.maxLocals = 6 := hml0
  have hown : s.vm.findClass "java/math/BigDecimal" = some m.cls := findClass_of_methodNamed Bd.named
  have hnm := (name_of_methodNamed Bd.named Bd.method).1
  have hlk : meth.locks = false := BodyLoose.notSynchronized Bd
  have X0 : Stand p l e ({ frames := 2, cells := 0, slots := 0, locals := 24 } : Room) s m #[(.ref p0), .null, (.long p2), (.int (0 : Int32)), (.int (0 : Int32))] below meth c s₁ [] 0 0 := Stand.of_body Bd
  have e0 : s₁.heap = h0 := by rw [← hh, Bd.state]; rfl
  have N0 := Fr.nil n0
  have K0 : Keep h0 h0 [p0] := Keep.refl h0 [p0]
  show own_G p.tables e below (s₁.setTop (entryFrame m #[(.ref p0), .null, (.long p2), (.int (0 : Int32)), (.int (0 : Int32))] 6)) s ({ frames := 2, cells := 0, slots := 0, locals := 24 } : Room).cells ({ frames := 2, cells := 0, slots := 0, locals := 24 } : Room).slots (Q25 Z p0 p2 h0 n0)
  refine own_go (fun _ k => castTop (ef_25 m p0 p2) k) ?_
  show own_G _ _ _ (s₁.setTop (mkF m 0 #[.val (.ref p0), .val .null, .val (.long p2), .second, .val (.int (0 : Int32)), .val (.int (0 : Int32))] [])) _ _ _ _
  refine own_go (fun _ k => XS.aloadN X0.here hx rfl (hb hby d25_0) rfl rfl k) ?_
  show own_G _ _ _ (s₁.setTop (mkF m 1 #[.val (.ref p0), .val .null, .val (.long p2), .second, .val (.int (0 : Int32)), .val (.int (0 : Int32))] [(.ref p0)])) _ _ _ _
  obtain ⟨_, _, ⟨T1, L1, k1, n1⟩, -, X1, ⟨Lc1, hQ1, l1, y1, z1⟩, st1⟩ := X0.specialBack hx (y := (⟨"java/lang/Number", "<init>", "()V"⟩ : MethodName)) rfl hown (mvT hZ (hw _ (List.mem_of_getElem? (i := 149) rfl))) (mvT hZ (hw _ (List.mem_of_getElem? (i := 150) rfl))) (mvT hZ (hw _ (List.mem_of_getElem? (i := 154) rfl))) (by decide) (backOf (W := 0) (rm26 l Z a0 hw [] p0 h0 n0) hZ (hw _ (List.mem_of_getElem? (i := 154) rfl)) (hw _ (List.mem_of_getElem? (i := 153) rfl)) (by decide) (by decide)) (g := (mkF m 1 #[.val (.ref p0), .val .null, .val (.long p2), .second, .val (.int (0 : Int32)), .val (.int (0 : Int32))] [(.ref p0)])) rfl (by rw [hml]; rfl) (Steps.refl _) (a := p0) (argsL := []) (rest := []) (lenOf pd_0 rfl) rfl (by show 2 * 0 + _ ≤ _; exact Nat.le_of_eq rfl) (hb hby d25_1) (fun _ _ => ⟨rfl, e0, (by decide : 0 + 0 ≤ _), (by decide : 0 + 0 ≤ _)⟩)
  dsimp only [Pt.U, Pt.locs, Pt.cells, Pt.slots] at X1 l1 y1 z1 st1 hQ1
  rw [l1] at X1
  subst y1 z1
  obtain ⟨rfl, Nq1, eh1⟩ := hQ1
  have N1 := Fr.app N0 Nq1
  refine own_tr st1 ?_
  show own_G _ _ _ (T1.setTop (mkF m 4 #[.val (.ref p0), .val .null, .val (.long p2), .second, .val (.int (0 : Int32)), .val (.int (0 : Int32))] [])) _ _ _ _
  refine own_go (fun _ k => XS.aloadN X1.here hx rfl (hb hby d25_4) rfl rfl k) ?_
  show own_G _ _ _ (T1.setTop (mkF m 5 #[.val (.ref p0), .val .null, .val (.long p2), .second, .val (.int (0 : Int32)), .val (.int (0 : Int32))] [(.ref p0)])) _ _ _ _
  refine own_go (fun _ k => XS.iload X1.here hx rfl (hb hby d25_5) rfl k) ?_
  show own_G _ _ _ (T1.setTop (mkF m 7 #[.val (.ref p0), .val .null, .val (.long p2), .second, .val (.int (0 : Int32)), .val (.int (0 : Int32))] [(.int (0 : Int32)), (.ref p0)])) _ _ _ _
  obtain ⟨T2, h2, X2, e2, W2, st2⟩ := putF X1 hx hZ hown (host := "") (Or.inl (hw _ (List.mem_of_getElem? (i := 75) rfl))) Via.refl eh1 P_F_p0_scale P_E_p0 (Or.inr ⟨(hw _ (List.mem_of_getElem? (i := 76) rfl)), rfl, hnm⟩) (hw _ (List.mem_of_getElem? (i := 145) rfl)) (ty := .int) (by decide) rfl rfl (g := (mkF m 7 #[.val (.ref p0), .val .null, .val (.long p2), .second, .val (.int (0 : Int32)), .val (.int (0 : Int32))] [(.int (0 : Int32)), (.ref p0)])) rfl rfl (hb hby d25_7)
  have N2 := Fr.snoc X2 N1 g_p0
  have Zs2 : n0 ≤ h2.size := Nat.le_trans Z0 (Keep.of_wr W2).1
  have K2_0 : Keep h0 h2 [p0] := K0.wr W2 (Or.inl (List.mem_of_getElem? (i := 0) rfl))
  have f3 : Exa Z h2 p0 "java/math/BigDecimal" := P_E_p0.wr W2
  have f4 : Fld Z h2 p0 "java/math/BigDecimal" "scale" "I" (.int (0 : Int32)) := P_F_p0_scale.same W2
  have f5 : Fld Z h2 p0 "java/math/BigDecimal" "precision" "I" (.int (0 : Int32)) := P_F_p0_precision.other W2 (Or.inr (slot_ne (Or.inl (hw _ (List.mem_of_getElem? (i := 157) rfl))) (Or.inr (hw _ (List.mem_of_getElem? (i := 76) rfl))) (by decide) (t := .int) (t' := .int) (by decide) (by decide)))
  have f6 : Fld Z h2 p0 "java/math/BigDecimal" "intCompact" "J" (.long (0 : Int64)) := P_F_p0_intCompact.other W2 (Or.inr (slot_ne (Or.inr (hw _ (List.mem_of_getElem? (i := 78) rfl))) (Or.inr (hw _ (List.mem_of_getElem? (i := 76) rfl))) (by decide) (t := .long) (t' := .int) (by decide) (by decide)))
  have f7 : Fld Z h2 p0 "java/math/BigDecimal" "intVal" "Ljava/math/BigInteger;" .null := P_F_p0_intVal.other W2 (Or.inr (slot_ne (Or.inr (hw _ (List.mem_of_getElem? (i := 159) rfl))) (Or.inr (hw _ (List.mem_of_getElem? (i := 76) rfl))) (by decide) (t := (.object "java/math/BigInteger")) (t' := .int) (by decide) (by decide)))
  refine own_go (fun _ k => st2 _ k) ?_
  show own_G _ _ _ (T2.setTop (mkF m 10 #[.val (.ref p0), .val .null, .val (.long p2), .second, .val (.int (0 : Int32)), .val (.int (0 : Int32))] [])) _ _ _ _
  refine own_go (fun _ k => XS.aloadN X2.here hx rfl (hb hby d25_10) rfl rfl k) ?_
  show own_G _ _ _ (T2.setTop (mkF m 11 #[.val (.ref p0), .val .null, .val (.long p2), .second, .val (.int (0 : Int32)), .val (.int (0 : Int32))] [(.ref p0)])) _ _ _ _
  refine own_go (fun _ k => XS.iload X2.here hx rfl (hb hby d25_11) rfl k) ?_
  show own_G _ _ _ (T2.setTop (mkF m 13 #[.val (.ref p0), .val .null, .val (.long p2), .second, .val (.int (0 : Int32)), .val (.int (0 : Int32))] [(.int (0 : Int32)), (.ref p0)])) _ _ _ _
  obtain ⟨T8, h8, X8, e8, W8, st8⟩ := putF X2 hx hZ hown (host := "") (Or.inl (hw _ (List.mem_of_getElem? (i := 156) rfl))) Via.refl e2 f5 f3 (Or.inl (hw _ (List.mem_of_getElem? (i := 157) rfl))) (hw _ (List.mem_of_getElem? (i := 145) rfl)) (ty := .int) (by decide) rfl rfl (g := (mkF m 13 #[.val (.ref p0), .val .null, .val (.long p2), .second, .val (.int (0 : Int32)), .val (.int (0 : Int32))] [(.int (0 : Int32)), (.ref p0)])) rfl rfl (hb hby d25_13)
  have N8 := Fr.snoc X8 N2 g_p0
  have Zs8 : n0 ≤ h8.size := Nat.le_trans Zs2 (Keep.of_wr W8).1
  have K8_0 : Keep h0 h8 [p0] := K2_0.wr W8 (Or.inl (List.mem_of_getElem? (i := 0) rfl))
  have f9 : Exa Z h8 p0 "java/math/BigDecimal" := f3.wr W8
  have f10 : Fld Z h8 p0 "java/math/BigDecimal" "scale" "I" (.int (0 : Int32)) := f4.other W8 (Or.inr (slot_ne (Or.inr (hw _ (List.mem_of_getElem? (i := 76) rfl))) (Or.inl (hw _ (List.mem_of_getElem? (i := 157) rfl))) (by decide) (t := .int) (t' := .int) (by decide) (by decide)))
  have f11 : Fld Z h8 p0 "java/math/BigDecimal" "precision" "I" (.int (0 : Int32)) := f5.same W8
  have f12 : Fld Z h8 p0 "java/math/BigDecimal" "intCompact" "J" (.long (0 : Int64)) := f6.other W8 (Or.inr (slot_ne (Or.inr (hw _ (List.mem_of_getElem? (i := 78) rfl))) (Or.inl (hw _ (List.mem_of_getElem? (i := 157) rfl))) (by decide) (t := .long) (t' := .int) (by decide) (by decide)))
  have f13 : Fld Z h8 p0 "java/math/BigDecimal" "intVal" "Ljava/math/BigInteger;" .null := f7.other W8 (Or.inr (slot_ne (Or.inr (hw _ (List.mem_of_getElem? (i := 159) rfl))) (Or.inl (hw _ (List.mem_of_getElem? (i := 157) rfl))) (by decide) (t := (.object "java/math/BigInteger")) (t' := .int) (by decide) (by decide)))
  refine own_go (fun _ k => st8 _ k) ?_
  show own_G _ _ _ (T8.setTop (mkF m 16 #[.val (.ref p0), .val .null, .val (.long p2), .second, .val (.int (0 : Int32)), .val (.int (0 : Int32))] [])) _ _ _ _
  refine own_go (fun _ k => XS.aloadN X8.here hx rfl (hb hby d25_16) rfl rfl k) ?_
  show own_G _ _ _ (T8.setTop (mkF m 17 #[.val (.ref p0), .val .null, .val (.long p2), .second, .val (.int (0 : Int32)), .val (.int (0 : Int32))] [(.ref p0)])) _ _ _ _
  refine own_go (fun _ k => XS.lloadN X8.here hx rfl (hb hby d25_17) rfl k) ?_
  show own_G _ _ _ (T8.setTop (mkF m 18 #[.val (.ref p0), .val .null, .val (.long p2), .second, .val (.int (0 : Int32)), .val (.int (0 : Int32))] [(.long p2), (.ref p0)])) _ _ _ _
  obtain ⟨T14, h14, X14, e14, W14, st14⟩ := putF X8 hx hZ hown (host := "") (Or.inl (hw _ (List.mem_of_getElem? (i := 77) rfl))) Via.refl e8 f12 f9 (Or.inr ⟨(hw _ (List.mem_of_getElem? (i := 78) rfl)), rfl, hnm⟩) (hw _ (List.mem_of_getElem? (i := 145) rfl)) (ty := .long) (by decide) rfl rfl (g := (mkF m 18 #[.val (.ref p0), .val .null, .val (.long p2), .second, .val (.int (0 : Int32)), .val (.int (0 : Int32))] [(.long p2), (.ref p0)])) rfl rfl (hb hby d25_18)
  have N14 := Fr.snoc X14 N8 g_p0
  have Zs14 : n0 ≤ h14.size := Nat.le_trans Zs8 (Keep.of_wr W14).1
  have K14_0 : Keep h0 h14 [p0] := K8_0.wr W14 (Or.inl (List.mem_of_getElem? (i := 0) rfl))
  have f15 : Exa Z h14 p0 "java/math/BigDecimal" := f9.wr W14
  have f16 : Fld Z h14 p0 "java/math/BigDecimal" "scale" "I" (.int (0 : Int32)) := f10.other W14 (Or.inr (slot_ne (Or.inr (hw _ (List.mem_of_getElem? (i := 76) rfl))) (Or.inr (hw _ (List.mem_of_getElem? (i := 78) rfl))) (by decide) (t := .int) (t' := .long) (by decide) (by decide)))
  have f17 : Fld Z h14 p0 "java/math/BigDecimal" "precision" "I" (.int (0 : Int32)) := f11.other W14 (Or.inr (slot_ne (Or.inl (hw _ (List.mem_of_getElem? (i := 157) rfl))) (Or.inr (hw _ (List.mem_of_getElem? (i := 78) rfl))) (by decide) (t := .int) (t' := .long) (by decide) (by decide)))
  have f18 : Fld Z h14 p0 "java/math/BigDecimal" "intCompact" "J" (.long p2) := f12.same W14
  have f19 : Fld Z h14 p0 "java/math/BigDecimal" "intVal" "Ljava/math/BigInteger;" .null := f13.other W14 (Or.inr (slot_ne (Or.inr (hw _ (List.mem_of_getElem? (i := 159) rfl))) (Or.inr (hw _ (List.mem_of_getElem? (i := 78) rfl))) (by decide) (t := (.object "java/math/BigInteger")) (t' := .long) (by decide) (by decide)))
  refine own_go (fun _ k => st14 _ k) ?_
  show own_G _ _ _ (T14.setTop (mkF m 21 #[.val (.ref p0), .val .null, .val (.long p2), .second, .val (.int (0 : Int32)), .val (.int (0 : Int32))] [])) _ _ _ _
  refine own_go (fun _ k => XS.aloadN X14.here hx rfl (hb hby d25_21) rfl rfl k) ?_
  show own_G _ _ _ (T14.setTop (mkF m 22 #[.val (.ref p0), .val .null, .val (.long p2), .second, .val (.int (0 : Int32)), .val (.int (0 : Int32))] [(.ref p0)])) _ _ _ _
  refine own_go (fun _ k => XS.aloadN X14.here hx rfl (hb hby d25_22) rfl rfl k) ?_
  show own_G _ _ _ (T14.setTop (mkF m 23 #[.val (.ref p0), .val .null, .val (.long p2), .second, .val (.int (0 : Int32)), .val (.int (0 : Int32))] [.null, (.ref p0)])) _ _ _ _
  obtain ⟨T20, h20, X20, e20, W20, st20⟩ := putF X14 hx hZ hown (host := "") (Or.inl (hw _ (List.mem_of_getElem? (i := 158) rfl))) Via.refl e14 f19 f15 (Or.inr ⟨(hw _ (List.mem_of_getElem? (i := 159) rfl)), rfl, hnm⟩) (hw _ (List.mem_of_getElem? (i := 145) rfl)) (ty := (.object "java/math/BigInteger")) (by decide) rfl rfl (g := (mkF m 23 #[.val (.ref p0), .val .null, .val (.long p2), .second, .val (.int (0 : Int32)), .val (.int (0 : Int32))] [.null, (.ref p0)])) rfl rfl (hb hby d25_23)
  have N20 := Fr.snoc X20 N14 g_p0
  have Zs20 : n0 ≤ h20.size := Nat.le_trans Zs14 (Keep.of_wr W20).1
  have K20_0 : Keep h0 h20 [p0] := K14_0.wr W20 (Or.inl (List.mem_of_getElem? (i := 0) rfl))
  have f21 : Exa Z h20 p0 "java/math/BigDecimal" := f15.wr W20
  have f22 : Fld Z h20 p0 "java/math/BigDecimal" "scale" "I" (.int (0 : Int32)) := f16.other W20 (Or.inr (slot_ne (Or.inr (hw _ (List.mem_of_getElem? (i := 76) rfl))) (Or.inr (hw _ (List.mem_of_getElem? (i := 159) rfl))) (by decide) (t := .int) (t' := (.object "java/math/BigInteger")) (by decide) (by decide)))
  have f23 : Fld Z h20 p0 "java/math/BigDecimal" "precision" "I" (.int (0 : Int32)) := f17.other W20 (Or.inr (slot_ne (Or.inl (hw _ (List.mem_of_getElem? (i := 157) rfl))) (Or.inr (hw _ (List.mem_of_getElem? (i := 159) rfl))) (by decide) (t := .int) (t' := (.object "java/math/BigInteger")) (by decide) (by decide)))
  have f24 : Fld Z h20 p0 "java/math/BigDecimal" "intCompact" "J" (.long p2) := f18.other W20 (Or.inr (slot_ne (Or.inr (hw _ (List.mem_of_getElem? (i := 78) rfl))) (Or.inr (hw _ (List.mem_of_getElem? (i := 159) rfl))) (by decide) (t := .long) (t' := (.object "java/math/BigInteger")) (by decide) (by decide)))
  have f25 : Fld Z h20 p0 "java/math/BigDecimal" "intVal" "Ljava/math/BigInteger;" .null := f19.same W20
  refine own_go (fun _ k => st20 _ k) ?_
  show own_G _ _ _ (T20.setTop (mkF m 26 #[.val (.ref p0), .val .null, .val (.long p2), .second, .val (.int (0 : Int32)), .val (.int (0 : Int32))] [])) _ _ _ _
  exact own_endV X20 hx hlk Bd.returns (hb hby d25_26) (by decide) (by decide) (Q := (Q25 Z p0 p2 h0 n0)) (by rw [e20]; exact ⟨rfl, N20, K20_0, f21, f22, f24⟩)
theorem d10_0 : decode jdk_17_method_21_code 0 = .ok (.lload_n 0, 1) := by decide +kernel
theorem d10_1 : decode jdk_17_method_21_code 1 = .ok (.lconst 0, 1) := by decide +kernel
theorem d10_2 : decode jdk_17_method_21_code 2 = .ok (.lcmp, 1) := by decide +kernel
theorem d10_3 : decode jdk_17_method_21_code 3 = .ok (.ifCond .lt 20, 3) := by decide +kernel
theorem d10_6 : decode jdk_17_method_21_code 6 = .ok (.lload_n 0, 1) := by decide +kernel
theorem d10_7 : decode jdk_17_method_21_code 7 = .ok (.getstatic 246, 3) := by decide +kernel
theorem d10_10 : decode jdk_17_method_21_code 10 = .ok (.arraylength, 1) := by decide +kernel
theorem d10_11 : decode jdk_17_method_21_code 11 = .ok (.i2l, 1) := by decide +kernel
theorem d10_12 : decode jdk_17_method_21_code 12 = .ok (.lcmp, 1) := by decide +kernel
theorem d10_13 : decode jdk_17_method_21_code 13 = .ok (.ifCond .ge 10, 3) := by decide +kernel
theorem d10_16 : decode jdk_17_method_21_code 16 = .ok (.getstatic 246, 3) := by decide +kernel
theorem d10_19 : decode jdk_17_method_21_code 19 = .ok (.lload_n 0, 1) := by decide +kernel
theorem d10_20 : decode jdk_17_method_21_code 20 = .ok (.l2i, 1) := by decide +kernel
theorem d10_21 : decode jdk_17_method_21_code 21 = .ok (.aaload, 1) := by decide +kernel
theorem d10_22 : decode jdk_17_method_21_code 22 = .ok (.areturn, 1) := by decide +kernel
theorem d10_23 : decode jdk_17_method_21_code 23 = .ok (.lload_n 0, 1) := by decide +kernel
theorem d10_24 : decode jdk_17_method_21_code 24 = .ok (.ldc2_w 125, 3) := by decide +kernel
theorem d10_27 : decode jdk_17_method_21_code 27 = .ok (.lcmp, 1) := by decide +kernel
theorem d10_28 : decode jdk_17_method_21_code 28 = .ok (.ifCond .eq 15, 3) := by decide +kernel
theorem d10_31 : decode jdk_17_method_21_code 31 = .ok (.new 3, 3) := by decide +kernel
theorem d10_34 : decode jdk_17_method_21_code 34 = .ok (.dup, 1) := by decide +kernel
theorem d10_35 : decode jdk_17_method_21_code 35 = .ok (.aconst_null, 1) := by decide +kernel
theorem d10_36 : decode jdk_17_method_21_code 36 = .ok (.lload_n 0, 1) := by decide +kernel
theorem d10_37 : decode jdk_17_method_21_code 37 = .ok (.iconst 0, 1) := by decide +kernel
theorem d10_38 : decode jdk_17_method_21_code 38 = .ok (.iconst 0, 1) := by decide +kernel
theorem d10_39 : decode jdk_17_method_21_code 39 = .ok (.invokespecial 243, 3) := by decide +kernel
theorem d10_42 : decode jdk_17_method_21_code 42 = .ok (.areturn, 1) := by decide +kernel
theorem d10_43 : decode jdk_17_method_21_code 43 = .ok (.new 3, 3) := by decide +kernel
theorem d10_46 : decode jdk_17_method_21_code 46 = .ok (.dup, 1) := by decide +kernel
theorem d10_47 : decode jdk_17_method_21_code 47 = .ok (.getstatic 188, 3) := by decide +kernel
theorem d10_50 : decode jdk_17_method_21_code 50 = .ok (.lload_n 0, 1) := by decide +kernel
theorem d10_51 : decode jdk_17_method_21_code 51 = .ok (.iconst 0, 1) := by decide +kernel
theorem d10_52 : decode jdk_17_method_21_code 52 = .ok (.iconst 0, 1) := by decide +kernel
theorem d10_53 : decode jdk_17_method_21_code 53 = .ok (.invokespecial 243, 3) := by decide +kernel
theorem d10_56 : decode jdk_17_method_21_code 56 = .ok (.areturn, 1) := by decide +kernel
theorem pd_2 : parseMethodDescriptor "(Ljava/math/BigInteger;JII)V" = some ⟨[(.object "java/math/BigInteger"), .long, .int, .int], none⟩ := by decide +kernel
theorem ef_10 (m : MethodId) (x : Nat) : entryFrame m #[(.long (Int64.ofNat x))] 2 = mkF m 0 #[.val (.long (Int64.ofNat x)), .second] [] := by first | (simp [entryFrame, mkF, argsToLocals, Value.category]; done) | rfl
def Q10 (Z : State) (x : Nat) (zt : Addr) (kz : ClassId) (zz : Nat → Addr) (h0 : Heap) (n0 : Nat) (v : Option Value) (h : Heap) (L : List Loc) : Prop := ∃ (b : Addr), v = some (.ref b) ∧ Fr n0 L ∧ Keep h0 h [] ∧ Exa Z h b "java/math/BigDecimal" ∧ Fld Z h b "java/math/BigDecimal" "scale" "I" (.int (0 : Int32)) ∧ Fld Z h b "java/math/BigDecimal" "intCompact" "J" (.long (Int64.ofNat x))
set_option maxRecDepth 65536 in
set_option maxHeartbeats 40000000 in
theorem rm10 (l : Launch) (Z : State) (a0 : Array Value) (hw : ∀ d ∈ tables_1, d.before a0 Z = true) (ws : List Jvm.Cond) (x : Nat) (zt : Addr) (kz : ClassId) (zz : Nat → Addr) (h0 : Heap) (n0 : Nat) (Z0 : n0 ≤ h0.size) (P_Old : Old Z n0 h0) (P_ZS_java_math_BigDecimal_ZERO_THROUGH_TEN : Sta Z Z.heap "java/math/BigDecimal" "ZERO_THROUGH_TEN" "[Ljava/math/BigDecimal;" (.ref zt)) (VZ : Arv Z Z.heap zt kz (.object "java/math/BigDecimal") (11 : Int32) (own_fam (own_gr zz) .null 11 11) .null) (HZZ : own_BDs Z Z.heap zz 11) (hx15 : x ≤ 16) :
    MetFree l (⟨"java/math/BigDecimal", "valueOf", "(J)Ljava/math/BigDecimal;"⟩ : MethodName) (head1 (Jvm.Cond.code (⟨"java/math/BigDecimal", "valueOf", "(J)Ljava/math/BigDecimal;"⟩ : MethodName) jdk_17_method_21_code 2 (some (.object "java/math/BigDecimal")) :: ws) ({ frames := 3, cells := 1, slots := 5, locals := 42 } : Room)) (fun a U => a = #[(.long (Int64.ofNat x))] ∧ Z.Warmed39 U.vm ∧ U.heap = h0) (fun _ _ _ _ _ => True) (fun _ U o U' => ∃ v L, o = .returned v ∧ (Q10 Z x zt kz zz h0 n0) v U'.heap L ∧ FrameEnd U o U' L ({ frames := 3, cells := 1, slots := 5, locals := 42 } : Room).cells ({ frames := 3, cells := 1, slots := 5, locals := 42 } : Room).slots) := by
  refine MetFree.of_bodySF (plainFor_of_name pn_5) hisR ?_
  intro p e s m args below meth c s₁ Bd hml0 hP hK
  obtain ⟨rfl, hZ, hh⟩ := hP
  have hx := Bd.exec
  have hby := Bd.bytes
  have hml : c.maxLocals = 2 := hml0
  have hown : s.vm.findClass "java/math/BigDecimal" = some m.cls := findClass_of_methodNamed Bd.named
  have hnm := (name_of_methodNamed Bd.named Bd.method).1
  have hlk : meth.locks = false := BodyLoose.notSynchronized Bd
  have X0 : Stand p l e ({ frames := 3, cells := 1, slots := 5, locals := 42 } : Room) s m #[(.long (Int64.ofNat x))] below meth c s₁ [] 0 0 := Stand.of_body Bd
  have e0 : s₁.heap = h0 := by rw [← hh, Bd.state]; rfl
  have N0 := Fr.nil n0
  have K0 : Keep h0 h0 [] := Keep.refl h0 []
  show own_G p.tables e below (s₁.setTop (entryFrame m #[(.long (Int64.ofNat x))] 2)) s ({ frames := 3, cells := 1, slots := 5, locals := 42 } : Room).cells ({ frames := 3, cells := 1, slots := 5, locals := 42 } : Room).slots (Q10 Z x zt kz zz h0 n0)
  refine own_go (fun _ k => castTop (ef_10 m x) k) ?_
  show own_G _ _ _ (s₁.setTop (mkF m 0 #[.val (.long (Int64.ofNat x)), .second] [])) _ _ _ _
  have f1 : Arv Z h0 zt kz (.object "java/math/BigDecimal") (11 : Int32) (own_fam (own_gr zz) .null 11 11) .null := VZ.ext P_Old.2
  refine own_go (fun _ k => XS.lloadN X0.here hx rfl (hb hby d10_0) rfl k) ?_
  show own_G _ _ _ (s₁.setTop (mkF m 1 #[.val (.long (Int64.ofNat x)), .second] [(.long (Int64.ofNat x))])) _ _ _ _
  refine own_go (fun _ k => XS.lconst X0.here hx rfl (hb hby d10_1) k) ?_
  show own_G _ _ _ (s₁.setTop (mkF m 2 #[.val (.long (Int64.ofNat x)), .second] [(.long (0 : Int64)), (.long (Int64.ofNat x))])) _ _ _ _
  refine own_go (fun _ k => XS.lcmp X0.here hx rfl (hb hby d10_2) rfl k) ?_
  show own_G _ _ _ (s₁.setTop (mkF m 3 #[.val (.long (Int64.ofNat x)), .second] [(.int (lcmpW (Int64.ofNat x) (0 : Int64)))])) _ _ _ _
  have hc2 : ¬ ((Int64.ofNat x) < (0 : Int64)) := own_l0 x hx15
  refine own_go (fun _ k => XS.ifNo X0.here hx rfl (hb hby d10_3) rfl ((if0 _ _).trans (flt (fun q => hc2 ((lw_lt _ _).mp q))).1) k) ?_
  show own_G _ _ _ (s₁.setTop (mkF m 6 #[.val (.long (Int64.ofNat x)), .second] [])) _ _ _ _
  refine own_go (fun _ k => XS.lloadN X0.here hx rfl (hb hby d10_6) rfl k) ?_
  show own_G _ _ _ (s₁.setTop (mkF m 7 #[.val (.long (Int64.ofNat x)), .second] [(.long (Int64.ofNat x))])) _ _ _ _
  obtain ⟨T3, X3, e3, st3⟩ := getS2 X0 hx hZ hown (host := "") (Or.inl (hw _ (List.mem_of_getElem? (i := 69) rfl))) Via.refl e0 (P_ZS_java_math_BigDecimal_ZERO_THROUGH_TEN.ext P_Old.2) (g := (mkF m 7 #[.val (.long (Int64.ofNat x)), .second] [(.long (Int64.ofNat x))])) rfl (hb hby d10_7)
  refine own_go (fun _ k => st3 _ k) ?_
  show own_G _ _ _ (T3.setTop (mkF m 10 #[.val (.long (Int64.ofNat x)), .second] [(.ref zt), (.long (Int64.ofNat x))])) _ _ _ _
  obtain ⟨cl4, Ar4, -, S4, Ng4, -, -⟩ := id f1
  refine own_go (fun _ k => X3.arraylength hx (by rw [e3]; exact Ar4.1) (State.isArrayOf_alike hZ.alike Ar4.2.1) (g := (mkF m 10 #[.val (.long (Int64.ofNat x)), .second] [(.ref zt), (.long (Int64.ofNat x))])) rfl rfl (hb hby d10_10) _ k) ?_
  rw [len_of S4 Ng4]
  show own_G _ _ _ (T3.setTop (mkF m 11 #[.val (.long (Int64.ofNat x)), .second] [(.int (11 : Int32)), (.long (Int64.ofNat x))])) _ _ _ _
  refine own_go (fun _ k => XS.i2l X3.here hx rfl (hb hby d10_11) rfl k) ?_
  show own_G _ _ _ (T3.setTop (mkF m 12 #[.val (.long (Int64.ofNat x)), .second] [(.long (11 : Int32).toInt64), (.long (Int64.ofNat x))])) _ _ _ _
  refine own_go (fun _ k => XS.lcmp X3.here hx rfl (hb hby d10_12) rfl k) ?_
  show own_G _ _ _ (T3.setTop (mkF m 13 #[.val (.long (Int64.ofNat x)), .second] [(.int (lcmpW (Int64.ofNat x) (11 : Int32).toInt64))])) _ _ _ _
  by_cases hc5 : (Int64.ofNat x) < (11 : Int32).toInt64
  · refine own_go (fun _ k => XS.ifNo X3.here hx rfl (hb hby d10_13) rfl ((if0 _ _).trans (tlt ((lw_lt _ _).mpr hc5)).2.1) k) ?_
    show own_G _ _ _ (T3.setTop (mkF m 16 #[.val (.long (Int64.ofNat x)), .second] [])) _ _ _ _
    obtain ⟨T6, X6, e6, st6⟩ := getS2 X3 hx hZ hown (host := "") (Or.inl (hw _ (List.mem_of_getElem? (i := 69) rfl))) Via.refl e3 (P_ZS_java_math_BigDecimal_ZERO_THROUGH_TEN.ext P_Old.2) (g := (mkF m 16 #[.val (.long (Int64.ofNat x)), .second] [])) rfl (hb hby d10_16)
    refine own_go (fun _ k => st6 _ k) ?_
    show own_G _ _ _ (T6.setTop (mkF m 19 #[.val (.long (Int64.ofNat x)), .second] [(.ref zt)])) _ _ _ _
    refine own_go (fun _ k => XS.lloadN X6.here hx rfl (hb hby d10_19) rfl k) ?_
    show own_G _ _ _ (T6.setTop (mkF m 20 #[.val (.long (Int64.ofNat x)), .second] [(.long (Int64.ofNat x)), (.ref zt)])) _ _ _ _
    refine own_go (fun _ k => XS.l2i X6.here hx rfl (hb hby d10_20) rfl k) ?_
    rw [own_l2i x hx15]
    show own_G _ _ _ (T6.setTop (mkF m 21 #[.val (.long (Int64.ofNat x)), .second] [(.int (Int32.ofNat x)), (.ref zt)])) _ _ _ _
    obtain ⟨cl7, Ar7, q7, S7, Ng7, H7, G7⟩ := id f1
    have in7 : ¬ ((Int32.ofNat x) < 0 ∨ cl7.slots.size ≤ ((Int32.ofNat x)).toNatClampNeg) := inb_of S7 (own_inb (n := 11) (own_l11 x hx15 hc5) (by omega))
    have at7 : cl7.slots[((Int32.ofNat x)).toNatClampNeg]? = some (.ref (zz x)) := H7.at in7 (by rw [own_cl x (by omega)]; exact own_fam_get _ _ _ _ _ (own_l11 x hx15 hc5) (own_l11 x hx15 hc5))
    refine own_go (fun _ k => X6.aaload hx (j := (Int32.ofNat x)) (v := (.ref (zz x))) (by rw [e6]; exact Ar7.1) (State.isArrayOf_alike hZ.alike Ar7.2.1) rfl Ar7.2.2 in7 at7 (g := (mkF m 21 #[.val (.long (Int64.ofNat x)), .second] [(.int (Int32.ofNat x)), (.ref zt)])) rfl rfl (hb hby d10_21) _ k) ?_
    show own_G _ _ _ (T6.setTop (mkF m 22 #[.val (.long (Int64.ofNat x)), .second] [(.ref (zz x))])) _ _ _ _
    have bq8 := own_BD.ext (HZZ x (own_l11 x hx15 hc5)) P_Old.2
    have f9 : Exa Z h0 (zz x) "java/math/BigDecimal" := bq8.1
    have f10 : Fld Z h0 (zz x) "java/math/BigDecimal" "scale" "I" (.int (0 : Int32)) := bq8.2.1
    have f11 : Fld Z h0 (zz x) "java/math/BigDecimal" "intCompact" "J" (.long (Int64.ofNat x)) := bq8.2.2
    exact own_endR X6 hx hlk Bd.returns rfl rfl rfl (hb hby d10_22) (by decide) (by decide) (Q := (Q10 Z x zt kz zz h0 n0)) (by rw [e6]; exact ⟨(zz x), rfl, N0, K0, f9, f10, f11⟩)
  · refine own_go (fun _ k => XS.ifYes X3.here hx rfl (pc0 := 13) (pc' := 23) rfl (hb hby d10_13) rfl ((if0 _ _).trans (flt (fun q => hc5 ((lw_lt _ _).mp q))).2.1) (by decide) (by decide) k) ?_
    show own_G _ _ _ (T3.setTop (mkF m 23 #[.val (.long (Int64.ofNat x)), .second] [])) _ _ _ _
    refine own_go (fun _ k => XS.lloadN X3.here hx rfl (hb hby d10_23) rfl k) ?_
    show own_G _ _ _ (T3.setTop (mkF m 24 #[.val (.long (Int64.ofNat x)), .second] [(.long (Int64.ofNat x))])) _ _ _ _
    refine own_go (fun _ k => X3.ldc2Long hx hown (mvT hZ (hw _ (List.mem_of_getElem? (i := 79) rfl))) (g := (mkF m 24 #[.val (.long (Int64.ofNat x)), .second] [(.long (Int64.ofNat x))])) rfl (hb hby d10_24) _ k) ?_
    show own_G _ _ _ (T3.setTop (mkF m 27 #[.val (.long (Int64.ofNat x)), .second] [(.long (-9223372036854775808 : Int64)), (.long (Int64.ofNat x))])) _ _ _ _
    refine own_go (fun _ k => XS.lcmp X3.here hx rfl (hb hby d10_27) rfl k) ?_
    show own_G _ _ _ (T3.setTop (mkF m 28 #[.val (.long (Int64.ofNat x)), .second] [(.int (lcmpW (Int64.ofNat x) (-9223372036854775808 : Int64)))])) _ _ _ _
    have hc12 : ¬ ((Int64.ofNat x) = (-9223372036854775808 : Int64)) := own_lmin x hx15
    refine own_go (fun _ k => XS.ifNo X3.here hx rfl (hb hby d10_28) rfl ((if0 _ _).trans (feq (fun q => hc12 ((lw_eq _ _).mp q))).1) k) ?_
    show own_G _ _ _ (T3.setTop (mkF m 31 #[.val (.long (Int64.ofNat x)), .second] [])) _ _ _ _
    obtain ⟨T13, h13, X13, e13, E13, A13, D13, -, st13⟩ := newO X3 hx hZ hown (hw _ (List.mem_of_getElem? (i := 144) rfl)) (hw _ (List.mem_of_getElem? (i := 145) rfl)) (hw _ (List.mem_of_getElem? (i := 22) rfl)) e3 (g := (mkF m 31 #[.val (.long (Int64.ofNat x)), .second] [])) rfl (hb hby d10_31) (by decide) (by decide)
    obtain ⟨b13, g13⟩ : ∃ z, z = h0.size := ⟨_, rfl⟩
    rw [← g13] at A13 D13 st13
    have ne14 : zt ≠ b13 := Nat.ne_of_lt (Nat.lt_of_lt_of_le f1.lt (Nat.le_of_eq g13.symm))
    have gg13 : n0 ≤ b13 := Nat.le_trans Z0 (Nat.le_of_eq g13.symm)
    have sz13_0 : h0.size ≤ b13 := Nat.le_trans K0.1 (Nat.le_of_eq g13.symm)
    have Zs13 : n0 ≤ h13.size := Nat.le_trans Z0 E13.1
    have K13_0 : Keep h0 h13 [] := K0.ext E13
    have f15 : Old Z n0 h13 := P_Old.ext E13
    have f16 : Arv Z h13 zt kz (.object "java/math/BigDecimal") (11 : Int32) (own_fam (own_gr zz) .null 11 11) .null := f1.ext E13
    have f17 : Exa Z h13 b13 "java/math/BigDecimal" := A13
    have f18 : Fld Z h13 b13 "java/math/BigDecimal" "scale" "I" (.int (0 : Int32)) := D13 (Or.inr (hw _ (List.mem_of_getElem? (i := 76) rfl))) (ty := .int) (by decide)
    have f19 : Fld Z h13 b13 "java/math/BigDecimal" "intCompact" "J" (.long (0 : Int64)) := D13 (Or.inr (hw _ (List.mem_of_getElem? (i := 78) rfl))) (ty := .long) (by decide)
    have f20 : Fld Z h13 b13 "java/math/BigDecimal" "precision" "I" (.int (0 : Int32)) := D13 (Or.inl (hw _ (List.mem_of_getElem? (i := 157) rfl))) (ty := .int) (by decide)
    have f21 : Fld Z h13 b13 "java/math/BigDecimal" "intVal" "Ljava/math/BigInteger;" .null := D13 (Or.inr (hw _ (List.mem_of_getElem? (i := 159) rfl))) (ty := (.object "java/math/BigInteger")) (by decide)
    refine own_go (fun _ k => st13 _ k) ?_
    show own_G _ _ _ (T13.setTop (mkF m 34 #[.val (.long (Int64.ofNat x)), .second] [(.ref b13)])) _ _ _ _
    refine own_go (fun _ k => XS.dup X13.here hx rfl (hb hby d10_34) rfl rfl k) ?_
    show own_G _ _ _ (T13.setTop (mkF m 35 #[.val (.long (Int64.ofNat x)), .second] [(.ref b13), (.ref b13)])) _ _ _ _
    refine own_go (fun _ k => XS.aconstNull X13.here hx rfl (hb hby d10_35) k) ?_
    show own_G _ _ _ (T13.setTop (mkF m 36 #[.val (.long (Int64.ofNat x)), .second] [.null, (.ref b13), (.ref b13)])) _ _ _ _
    refine own_go (fun _ k => XS.lloadN X13.here hx rfl (hb hby d10_36) rfl k) ?_
    show own_G _ _ _ (T13.setTop (mkF m 37 #[.val (.long (Int64.ofNat x)), .second] [(.long (Int64.ofNat x)), .null, (.ref b13), (.ref b13)])) _ _ _ _
    refine own_go (fun _ k => XS.iconst X13.here hx rfl (hb hby d10_37) k) ?_
    show own_G _ _ _ (T13.setTop (mkF m 38 #[.val (.long (Int64.ofNat x)), .second] [(.int (0 : Int32)), (.long (Int64.ofNat x)), .null, (.ref b13), (.ref b13)])) _ _ _ _
    refine own_go (fun _ k => XS.iconst X13.here hx rfl (hb hby d10_38) k) ?_
    show own_G _ _ _ (T13.setTop (mkF m 39 #[.val (.long (Int64.ofNat x)), .second] [(.int (0 : Int32)), (.int (0 : Int32)), (.long (Int64.ofNat x)), .null, (.ref b13), (.ref b13)])) _ _ _ _
    obtain ⟨_, _, ⟨T22, L22, k22, n22⟩, -, X22, ⟨Lc22, hQ22, l22, y22, z22⟩, st22⟩ := X13.specialBack hx (y := (⟨"java/math/BigDecimal", "<init>", "(Ljava/math/BigInteger;JII)V"⟩ : MethodName)) rfl hown (mvT hZ (hw _ (List.mem_of_getElem? (i := 146) rfl))) (mvT hZ (hw _ (List.mem_of_getElem? (i := 147) rfl))) (mvT hZ (hw _ (List.mem_of_getElem? (i := 148) rfl))) (by decide) (backOf (W := 1) (rm25 l Z a0 hw [] b13 (Int64.ofNat x)  h13 n0 Zs13 f17 f18 f20 f19 f21 gg13) hZ (hw _ (List.mem_of_getElem? (i := 148) rfl)) (hw _ (List.mem_of_getElem? (i := 22) rfl)) (by decide) (by decide)) (g := (mkF m 39 #[.val (.long (Int64.ofNat x)), .second] [(.int (0 : Int32)), (.int (0 : Int32)), (.long (Int64.ofNat x)), .null, (.ref b13), (.ref b13)])) rfl (by rw [hml]; rfl) (Steps.refl _) (a := b13) (argsL := [.null, (.long (Int64.ofNat x)), (.int (0 : Int32)), (.int (0 : Int32))]) (rest := [(.ref b13)]) (lenOf pd_2 rfl) rfl (by show 2 * 0 + _ ≤ _; exact Nat.le_of_eq rfl) (hb hby d10_39) (fun _ _ => ⟨rfl, e13, (by decide : 1 + 0 ≤ _), (by decide : 5 + 0 ≤ _)⟩)
    dsimp only [Pt.U, Pt.locs, Pt.cells, Pt.slots] at X22 l22 y22 z22 st22 hQ22
    rw [l22] at X22
    subst y22 z22
    obtain ⟨rfl, Nq22, Kq22, r22_0, r22_1, r22_2⟩ := hQ22
    have N22 := Fr.app N0 Nq22
    have f23 : Old Z n0 T22.heap := f15.keep Kq22 (allS gg13 all0)
    have f24 : Arv Z T22.heap zt kz (.object "java/math/BigDecimal") (11 : Int32) (own_fam (own_gr zz) .null 11 11) .null := f16.keep Kq22 (ninS ne14 nin0)
    have f25 : Exa Z T22.heap b13 "java/math/BigDecimal" := f17.keep Kq22
    have Zs22 : n0 ≤ T22.heap.size := Nat.le_trans Zs13 Kq22.1
    have K22_0 : Keep h0 T22.heap [] := K13_0.trans Kq22 (allS (Or.inr sz13_0) all0)
    refine own_tr st22 ?_
    show own_G _ _ _ (T22.setTop (mkF m 42 #[.val (.long (Int64.ofNat x)), .second] [(.ref b13)])) _ _ _ _
    exact own_endR X22 hx hlk Bd.returns rfl rfl rfl (hb hby d10_42) (by decide) (by decide) (Q := (Q10 Z x zt kz zz h0 n0)) ⟨b13, rfl, N22, K22_0, r22_0, r22_1, r22_2⟩
theorem d23_0 : decode jdk_17_method_20_code 0 = .ok (.iload_n 2, 1) := by decide +kernel
theorem d23_1 : decode jdk_17_method_20_code 1 = .ok (.ifCond .ne 8, 3) := by decide +kernel
theorem d23_4 : decode jdk_17_method_20_code 4 = .ok (.lload_n 0, 1) := by decide +kernel
theorem d23_5 : decode jdk_17_method_20_code 5 = .ok (.invokestatic 236, 3) := by decide +kernel
theorem d23_8 : decode jdk_17_method_20_code 8 = .ok (.areturn, 1) := by decide +kernel
theorem d23_9 : decode jdk_17_method_20_code 9 = .ok (.lload_n 0, 1) := by decide +kernel
theorem d23_10 : decode jdk_17_method_20_code 10 = .ok (.lconst 0, 1) := by decide +kernel
theorem d23_11 : decode jdk_17_method_20_code 11 = .ok (.lcmp, 1) := by decide +kernel
theorem d23_12 : decode jdk_17_method_20_code 12 = .ok (.ifCond .ne 8, 3) := by decide +kernel
theorem d23_15 : decode jdk_17_method_20_code 15 = .ok (.iload_n 2, 1) := by decide +kernel
theorem d23_16 : decode jdk_17_method_20_code 16 = .ok (.invokestatic 239, 3) := by decide +kernel
theorem d23_19 : decode jdk_17_method_20_code 19 = .ok (.areturn, 1) := by decide +kernel
theorem d23_20 : decode jdk_17_method_20_code 20 = .ok (.new 3, 3) := by decide +kernel
theorem d23_23 : decode jdk_17_method_20_code 23 = .ok (.dup, 1) := by decide +kernel
theorem d23_24 : decode jdk_17_method_20_code 24 = .ok (.lload_n 0, 1) := by decide +kernel
theorem d23_25 : decode jdk_17_method_20_code 25 = .ok (.ldc2_w 125, 3) := by decide +kernel
theorem d23_28 : decode jdk_17_method_20_code 28 = .ok (.lcmp, 1) := by decide +kernel
theorem d23_29 : decode jdk_17_method_20_code 29 = .ok (.ifCond .ne 9, 3) := by decide +kernel
theorem d23_32 : decode jdk_17_method_20_code 32 = .ok (.getstatic 188, 3) := by decide +kernel
theorem d23_35 : decode jdk_17_method_20_code 35 = .ok (.goto 4, 3) := by decide +kernel
theorem d23_38 : decode jdk_17_method_20_code 38 = .ok (.aconst_null, 1) := by decide +kernel
theorem d23_39 : decode jdk_17_method_20_code 39 = .ok (.lload_n 0, 1) := by decide +kernel
theorem d23_40 : decode jdk_17_method_20_code 40 = .ok (.iload_n 2, 1) := by decide +kernel
theorem d23_41 : decode jdk_17_method_20_code 41 = .ok (.iconst 0, 1) := by decide +kernel
theorem d23_42 : decode jdk_17_method_20_code 42 = .ok (.invokespecial 243, 3) := by decide +kernel
theorem d23_45 : decode jdk_17_method_20_code 45 = .ok (.areturn, 1) := by decide +kernel
theorem pd_3 : parseMethodDescriptor "(J)Ljava/math/BigDecimal;" = some ⟨[.long], some (.object "java/math/BigDecimal")⟩ := by decide +kernel
theorem ef_23 (m : MethodId) (x : Nat) : entryFrame m #[(.long (Int64.ofNat x)), (.int (0 : Int32))] 3 = mkF m 0 #[.val (.long (Int64.ofNat x)), .second, .val (.int (0 : Int32))] [] := by first | (simp [entryFrame, mkF, argsToLocals, Value.category]; done) | rfl
def Q23 (Z : State) (x : Nat) (zt : Addr) (kz : ClassId) (zz : Nat → Addr) (h0 : Heap) (n0 : Nat) (v : Option Value) (h : Heap) (L : List Loc) : Prop := ∃ (b : Addr), v = some (.ref b) ∧ Fr n0 L ∧ Keep h0 h [] ∧ Exa Z h b "java/math/BigDecimal" ∧ Fld Z h b "java/math/BigDecimal" "scale" "I" (.int (0 : Int32)) ∧ Fld Z h b "java/math/BigDecimal" "intCompact" "J" (.long (Int64.ofNat x))
set_option maxRecDepth 65536 in
set_option maxHeartbeats 40000000 in
theorem rm23 (l : Launch) (Z : State) (a0 : Array Value) (hw : ∀ d ∈ tables_1, d.before a0 Z = true) (ws : List Jvm.Cond) (x : Nat) (zt : Addr) (kz : ClassId) (zz : Nat → Addr) (h0 : Heap) (n0 : Nat) (Z0 : n0 ≤ h0.size) (P_Old : Old Z n0 h0) (P_ZS_java_math_BigDecimal_ZERO_THROUGH_TEN : Sta Z Z.heap "java/math/BigDecimal" "ZERO_THROUGH_TEN" "[Ljava/math/BigDecimal;" (.ref zt)) (VZ : Arv Z Z.heap zt kz (.object "java/math/BigDecimal") (11 : Int32) (own_fam (own_gr zz) .null 11 11) .null) (HZZ : own_BDs Z Z.heap zz 11) (hx15 : x ≤ 16) :
    MetFree l (⟨"java/math/BigDecimal", "valueOf", "(JI)Ljava/math/BigDecimal;"⟩ : MethodName) (head1 (Jvm.Cond.code (⟨"java/math/BigDecimal", "valueOf", "(JI)Ljava/math/BigDecimal;"⟩ : MethodName) jdk_17_method_20_code 3 (some (.object "java/math/BigDecimal")) :: ws) ({ frames := 4, cells := 1, slots := 5, locals := 55 } : Room)) (fun a U => a = #[(.long (Int64.ofNat x)), (.int (0 : Int32))] ∧ Z.Warmed39 U.vm ∧ U.heap = h0) (fun _ _ _ _ _ => True) (fun _ U o U' => ∃ v L, o = .returned v ∧ (Q23 Z x zt kz zz h0 n0) v U'.heap L ∧ FrameEnd U o U' L ({ frames := 4, cells := 1, slots := 5, locals := 55 } : Room).cells ({ frames := 4, cells := 1, slots := 5, locals := 55 } : Room).slots) := by
  refine MetFree.of_bodySF (plainFor_of_name pn_5) hisR ?_
  intro p e s m args below meth c s₁ Bd hml0 hP hK
  obtain ⟨rfl, hZ, hh⟩ := hP
  have hx := Bd.exec
  have hby := Bd.bytes
  have hml : c.maxLocals = 3 := hml0
  have hown : s.vm.findClass "java/math/BigDecimal" = some m.cls := findClass_of_methodNamed Bd.named
  have hnm := (name_of_methodNamed Bd.named Bd.method).1
  have hlk : meth.locks = false := BodyLoose.notSynchronized Bd
  have X0 : Stand p l e ({ frames := 4, cells := 1, slots := 5, locals := 55 } : Room) s m #[(.long (Int64.ofNat x)), (.int (0 : Int32))] below meth c s₁ [] 0 0 := Stand.of_body Bd
  have e0 : s₁.heap = h0 := by rw [← hh, Bd.state]; rfl
  have N0 := Fr.nil n0
  have K0 : Keep h0 h0 [] := Keep.refl h0 []
  show own_G p.tables e below (s₁.setTop (entryFrame m #[(.long (Int64.ofNat x)), (.int (0 : Int32))] 3)) s ({ frames := 4, cells := 1, slots := 5, locals := 55 } : Room).cells ({ frames := 4, cells := 1, slots := 5, locals := 55 } : Room).slots (Q23 Z x zt kz zz h0 n0)
  refine own_go (fun _ k => castTop (ef_23 m x) k) ?_
  show own_G _ _ _ (s₁.setTop (mkF m 0 #[.val (.long (Int64.ofNat x)), .second, .val (.int (0 : Int32))] [])) _ _ _ _
  refine own_go (fun _ k => XS.iloadN X0.here hx rfl (hb hby d23_0) rfl k) ?_
  show own_G _ _ _ (s₁.setTop (mkF m 1 #[.val (.long (Int64.ofNat x)), .second, .val (.int (0 : Int32))] [(.int (0 : Int32))])) _ _ _ _
  have hc1 : (0 : Int32) = (0 : Int32) := (by decide)
  refine own_go (fun _ k => XS.ifNo X0.here hx rfl (hb hby d23_1) rfl ((if0 _ _).trans (teq hc1).2) k) ?_
  show own_G _ _ _ (s₁.setTop (mkF m 4 #[.val (.long (Int64.ofNat x)), .second, .val (.int (0 : Int32))] [])) _ _ _ _
  refine own_go (fun _ k => XS.lloadN X0.here hx rfl (hb hby d23_4) rfl k) ?_
  show own_G _ _ _ (s₁.setTop (mkF m 5 #[.val (.long (Int64.ofNat x)), .second, .val (.int (0 : Int32))] [(.long (Int64.ofNat x))])) _ _ _ _
  obtain ⟨_, _, ⟨T2, L2, k2, n2⟩, -, X2, ⟨Lc2, hQ2, l2, y2, z2⟩, st2⟩ := Jvm.LawKit.callS X0 hx (y := (⟨"java/math/BigDecimal", "valueOf", "(J)Ljava/math/BigDecimal;"⟩ : MethodName)) hown (mvT hZ (hw _ (List.mem_of_getElem? (i := 137) rfl))) (mvT hZ (hw _ (List.mem_of_getElem? (i := 67) rfl))) (mvT hZ (hw _ (List.mem_of_getElem? (i := 22) rfl))) (mvT hZ (hw _ (List.mem_of_getElem? (i := 68) rfl))) (by decide) (backOf (W := 0) (rm10 l Z a0 hw []  x zt kz zz h0 n0 Z0 P_Old P_ZS_java_math_BigDecimal_ZERO_THROUGH_TEN (by assumption) (by assumption) hx15) hZ (hw _ (List.mem_of_getElem? (i := 68) rfl)) (hw _ (List.mem_of_getElem? (i := 22) rfl)) (by decide) (by decide)) (g := (mkF m 5 #[.val (.long (Int64.ofNat x)), .second, .val (.int (0 : Int32))] [(.long (Int64.ofNat x))])) rfl (by rw [hml]; rfl) (argsL := [(.long (Int64.ofNat x))]) (rest := []) (lenOf pd_3 rfl) rfl (by show 2 * 0 + _ ≤ _; exact Nat.le_of_eq rfl) (hb hby d23_5) (fun _ _ => ⟨rfl, e0, (by decide : 0 + 1 ≤ _), (by decide : 0 + 5 ≤ _)⟩)
  dsimp only [Pt.U, Pt.locs, Pt.cells, Pt.slots] at X2 l2 y2 z2 st2 hQ2
  rw [l2] at X2
  subst y2 z2
  obtain ⟨b2, rfl, Nq2, Kq2, r2_0, r2_1, r2_2⟩ := hQ2
  have N2 := Fr.app N0 Nq2
  have f3 : Old Z n0 T2.heap := P_Old.keep Kq2 all0
  have Zs2 : n0 ≤ T2.heap.size := Nat.le_trans Z0 Kq2.1
  have K2_0 : Keep h0 T2.heap [] := K0.trans Kq2 all0
  refine own_go (fun _ k => st2 _ k) ?_
  show own_G _ _ _ (T2.setTop (mkF m 8 #[.val (.long (Int64.ofNat x)), .second, .val (.int (0 : Int32))] [(.ref b2)])) _ _ _ _
  exact own_endR X2 hx hlk Bd.returns rfl rfl rfl (hb hby d23_8) (by decide) (by decide) (Q := (Q23 Z x zt kz zz h0 n0)) ⟨b2, rfl, N2, K2_0, r2_0, r2_1, r2_2⟩
theorem d22_0 : decode jdk_17_method_132_code 0 = .ok (.lload_n 0, 1) := by decide +kernel
theorem d22_1 : decode jdk_17_method_132_code 1 = .ok (.lload_n 2, 1) := by decide +kernel
theorem d22_2 : decode jdk_17_method_132_code 2 = .ok (.ladd, 1) := by decide +kernel
theorem d22_3 : decode jdk_17_method_132_code 3 = .ok (.lstore 4, 2) := by decide +kernel
theorem d22_5 : decode jdk_17_method_132_code 5 = .ok (.lload 4, 2) := by decide +kernel
theorem d22_7 : decode jdk_17_method_132_code 7 = .ok (.lload_n 0, 1) := by decide +kernel
theorem d22_8 : decode jdk_17_method_132_code 8 = .ok (.lxor, 1) := by decide +kernel
theorem d22_9 : decode jdk_17_method_132_code 9 = .ok (.lload 4, 2) := by decide +kernel
theorem d22_11 : decode jdk_17_method_132_code 11 = .ok (.lload_n 2, 1) := by decide +kernel
theorem d22_12 : decode jdk_17_method_132_code 12 = .ok (.lxor, 1) := by decide +kernel
theorem d22_13 : decode jdk_17_method_132_code 13 = .ok (.land, 1) := by decide +kernel
theorem d22_14 : decode jdk_17_method_132_code 14 = .ok (.lconst 0, 1) := by decide +kernel
theorem d22_15 : decode jdk_17_method_132_code 15 = .ok (.lcmp, 1) := by decide +kernel
theorem d22_16 : decode jdk_17_method_132_code 16 = .ok (.ifCond .lt 6, 3) := by decide +kernel
theorem d22_19 : decode jdk_17_method_132_code 19 = .ok (.lload 4, 2) := by decide +kernel
theorem d22_21 : decode jdk_17_method_132_code 21 = .ok (.lreturn, 1) := by decide +kernel
theorem d22_22 : decode jdk_17_method_132_code 22 = .ok (.ldc2_w 125, 3) := by decide +kernel
theorem d22_25 : decode jdk_17_method_132_code 25 = .ok (.lreturn, 1) := by decide +kernel
theorem ef_22 (m : MethodId) (x : Nat) : entryFrame m #[(.long (Int64.ofNat x)), (.long (1 : Int64))] 6 = mkF m 0 #[.val (.long (Int64.ofNat x)), .second, .val (.long (1 : Int64)), .second, .unset, .unset] [] := by first | (simp [entryFrame, mkF, argsToLocals, Value.category]; done) | rfl
def Q22 (Z : State) (x : Nat) (h0 : Heap) (n0 : Nat) (v : Option Value) (h : Heap) (L : List Loc) : Prop := v = some (.long (Int64.ofNat (x + 1))) ∧ Fr n0 L ∧ h = h0
set_option maxRecDepth 65536 in
set_option maxHeartbeats 40000000 in
theorem rm22 (l : Launch) (Z : State) (a0 : Array Value) (hw : ∀ d ∈ tables_1, d.before a0 Z = true) (ws : List Jvm.Cond) (x : Nat) (h0 : Heap) (n0 : Nat) (Z0 : n0 ≤ h0.size) (hx14 : x ≤ 15) :
    MetFree l (⟨"java/math/BigDecimal", "add", "(JJ)J"⟩ : MethodName) (head1 (Jvm.Cond.code (⟨"java/math/BigDecimal", "add", "(JJ)J"⟩ : MethodName) jdk_17_method_132_code 6 (some .long) :: ws) ({ frames := 0, cells := 0, slots := 0, locals := 0 } : Room)) (fun a U => a = #[(.long (Int64.ofNat x)), (.long (1 : Int64))] ∧ Z.Warmed39 U.vm ∧ U.heap = h0) (fun _ _ _ _ _ => True) (fun _ U o U' => ∃ v L, o = .returned v ∧ (Q22 Z x h0 n0) v U'.heap L ∧ FrameEnd U o U' L ({ frames := 0, cells := 0, slots := 0, locals := 0 } : Room).cells ({ frames := 0, cells := 0, slots := 0, locals := 0 } : Room).slots) := by
  refine MetFree.of_bodySF (plainFor_of_name pn_5) hisR ?_
  intro p e s m args below meth c s₁ Bd hml0 hP hK
  obtain ⟨rfl, hZ, hh⟩ := hP
  have hx := Bd.exec
  have hby := Bd.bytes
  have hml : c.maxLocals = 6 := hml0
  have hown : s.vm.findClass "java/math/BigDecimal" = some m.cls := findClass_of_methodNamed Bd.named
  have hnm := (name_of_methodNamed Bd.named Bd.method).1
  have hlk : meth.locks = false := BodyLoose.notSynchronized Bd
  have X0 : Stand p l e ({ frames := 0, cells := 0, slots := 0, locals := 0 } : Room) s m #[(.long (Int64.ofNat x)), (.long (1 : Int64))] below meth c s₁ [] 0 0 := Stand.of_body Bd
  have e0 : s₁.heap = h0 := by rw [← hh, Bd.state]; rfl
  have N0 := Fr.nil n0
  show own_G p.tables e below (s₁.setTop (entryFrame m #[(.long (Int64.ofNat x)), (.long (1 : Int64))] 6)) s ({ frames := 0, cells := 0, slots := 0, locals := 0 } : Room).cells ({ frames := 0, cells := 0, slots := 0, locals := 0 } : Room).slots (Q22 Z x h0 n0)
  refine own_go (fun _ k => castTop (ef_22 m x) k) ?_
  show own_G _ _ _ (s₁.setTop (mkF m 0 #[.val (.long (Int64.ofNat x)), .second, .val (.long (1 : Int64)), .second, .unset, .unset] [])) _ _ _ _
  refine own_go (fun _ k => XS.lloadN X0.here hx rfl (hb hby d22_0) rfl k) ?_
  show own_G _ _ _ (s₁.setTop (mkF m 1 #[.val (.long (Int64.ofNat x)), .second, .val (.long (1 : Int64)), .second, .unset, .unset] [(.long (Int64.ofNat x))])) _ _ _ _
  refine own_go (fun _ k => XS.lloadN X0.here hx rfl (hb hby d22_1) rfl k) ?_
  show own_G _ _ _ (s₁.setTop (mkF m 2 #[.val (.long (Int64.ofNat x)), .second, .val (.long (1 : Int64)), .second, .unset, .unset] [(.long (1 : Int64)), (.long (Int64.ofNat x))])) _ _ _ _
  refine own_go (fun _ k => XS.ladd X0.here hx rfl (hb hby d22_2) rfl k) ?_
  rw [own_ladd x]
  show own_G _ _ _ (s₁.setTop (mkF m 3 #[.val (.long (Int64.ofNat x)), .second, .val (.long (1 : Int64)), .second, .unset, .unset] [(.long (Int64.ofNat (x + 1)))])) _ _ _ _
  refine own_go (fun _ k => XS.lstore X0.here hx rfl (hb hby d22_3) rfl (l' := #[.val (.long (Int64.ofNat x)), .second, .val (.long (1 : Int64)), .second, .val (.long (Int64.ofNat (x + 1))), .second]) rfl k) ?_
  show own_G _ _ _ (s₁.setTop (mkF m 5 #[.val (.long (Int64.ofNat x)), .second, .val (.long (1 : Int64)), .second, .val (.long (Int64.ofNat (x + 1))), .second] [])) _ _ _ _
  refine own_go (fun _ k => XS.lload X0.here hx rfl (hb hby d22_5) rfl k) ?_
  show own_G _ _ _ (s₁.setTop (mkF m 7 #[.val (.long (Int64.ofNat x)), .second, .val (.long (1 : Int64)), .second, .val (.long (Int64.ofNat (x + 1))), .second] [(.long (Int64.ofNat (x + 1)))])) _ _ _ _
  refine own_go (fun _ k => XS.lloadN X0.here hx rfl (hb hby d22_7) rfl k) ?_
  show own_G _ _ _ (s₁.setTop (mkF m 8 #[.val (.long (Int64.ofNat x)), .second, .val (.long (1 : Int64)), .second, .val (.long (Int64.ofNat (x + 1))), .second] [(.long (Int64.ofNat x)), (.long (Int64.ofNat (x + 1)))])) _ _ _ _
  refine own_go (fun _ k => XS.lxor X0.here hx rfl (hb hby d22_8) rfl k) ?_
  show own_G _ _ _ (s₁.setTop (mkF m 9 #[.val (.long (Int64.ofNat x)), .second, .val (.long (1 : Int64)), .second, .val (.long (Int64.ofNat (x + 1))), .second] [(.long ((Int64.ofNat (x + 1)) ^^^ (Int64.ofNat x)))])) _ _ _ _
  refine own_go (fun _ k => XS.lload X0.here hx rfl (hb hby d22_9) rfl k) ?_
  show own_G _ _ _ (s₁.setTop (mkF m 11 #[.val (.long (Int64.ofNat x)), .second, .val (.long (1 : Int64)), .second, .val (.long (Int64.ofNat (x + 1))), .second] [(.long (Int64.ofNat (x + 1))), (.long ((Int64.ofNat (x + 1)) ^^^ (Int64.ofNat x)))])) _ _ _ _
  refine own_go (fun _ k => XS.lloadN X0.here hx rfl (hb hby d22_11) rfl k) ?_
  show own_G _ _ _ (s₁.setTop (mkF m 12 #[.val (.long (Int64.ofNat x)), .second, .val (.long (1 : Int64)), .second, .val (.long (Int64.ofNat (x + 1))), .second] [(.long (1 : Int64)), (.long (Int64.ofNat (x + 1))), (.long ((Int64.ofNat (x + 1)) ^^^ (Int64.ofNat x)))])) _ _ _ _
  refine own_go (fun _ k => XS.lxor X0.here hx rfl (hb hby d22_12) rfl k) ?_
  show own_G _ _ _ (s₁.setTop (mkF m 13 #[.val (.long (Int64.ofNat x)), .second, .val (.long (1 : Int64)), .second, .val (.long (Int64.ofNat (x + 1))), .second] [(.long ((Int64.ofNat (x + 1)) ^^^ (1 : Int64))), (.long ((Int64.ofNat (x + 1)) ^^^ (Int64.ofNat x)))])) _ _ _ _
  refine own_go (fun _ k => XS.land X0.here hx rfl (hb hby d22_13) rfl k) ?_
  show own_G _ _ _ (s₁.setTop (mkF m 14 #[.val (.long (Int64.ofNat x)), .second, .val (.long (1 : Int64)), .second, .val (.long (Int64.ofNat (x + 1))), .second] [(.long (((Int64.ofNat (x + 1)) ^^^ (Int64.ofNat x)) &&& ((Int64.ofNat (x + 1)) ^^^ (1 : Int64))))])) _ _ _ _
  refine own_go (fun _ k => XS.lconst X0.here hx rfl (hb hby d22_14) k) ?_
  show own_G _ _ _ (s₁.setTop (mkF m 15 #[.val (.long (Int64.ofNat x)), .second, .val (.long (1 : Int64)), .second, .val (.long (Int64.ofNat (x + 1))), .second] [(.long (0 : Int64)), (.long (((Int64.ofNat (x + 1)) ^^^ (Int64.ofNat x)) &&& ((Int64.ofNat (x + 1)) ^^^ (1 : Int64))))])) _ _ _ _
  refine own_go (fun _ k => XS.lcmp X0.here hx rfl (hb hby d22_15) rfl k) ?_
  show own_G _ _ _ (s₁.setTop (mkF m 16 #[.val (.long (Int64.ofNat x)), .second, .val (.long (1 : Int64)), .second, .val (.long (Int64.ofNat (x + 1))), .second] [(.int (lcmpW (((Int64.ofNat (x + 1)) ^^^ (Int64.ofNat x)) &&& ((Int64.ofNat (x + 1)) ^^^ (1 : Int64))) (0 : Int64)))])) _ _ _ _
  have hc1 : ¬ ((((Int64.ofNat (x + 1)) ^^^ (Int64.ofNat x)) &&& ((Int64.ofNat (x + 1)) ^^^ (1 : Int64))) < (0 : Int64)) := own_lov x hx14
  refine own_go (fun _ k => XS.ifNo X0.here hx rfl (hb hby d22_16) rfl ((if0 _ _).trans (flt (fun q => hc1 ((lw_lt _ _).mp q))).1) k) ?_
  show own_G _ _ _ (s₁.setTop (mkF m 19 #[.val (.long (Int64.ofNat x)), .second, .val (.long (1 : Int64)), .second, .val (.long (Int64.ofNat (x + 1))), .second] [])) _ _ _ _
  refine own_go (fun _ k => XS.lload X0.here hx rfl (hb hby d22_19) rfl k) ?_
  show own_G _ _ _ (s₁.setTop (mkF m 21 #[.val (.long (Int64.ofNat x)), .second, .val (.long (1 : Int64)), .second, .val (.long (Int64.ofNat (x + 1))), .second] [(.long (Int64.ofNat (x + 1)))])) _ _ _ _
  exact own_endJ X0 hx hlk Bd.returns (hb hby d22_21) (by decide) (by decide) (Q := (Q22 Z x h0 n0)) (by rw [e0]; exact ⟨rfl, N0, rfl⟩)
theorem d21_0 : decode jdk_17_method_133_code 0 = .ok (.lload_n 0, 1) := by decide +kernel
theorem d21_1 : decode jdk_17_method_133_code 1 = .ok (.lload_n 2, 1) := by decide +kernel
theorem d21_2 : decode jdk_17_method_133_code 2 = .ok (.invokestatic 996, 3) := by decide +kernel
theorem d21_5 : decode jdk_17_method_133_code 5 = .ok (.lstore 5, 2) := by decide +kernel
theorem d21_7 : decode jdk_17_method_133_code 7 = .ok (.lload 5, 2) := by decide +kernel
theorem d21_9 : decode jdk_17_method_133_code 9 = .ok (.ldc2_w 125, 3) := by decide +kernel
theorem d21_12 : decode jdk_17_method_133_code 12 = .ok (.lcmp, 1) := by decide +kernel
theorem d21_13 : decode jdk_17_method_133_code 13 = .ok (.ifCond .eq 11, 3) := by decide +kernel
theorem d21_16 : decode jdk_17_method_133_code 16 = .ok (.lload 5, 2) := by decide +kernel
theorem d21_18 : decode jdk_17_method_133_code 18 = .ok (.iload 4, 2) := by decide +kernel
theorem d21_20 : decode jdk_17_method_133_code 20 = .ok (.invokestatic 328, 3) := by decide +kernel
theorem d21_23 : decode jdk_17_method_133_code 23 = .ok (.areturn, 1) := by decide +kernel
theorem d21_24 : decode jdk_17_method_133_code 24 = .ok (.new 3, 3) := by decide +kernel
theorem d21_27 : decode jdk_17_method_133_code 27 = .ok (.dup, 1) := by decide +kernel
theorem d21_28 : decode jdk_17_method_133_code 28 = .ok (.lload_n 0, 1) := by decide +kernel
theorem d21_29 : decode jdk_17_method_133_code 29 = .ok (.invokestatic 193, 3) := by decide +kernel
theorem d21_32 : decode jdk_17_method_133_code 32 = .ok (.lload_n 2, 1) := by decide +kernel
theorem d21_33 : decode jdk_17_method_133_code 33 = .ok (.invokevirtual 998, 3) := by decide +kernel
theorem d21_36 : decode jdk_17_method_133_code 36 = .ok (.iload 4, 2) := by decide +kernel
theorem d21_38 : decode jdk_17_method_133_code 38 = .ok (.invokespecial 577, 3) := by decide +kernel
theorem d21_41 : decode jdk_17_method_133_code 41 = .ok (.areturn, 1) := by decide +kernel
theorem pd_4 : parseMethodDescriptor "(JJ)J" = some ⟨[.long, .long], some .long⟩ := by decide +kernel
theorem pd_5 : parseMethodDescriptor "(JI)Ljava/math/BigDecimal;" = some ⟨[.long, .int], some (.object "java/math/BigDecimal")⟩ := by decide +kernel
theorem ef_21 (m : MethodId) (x : Nat) : entryFrame m #[(.long (Int64.ofNat x)), (.long (1 : Int64)), (.int (0 : Int32))] 7 = mkF m 0 #[.val (.long (Int64.ofNat x)), .second, .val (.long (1 : Int64)), .second, .val (.int (0 : Int32)), .unset, .unset] [] := by first | (simp [entryFrame, mkF, argsToLocals, Value.category]; done) | rfl
def Q21 (Z : State) (x : Nat) (zt : Addr) (kz : ClassId) (zz : Nat → Addr) (h0 : Heap) (n0 : Nat) (v : Option Value) (h : Heap) (L : List Loc) : Prop := ∃ (b : Addr), v = some (.ref b) ∧ Fr n0 L ∧ Keep h0 h [] ∧ Exa Z h b "java/math/BigDecimal" ∧ Fld Z h b "java/math/BigDecimal" "scale" "I" (.int (0 : Int32)) ∧ Fld Z h b "java/math/BigDecimal" "intCompact" "J" (.long (Int64.ofNat (x + 1)))
set_option maxRecDepth 65536 in
set_option maxHeartbeats 40000000 in
theorem rm21 (l : Launch) (Z : State) (a0 : Array Value) (hw : ∀ d ∈ tables_1, d.before a0 Z = true) (ws : List Jvm.Cond) (x : Nat) (zt : Addr) (kz : ClassId) (zz : Nat → Addr) (h0 : Heap) (n0 : Nat) (Z0 : n0 ≤ h0.size) (P_Old : Old Z n0 h0) (P_ZS_java_math_BigDecimal_ZERO_THROUGH_TEN : Sta Z Z.heap "java/math/BigDecimal" "ZERO_THROUGH_TEN" "[Ljava/math/BigDecimal;" (.ref zt)) (VZ : Arv Z Z.heap zt kz (.object "java/math/BigDecimal") (11 : Int32) (own_fam (own_gr zz) .null 11 11) .null) (HZZ : own_BDs Z Z.heap zz 11) (hx14 : x ≤ 15) :
    MetFree l (⟨"java/math/BigDecimal", "add", "(JJI)Ljava/math/BigDecimal;"⟩ : MethodName) (head1 (Jvm.Cond.code (⟨"java/math/BigDecimal", "add", "(JJI)Ljava/math/BigDecimal;"⟩ : MethodName) jdk_17_method_133_code 7 (some (.object "java/math/BigDecimal")) :: ws) ({ frames := 5, cells := 1, slots := 5, locals := 69 } : Room)) (fun a U => a = #[(.long (Int64.ofNat x)), (.long (1 : Int64)), (.int (0 : Int32))] ∧ Z.Warmed39 U.vm ∧ U.heap = h0) (fun _ _ _ _ _ => True) (fun _ U o U' => ∃ v L, o = .returned v ∧ (Q21 Z x zt kz zz h0 n0) v U'.heap L ∧ FrameEnd U o U' L ({ frames := 5, cells := 1, slots := 5, locals := 69 } : Room).cells ({ frames := 5, cells := 1, slots := 5, locals := 69 } : Room).slots) := by
  refine MetFree.of_bodySF (plainFor_of_name pn_5) hisR ?_
  intro p e s m args below meth c s₁ Bd hml0 hP hK
  obtain ⟨rfl, hZ, hh⟩ := hP
  have hx := Bd.exec
  have hby := Bd.bytes
  have hml : c.maxLocals = 7 := hml0
  have hown : s.vm.findClass "java/math/BigDecimal" = some m.cls := findClass_of_methodNamed Bd.named
  have hnm := (name_of_methodNamed Bd.named Bd.method).1
  have hlk : meth.locks = false := BodyLoose.notSynchronized Bd
  have X0 : Stand p l e ({ frames := 5, cells := 1, slots := 5, locals := 69 } : Room) s m #[(.long (Int64.ofNat x)), (.long (1 : Int64)), (.int (0 : Int32))] below meth c s₁ [] 0 0 := Stand.of_body Bd
  have e0 : s₁.heap = h0 := by rw [← hh, Bd.state]; rfl
  have N0 := Fr.nil n0
  have K0 : Keep h0 h0 [] := Keep.refl h0 []
  show own_G p.tables e below (s₁.setTop (entryFrame m #[(.long (Int64.ofNat x)), (.long (1 : Int64)), (.int (0 : Int32))] 7)) s ({ frames := 5, cells := 1, slots := 5, locals := 69 } : Room).cells ({ frames := 5, cells := 1, slots := 5, locals := 69 } : Room).slots (Q21 Z x zt kz zz h0 n0)
  refine own_go (fun _ k => castTop (ef_21 m x) k) ?_
  show own_G _ _ _ (s₁.setTop (mkF m 0 #[.val (.long (Int64.ofNat x)), .second, .val (.long (1 : Int64)), .second, .val (.int (0 : Int32)), .unset, .unset] [])) _ _ _ _
  refine own_go (fun _ k => XS.lloadN X0.here hx rfl (hb hby d21_0) rfl k) ?_
  show own_G _ _ _ (s₁.setTop (mkF m 1 #[.val (.long (Int64.ofNat x)), .second, .val (.long (1 : Int64)), .second, .val (.int (0 : Int32)), .unset, .unset] [(.long (Int64.ofNat x))])) _ _ _ _
  refine own_go (fun _ k => XS.lloadN X0.here hx rfl (hb hby d21_1) rfl k) ?_
  show own_G _ _ _ (s₁.setTop (mkF m 2 #[.val (.long (Int64.ofNat x)), .second, .val (.long (1 : Int64)), .second, .val (.int (0 : Int32)), .unset, .unset] [(.long (1 : Int64)), (.long (Int64.ofNat x))])) _ _ _ _
  obtain ⟨_, _, ⟨T1, L1, k1, n1⟩, -, X1, ⟨Lc1, hQ1, l1, y1, z1⟩, st1⟩ := Jvm.LawKit.callS X0 hx (y := (⟨"java/math/BigDecimal", "add", "(JJ)J"⟩ : MethodName)) hown (mvT hZ (hw _ (List.mem_of_getElem? (i := 131) rfl))) (mvT hZ (hw _ (List.mem_of_getElem? (i := 132) rfl))) (mvT hZ (hw _ (List.mem_of_getElem? (i := 22) rfl))) (mvT hZ (hw _ (List.mem_of_getElem? (i := 133) rfl))) (by decide) (backOf (W := 0) (rm22 l Z a0 hw []  x h0 n0 Z0 hx14) hZ (hw _ (List.mem_of_getElem? (i := 133) rfl)) (hw _ (List.mem_of_getElem? (i := 22) rfl)) (by decide) (by decide)) (g := (mkF m 2 #[.val (.long (Int64.ofNat x)), .second, .val (.long (1 : Int64)), .second, .val (.int (0 : Int32)), .unset, .unset] [(.long (1 : Int64)), (.long (Int64.ofNat x))])) rfl (by rw [hml]; rfl) (argsL := [(.long (Int64.ofNat x)), (.long (1 : Int64))]) (rest := []) (lenOf pd_4 rfl) rfl (by show 2 * 0 + _ ≤ _; exact Nat.le_of_eq rfl) (hb hby d21_2) (fun _ _ => ⟨rfl, e0, (by decide : 0 + 0 ≤ _), (by decide : 0 + 0 ≤ _)⟩)
  dsimp only [Pt.U, Pt.locs, Pt.cells, Pt.slots] at X1 l1 y1 z1 st1 hQ1
  rw [l1] at X1
  subst y1 z1
  obtain ⟨rfl, Nq1, eh1⟩ := hQ1
  have N1 := Fr.app N0 Nq1
  refine own_go (fun _ k => st1 _ k) ?_
  show own_G _ _ _ (T1.setTop (mkF m 5 #[.val (.long (Int64.ofNat x)), .second, .val (.long (1 : Int64)), .second, .val (.int (0 : Int32)), .unset, .unset] [(.long (Int64.ofNat (x + 1)))])) _ _ _ _
  refine own_go (fun _ k => XS.lstore X1.here hx rfl (hb hby d21_5) rfl (l' := #[.val (.long (Int64.ofNat x)), .second, .val (.long (1 : Int64)), .second, .val (.int (0 : Int32)), .val (.long (Int64.ofNat (x + 1))), .second]) rfl k) ?_
  show own_G _ _ _ (T1.setTop (mkF m 7 #[.val (.long (Int64.ofNat x)), .second, .val (.long (1 : Int64)), .second, .val (.int (0 : Int32)), .val (.long (Int64.ofNat (x + 1))), .second] [])) _ _ _ _
  refine own_go (fun _ k => XS.lload X1.here hx rfl (hb hby d21_7) rfl k) ?_
  show own_G _ _ _ (T1.setTop (mkF m 9 #[.val (.long (Int64.ofNat x)), .second, .val (.long (1 : Int64)), .second, .val (.int (0 : Int32)), .val (.long (Int64.ofNat (x + 1))), .second] [(.long (Int64.ofNat (x + 1)))])) _ _ _ _
  refine own_go (fun _ k => X1.ldc2Long hx hown (mvT hZ (hw _ (List.mem_of_getElem? (i := 79) rfl))) (g := (mkF m 9 #[.val (.long (Int64.ofNat x)), .second, .val (.long (1 : Int64)), .second, .val (.int (0 : Int32)), .val (.long (Int64.ofNat (x + 1))), .second] [(.long (Int64.ofNat (x + 1)))])) rfl (hb hby d21_9) _ k) ?_
  show own_G _ _ _ (T1.setTop (mkF m 12 #[.val (.long (Int64.ofNat x)), .second, .val (.long (1 : Int64)), .second, .val (.int (0 : Int32)), .val (.long (Int64.ofNat (x + 1))), .second] [(.long (-9223372036854775808 : Int64)), (.long (Int64.ofNat (x + 1)))])) _ _ _ _
  refine own_go (fun _ k => XS.lcmp X1.here hx rfl (hb hby d21_12) rfl k) ?_
  show own_G _ _ _ (T1.setTop (mkF m 13 #[.val (.long (Int64.ofNat x)), .second, .val (.long (1 : Int64)), .second, .val (.int (0 : Int32)), .val (.long (Int64.ofNat (x + 1))), .second] [(.int (lcmpW (Int64.ofNat (x + 1)) (-9223372036854775808 : Int64)))])) _ _ _ _
  have hc2 : ¬ ((Int64.ofNat (x + 1)) = (-9223372036854775808 : Int64)) := own_lmin (x + 1) (by omega)
  refine own_go (fun _ k => XS.ifNo X1.here hx rfl (hb hby d21_13) rfl ((if0 _ _).trans (feq (fun q => hc2 ((lw_eq _ _).mp q))).1) k) ?_
  show own_G _ _ _ (T1.setTop (mkF m 16 #[.val (.long (Int64.ofNat x)), .second, .val (.long (1 : Int64)), .second, .val (.int (0 : Int32)), .val (.long (Int64.ofNat (x + 1))), .second] [])) _ _ _ _
  refine own_go (fun _ k => XS.lload X1.here hx rfl (hb hby d21_16) rfl k) ?_
  show own_G _ _ _ (T1.setTop (mkF m 18 #[.val (.long (Int64.ofNat x)), .second, .val (.long (1 : Int64)), .second, .val (.int (0 : Int32)), .val (.long (Int64.ofNat (x + 1))), .second] [(.long (Int64.ofNat (x + 1)))])) _ _ _ _
  refine own_go (fun _ k => XS.iload X1.here hx rfl (hb hby d21_18) rfl k) ?_
  show own_G _ _ _ (T1.setTop (mkF m 20 #[.val (.long (Int64.ofNat x)), .second, .val (.long (1 : Int64)), .second, .val (.int (0 : Int32)), .val (.long (Int64.ofNat (x + 1))), .second] [(.int (0 : Int32)), (.long (Int64.ofNat (x + 1)))])) _ _ _ _
  obtain ⟨_, _, ⟨T3, L3, k3, n3⟩, -, X3, ⟨Lc3, hQ3, l3, y3, z3⟩, st3⟩ := Jvm.LawKit.callS X1 hx (y := (⟨"java/math/BigDecimal", "valueOf", "(JI)Ljava/math/BigDecimal;"⟩ : MethodName)) hown (mvT hZ (hw _ (List.mem_of_getElem? (i := 134) rfl))) (mvT hZ (hw _ (List.mem_of_getElem? (i := 135) rfl))) (mvT hZ (hw _ (List.mem_of_getElem? (i := 22) rfl))) (mvT hZ (hw _ (List.mem_of_getElem? (i := 136) rfl))) (by decide) (backOf (W := 0) (rm23 l Z a0 hw []  (x + 1) zt kz zz h0 n0 Z0 P_Old P_ZS_java_math_BigDecimal_ZERO_THROUGH_TEN (by assumption) (by assumption) (by omega)) hZ (hw _ (List.mem_of_getElem? (i := 136) rfl)) (hw _ (List.mem_of_getElem? (i := 22) rfl)) (by decide) (by decide)) (g := (mkF m 20 #[.val (.long (Int64.ofNat x)), .second, .val (.long (1 : Int64)), .second, .val (.int (0 : Int32)), .val (.long (Int64.ofNat (x + 1))), .second] [(.int (0 : Int32)), (.long (Int64.ofNat (x + 1)))])) rfl (by rw [hml]; rfl) (argsL := [(.long (Int64.ofNat (x + 1))), (.int (0 : Int32))]) (rest := []) (lenOf pd_5 rfl) rfl (by show 2 * 0 + _ ≤ _; exact Nat.le_of_eq rfl) (hb hby d21_20) (fun _ _ => ⟨rfl, eh1, (by decide : 0 + 1 ≤ _), (by decide : 0 + 5 ≤ _)⟩)
  dsimp only [Pt.U, Pt.locs, Pt.cells, Pt.slots] at X3 l3 y3 z3 st3 hQ3
  rw [l3] at X3
  subst y3 z3
  obtain ⟨b3, rfl, Nq3, Kq3, r3_0, r3_1, r3_2⟩ := hQ3
  have N3 := Fr.app N1 Nq3
  have f4 : Old Z n0 T3.heap := P_Old.keep Kq3 all0
  have Zs3 : n0 ≤ T3.heap.size := Nat.le_trans Z0 Kq3.1
  have K3_0 : Keep h0 T3.heap [] := K0.trans Kq3 all0
  refine own_go (fun _ k => st3 _ k) ?_
  show own_G _ _ _ (T3.setTop (mkF m 23 #[.val (.long (Int64.ofNat x)), .second, .val (.long (1 : Int64)), .second, .val (.int (0 : Int32)), .val (.long (Int64.ofNat (x + 1))), .second] [(.ref b3)])) _ _ _ _
  exact own_endR X3 hx hlk Bd.returns rfl rfl rfl (hb hby d21_23) (by decide) (by decide) (Q := (Q21 Z x zt kz zz h0 n0)) ⟨b3, rfl, N3, K3_0, r3_0, r3_1, r3_2⟩
theorem d20_0 : decode jdk_17_method_134_code 0 = .ok (.iload_n 2, 1) := by decide +kernel
theorem d20_1 : decode jdk_17_method_134_code 1 = .ok (.i2l, 1) := by decide +kernel
theorem d20_2 : decode jdk_17_method_134_code 2 = .ok (.iload 5, 2) := by decide +kernel
theorem d20_4 : decode jdk_17_method_134_code 4 = .ok (.i2l, 1) := by decide +kernel
theorem d20_5 : decode jdk_17_method_134_code 5 = .ok (.lsub, 1) := by decide +kernel
theorem d20_6 : decode jdk_17_method_134_code 6 = .ok (.lstore 6, 2) := by decide +kernel
theorem d20_8 : decode jdk_17_method_134_code 8 = .ok (.lload 6, 2) := by decide +kernel
theorem d20_10 : decode jdk_17_method_134_code 10 = .ok (.lconst 0, 1) := by decide +kernel
theorem d20_11 : decode jdk_17_method_134_code 11 = .ok (.lcmp, 1) := by decide +kernel
theorem d20_12 : decode jdk_17_method_134_code 12 = .ok (.ifCond .ne 10, 3) := by decide +kernel
theorem d20_15 : decode jdk_17_method_134_code 15 = .ok (.lload_n 0, 1) := by decide +kernel
theorem d20_16 : decode jdk_17_method_134_code 16 = .ok (.lload_n 3, 1) := by decide +kernel
theorem d20_17 : decode jdk_17_method_134_code 17 = .ok (.iload_n 2, 1) := by decide +kernel
theorem d20_18 : decode jdk_17_method_134_code 18 = .ok (.invokestatic 1000, 3) := by decide +kernel
theorem d20_21 : decode jdk_17_method_134_code 21 = .ok (.areturn, 1) := by decide +kernel
theorem d20_22 : decode jdk_17_method_134_code 22 = .ok (.lload 6, 2) := by decide +kernel
theorem d20_24 : decode jdk_17_method_134_code 24 = .ok (.lconst 0, 1) := by decide +kernel
theorem d20_25 : decode jdk_17_method_134_code 25 = .ok (.lcmp, 1) := by decide +kernel
theorem d20_26 : decode jdk_17_method_134_code 26 = .ok (.ifCond .ge 85, 3) := by decide +kernel
theorem d20_29 : decode jdk_17_method_134_code 29 = .ok (.lload_n 0, 1) := by decide +kernel
theorem d20_30 : decode jdk_17_method_134_code 30 = .ok (.lload 6, 2) := by decide +kernel
theorem d20_32 : decode jdk_17_method_134_code 32 = .ok (.lneg, 1) := by decide +kernel
theorem d20_33 : decode jdk_17_method_134_code 33 = .ok (.invokestatic 994, 3) := by decide +kernel
theorem d20_36 : decode jdk_17_method_134_code 36 = .ok (.istore 8, 2) := by decide +kernel
theorem d20_38 : decode jdk_17_method_134_code 38 = .ok (.lload_n 0, 1) := by decide +kernel
theorem d20_39 : decode jdk_17_method_134_code 39 = .ok (.iload 8, 2) := by decide +kernel
theorem d20_41 : decode jdk_17_method_134_code 41 = .ok (.invokestatic 599, 3) := by decide +kernel
theorem d20_44 : decode jdk_17_method_134_code 44 = .ok (.lstore 9, 2) := by decide +kernel
theorem d20_46 : decode jdk_17_method_134_code 46 = .ok (.lload 9, 2) := by decide +kernel
theorem d20_48 : decode jdk_17_method_134_code 48 = .ok (.ldc2_w 125, 3) := by decide +kernel
theorem d20_51 : decode jdk_17_method_134_code 51 = .ok (.lcmp, 1) := by decide +kernel
theorem d20_52 : decode jdk_17_method_134_code 52 = .ok (.ifCond .eq 12, 3) := by decide +kernel
theorem d20_55 : decode jdk_17_method_134_code 55 = .ok (.lload 9, 2) := by decide +kernel
theorem d20_57 : decode jdk_17_method_134_code 57 = .ok (.lload_n 3, 1) := by decide +kernel
theorem d20_58 : decode jdk_17_method_134_code 58 = .ok (.iload 5, 2) := by decide +kernel
theorem d20_60 : decode jdk_17_method_134_code 60 = .ok (.invokestatic 1000, 3) := by decide +kernel
theorem d20_63 : decode jdk_17_method_134_code 63 = .ok (.areturn, 1) := by decide +kernel
theorem d20_64 : decode jdk_17_method_134_code 64 = .ok (.lload_n 0, 1) := by decide +kernel
theorem d20_65 : decode jdk_17_method_134_code 65 = .ok (.iload 8, 2) := by decide +kernel
theorem d20_67 : decode jdk_17_method_134_code 67 = .ok (.invokestatic 1002, 3) := by decide +kernel
theorem d20_70 : decode jdk_17_method_134_code 70 = .ok (.lload_n 3, 1) := by decide +kernel
theorem d20_71 : decode jdk_17_method_134_code 71 = .ok (.invokevirtual 998, 3) := by decide +kernel
theorem d20_74 : decode jdk_17_method_134_code 74 = .ok (.astore 11, 2) := by decide +kernel
theorem d20_76 : decode jdk_17_method_134_code 76 = .ok (.lload_n 0, 1) := by decide +kernel
theorem d20_77 : decode jdk_17_method_134_code 77 = .ok (.lload_n 3, 1) := by decide +kernel
theorem d20_78 : decode jdk_17_method_134_code 78 = .ok (.lxor, 1) := by decide +kernel
theorem d20_79 : decode jdk_17_method_134_code 79 = .ok (.lconst 0, 1) := by decide +kernel
theorem d20_80 : decode jdk_17_method_134_code 80 = .ok (.lcmp, 1) := by decide +kernel
theorem d20_81 : decode jdk_17_method_134_code 81 = .ok (.ifCond .lt 21, 3) := by decide +kernel
theorem d20_84 : decode jdk_17_method_134_code 84 = .ok (.new 3, 3) := by decide +kernel
theorem d20_87 : decode jdk_17_method_134_code 87 = .ok (.dup, 1) := by decide +kernel
theorem d20_88 : decode jdk_17_method_134_code 88 = .ok (.aload 11, 2) := by decide +kernel
theorem d20_90 : decode jdk_17_method_134_code 90 = .ok (.ldc2_w 125, 3) := by decide +kernel
theorem d20_93 : decode jdk_17_method_134_code 93 = .ok (.iload 5, 2) := by decide +kernel
theorem d20_95 : decode jdk_17_method_134_code 95 = .ok (.iconst 0, 1) := by decide +kernel
theorem d20_96 : decode jdk_17_method_134_code 96 = .ok (.invokespecial 243, 3) := by decide +kernel
theorem d20_99 : decode jdk_17_method_134_code 99 = .ok (.goto 11, 3) := by decide +kernel
theorem d20_102 : decode jdk_17_method_134_code 102 = .ok (.aload 11, 2) := by decide +kernel
theorem d20_104 : decode jdk_17_method_134_code 104 = .ok (.iload 5, 2) := by decide +kernel
theorem d20_106 : decode jdk_17_method_134_code 106 = .ok (.iconst 0, 1) := by decide +kernel
theorem d20_107 : decode jdk_17_method_134_code 107 = .ok (.invokestatic 991, 3) := by decide +kernel
theorem d20_110 : decode jdk_17_method_134_code 110 = .ok (.areturn, 1) := by decide +kernel
theorem d20_111 : decode jdk_17_method_134_code 111 = .ok (.lload_n 3, 1) := by decide +kernel
theorem d20_112 : decode jdk_17_method_134_code 112 = .ok (.lload 6, 2) := by decide +kernel
theorem d20_114 : decode jdk_17_method_134_code 114 = .ok (.invokestatic 994, 3) := by decide +kernel
theorem d20_117 : decode jdk_17_method_134_code 117 = .ok (.istore 8, 2) := by decide +kernel
theorem d20_119 : decode jdk_17_method_134_code 119 = .ok (.lload_n 3, 1) := by decide +kernel
theorem d20_120 : decode jdk_17_method_134_code 120 = .ok (.iload 8, 2) := by decide +kernel
theorem d20_122 : decode jdk_17_method_134_code 122 = .ok (.invokestatic 599, 3) := by decide +kernel
theorem d20_125 : decode jdk_17_method_134_code 125 = .ok (.lstore 9, 2) := by decide +kernel
theorem d20_127 : decode jdk_17_method_134_code 127 = .ok (.lload 9, 2) := by decide +kernel
theorem d20_129 : decode jdk_17_method_134_code 129 = .ok (.ldc2_w 125, 3) := by decide +kernel
theorem d20_132 : decode jdk_17_method_134_code 132 = .ok (.lcmp, 1) := by decide +kernel
theorem d20_133 : decode jdk_17_method_134_code 133 = .ok (.ifCond .eq 11, 3) := by decide +kernel
theorem d20_136 : decode jdk_17_method_134_code 136 = .ok (.lload_n 0, 1) := by decide +kernel
theorem d20_137 : decode jdk_17_method_134_code 137 = .ok (.lload 9, 2) := by decide +kernel
theorem d20_139 : decode jdk_17_method_134_code 139 = .ok (.iload_n 2, 1) := by decide +kernel
theorem d20_140 : decode jdk_17_method_134_code 140 = .ok (.invokestatic 1000, 3) := by decide +kernel
theorem d20_143 : decode jdk_17_method_134_code 143 = .ok (.areturn, 1) := by decide +kernel
theorem d20_144 : decode jdk_17_method_134_code 144 = .ok (.lload_n 3, 1) := by decide +kernel
theorem d20_145 : decode jdk_17_method_134_code 145 = .ok (.iload 8, 2) := by decide +kernel
theorem d20_147 : decode jdk_17_method_134_code 147 = .ok (.invokestatic 1002, 3) := by decide +kernel
theorem d20_150 : decode jdk_17_method_134_code 150 = .ok (.lload_n 0, 1) := by decide +kernel
theorem d20_151 : decode jdk_17_method_134_code 151 = .ok (.invokevirtual 998, 3) := by decide +kernel
theorem d20_154 : decode jdk_17_method_134_code 154 = .ok (.astore 11, 2) := by decide +kernel
theorem d20_156 : decode jdk_17_method_134_code 156 = .ok (.lload_n 0, 1) := by decide +kernel
theorem d20_157 : decode jdk_17_method_134_code 157 = .ok (.lload_n 3, 1) := by decide +kernel
theorem d20_158 : decode jdk_17_method_134_code 158 = .ok (.lxor, 1) := by decide +kernel
theorem d20_159 : decode jdk_17_method_134_code 159 = .ok (.lconst 0, 1) := by decide +kernel
theorem d20_160 : decode jdk_17_method_134_code 160 = .ok (.lcmp, 1) := by decide +kernel
theorem d20_161 : decode jdk_17_method_134_code 161 = .ok (.ifCond .lt 20, 3) := by decide +kernel
theorem d20_164 : decode jdk_17_method_134_code 164 = .ok (.new 3, 3) := by decide +kernel
theorem d20_167 : decode jdk_17_method_134_code 167 = .ok (.dup, 1) := by decide +kernel
theorem d20_168 : decode jdk_17_method_134_code 168 = .ok (.aload 11, 2) := by decide +kernel
theorem d20_170 : decode jdk_17_method_134_code 170 = .ok (.ldc2_w 125, 3) := by decide +kernel
theorem d20_173 : decode jdk_17_method_134_code 173 = .ok (.iload_n 2, 1) := by decide +kernel
theorem d20_174 : decode jdk_17_method_134_code 174 = .ok (.iconst 0, 1) := by decide +kernel
theorem d20_175 : decode jdk_17_method_134_code 175 = .ok (.invokespecial 243, 3) := by decide +kernel
theorem d20_178 : decode jdk_17_method_134_code 178 = .ok (.goto 10, 3) := by decide +kernel
theorem d20_181 : decode jdk_17_method_134_code 181 = .ok (.aload 11, 2) := by decide +kernel
theorem d20_183 : decode jdk_17_method_134_code 183 = .ok (.iload_n 2, 1) := by decide +kernel
theorem d20_184 : decode jdk_17_method_134_code 184 = .ok (.iconst 0, 1) := by decide +kernel
theorem d20_185 : decode jdk_17_method_134_code 185 = .ok (.invokestatic 991, 3) := by decide +kernel
theorem d20_188 : decode jdk_17_method_134_code 188 = .ok (.areturn, 1) := by decide +kernel
theorem pd_6 : parseMethodDescriptor "(JJI)Ljava/math/BigDecimal;" = some ⟨[.long, .long, .int], some (.object "java/math/BigDecimal")⟩ := by decide +kernel
theorem ef_20 (m : MethodId) (x : Nat) : entryFrame m #[(.long (Int64.ofNat x)), (.int (0 : Int32)), (.long (1 : Int64)), (.int (0 : Int32))] 12 = mkF m 0 #[.val (.long (Int64.ofNat x)), .second, .val (.int (0 : Int32)), .val (.long (1 : Int64)), .second, .val (.int (0 : Int32)), .unset, .unset, .unset, .unset, .unset, .unset] [] := by first | (simp [entryFrame, mkF, argsToLocals, Value.category]; done) | rfl
def Q20 (Z : State) (x : Nat) (zt : Addr) (kz : ClassId) (zz : Nat → Addr) (h0 : Heap) (n0 : Nat) (v : Option Value) (h : Heap) (L : List Loc) : Prop := ∃ (b : Addr), v = some (.ref b) ∧ Fr n0 L ∧ Keep h0 h [] ∧ Exa Z h b "java/math/BigDecimal" ∧ Fld Z h b "java/math/BigDecimal" "scale" "I" (.int (0 : Int32)) ∧ Fld Z h b "java/math/BigDecimal" "intCompact" "J" (.long (Int64.ofNat (x + 1)))
set_option maxRecDepth 65536 in
set_option maxHeartbeats 40000000 in
theorem rm20 (l : Launch) (Z : State) (a0 : Array Value) (hw : ∀ d ∈ tables_1, d.before a0 Z = true) (ws : List Jvm.Cond) (x : Nat) (zt : Addr) (kz : ClassId) (zz : Nat → Addr) (h0 : Heap) (n0 : Nat) (Z0 : n0 ≤ h0.size) (P_Old : Old Z n0 h0) (P_ZS_java_math_BigDecimal_ZERO_THROUGH_TEN : Sta Z Z.heap "java/math/BigDecimal" "ZERO_THROUGH_TEN" "[Ljava/math/BigDecimal;" (.ref zt)) (VZ : Arv Z Z.heap zt kz (.object "java/math/BigDecimal") (11 : Int32) (own_fam (own_gr zz) .null 11 11) .null) (HZZ : own_BDs Z Z.heap zz 11) (hx14 : x ≤ 15) :
    MetFree l (⟨"java/math/BigDecimal", "add", "(JIJI)Ljava/math/BigDecimal;"⟩ : MethodName) (head1 (Jvm.Cond.code (⟨"java/math/BigDecimal", "add", "(JIJI)Ljava/math/BigDecimal;"⟩ : MethodName) jdk_17_method_134_code 12 (some (.object "java/math/BigDecimal")) :: ws) ({ frames := 6, cells := 1, slots := 5, locals := 87 } : Room)) (fun a U => a = #[(.long (Int64.ofNat x)), (.int (0 : Int32)), (.long (1 : Int64)), (.int (0 : Int32))] ∧ Z.Warmed39 U.vm ∧ U.heap = h0) (fun _ _ _ _ _ => True) (fun _ U o U' => ∃ v L, o = .returned v ∧ (Q20 Z x zt kz zz h0 n0) v U'.heap L ∧ FrameEnd U o U' L ({ frames := 6, cells := 1, slots := 5, locals := 87 } : Room).cells ({ frames := 6, cells := 1, slots := 5, locals := 87 } : Room).slots) := by
  refine MetFree.of_bodySF (plainFor_of_name pn_5) hisR ?_
  intro p e s m args below meth c s₁ Bd hml0 hP hK
  obtain ⟨rfl, hZ, hh⟩ := hP
  have hx := Bd.exec
  have hby := Bd.bytes
  have hml : c.maxLocals = 12 := hml0
  have hown : s.vm.findClass "java/math/BigDecimal" = some m.cls := findClass_of_methodNamed Bd.named
  have hnm := (name_of_methodNamed Bd.named Bd.method).1
  have hlk : meth.locks = false := BodyLoose.notSynchronized Bd
  have X0 : Stand p l e ({ frames := 6, cells := 1, slots := 5, locals := 87 } : Room) s m #[(.long (Int64.ofNat x)), (.int (0 : Int32)), (.long (1 : Int64)), (.int (0 : Int32))] below meth c s₁ [] 0 0 := Stand.of_body Bd
  have e0 : s₁.heap = h0 := by rw [← hh, Bd.state]; rfl
  have N0 := Fr.nil n0
  have K0 : Keep h0 h0 [] := Keep.refl h0 []
  show own_G p.tables e below (s₁.setTop (entryFrame m #[(.long (Int64.ofNat x)), (.int (0 : Int32)), (.long (1 : Int64)), (.int (0 : Int32))] 12)) s ({ frames := 6, cells := 1, slots := 5, locals := 87 } : Room).cells ({ frames := 6, cells := 1, slots := 5, locals := 87 } : Room).slots (Q20 Z x zt kz zz h0 n0)
  refine own_go (fun _ k => castTop (ef_20 m x) k) ?_
  show own_G _ _ _ (s₁.setTop (mkF m 0 #[.val (.long (Int64.ofNat x)), .second, .val (.int (0 : Int32)), .val (.long (1 : Int64)), .second, .val (.int (0 : Int32)), .unset, .unset, .unset, .unset, .unset, .unset] [])) _ _ _ _
  refine own_go (fun _ k => XS.iloadN X0.here hx rfl (hb hby d20_0) rfl k) ?_
  show own_G _ _ _ (s₁.setTop (mkF m 1 #[.val (.long (Int64.ofNat x)), .second, .val (.int (0 : Int32)), .val (.long (1 : Int64)), .second, .val (.int (0 : Int32)), .unset, .unset, .unset, .unset, .unset, .unset] [(.int (0 : Int32))])) _ _ _ _
  refine own_go (fun _ k => XS.i2l X0.here hx rfl (hb hby d20_1) rfl k) ?_
  show own_G _ _ _ (s₁.setTop (mkF m 2 #[.val (.long (Int64.ofNat x)), .second, .val (.int (0 : Int32)), .val (.long (1 : Int64)), .second, .val (.int (0 : Int32)), .unset, .unset, .unset, .unset, .unset, .unset] [(.long (0 : Int32).toInt64)])) _ _ _ _
  refine own_go (fun _ k => XS.iload X0.here hx rfl (hb hby d20_2) rfl k) ?_
  show own_G _ _ _ (s₁.setTop (mkF m 4 #[.val (.long (Int64.ofNat x)), .second, .val (.int (0 : Int32)), .val (.long (1 : Int64)), .second, .val (.int (0 : Int32)), .unset, .unset, .unset, .unset, .unset, .unset] [(.int (0 : Int32)), (.long (0 : Int32).toInt64)])) _ _ _ _
  refine own_go (fun _ k => XS.i2l X0.here hx rfl (hb hby d20_4) rfl k) ?_
  show own_G _ _ _ (s₁.setTop (mkF m 5 #[.val (.long (Int64.ofNat x)), .second, .val (.int (0 : Int32)), .val (.long (1 : Int64)), .second, .val (.int (0 : Int32)), .unset, .unset, .unset, .unset, .unset, .unset] [(.long (0 : Int32).toInt64), (.long (0 : Int32).toInt64)])) _ _ _ _
  refine own_go (fun _ k => XS.lsub X0.here hx rfl (hb hby d20_5) rfl k) ?_
  show own_G _ _ _ (s₁.setTop (mkF m 6 #[.val (.long (Int64.ofNat x)), .second, .val (.int (0 : Int32)), .val (.long (1 : Int64)), .second, .val (.int (0 : Int32)), .unset, .unset, .unset, .unset, .unset, .unset] [(.long ((0 : Int32).toInt64 - (0 : Int32).toInt64))])) _ _ _ _
  refine own_go (fun _ k => XS.lstore X0.here hx rfl (hb hby d20_6) rfl (l' := #[.val (.long (Int64.ofNat x)), .second, .val (.int (0 : Int32)), .val (.long (1 : Int64)), .second, .val (.int (0 : Int32)), .val (.long ((0 : Int32).toInt64 - (0 : Int32).toInt64)), .second, .unset, .unset, .unset, .unset]) rfl k) ?_
  show own_G _ _ _ (s₁.setTop (mkF m 8 #[.val (.long (Int64.ofNat x)), .second, .val (.int (0 : Int32)), .val (.long (1 : Int64)), .second, .val (.int (0 : Int32)), .val (.long ((0 : Int32).toInt64 - (0 : Int32).toInt64)), .second, .unset, .unset, .unset, .unset] [])) _ _ _ _
  refine own_go (fun _ k => XS.lload X0.here hx rfl (hb hby d20_8) rfl k) ?_
  show own_G _ _ _ (s₁.setTop (mkF m 10 #[.val (.long (Int64.ofNat x)), .second, .val (.int (0 : Int32)), .val (.long (1 : Int64)), .second, .val (.int (0 : Int32)), .val (.long ((0 : Int32).toInt64 - (0 : Int32).toInt64)), .second, .unset, .unset, .unset, .unset] [(.long ((0 : Int32).toInt64 - (0 : Int32).toInt64))])) _ _ _ _
  refine own_go (fun _ k => XS.lconst X0.here hx rfl (hb hby d20_10) k) ?_
  show own_G _ _ _ (s₁.setTop (mkF m 11 #[.val (.long (Int64.ofNat x)), .second, .val (.int (0 : Int32)), .val (.long (1 : Int64)), .second, .val (.int (0 : Int32)), .val (.long ((0 : Int32).toInt64 - (0 : Int32).toInt64)), .second, .unset, .unset, .unset, .unset] [(.long (0 : Int64)), (.long ((0 : Int32).toInt64 - (0 : Int32).toInt64))])) _ _ _ _
  refine own_go (fun _ k => XS.lcmp X0.here hx rfl (hb hby d20_11) rfl k) ?_
  show own_G _ _ _ (s₁.setTop (mkF m 12 #[.val (.long (Int64.ofNat x)), .second, .val (.int (0 : Int32)), .val (.long (1 : Int64)), .second, .val (.int (0 : Int32)), .val (.long ((0 : Int32).toInt64 - (0 : Int32).toInt64)), .second, .unset, .unset, .unset, .unset] [(.int (lcmpW ((0 : Int32).toInt64 - (0 : Int32).toInt64) (0 : Int64)))])) _ _ _ _
  have hc1 : ((0 : Int32).toInt64 - (0 : Int32).toInt64) = (0 : Int64) := (by decide)
  refine own_go (fun _ k => XS.ifNo X0.here hx rfl (hb hby d20_12) rfl ((if0 _ _).trans (teq ((lw_eq _ _).mpr hc1)).2) k) ?_
  show own_G _ _ _ (s₁.setTop (mkF m 15 #[.val (.long (Int64.ofNat x)), .second, .val (.int (0 : Int32)), .val (.long (1 : Int64)), .second, .val (.int (0 : Int32)), .val (.long ((0 : Int32).toInt64 - (0 : Int32).toInt64)), .second, .unset, .unset, .unset, .unset] [])) _ _ _ _
  refine own_go (fun _ k => XS.lloadN X0.here hx rfl (hb hby d20_15) rfl k) ?_
  show own_G _ _ _ (s₁.setTop (mkF m 16 #[.val (.long (Int64.ofNat x)), .second, .val (.int (0 : Int32)), .val (.long (1 : Int64)), .second, .val (.int (0 : Int32)), .val (.long ((0 : Int32).toInt64 - (0 : Int32).toInt64)), .second, .unset, .unset, .unset, .unset] [(.long (Int64.ofNat x))])) _ _ _ _
  refine own_go (fun _ k => XS.lloadN X0.here hx rfl (hb hby d20_16) rfl k) ?_
  show own_G _ _ _ (s₁.setTop (mkF m 17 #[.val (.long (Int64.ofNat x)), .second, .val (.int (0 : Int32)), .val (.long (1 : Int64)), .second, .val (.int (0 : Int32)), .val (.long ((0 : Int32).toInt64 - (0 : Int32).toInt64)), .second, .unset, .unset, .unset, .unset] [(.long (1 : Int64)), (.long (Int64.ofNat x))])) _ _ _ _
  refine own_go (fun _ k => XS.iloadN X0.here hx rfl (hb hby d20_17) rfl k) ?_
  show own_G _ _ _ (s₁.setTop (mkF m 18 #[.val (.long (Int64.ofNat x)), .second, .val (.int (0 : Int32)), .val (.long (1 : Int64)), .second, .val (.int (0 : Int32)), .val (.long ((0 : Int32).toInt64 - (0 : Int32).toInt64)), .second, .unset, .unset, .unset, .unset] [(.int (0 : Int32)), (.long (1 : Int64)), (.long (Int64.ofNat x))])) _ _ _ _
  obtain ⟨_, _, ⟨T2, L2, k2, n2⟩, -, X2, ⟨Lc2, hQ2, l2, y2, z2⟩, st2⟩ := Jvm.LawKit.callS X0 hx (y := (⟨"java/math/BigDecimal", "add", "(JJI)Ljava/math/BigDecimal;"⟩ : MethodName)) hown (mvT hZ (hw _ (List.mem_of_getElem? (i := 128) rfl))) (mvT hZ (hw _ (List.mem_of_getElem? (i := 129) rfl))) (mvT hZ (hw _ (List.mem_of_getElem? (i := 22) rfl))) (mvT hZ (hw _ (List.mem_of_getElem? (i := 130) rfl))) (by decide) (backOf (W := 0) (rm21 l Z a0 hw []  x zt kz zz h0 n0 Z0 P_Old P_ZS_java_math_BigDecimal_ZERO_THROUGH_TEN (by assumption) (by assumption) hx14) hZ (hw _ (List.mem_of_getElem? (i := 130) rfl)) (hw _ (List.mem_of_getElem? (i := 22) rfl)) (by decide) (by decide)) (g := (mkF m 18 #[.val (.long (Int64.ofNat x)), .second, .val (.int (0 : Int32)), .val (.long (1 : Int64)), .second, .val (.int (0 : Int32)), .val (.long ((0 : Int32).toInt64 - (0 : Int32).toInt64)), .second, .unset, .unset, .unset, .unset] [(.int (0 : Int32)), (.long (1 : Int64)), (.long (Int64.ofNat x))])) rfl (by rw [hml]; rfl) (argsL := [(.long (Int64.ofNat x)), (.long (1 : Int64)), (.int (0 : Int32))]) (rest := []) (lenOf pd_6 rfl) rfl (by show 2 * 0 + _ ≤ _; exact Nat.le_of_eq rfl) (hb hby d20_18) (fun _ _ => ⟨rfl, e0, (by decide : 0 + 1 ≤ _), (by decide : 0 + 5 ≤ _)⟩)
  dsimp only [Pt.U, Pt.locs, Pt.cells, Pt.slots] at X2 l2 y2 z2 st2 hQ2
  rw [l2] at X2
  subst y2 z2
  obtain ⟨b2, rfl, Nq2, Kq2, r2_0, r2_1, r2_2⟩ := hQ2
  have N2 := Fr.app N0 Nq2
  have f3 : Old Z n0 T2.heap := P_Old.keep Kq2 all0
  have Zs2 : n0 ≤ T2.heap.size := Nat.le_trans Z0 Kq2.1
  have K2_0 : Keep h0 T2.heap [] := K0.trans Kq2 all0
  refine own_go (fun _ k => st2 _ k) ?_
  show own_G _ _ _ (T2.setTop (mkF m 21 #[.val (.long (Int64.ofNat x)), .second, .val (.int (0 : Int32)), .val (.long (1 : Int64)), .second, .val (.int (0 : Int32)), .val (.long ((0 : Int32).toInt64 - (0 : Int32).toInt64)), .second, .unset, .unset, .unset, .unset] [(.ref b2)])) _ _ _ _
  exact own_endR X2 hx hlk Bd.returns rfl rfl rfl (hb hby d20_21) (by decide) (by decide) (Q := (Q20 Z x zt kz zz h0 n0)) ⟨b2, rfl, N2, K2_0, r2_0, r2_1, r2_2⟩
theorem d19_0 : decode jdk_17_method_26_code 0 = .ok (.aload_n 0, 1) := by decide +kernel
theorem d19_1 : decode jdk_17_method_26_code 1 = .ok (.getfield 24, 3) := by decide +kernel
theorem d19_4 : decode jdk_17_method_26_code 4 = .ok (.ldc2_w 125, 3) := by decide +kernel
theorem d19_7 : decode jdk_17_method_26_code 7 = .ok (.lcmp, 1) := by decide +kernel
theorem d19_8 : decode jdk_17_method_26_code 8 = .ok (.ifCond .eq 54, 3) := by decide +kernel
theorem d19_11 : decode jdk_17_method_26_code 11 = .ok (.aload_n 1, 1) := by decide +kernel
theorem d19_12 : decode jdk_17_method_26_code 12 = .ok (.getfield 24, 3) := by decide +kernel
theorem d19_15 : decode jdk_17_method_26_code 15 = .ok (.ldc2_w 125, 3) := by decide +kernel
theorem d19_18 : decode jdk_17_method_26_code 18 = .ok (.lcmp, 1) := by decide +kernel
theorem d19_19 : decode jdk_17_method_26_code 19 = .ok (.ifCond .eq 23, 3) := by decide +kernel
theorem d19_22 : decode jdk_17_method_26_code 22 = .ok (.aload_n 0, 1) := by decide +kernel
theorem d19_23 : decode jdk_17_method_26_code 23 = .ok (.getfield 24, 3) := by decide +kernel
theorem d19_26 : decode jdk_17_method_26_code 26 = .ok (.aload_n 0, 1) := by decide +kernel
theorem d19_27 : decode jdk_17_method_26_code 27 = .ok (.getfield 17, 3) := by decide +kernel
theorem d19_30 : decode jdk_17_method_26_code 30 = .ok (.aload_n 1, 1) := by decide +kernel
theorem d19_31 : decode jdk_17_method_26_code 31 = .ok (.getfield 24, 3) := by decide +kernel
theorem d19_34 : decode jdk_17_method_26_code 34 = .ok (.aload_n 1, 1) := by decide +kernel
theorem d19_35 : decode jdk_17_method_26_code 35 = .ok (.getfield 17, 3) := by decide +kernel
theorem d19_38 : decode jdk_17_method_26_code 38 = .ok (.invokestatic 257, 3) := by decide +kernel
theorem d19_41 : decode jdk_17_method_26_code 41 = .ok (.areturn, 1) := by decide +kernel
theorem d19_42 : decode jdk_17_method_26_code 42 = .ok (.aload_n 0, 1) := by decide +kernel
theorem d19_43 : decode jdk_17_method_26_code 43 = .ok (.getfield 24, 3) := by decide +kernel
theorem d19_46 : decode jdk_17_method_26_code 46 = .ok (.aload_n 0, 1) := by decide +kernel
theorem d19_47 : decode jdk_17_method_26_code 47 = .ok (.getfield 17, 3) := by decide +kernel
theorem d19_50 : decode jdk_17_method_26_code 50 = .ok (.aload_n 1, 1) := by decide +kernel
theorem d19_51 : decode jdk_17_method_26_code 51 = .ok (.getfield 28, 3) := by decide +kernel
theorem d19_54 : decode jdk_17_method_26_code 54 = .ok (.aload_n 1, 1) := by decide +kernel
theorem d19_55 : decode jdk_17_method_26_code 55 = .ok (.getfield 17, 3) := by decide +kernel
theorem d19_58 : decode jdk_17_method_26_code 58 = .ok (.invokestatic 261, 3) := by decide +kernel
theorem d19_61 : decode jdk_17_method_26_code 61 = .ok (.areturn, 1) := by decide +kernel
theorem d19_62 : decode jdk_17_method_26_code 62 = .ok (.aload_n 1, 1) := by decide +kernel
theorem d19_63 : decode jdk_17_method_26_code 63 = .ok (.getfield 24, 3) := by decide +kernel
theorem d19_66 : decode jdk_17_method_26_code 66 = .ok (.ldc2_w 125, 3) := by decide +kernel
theorem d19_69 : decode jdk_17_method_26_code 69 = .ok (.lcmp, 1) := by decide +kernel
theorem d19_70 : decode jdk_17_method_26_code 70 = .ok (.ifCond .eq 23, 3) := by decide +kernel
theorem d19_73 : decode jdk_17_method_26_code 73 = .ok (.aload_n 1, 1) := by decide +kernel
theorem d19_74 : decode jdk_17_method_26_code 74 = .ok (.getfield 24, 3) := by decide +kernel
theorem d19_77 : decode jdk_17_method_26_code 77 = .ok (.aload_n 1, 1) := by decide +kernel
theorem d19_78 : decode jdk_17_method_26_code 78 = .ok (.getfield 17, 3) := by decide +kernel
theorem d19_81 : decode jdk_17_method_26_code 81 = .ok (.aload_n 0, 1) := by decide +kernel
theorem d19_82 : decode jdk_17_method_26_code 82 = .ok (.getfield 28, 3) := by decide +kernel
theorem d19_85 : decode jdk_17_method_26_code 85 = .ok (.aload_n 0, 1) := by decide +kernel
theorem d19_86 : decode jdk_17_method_26_code 86 = .ok (.getfield 17, 3) := by decide +kernel
theorem d19_89 : decode jdk_17_method_26_code 89 = .ok (.invokestatic 261, 3) := by decide +kernel
theorem d19_92 : decode jdk_17_method_26_code 92 = .ok (.areturn, 1) := by decide +kernel
theorem d19_93 : decode jdk_17_method_26_code 93 = .ok (.aload_n 0, 1) := by decide +kernel
theorem d19_94 : decode jdk_17_method_26_code 94 = .ok (.getfield 28, 3) := by decide +kernel
theorem d19_97 : decode jdk_17_method_26_code 97 = .ok (.aload_n 0, 1) := by decide +kernel
theorem d19_98 : decode jdk_17_method_26_code 98 = .ok (.getfield 17, 3) := by decide +kernel
theorem d19_101 : decode jdk_17_method_26_code 101 = .ok (.aload_n 1, 1) := by decide +kernel
theorem d19_102 : decode jdk_17_method_26_code 102 = .ok (.getfield 28, 3) := by decide +kernel
theorem d19_105 : decode jdk_17_method_26_code 105 = .ok (.aload_n 1, 1) := by decide +kernel
theorem d19_106 : decode jdk_17_method_26_code 106 = .ok (.getfield 17, 3) := by decide +kernel
theorem d19_109 : decode jdk_17_method_26_code 109 = .ok (.invokestatic 264, 3) := by decide +kernel
theorem d19_112 : decode jdk_17_method_26_code 112 = .ok (.areturn, 1) := by decide +kernel
theorem pd_7 : parseMethodDescriptor "(JIJI)Ljava/math/BigDecimal;" = some ⟨[.long, .int, .long, .int], some (.object "java/math/BigDecimal")⟩ := by decide +kernel
theorem ef_19 (m : MethodId) (p0 : Addr) (p1 : Addr) : entryFrame m #[(.ref p0), (.ref p1)] 2 = mkF m 0 #[.val (.ref p0), .val (.ref p1)] [] := by first | (simp [entryFrame, mkF, argsToLocals, Value.category]; done) | rfl
def Q19 (Z : State) (p0 : Addr) (p1 : Addr) (x : Nat) (zt : Addr) (kz : ClassId) (zz : Nat → Addr) (h0 : Heap) (n0 : Nat) (v : Option Value) (h : Heap) (L : List Loc) : Prop := ∃ (b : Addr), v = some (.ref b) ∧ Fr n0 L ∧ Keep h0 h [] ∧ Exa Z h b "java/math/BigDecimal" ∧ Fld Z h b "java/math/BigDecimal" "scale" "I" (.int (0 : Int32)) ∧ Fld Z h b "java/math/BigDecimal" "intCompact" "J" (.long (Int64.ofNat (x + 1)))
set_option maxRecDepth 65536 in
set_option maxHeartbeats 40000000 in
theorem rm19 (l : Launch) (Z : State) (a0 : Array Value) (hw : ∀ d ∈ tables_1, d.before a0 Z = true) (ws : List Jvm.Cond) (p0 : Addr) (p1 : Addr) (x : Nat) (zt : Addr) (kz : ClassId) (zz : Nat → Addr) (h0 : Heap) (n0 : Nat) (Z0 : n0 ≤ h0.size) (P_Old : Old Z n0 h0) (P_ZS_java_math_BigDecimal_ZERO_THROUGH_TEN : Sta Z Z.heap "java/math/BigDecimal" "ZERO_THROUGH_TEN" "[Ljava/math/BigDecimal;" (.ref zt)) (VZ : Arv Z Z.heap zt kz (.object "java/math/BigDecimal") (11 : Int32) (own_fam (own_gr zz) .null 11 11) .null) (HZZ : own_BDs Z Z.heap zz 11) (hx14 : x ≤ 15) (P_F_p0_scale : Fld Z h0 p0 "java/math/BigDecimal" "scale" "I" (.int (0 : Int32))) (P_F_p0_intCompact : Fld Z h0 p0 "java/math/BigDecimal" "intCompact" "J" (.long (Int64.ofNat x))) (P_F_p1_scale : Fld Z h0 p1 "java/math/BigDecimal" "scale" "I" (.int (0 : Int32))) (P_F_p1_intCompact : Fld Z h0 p1 "java/math/BigDecimal" "intCompact" "J" (.long (1 : Int64))) :
    MetFree l (⟨"java/math/BigDecimal", "add", "(Ljava/math/BigDecimal;)Ljava/math/BigDecimal;"⟩ : MethodName) (head1 (Jvm.Cond.code (⟨"java/math/BigDecimal", "add", "(Ljava/math/BigDecimal;)Ljava/math/BigDecimal;"⟩ : MethodName) jdk_17_method_26_code 2 (some (.object "java/math/BigDecimal")) :: ws) ({ frames := 7, cells := 1, slots := 5, locals := 110 } : Room)) (fun a U => a = #[(.ref p0), (.ref p1)] ∧ Z.Warmed39 U.vm ∧ U.heap = h0) (fun _ _ _ _ _ => True) (fun _ U o U' => ∃ v L, o = .returned v ∧ (Q19 Z p0 p1 x zt kz zz h0 n0) v U'.heap L ∧ FrameEnd U o U' L ({ frames := 7, cells := 1, slots := 5, locals := 110 } : Room).cells ({ frames := 7, cells := 1, slots := 5, locals := 110 } : Room).slots) := by
  refine MetFree.of_bodySF (plainFor_of_name pn_5) hisR ?_
  intro p e s m args below meth c s₁ Bd hml0 hP hK
  obtain ⟨rfl, hZ, hh⟩ := hP
  have hx := Bd.exec
  have hby := Bd.bytes
  have hml : c.maxLocals = 2 := hml0
  have hown : s.vm.findClass "java/math/BigDecimal" = some m.cls := findClass_of_methodNamed Bd.named
  have hnm := (name_of_methodNamed Bd.named Bd.method).1
  have hlk : meth.locks = false := BodyLoose.notSynchronized Bd
  have X0 : Stand p l e ({ frames := 7, cells := 1, slots := 5, locals := 110 } : Room) s m #[(.ref p0), (.ref p1)] below meth c s₁ [] 0 0 := Stand.of_body Bd
  have e0 : s₁.heap = h0 := by rw [← hh, Bd.state]; rfl
  have N0 := Fr.nil n0
  have K0 : Keep h0 h0 [] := Keep.refl h0 []
  show own_G p.tables e below (s₁.setTop (entryFrame m #[(.ref p0), (.ref p1)] 2)) s ({ frames := 7, cells := 1, slots := 5, locals := 110 } : Room).cells ({ frames := 7, cells := 1, slots := 5, locals := 110 } : Room).slots (Q19 Z p0 p1 x zt kz zz h0 n0)
  refine own_go (fun _ k => castTop (ef_19 m p0 p1) k) ?_
  show own_G _ _ _ (s₁.setTop (mkF m 0 #[.val (.ref p0), .val (.ref p1)] [])) _ _ _ _
  refine own_go (fun _ k => XS.aloadN X0.here hx rfl (hb hby d19_0) rfl rfl k) ?_
  show own_G _ _ _ (s₁.setTop (mkF m 1 #[.val (.ref p0), .val (.ref p1)] [(.ref p0)])) _ _ _ _
  obtain ⟨T1, X1, e1, st1⟩ := getF X0 hx hZ hown (host := "") (Or.inl (hw _ (List.mem_of_getElem? (i := 77) rfl))) Via.refl e0 P_F_p0_intCompact (g := (mkF m 1 #[.val (.ref p0), .val (.ref p1)] [(.ref p0)])) rfl rfl (hb hby d19_1)
  refine own_go (fun _ k => st1 _ k) ?_
  show own_G _ _ _ (T1.setTop (mkF m 4 #[.val (.ref p0), .val (.ref p1)] [(.long (Int64.ofNat x))])) _ _ _ _
  refine own_go (fun _ k => X1.ldc2Long hx hown (mvT hZ (hw _ (List.mem_of_getElem? (i := 79) rfl))) (g := (mkF m 4 #[.val (.ref p0), .val (.ref p1)] [(.long (Int64.ofNat x))])) rfl (hb hby d19_4) _ k) ?_
  show own_G _ _ _ (T1.setTop (mkF m 7 #[.val (.ref p0), .val (.ref p1)] [(.long (-9223372036854775808 : Int64)), (.long (Int64.ofNat x))])) _ _ _ _
  refine own_go (fun _ k => XS.lcmp X1.here hx rfl (hb hby d19_7) rfl k) ?_
  show own_G _ _ _ (T1.setTop (mkF m 8 #[.val (.ref p0), .val (.ref p1)] [(.int (lcmpW (Int64.ofNat x) (-9223372036854775808 : Int64)))])) _ _ _ _
  have hc2 : ¬ ((Int64.ofNat x) = (-9223372036854775808 : Int64)) := own_lmin x (by omega)
  refine own_go (fun _ k => XS.ifNo X1.here hx rfl (hb hby d19_8) rfl ((if0 _ _).trans (feq (fun q => hc2 ((lw_eq _ _).mp q))).1) k) ?_
  show own_G _ _ _ (T1.setTop (mkF m 11 #[.val (.ref p0), .val (.ref p1)] [])) _ _ _ _
  refine own_go (fun _ k => XS.aloadN X1.here hx rfl (hb hby d19_11) rfl rfl k) ?_
  show own_G _ _ _ (T1.setTop (mkF m 12 #[.val (.ref p0), .val (.ref p1)] [(.ref p1)])) _ _ _ _
  obtain ⟨T3, X3, e3, st3⟩ := getF X1 hx hZ hown (host := "") (Or.inl (hw _ (List.mem_of_getElem? (i := 77) rfl))) Via.refl e1 P_F_p1_intCompact (g := (mkF m 12 #[.val (.ref p0), .val (.ref p1)] [(.ref p1)])) rfl rfl (hb hby d19_12)
  refine own_go (fun _ k => st3 _ k) ?_
  show own_G _ _ _ (T3.setTop (mkF m 15 #[.val (.ref p0), .val (.ref p1)] [(.long (1 : Int64))])) _ _ _ _
  refine own_go (fun _ k => X3.ldc2Long hx hown (mvT hZ (hw _ (List.mem_of_getElem? (i := 79) rfl))) (g := (mkF m 15 #[.val (.ref p0), .val (.ref p1)] [(.long (1 : Int64))])) rfl (hb hby d19_15) _ k) ?_
  show own_G _ _ _ (T3.setTop (mkF m 18 #[.val (.ref p0), .val (.ref p1)] [(.long (-9223372036854775808 : Int64)), (.long (1 : Int64))])) _ _ _ _
  refine own_go (fun _ k => XS.lcmp X3.here hx rfl (hb hby d19_18) rfl k) ?_
  show own_G _ _ _ (T3.setTop (mkF m 19 #[.val (.ref p0), .val (.ref p1)] [(.int (lcmpW (1 : Int64) (-9223372036854775808 : Int64)))])) _ _ _ _
  have hc4 : ¬ ((1 : Int64) = (-9223372036854775808 : Int64)) := (by decide)
  refine own_go (fun _ k => XS.ifNo X3.here hx rfl (hb hby d19_19) rfl ((if0 _ _).trans (feq (fun q => hc4 ((lw_eq _ _).mp q))).1) k) ?_
  show own_G _ _ _ (T3.setTop (mkF m 22 #[.val (.ref p0), .val (.ref p1)] [])) _ _ _ _
  refine own_go (fun _ k => XS.aloadN X3.here hx rfl (hb hby d19_22) rfl rfl k) ?_
  show own_G _ _ _ (T3.setTop (mkF m 23 #[.val (.ref p0), .val (.ref p1)] [(.ref p0)])) _ _ _ _
  obtain ⟨T5, X5, e5, st5⟩ := getF X3 hx hZ hown (host := "") (Or.inl (hw _ (List.mem_of_getElem? (i := 77) rfl))) Via.refl e3 P_F_p0_intCompact (g := (mkF m 23 #[.val (.ref p0), .val (.ref p1)] [(.ref p0)])) rfl rfl (hb hby d19_23)
  refine own_go (fun _ k => st5 _ k) ?_
  show own_G _ _ _ (T5.setTop (mkF m 26 #[.val (.ref p0), .val (.ref p1)] [(.long (Int64.ofNat x))])) _ _ _ _
  refine own_go (fun _ k => XS.aloadN X5.here hx rfl (hb hby d19_26) rfl rfl k) ?_
  show own_G _ _ _ (T5.setTop (mkF m 27 #[.val (.ref p0), .val (.ref p1)] [(.ref p0), (.long (Int64.ofNat x))])) _ _ _ _
  obtain ⟨T6, X6, e6, st6⟩ := getF X5 hx hZ hown (host := "") (Or.inl (hw _ (List.mem_of_getElem? (i := 75) rfl))) Via.refl e5 P_F_p0_scale (g := (mkF m 27 #[.val (.ref p0), .val (.ref p1)] [(.ref p0), (.long (Int64.ofNat x))])) rfl rfl (hb hby d19_27)
  refine own_go (fun _ k => st6 _ k) ?_
  show own_G _ _ _ (T6.setTop (mkF m 30 #[.val (.ref p0), .val (.ref p1)] [(.int (0 : Int32)), (.long (Int64.ofNat x))])) _ _ _ _
  refine own_go (fun _ k => XS.aloadN X6.here hx rfl (hb hby d19_30) rfl rfl k) ?_
  show own_G _ _ _ (T6.setTop (mkF m 31 #[.val (.ref p0), .val (.ref p1)] [(.ref p1), (.int (0 : Int32)), (.long (Int64.ofNat x))])) _ _ _ _
  obtain ⟨T7, X7, e7, st7⟩ := getF X6 hx hZ hown (host := "") (Or.inl (hw _ (List.mem_of_getElem? (i := 77) rfl))) Via.refl e6 P_F_p1_intCompact (g := (mkF m 31 #[.val (.ref p0), .val (.ref p1)] [(.ref p1), (.int (0 : Int32)), (.long (Int64.ofNat x))])) rfl rfl (hb hby d19_31)
  refine own_go (fun _ k => st7 _ k) ?_
  show own_G _ _ _ (T7.setTop (mkF m 34 #[.val (.ref p0), .val (.ref p1)] [(.long (1 : Int64)), (.int (0 : Int32)), (.long (Int64.ofNat x))])) _ _ _ _
  refine own_go (fun _ k => XS.aloadN X7.here hx rfl (hb hby d19_34) rfl rfl k) ?_
  show own_G _ _ _ (T7.setTop (mkF m 35 #[.val (.ref p0), .val (.ref p1)] [(.ref p1), (.long (1 : Int64)), (.int (0 : Int32)), (.long (Int64.ofNat x))])) _ _ _ _
  obtain ⟨T8, X8, e8, st8⟩ := getF X7 hx hZ hown (host := "") (Or.inl (hw _ (List.mem_of_getElem? (i := 75) rfl))) Via.refl e7 P_F_p1_scale (g := (mkF m 35 #[.val (.ref p0), .val (.ref p1)] [(.ref p1), (.long (1 : Int64)), (.int (0 : Int32)), (.long (Int64.ofNat x))])) rfl rfl (hb hby d19_35)
  refine own_go (fun _ k => st8 _ k) ?_
  show own_G _ _ _ (T8.setTop (mkF m 38 #[.val (.ref p0), .val (.ref p1)] [(.int (0 : Int32)), (.long (1 : Int64)), (.int (0 : Int32)), (.long (Int64.ofNat x))])) _ _ _ _
  obtain ⟨_, _, ⟨T9, L9, k9, n9⟩, -, X9, ⟨Lc9, hQ9, l9, y9, z9⟩, st9⟩ := Jvm.LawKit.callS X8 hx (y := (⟨"java/math/BigDecimal", "add", "(JIJI)Ljava/math/BigDecimal;"⟩ : MethodName)) hown (mvT hZ (hw _ (List.mem_of_getElem? (i := 125) rfl))) (mvT hZ (hw _ (List.mem_of_getElem? (i := 126) rfl))) (mvT hZ (hw _ (List.mem_of_getElem? (i := 22) rfl))) (mvT hZ (hw _ (List.mem_of_getElem? (i := 127) rfl))) (by decide) (backOf (W := 0) (rm20 l Z a0 hw []  x zt kz zz h0 n0 Z0 P_Old P_ZS_java_math_BigDecimal_ZERO_THROUGH_TEN (by assumption) (by assumption) hx14) hZ (hw _ (List.mem_of_getElem? (i := 127) rfl)) (hw _ (List.mem_of_getElem? (i := 22) rfl)) (by decide) (by decide)) (g := (mkF m 38 #[.val (.ref p0), .val (.ref p1)] [(.int (0 : Int32)), (.long (1 : Int64)), (.int (0 : Int32)), (.long (Int64.ofNat x))])) rfl (by rw [hml]; rfl) (argsL := [(.long (Int64.ofNat x)), (.int (0 : Int32)), (.long (1 : Int64)), (.int (0 : Int32))]) (rest := []) (lenOf pd_7 rfl) rfl (by show 2 * 0 + _ ≤ _; exact Nat.le_of_eq rfl) (hb hby d19_38) (fun _ _ => ⟨rfl, e8, (by decide : 0 + 1 ≤ _), (by decide : 0 + 5 ≤ _)⟩)
  dsimp only [Pt.U, Pt.locs, Pt.cells, Pt.slots] at X9 l9 y9 z9 st9 hQ9
  rw [l9] at X9
  subst y9 z9
  obtain ⟨b9, rfl, Nq9, Kq9, r9_0, r9_1, r9_2⟩ := hQ9
  have N9 := Fr.app N0 Nq9
  have f10 : Old Z n0 T9.heap := P_Old.keep Kq9 all0
  have f11 : Fld Z T9.heap p0 "java/math/BigDecimal" "scale" "I" (.int (0 : Int32)) := P_F_p0_scale.keep Kq9 nin0
  have f12 : Fld Z T9.heap p0 "java/math/BigDecimal" "intCompact" "J" (.long (Int64.ofNat x)) := P_F_p0_intCompact.keep Kq9 nin0
  have f13 : Fld Z T9.heap p1 "java/math/BigDecimal" "scale" "I" (.int (0 : Int32)) := P_F_p1_scale.keep Kq9 nin0
  have f14 : Fld Z T9.heap p1 "java/math/BigDecimal" "intCompact" "J" (.long (1 : Int64)) := P_F_p1_intCompact.keep Kq9 nin0
  have Zs9 : n0 ≤ T9.heap.size := Nat.le_trans Z0 Kq9.1
  have K9_0 : Keep h0 T9.heap [] := K0.trans Kq9 all0
  refine own_go (fun _ k => st9 _ k) ?_
  show own_G _ _ _ (T9.setTop (mkF m 41 #[.val (.ref p0), .val (.ref p1)] [(.ref b9)])) _ _ _ _
  exact own_endR X9 hx hlk Bd.returns rfl rfl rfl (hb hby d19_41) (by decide) (by decide) (Q := (Q19 Z p0 p1 x zt kz zz h0 n0)) ⟨b9, rfl, N9, K9_0, r9_0, r9_1, r9_2⟩
theorem d11_0 : decode jdk_17_method_70_code 0 = .ok (.aload_n 0, 1) := by decide +kernel
theorem d11_1 : decode jdk_17_method_70_code 1 = .ok (.getfield 17, 3) := by decide +kernel
theorem d11_4 : decode jdk_17_method_70_code 4 = .ok (.aload_n 1, 1) := by decide +kernel
theorem d11_5 : decode jdk_17_method_70_code 5 = .ok (.getfield 17, 3) := by decide +kernel
theorem d11_8 : decode jdk_17_method_70_code 8 = .ok (.if_icmp .ne 55, 3) := by decide +kernel
theorem d11_11 : decode jdk_17_method_70_code 11 = .ok (.aload_n 0, 1) := by decide +kernel
theorem d11_12 : decode jdk_17_method_70_code 12 = .ok (.getfield 24, 3) := by decide +kernel
theorem d11_15 : decode jdk_17_method_70_code 15 = .ok (.lstore_n 2, 1) := by decide +kernel
theorem d11_16 : decode jdk_17_method_70_code 16 = .ok (.aload_n 1, 1) := by decide +kernel
theorem d11_17 : decode jdk_17_method_70_code 17 = .ok (.getfield 24, 3) := by decide +kernel
theorem d11_20 : decode jdk_17_method_70_code 20 = .ok (.lstore 4, 2) := by decide +kernel
theorem d11_22 : decode jdk_17_method_70_code 22 = .ok (.lload_n 2, 1) := by decide +kernel
theorem d11_23 : decode jdk_17_method_70_code 23 = .ok (.ldc2_w 125, 3) := by decide +kernel
theorem d11_26 : decode jdk_17_method_70_code 26 = .ok (.lcmp, 1) := by decide +kernel
theorem d11_27 : decode jdk_17_method_70_code 27 = .ok (.ifCond .eq 36, 3) := by decide +kernel
theorem d11_30 : decode jdk_17_method_70_code 30 = .ok (.lload 4, 2) := by decide +kernel
theorem d11_32 : decode jdk_17_method_70_code 32 = .ok (.ldc2_w 125, 3) := by decide +kernel
theorem d11_35 : decode jdk_17_method_70_code 35 = .ok (.lcmp, 1) := by decide +kernel
theorem d11_36 : decode jdk_17_method_70_code 36 = .ok (.ifCond .eq 27, 3) := by decide +kernel
theorem d11_39 : decode jdk_17_method_70_code 39 = .ok (.lload_n 2, 1) := by decide +kernel
theorem d11_40 : decode jdk_17_method_70_code 40 = .ok (.lload 4, 2) := by decide +kernel
theorem d11_42 : decode jdk_17_method_70_code 42 = .ok (.lcmp, 1) := by decide +kernel
theorem d11_43 : decode jdk_17_method_70_code 43 = .ok (.ifCond .eq 18, 3) := by decide +kernel
theorem d11_46 : decode jdk_17_method_70_code 46 = .ok (.lload_n 2, 1) := by decide +kernel
theorem d11_47 : decode jdk_17_method_70_code 47 = .ok (.lload 4, 2) := by decide +kernel
theorem d11_49 : decode jdk_17_method_70_code 49 = .ok (.lcmp, 1) := by decide +kernel
theorem d11_50 : decode jdk_17_method_70_code 50 = .ok (.ifCond .le 7, 3) := by decide +kernel
theorem d11_53 : decode jdk_17_method_70_code 53 = .ok (.iconst 1, 1) := by decide +kernel
theorem d11_54 : decode jdk_17_method_70_code 54 = .ok (.goto 8, 3) := by decide +kernel
theorem d11_57 : decode jdk_17_method_70_code 57 = .ok (.iconst (-1), 1) := by decide +kernel
theorem d11_58 : decode jdk_17_method_70_code 58 = .ok (.goto 4, 3) := by decide +kernel
theorem d11_61 : decode jdk_17_method_70_code 61 = .ok (.iconst 0, 1) := by decide +kernel
theorem d11_62 : decode jdk_17_method_70_code 62 = .ok (.ireturn, 1) := by decide +kernel
theorem d11_63 : decode jdk_17_method_70_code 63 = .ok (.aload_n 0, 1) := by decide +kernel
theorem d11_64 : decode jdk_17_method_70_code 64 = .ok (.invokevirtual 270, 3) := by decide +kernel
theorem d11_67 : decode jdk_17_method_70_code 67 = .ok (.istore_n 2, 1) := by decide +kernel
theorem d11_68 : decode jdk_17_method_70_code 68 = .ok (.aload_n 1, 1) := by decide +kernel
theorem d11_69 : decode jdk_17_method_70_code 69 = .ok (.invokevirtual 270, 3) := by decide +kernel
theorem d11_72 : decode jdk_17_method_70_code 72 = .ok (.istore_n 3, 1) := by decide +kernel
theorem d11_73 : decode jdk_17_method_70_code 73 = .ok (.iload_n 2, 1) := by decide +kernel
theorem d11_74 : decode jdk_17_method_70_code 74 = .ok (.iload_n 3, 1) := by decide +kernel
theorem d11_75 : decode jdk_17_method_70_code 75 = .ok (.if_icmp .eq 14, 3) := by decide +kernel
theorem d11_78 : decode jdk_17_method_70_code 78 = .ok (.iload_n 2, 1) := by decide +kernel
theorem d11_79 : decode jdk_17_method_70_code 79 = .ok (.iload_n 3, 1) := by decide +kernel
theorem d11_80 : decode jdk_17_method_70_code 80 = .ok (.if_icmp .le 7, 3) := by decide +kernel
theorem d11_83 : decode jdk_17_method_70_code 83 = .ok (.iconst 1, 1) := by decide +kernel
theorem d11_84 : decode jdk_17_method_70_code 84 = .ok (.goto 4, 3) := by decide +kernel
theorem d11_87 : decode jdk_17_method_70_code 87 = .ok (.iconst (-1), 1) := by decide +kernel
theorem d11_88 : decode jdk_17_method_70_code 88 = .ok (.ireturn, 1) := by decide +kernel
theorem d11_89 : decode jdk_17_method_70_code 89 = .ok (.iload_n 2, 1) := by decide +kernel
theorem d11_90 : decode jdk_17_method_70_code 90 = .ok (.ifCond .ne 5, 3) := by decide +kernel
theorem d11_93 : decode jdk_17_method_70_code 93 = .ok (.iconst 0, 1) := by decide +kernel
theorem d11_94 : decode jdk_17_method_70_code 94 = .ok (.ireturn, 1) := by decide +kernel
theorem d11_95 : decode jdk_17_method_70_code 95 = .ok (.aload_n 0, 1) := by decide +kernel
theorem d11_96 : decode jdk_17_method_70_code 96 = .ok (.aload_n 1, 1) := by decide +kernel
theorem d11_97 : decode jdk_17_method_70_code 97 = .ok (.invokevirtual 436, 3) := by decide +kernel
theorem d11_100 : decode jdk_17_method_70_code 100 = .ok (.istore 4, 2) := by decide +kernel
theorem d11_102 : decode jdk_17_method_70_code 102 = .ok (.iload_n 2, 1) := by decide +kernel
theorem d11_103 : decode jdk_17_method_70_code 103 = .ok (.ifCond .le 8, 3) := by decide +kernel
theorem d11_106 : decode jdk_17_method_70_code 106 = .ok (.iload 4, 2) := by decide +kernel
theorem d11_108 : decode jdk_17_method_70_code 108 = .ok (.goto 6, 3) := by decide +kernel
theorem d11_111 : decode jdk_17_method_70_code 111 = .ok (.iload 4, 2) := by decide +kernel
theorem d11_113 : decode jdk_17_method_70_code 113 = .ok (.ineg, 1) := by decide +kernel
theorem d11_114 : decode jdk_17_method_70_code 114 = .ok (.ireturn, 1) := by decide +kernel
theorem ef_11a (m : MethodId) (p0 : Addr) (p1 : Addr) : entryFrame m #[(.ref p0), (.ref p1)] 6 = mkF m 0 #[.val (.ref p0), .val (.ref p1), .unset, .unset, .unset, .unset] [] := by first | (simp [entryFrame, mkF, argsToLocals, Value.category]; done) | rfl
def Q11a (Z : State) (p0 : Addr) (p1 : Addr) (x : Nat) (y : Nat) (h0 : Heap) (n0 : Nat) (v : Option Value) (h : Heap) (L : List Loc) : Prop := v = some (.int (-1 : Int32)) ∧ Fr n0 L ∧ h = h0
set_option maxRecDepth 65536 in
set_option maxHeartbeats 40000000 in
theorem rm11a (l : Launch) (Z : State) (a0 : Array Value) (hw : ∀ d ∈ tables_1, d.before a0 Z = true) (ws : List Jvm.Cond) (p0 : Addr) (p1 : Addr) (x : Nat) (y : Nat) (h0 : Heap) (n0 : Nat) (Z0 : n0 ≤ h0.size) (P_F_p0_scale : Fld Z h0 p0 "java/math/BigDecimal" "scale" "I" (.int (0 : Int32))) (P_F_p0_intCompact : Fld Z h0 p0 "java/math/BigDecimal" "intCompact" "J" (.long (Int64.ofNat x))) (P_F_p1_scale : Fld Z h0 p1 "java/math/BigDecimal" "scale" "I" (.int (0 : Int32))) (P_F_p1_intCompact : Fld Z h0 p1 "java/math/BigDecimal" "intCompact" "J" (.long (Int64.ofNat y))) (qx : x ≤ 16) (qy : y ≤ 16) (qxy : x < y) :
    MetFree l (⟨"java/math/BigDecimal", "compareTo", "(Ljava/math/BigDecimal;)I"⟩ : MethodName) (head1 (Jvm.Cond.code (⟨"java/math/BigDecimal", "compareTo", "(Ljava/math/BigDecimal;)I"⟩ : MethodName) jdk_17_method_70_code 6 (some .int) :: ws) ({ frames := 0, cells := 0, slots := 0, locals := 0 } : Room)) (fun a U => a = #[(.ref p0), (.ref p1)] ∧ Z.Warmed39 U.vm ∧ U.heap = h0) (fun _ _ _ _ _ => True) (fun _ U o U' => ∃ v L, o = .returned v ∧ (Q11a Z p0 p1 x y h0 n0) v U'.heap L ∧ FrameEnd U o U' L ({ frames := 0, cells := 0, slots := 0, locals := 0 } : Room).cells ({ frames := 0, cells := 0, slots := 0, locals := 0 } : Room).slots) := by
  refine MetFree.of_bodySF (plainFor_of_name pn_5) hisR ?_
  intro p e s m args below meth c s₁ Bd hml0 hP hK
  obtain ⟨rfl, hZ, hh⟩ := hP
  have hx := Bd.exec
  have hby := Bd.bytes
  have hml : c.maxLocals = 6 := hml0
  have hown : s.vm.findClass "java/math/BigDecimal" = some m.cls := findClass_of_methodNamed Bd.named
  have hnm := (name_of_methodNamed Bd.named Bd.method).1
  have hlk : meth.locks = false := BodyLoose.notSynchronized Bd
  have X0 : Stand p l e ({ frames := 0, cells := 0, slots := 0, locals := 0 } : Room) s m #[(.ref p0), (.ref p1)] below meth c s₁ [] 0 0 := Stand.of_body Bd
  have e0 : s₁.heap = h0 := by rw [← hh, Bd.state]; rfl
  have N0 := Fr.nil n0
  show own_G p.tables e below (s₁.setTop (entryFrame m #[(.ref p0), (.ref p1)] 6)) s ({ frames := 0, cells := 0, slots := 0, locals := 0 } : Room).cells ({ frames := 0, cells := 0, slots := 0, locals := 0 } : Room).slots (Q11a Z p0 p1 x y h0 n0)
  refine own_go (fun _ k => castTop (ef_11a m p0 p1) k) ?_
  show own_G _ _ _ (s₁.setTop (mkF m 0 #[.val (.ref p0), .val (.ref p1), .unset, .unset, .unset, .unset] [])) _ _ _ _
  refine own_go (fun _ k => XS.aloadN X0.here hx rfl (hb hby d11_0) rfl rfl k) ?_
  show own_G _ _ _ (s₁.setTop (mkF m 1 #[.val (.ref p0), .val (.ref p1), .unset, .unset, .unset, .unset] [(.ref p0)])) _ _ _ _
  obtain ⟨T1, X1, e1, st1⟩ := getF X0 hx hZ hown (host := "") (Or.inl (hw _ (List.mem_of_getElem? (i := 75) rfl))) Via.refl e0 P_F_p0_scale (g := (mkF m 1 #[.val (.ref p0), .val (.ref p1), .unset, .unset, .unset, .unset] [(.ref p0)])) rfl rfl (hb hby d11_1)
  refine own_go (fun _ k => st1 _ k) ?_
  show own_G _ _ _ (T1.setTop (mkF m 4 #[.val (.ref p0), .val (.ref p1), .unset, .unset, .unset, .unset] [(.int (0 : Int32))])) _ _ _ _
  refine own_go (fun _ k => XS.aloadN X1.here hx rfl (hb hby d11_4) rfl rfl k) ?_
  show own_G _ _ _ (T1.setTop (mkF m 5 #[.val (.ref p0), .val (.ref p1), .unset, .unset, .unset, .unset] [(.ref p1), (.int (0 : Int32))])) _ _ _ _
  obtain ⟨T2, X2, e2, st2⟩ := getF X1 hx hZ hown (host := "") (Or.inl (hw _ (List.mem_of_getElem? (i := 75) rfl))) Via.refl e1 P_F_p1_scale (g := (mkF m 5 #[.val (.ref p0), .val (.ref p1), .unset, .unset, .unset, .unset] [(.ref p1), (.int (0 : Int32))])) rfl rfl (hb hby d11_5)
  refine own_go (fun _ k => st2 _ k) ?_
  show own_G _ _ _ (T2.setTop (mkF m 8 #[.val (.ref p0), .val (.ref p1), .unset, .unset, .unset, .unset] [(.int (0 : Int32)), (.int (0 : Int32))])) _ _ _ _
  have hc3 : (0 : Int32) = (0 : Int32) := (by decide)
  refine own_go (fun _ k => XS.icmpNo X2.here hx rfl (hb hby d11_8) rfl (teq hc3).2 k) ?_
  show own_G _ _ _ (T2.setTop (mkF m 11 #[.val (.ref p0), .val (.ref p1), .unset, .unset, .unset, .unset] [])) _ _ _ _
  refine own_go (fun _ k => XS.aloadN X2.here hx rfl (hb hby d11_11) rfl rfl k) ?_
  show own_G _ _ _ (T2.setTop (mkF m 12 #[.val (.ref p0), .val (.ref p1), .unset, .unset, .unset, .unset] [(.ref p0)])) _ _ _ _
  obtain ⟨T4, X4, e4, st4⟩ := getF X2 hx hZ hown (host := "") (Or.inl (hw _ (List.mem_of_getElem? (i := 77) rfl))) Via.refl e2 P_F_p0_intCompact (g := (mkF m 12 #[.val (.ref p0), .val (.ref p1), .unset, .unset, .unset, .unset] [(.ref p0)])) rfl rfl (hb hby d11_12)
  refine own_go (fun _ k => st4 _ k) ?_
  show own_G _ _ _ (T4.setTop (mkF m 15 #[.val (.ref p0), .val (.ref p1), .unset, .unset, .unset, .unset] [(.long (Int64.ofNat x))])) _ _ _ _
  refine own_go (fun _ k => XS.lstoreN X4.here hx rfl (hb hby d11_15) rfl (l' := #[.val (.ref p0), .val (.ref p1), .val (.long (Int64.ofNat x)), .second, .unset, .unset]) rfl k) ?_
  show own_G _ _ _ (T4.setTop (mkF m 16 #[.val (.ref p0), .val (.ref p1), .val (.long (Int64.ofNat x)), .second, .unset, .unset] [])) _ _ _ _
  refine own_go (fun _ k => XS.aloadN X4.here hx rfl (hb hby d11_16) rfl rfl k) ?_
  show own_G _ _ _ (T4.setTop (mkF m 17 #[.val (.ref p0), .val (.ref p1), .val (.long (Int64.ofNat x)), .second, .unset, .unset] [(.ref p1)])) _ _ _ _
  obtain ⟨T5, X5, e5, st5⟩ := getF X4 hx hZ hown (host := "") (Or.inl (hw _ (List.mem_of_getElem? (i := 77) rfl))) Via.refl e4 P_F_p1_intCompact (g := (mkF m 17 #[.val (.ref p0), .val (.ref p1), .val (.long (Int64.ofNat x)), .second, .unset, .unset] [(.ref p1)])) rfl rfl (hb hby d11_17)
  refine own_go (fun _ k => st5 _ k) ?_
  show own_G _ _ _ (T5.setTop (mkF m 20 #[.val (.ref p0), .val (.ref p1), .val (.long (Int64.ofNat x)), .second, .unset, .unset] [(.long (Int64.ofNat y))])) _ _ _ _
  refine own_go (fun _ k => XS.lstore X5.here hx rfl (hb hby d11_20) rfl (l' := #[.val (.ref p0), .val (.ref p1), .val (.long (Int64.ofNat x)), .second, .val (.long (Int64.ofNat y)), .second]) rfl k) ?_
  show own_G _ _ _ (T5.setTop (mkF m 22 #[.val (.ref p0), .val (.ref p1), .val (.long (Int64.ofNat x)), .second, .val (.long (Int64.ofNat y)), .second] [])) _ _ _ _
  refine own_go (fun _ k => XS.lloadN X5.here hx rfl (hb hby d11_22) rfl k) ?_
  show own_G _ _ _ (T5.setTop (mkF m 23 #[.val (.ref p0), .val (.ref p1), .val (.long (Int64.ofNat x)), .second, .val (.long (Int64.ofNat y)), .second] [(.long (Int64.ofNat x))])) _ _ _ _
  refine own_go (fun _ k => X5.ldc2Long hx hown (mvT hZ (hw _ (List.mem_of_getElem? (i := 79) rfl))) (g := (mkF m 23 #[.val (.ref p0), .val (.ref p1), .val (.long (Int64.ofNat x)), .second, .val (.long (Int64.ofNat y)), .second] [(.long (Int64.ofNat x))])) rfl (hb hby d11_23) _ k) ?_
  show own_G _ _ _ (T5.setTop (mkF m 26 #[.val (.ref p0), .val (.ref p1), .val (.long (Int64.ofNat x)), .second, .val (.long (Int64.ofNat y)), .second] [(.long (-9223372036854775808 : Int64)), (.long (Int64.ofNat x))])) _ _ _ _
  refine own_go (fun _ k => XS.lcmp X5.here hx rfl (hb hby d11_26) rfl k) ?_
  show own_G _ _ _ (T5.setTop (mkF m 27 #[.val (.ref p0), .val (.ref p1), .val (.long (Int64.ofNat x)), .second, .val (.long (Int64.ofNat y)), .second] [(.int (lcmpW (Int64.ofNat x) (-9223372036854775808 : Int64)))])) _ _ _ _
  have hc6 : ¬ ((Int64.ofNat x) = (-9223372036854775808 : Int64)) := own_lmin x qx
  refine own_go (fun _ k => XS.ifNo X5.here hx rfl (hb hby d11_27) rfl ((if0 _ _).trans (feq (fun q => hc6 ((lw_eq _ _).mp q))).1) k) ?_
  show own_G _ _ _ (T5.setTop (mkF m 30 #[.val (.ref p0), .val (.ref p1), .val (.long (Int64.ofNat x)), .second, .val (.long (Int64.ofNat y)), .second] [])) _ _ _ _
  refine own_go (fun _ k => XS.lload X5.here hx rfl (hb hby d11_30) rfl k) ?_
  show own_G _ _ _ (T5.setTop (mkF m 32 #[.val (.ref p0), .val (.ref p1), .val (.long (Int64.ofNat x)), .second, .val (.long (Int64.ofNat y)), .second] [(.long (Int64.ofNat y))])) _ _ _ _
  refine own_go (fun _ k => X5.ldc2Long hx hown (mvT hZ (hw _ (List.mem_of_getElem? (i := 79) rfl))) (g := (mkF m 32 #[.val (.ref p0), .val (.ref p1), .val (.long (Int64.ofNat x)), .second, .val (.long (Int64.ofNat y)), .second] [(.long (Int64.ofNat y))])) rfl (hb hby d11_32) _ k) ?_
  show own_G _ _ _ (T5.setTop (mkF m 35 #[.val (.ref p0), .val (.ref p1), .val (.long (Int64.ofNat x)), .second, .val (.long (Int64.ofNat y)), .second] [(.long (-9223372036854775808 : Int64)), (.long (Int64.ofNat y))])) _ _ _ _
  refine own_go (fun _ k => XS.lcmp X5.here hx rfl (hb hby d11_35) rfl k) ?_
  show own_G _ _ _ (T5.setTop (mkF m 36 #[.val (.ref p0), .val (.ref p1), .val (.long (Int64.ofNat x)), .second, .val (.long (Int64.ofNat y)), .second] [(.int (lcmpW (Int64.ofNat y) (-9223372036854775808 : Int64)))])) _ _ _ _
  have hc7 : ¬ ((Int64.ofNat y) = (-9223372036854775808 : Int64)) := own_lmin y qy
  refine own_go (fun _ k => XS.ifNo X5.here hx rfl (hb hby d11_36) rfl ((if0 _ _).trans (feq (fun q => hc7 ((lw_eq _ _).mp q))).1) k) ?_
  show own_G _ _ _ (T5.setTop (mkF m 39 #[.val (.ref p0), .val (.ref p1), .val (.long (Int64.ofNat x)), .second, .val (.long (Int64.ofNat y)), .second] [])) _ _ _ _
  refine own_go (fun _ k => XS.lloadN X5.here hx rfl (hb hby d11_39) rfl k) ?_
  show own_G _ _ _ (T5.setTop (mkF m 40 #[.val (.ref p0), .val (.ref p1), .val (.long (Int64.ofNat x)), .second, .val (.long (Int64.ofNat y)), .second] [(.long (Int64.ofNat x))])) _ _ _ _
  refine own_go (fun _ k => XS.lload X5.here hx rfl (hb hby d11_40) rfl k) ?_
  show own_G _ _ _ (T5.setTop (mkF m 42 #[.val (.ref p0), .val (.ref p1), .val (.long (Int64.ofNat x)), .second, .val (.long (Int64.ofNat y)), .second] [(.long (Int64.ofNat y)), (.long (Int64.ofNat x))])) _ _ _ _
  refine own_go (fun _ k => XS.lcmp X5.here hx rfl (hb hby d11_42) rfl k) ?_
  show own_G _ _ _ (T5.setTop (mkF m 43 #[.val (.ref p0), .val (.ref p1), .val (.long (Int64.ofNat x)), .second, .val (.long (Int64.ofNat y)), .second] [(.int (lcmpW (Int64.ofNat x) (Int64.ofNat y)))])) _ _ _ _
  have hc8 : ¬ ((Int64.ofNat x) = (Int64.ofNat y)) := own_leq x y qx qy qxy
  refine own_go (fun _ k => XS.ifNo X5.here hx rfl (hb hby d11_43) rfl ((if0 _ _).trans (feq (fun q => hc8 ((lw_eq _ _).mp q))).1) k) ?_
  show own_G _ _ _ (T5.setTop (mkF m 46 #[.val (.ref p0), .val (.ref p1), .val (.long (Int64.ofNat x)), .second, .val (.long (Int64.ofNat y)), .second] [])) _ _ _ _
  refine own_go (fun _ k => XS.lloadN X5.here hx rfl (hb hby d11_46) rfl k) ?_
  show own_G _ _ _ (T5.setTop (mkF m 47 #[.val (.ref p0), .val (.ref p1), .val (.long (Int64.ofNat x)), .second, .val (.long (Int64.ofNat y)), .second] [(.long (Int64.ofNat x))])) _ _ _ _
  refine own_go (fun _ k => XS.lload X5.here hx rfl (hb hby d11_47) rfl k) ?_
  show own_G _ _ _ (T5.setTop (mkF m 49 #[.val (.ref p0), .val (.ref p1), .val (.long (Int64.ofNat x)), .second, .val (.long (Int64.ofNat y)), .second] [(.long (Int64.ofNat y)), (.long (Int64.ofNat x))])) _ _ _ _
  refine own_go (fun _ k => XS.lcmp X5.here hx rfl (hb hby d11_49) rfl k) ?_
  show own_G _ _ _ (T5.setTop (mkF m 50 #[.val (.ref p0), .val (.ref p1), .val (.long (Int64.ofNat x)), .second, .val (.long (Int64.ofNat y)), .second] [(.int (lcmpW (Int64.ofNat x) (Int64.ofNat y)))])) _ _ _ _
  have hc9 : ¬ ((Int64.ofNat y) < (Int64.ofNat x)) := own_lgt x y qx qy qxy
  refine own_go (fun _ k => XS.ifYes X5.here hx rfl (pc0 := 50) (pc' := 57) rfl (hb hby d11_50) rfl ((if0 _ _).trans (flt (fun q => hc9 ((lw_gt _ _).mp q))).2.2.2) (by decide) (by decide) k) ?_
  show own_G _ _ _ (T5.setTop (mkF m 57 #[.val (.ref p0), .val (.ref p1), .val (.long (Int64.ofNat x)), .second, .val (.long (Int64.ofNat y)), .second] [])) _ _ _ _
  refine own_go (fun _ k => XS.iconst X5.here hx rfl (hb hby d11_57) k) ?_
  show own_G _ _ _ (T5.setTop (mkF m 58 #[.val (.ref p0), .val (.ref p1), .val (.long (Int64.ofNat x)), .second, .val (.long (Int64.ofNat y)), .second] [(.int (-1 : Int32))])) _ _ _ _
  refine own_go (fun _ k => XS.goto X5.here hx rfl (pc0 := 58) (pc' := 62) rfl (hb hby d11_58) (by decide) (by decide) k) ?_
  show own_G _ _ _ (T5.setTop (mkF m 62 #[.val (.ref p0), .val (.ref p1), .val (.long (Int64.ofNat x)), .second, .val (.long (Int64.ofNat y)), .second] [(.int (-1 : Int32))])) _ _ _ _
  exact own_endI X5 hx hlk Bd.returns (hb hby d11_62) (by decide) (by decide) (Q := (Q11a Z p0 p1 x y h0 n0)) (by rw [e5]; exact ⟨rfl, N0, rfl⟩)
def Q11b (Z : State) (p0 : Addr) (p1 : Addr) (x : Nat) (h0 : Heap) (n0 : Nat) (v : Option Value) (h : Heap) (L : List Loc) : Prop := v = some (.int (0 : Int32)) ∧ Fr n0 L ∧ h = h0
set_option maxRecDepth 65536 in
set_option maxHeartbeats 40000000 in
theorem rm11b (l : Launch) (Z : State) (a0 : Array Value) (hw : ∀ d ∈ tables_1, d.before a0 Z = true) (ws : List Jvm.Cond) (p0 : Addr) (p1 : Addr) (x : Nat) (h0 : Heap) (n0 : Nat) (Z0 : n0 ≤ h0.size) (P_F_p0_scale : Fld Z h0 p0 "java/math/BigDecimal" "scale" "I" (.int (0 : Int32))) (P_F_p0_intCompact : Fld Z h0 p0 "java/math/BigDecimal" "intCompact" "J" (.long (Int64.ofNat x))) (P_F_p1_scale : Fld Z h0 p1 "java/math/BigDecimal" "scale" "I" (.int (0 : Int32))) (P_F_p1_intCompact : Fld Z h0 p1 "java/math/BigDecimal" "intCompact" "J" (.long (Int64.ofNat x))) (qx : x ≤ 16) :
    MetFree l (⟨"java/math/BigDecimal", "compareTo", "(Ljava/math/BigDecimal;)I"⟩ : MethodName) (head1 (Jvm.Cond.code (⟨"java/math/BigDecimal", "compareTo", "(Ljava/math/BigDecimal;)I"⟩ : MethodName) jdk_17_method_70_code 6 (some .int) :: ws) ({ frames := 0, cells := 0, slots := 0, locals := 0 } : Room)) (fun a U => a = #[(.ref p0), (.ref p1)] ∧ Z.Warmed39 U.vm ∧ U.heap = h0) (fun _ _ _ _ _ => True) (fun _ U o U' => ∃ v L, o = .returned v ∧ (Q11b Z p0 p1 x h0 n0) v U'.heap L ∧ FrameEnd U o U' L ({ frames := 0, cells := 0, slots := 0, locals := 0 } : Room).cells ({ frames := 0, cells := 0, slots := 0, locals := 0 } : Room).slots) := by
  refine MetFree.of_bodySF (plainFor_of_name pn_5) hisR ?_
  intro p e s m args below meth c s₁ Bd hml0 hP hK
  obtain ⟨rfl, hZ, hh⟩ := hP
  have hx := Bd.exec
  have hby := Bd.bytes
  have hml : c.maxLocals = 6 := hml0
  have hown : s.vm.findClass "java/math/BigDecimal" = some m.cls := findClass_of_methodNamed Bd.named
  have hnm := (name_of_methodNamed Bd.named Bd.method).1
  have hlk : meth.locks = false := BodyLoose.notSynchronized Bd
  have X0 : Stand p l e ({ frames := 0, cells := 0, slots := 0, locals := 0 } : Room) s m #[(.ref p0), (.ref p1)] below meth c s₁ [] 0 0 := Stand.of_body Bd
  have e0 : s₁.heap = h0 := by rw [← hh, Bd.state]; rfl
  have N0 := Fr.nil n0
  show own_G p.tables e below (s₁.setTop (entryFrame m #[(.ref p0), (.ref p1)] 6)) s ({ frames := 0, cells := 0, slots := 0, locals := 0 } : Room).cells ({ frames := 0, cells := 0, slots := 0, locals := 0 } : Room).slots (Q11b Z p0 p1 x h0 n0)
  refine own_go (fun _ k => castTop (ef_11a m p0 p1) k) ?_
  show own_G _ _ _ (s₁.setTop (mkF m 0 #[.val (.ref p0), .val (.ref p1), .unset, .unset, .unset, .unset] [])) _ _ _ _
  refine own_go (fun _ k => XS.aloadN X0.here hx rfl (hb hby d11_0) rfl rfl k) ?_
  show own_G _ _ _ (s₁.setTop (mkF m 1 #[.val (.ref p0), .val (.ref p1), .unset, .unset, .unset, .unset] [(.ref p0)])) _ _ _ _
  obtain ⟨T1, X1, e1, st1⟩ := getF X0 hx hZ hown (host := "") (Or.inl (hw _ (List.mem_of_getElem? (i := 75) rfl))) Via.refl e0 P_F_p0_scale (g := (mkF m 1 #[.val (.ref p0), .val (.ref p1), .unset, .unset, .unset, .unset] [(.ref p0)])) rfl rfl (hb hby d11_1)
  refine own_go (fun _ k => st1 _ k) ?_
  show own_G _ _ _ (T1.setTop (mkF m 4 #[.val (.ref p0), .val (.ref p1), .unset, .unset, .unset, .unset] [(.int (0 : Int32))])) _ _ _ _
  refine own_go (fun _ k => XS.aloadN X1.here hx rfl (hb hby d11_4) rfl rfl k) ?_
  show own_G _ _ _ (T1.setTop (mkF m 5 #[.val (.ref p0), .val (.ref p1), .unset, .unset, .unset, .unset] [(.ref p1), (.int (0 : Int32))])) _ _ _ _
  obtain ⟨T2, X2, e2, st2⟩ := getF X1 hx hZ hown (host := "") (Or.inl (hw _ (List.mem_of_getElem? (i := 75) rfl))) Via.refl e1 P_F_p1_scale (g := (mkF m 5 #[.val (.ref p0), .val (.ref p1), .unset, .unset, .unset, .unset] [(.ref p1), (.int (0 : Int32))])) rfl rfl (hb hby d11_5)
  refine own_go (fun _ k => st2 _ k) ?_
  show own_G _ _ _ (T2.setTop (mkF m 8 #[.val (.ref p0), .val (.ref p1), .unset, .unset, .unset, .unset] [(.int (0 : Int32)), (.int (0 : Int32))])) _ _ _ _
  have hc3 : (0 : Int32) = (0 : Int32) := (by decide)
  refine own_go (fun _ k => XS.icmpNo X2.here hx rfl (hb hby d11_8) rfl (teq hc3).2 k) ?_
  show own_G _ _ _ (T2.setTop (mkF m 11 #[.val (.ref p0), .val (.ref p1), .unset, .unset, .unset, .unset] [])) _ _ _ _
  refine own_go (fun _ k => XS.aloadN X2.here hx rfl (hb hby d11_11) rfl rfl k) ?_
  show own_G _ _ _ (T2.setTop (mkF m 12 #[.val (.ref p0), .val (.ref p1), .unset, .unset, .unset, .unset] [(.ref p0)])) _ _ _ _
  obtain ⟨T4, X4, e4, st4⟩ := getF X2 hx hZ hown (host := "") (Or.inl (hw _ (List.mem_of_getElem? (i := 77) rfl))) Via.refl e2 P_F_p0_intCompact (g := (mkF m 12 #[.val (.ref p0), .val (.ref p1), .unset, .unset, .unset, .unset] [(.ref p0)])) rfl rfl (hb hby d11_12)
  refine own_go (fun _ k => st4 _ k) ?_
  show own_G _ _ _ (T4.setTop (mkF m 15 #[.val (.ref p0), .val (.ref p1), .unset, .unset, .unset, .unset] [(.long (Int64.ofNat x))])) _ _ _ _
  refine own_go (fun _ k => XS.lstoreN X4.here hx rfl (hb hby d11_15) rfl (l' := #[.val (.ref p0), .val (.ref p1), .val (.long (Int64.ofNat x)), .second, .unset, .unset]) rfl k) ?_
  show own_G _ _ _ (T4.setTop (mkF m 16 #[.val (.ref p0), .val (.ref p1), .val (.long (Int64.ofNat x)), .second, .unset, .unset] [])) _ _ _ _
  refine own_go (fun _ k => XS.aloadN X4.here hx rfl (hb hby d11_16) rfl rfl k) ?_
  show own_G _ _ _ (T4.setTop (mkF m 17 #[.val (.ref p0), .val (.ref p1), .val (.long (Int64.ofNat x)), .second, .unset, .unset] [(.ref p1)])) _ _ _ _
  obtain ⟨T5, X5, e5, st5⟩ := getF X4 hx hZ hown (host := "") (Or.inl (hw _ (List.mem_of_getElem? (i := 77) rfl))) Via.refl e4 P_F_p1_intCompact (g := (mkF m 17 #[.val (.ref p0), .val (.ref p1), .val (.long (Int64.ofNat x)), .second, .unset, .unset] [(.ref p1)])) rfl rfl (hb hby d11_17)
  refine own_go (fun _ k => st5 _ k) ?_
  show own_G _ _ _ (T5.setTop (mkF m 20 #[.val (.ref p0), .val (.ref p1), .val (.long (Int64.ofNat x)), .second, .unset, .unset] [(.long (Int64.ofNat x))])) _ _ _ _
  refine own_go (fun _ k => XS.lstore X5.here hx rfl (hb hby d11_20) rfl (l' := #[.val (.ref p0), .val (.ref p1), .val (.long (Int64.ofNat x)), .second, .val (.long (Int64.ofNat x)), .second]) rfl k) ?_
  show own_G _ _ _ (T5.setTop (mkF m 22 #[.val (.ref p0), .val (.ref p1), .val (.long (Int64.ofNat x)), .second, .val (.long (Int64.ofNat x)), .second] [])) _ _ _ _
  refine own_go (fun _ k => XS.lloadN X5.here hx rfl (hb hby d11_22) rfl k) ?_
  show own_G _ _ _ (T5.setTop (mkF m 23 #[.val (.ref p0), .val (.ref p1), .val (.long (Int64.ofNat x)), .second, .val (.long (Int64.ofNat x)), .second] [(.long (Int64.ofNat x))])) _ _ _ _
  refine own_go (fun _ k => X5.ldc2Long hx hown (mvT hZ (hw _ (List.mem_of_getElem? (i := 79) rfl))) (g := (mkF m 23 #[.val (.ref p0), .val (.ref p1), .val (.long (Int64.ofNat x)), .second, .val (.long (Int64.ofNat x)), .second] [(.long (Int64.ofNat x))])) rfl (hb hby d11_23) _ k) ?_
  show own_G _ _ _ (T5.setTop (mkF m 26 #[.val (.ref p0), .val (.ref p1), .val (.long (Int64.ofNat x)), .second, .val (.long (Int64.ofNat x)), .second] [(.long (-9223372036854775808 : Int64)), (.long (Int64.ofNat x))])) _ _ _ _
  refine own_go (fun _ k => XS.lcmp X5.here hx rfl (hb hby d11_26) rfl k) ?_
  show own_G _ _ _ (T5.setTop (mkF m 27 #[.val (.ref p0), .val (.ref p1), .val (.long (Int64.ofNat x)), .second, .val (.long (Int64.ofNat x)), .second] [(.int (lcmpW (Int64.ofNat x) (-9223372036854775808 : Int64)))])) _ _ _ _
  have hc6 : ¬ ((Int64.ofNat x) = (-9223372036854775808 : Int64)) := own_lmin x qx
  refine own_go (fun _ k => XS.ifNo X5.here hx rfl (hb hby d11_27) rfl ((if0 _ _).trans (feq (fun q => hc6 ((lw_eq _ _).mp q))).1) k) ?_
  show own_G _ _ _ (T5.setTop (mkF m 30 #[.val (.ref p0), .val (.ref p1), .val (.long (Int64.ofNat x)), .second, .val (.long (Int64.ofNat x)), .second] [])) _ _ _ _
  refine own_go (fun _ k => XS.lload X5.here hx rfl (hb hby d11_30) rfl k) ?_
  show own_G _ _ _ (T5.setTop (mkF m 32 #[.val (.ref p0), .val (.ref p1), .val (.long (Int64.ofNat x)), .second, .val (.long (Int64.ofNat x)), .second] [(.long (Int64.ofNat x))])) _ _ _ _
  refine own_go (fun _ k => X5.ldc2Long hx hown (mvT hZ (hw _ (List.mem_of_getElem? (i := 79) rfl))) (g := (mkF m 32 #[.val (.ref p0), .val (.ref p1), .val (.long (Int64.ofNat x)), .second, .val (.long (Int64.ofNat x)), .second] [(.long (Int64.ofNat x))])) rfl (hb hby d11_32) _ k) ?_
  show own_G _ _ _ (T5.setTop (mkF m 35 #[.val (.ref p0), .val (.ref p1), .val (.long (Int64.ofNat x)), .second, .val (.long (Int64.ofNat x)), .second] [(.long (-9223372036854775808 : Int64)), (.long (Int64.ofNat x))])) _ _ _ _
  refine own_go (fun _ k => XS.lcmp X5.here hx rfl (hb hby d11_35) rfl k) ?_
  show own_G _ _ _ (T5.setTop (mkF m 36 #[.val (.ref p0), .val (.ref p1), .val (.long (Int64.ofNat x)), .second, .val (.long (Int64.ofNat x)), .second] [(.int (lcmpW (Int64.ofNat x) (-9223372036854775808 : Int64)))])) _ _ _ _
  have hc7 : ¬ ((Int64.ofNat x) = (-9223372036854775808 : Int64)) := own_lmin x qx
  refine own_go (fun _ k => XS.ifNo X5.here hx rfl (hb hby d11_36) rfl ((if0 _ _).trans (feq (fun q => hc7 ((lw_eq _ _).mp q))).1) k) ?_
  show own_G _ _ _ (T5.setTop (mkF m 39 #[.val (.ref p0), .val (.ref p1), .val (.long (Int64.ofNat x)), .second, .val (.long (Int64.ofNat x)), .second] [])) _ _ _ _
  refine own_go (fun _ k => XS.lloadN X5.here hx rfl (hb hby d11_39) rfl k) ?_
  show own_G _ _ _ (T5.setTop (mkF m 40 #[.val (.ref p0), .val (.ref p1), .val (.long (Int64.ofNat x)), .second, .val (.long (Int64.ofNat x)), .second] [(.long (Int64.ofNat x))])) _ _ _ _
  refine own_go (fun _ k => XS.lload X5.here hx rfl (hb hby d11_40) rfl k) ?_
  show own_G _ _ _ (T5.setTop (mkF m 42 #[.val (.ref p0), .val (.ref p1), .val (.long (Int64.ofNat x)), .second, .val (.long (Int64.ofNat x)), .second] [(.long (Int64.ofNat x)), (.long (Int64.ofNat x))])) _ _ _ _
  refine own_go (fun _ k => XS.lcmp X5.here hx rfl (hb hby d11_42) rfl k) ?_
  show own_G _ _ _ (T5.setTop (mkF m 43 #[.val (.ref p0), .val (.ref p1), .val (.long (Int64.ofNat x)), .second, .val (.long (Int64.ofNat x)), .second] [(.int (lcmpW (Int64.ofNat x) (Int64.ofNat x)))])) _ _ _ _
  have hc8 : (Int64.ofNat x) = (Int64.ofNat x) := rfl
  refine own_go (fun _ k => XS.ifYes X5.here hx rfl (pc0 := 43) (pc' := 61) rfl (hb hby d11_43) rfl ((if0 _ _).trans (teq ((lw_eq _ _).mpr hc8)).1) (by decide) (by decide) k) ?_
  show own_G _ _ _ (T5.setTop (mkF m 61 #[.val (.ref p0), .val (.ref p1), .val (.long (Int64.ofNat x)), .second, .val (.long (Int64.ofNat x)), .second] [])) _ _ _ _
  refine own_go (fun _ k => XS.iconst X5.here hx rfl (hb hby d11_61) k) ?_
  show own_G _ _ _ (T5.setTop (mkF m 62 #[.val (.ref p0), .val (.ref p1), .val (.long (Int64.ofNat x)), .second, .val (.long (Int64.ofNat x)), .second] [(.int (0 : Int32))])) _ _ _ _
  exact own_endI X5 hx hlk Bd.returns (hb hby d11_62) (by decide) (by decide) (Q := (Q11b Z p0 p1 x h0 n0)) (by rw [e5]; exact ⟨rfl, N0, rfl⟩)
theorem d24_0 : decode jdk_17_method_74_code 0 = .ok (.aload_n 0, 1) := by decide +kernel
theorem d24_1 : decode jdk_17_method_74_code 1 = .ok (.aload_n 1, 1) := by decide +kernel
theorem d24_2 : decode jdk_17_method_74_code 2 = .ok (.invokevirtual 480, 3) := by decide +kernel
theorem d24_5 : decode jdk_17_method_74_code 5 = .ok (.ifCond .lt 7, 3) := by decide +kernel
theorem d24_8 : decode jdk_17_method_74_code 8 = .ok (.aload_n 0, 1) := by decide +kernel
theorem d24_9 : decode jdk_17_method_74_code 9 = .ok (.goto 4, 3) := by decide +kernel
theorem d24_12 : decode jdk_17_method_74_code 12 = .ok (.aload_n 1, 1) := by decide +kernel
theorem d24_13 : decode jdk_17_method_74_code 13 = .ok (.areturn, 1) := by decide +kernel
theorem pd_8 : parseMethodDescriptor "(Ljava/math/BigDecimal;)I" = some ⟨[(.object "java/math/BigDecimal")], some .int⟩ := by decide +kernel
theorem ef_24 (m : MethodId) (p0 : Addr) (p1 : Addr) : entryFrame m #[(.ref p0), (.ref p1)] 2 = mkF m 0 #[.val (.ref p0), .val (.ref p1)] [] := by first | (simp [entryFrame, mkF, argsToLocals, Value.category]; done) | rfl
def Q24 (Z : State) (p0 : Addr) (p1 : Addr) (x : Nat) (y : Nat) (h0 : Heap) (n0 : Nat) (v : Option Value) (h : Heap) (L : List Loc) : Prop := v = some (.ref p1) ∧ Fr n0 L ∧ h = h0
set_option maxRecDepth 65536 in
set_option maxHeartbeats 40000000 in
theorem rm24 (l : Launch) (Z : State) (a0 : Array Value) (hw : ∀ d ∈ tables_1, d.before a0 Z = true) (ws : List Jvm.Cond) (p0 : Addr) (p1 : Addr) (x : Nat) (y : Nat) (h0 : Heap) (n0 : Nat) (Z0 : n0 ≤ h0.size) (P_E_p0 : Exa Z h0 p0 "java/math/BigDecimal") (P_F_p0_scale : Fld Z h0 p0 "java/math/BigDecimal" "scale" "I" (.int (0 : Int32))) (P_F_p0_intCompact : Fld Z h0 p0 "java/math/BigDecimal" "intCompact" "J" (.long (Int64.ofNat x))) (P_F_p1_scale : Fld Z h0 p1 "java/math/BigDecimal" "scale" "I" (.int (0 : Int32))) (P_F_p1_intCompact : Fld Z h0 p1 "java/math/BigDecimal" "intCompact" "J" (.long (Int64.ofNat y))) (qx : x ≤ 16) (qy : y ≤ 16) (qxy : x < y) :
    MetFree l (⟨"java/math/BigDecimal", "max", "(Ljava/math/BigDecimal;)Ljava/math/BigDecimal;"⟩ : MethodName) (head1 (Jvm.Cond.code (⟨"java/math/BigDecimal", "max", "(Ljava/math/BigDecimal;)Ljava/math/BigDecimal;"⟩ : MethodName) jdk_17_method_74_code 2 (some (.object "java/math/BigDecimal")) :: ws) ({ frames := 1, cells := 0, slots := 0, locals := 17 } : Room)) (fun a U => a = #[(.ref p0), (.ref p1)] ∧ Z.Warmed39 U.vm ∧ U.heap = h0) (fun _ _ _ _ _ => True) (fun _ U o U' => ∃ v L, o = .returned v ∧ (Q24 Z p0 p1 x y h0 n0) v U'.heap L ∧ FrameEnd U o U' L ({ frames := 1, cells := 0, slots := 0, locals := 17 } : Room).cells ({ frames := 1, cells := 0, slots := 0, locals := 17 } : Room).slots) := by
  refine MetFree.of_bodySF (plainFor_of_name pn_5) hisR ?_
  intro p e s m args below meth c s₁ Bd hml0 hP hK
  obtain ⟨rfl, hZ, hh⟩ := hP
  have hx := Bd.exec
  have hby := Bd.bytes
  have hml : c.maxLocals = 2 := hml0
  have hown : s.vm.findClass "java/math/BigDecimal" = some m.cls := findClass_of_methodNamed Bd.named
  have hnm := (name_of_methodNamed Bd.named Bd.method).1
  have hlk : meth.locks = false := BodyLoose.notSynchronized Bd
  have X0 : Stand p l e ({ frames := 1, cells := 0, slots := 0, locals := 17 } : Room) s m #[(.ref p0), (.ref p1)] below meth c s₁ [] 0 0 := Stand.of_body Bd
  have e0 : s₁.heap = h0 := by rw [← hh, Bd.state]; rfl
  have N0 := Fr.nil n0
  show own_G p.tables e below (s₁.setTop (entryFrame m #[(.ref p0), (.ref p1)] 2)) s ({ frames := 1, cells := 0, slots := 0, locals := 17 } : Room).cells ({ frames := 1, cells := 0, slots := 0, locals := 17 } : Room).slots (Q24 Z p0 p1 x y h0 n0)
  refine own_go (fun _ k => castTop (ef_24 m p0 p1) k) ?_
  show own_G _ _ _ (s₁.setTop (mkF m 0 #[.val (.ref p0), .val (.ref p1)] [])) _ _ _ _
  refine own_go (fun _ k => XS.aloadN X0.here hx rfl (hb hby d24_0) rfl rfl k) ?_
  show own_G _ _ _ (s₁.setTop (mkF m 1 #[.val (.ref p0), .val (.ref p1)] [(.ref p0)])) _ _ _ _
  refine own_go (fun _ k => XS.aloadN X0.here hx rfl (hb hby d24_1) rfl rfl k) ?_
  show own_G _ _ _ (s₁.setTop (mkF m 2 #[.val (.ref p0), .val (.ref p1)] [(.ref p1), (.ref p0)])) _ _ _ _
  obtain ⟨cq1, kq1, q1a, q1b, q1c⟩ := isOf hZ e0 P_E_p0
  obtain ⟨_, _, ⟨T1, L1, k1, n1⟩, -, X1, ⟨Lc1, hQ1, l1, y1, z1⟩, st1⟩ := X0.virtualBack hx (y := (⟨"java/math/BigDecimal", "compareTo", "(Ljava/math/BigDecimal;)I"⟩ : MethodName)) (z := (⟨"java/math/BigDecimal", "compareTo", "(Ljava/math/BigDecimal;)I"⟩ : MethodName)) hown (mvT hZ (hw _ (List.mem_of_getElem? (i := 143) rfl))) (mvT hZ (hw _ (List.mem_of_getElem? (i := 71) rfl))) (notFace_of_selects (args := #[]) (mvT hZ (hw _ (List.mem_of_getElem? (i := 73) rfl)))) (mvT hZ (hw _ (List.mem_of_getElem? (i := 73) rfl))) (mvT hZ (hw _ (List.mem_of_getElem? (i := 72) rfl))) (by decide) (backOf (W := 0) (rm11a l Z a0 hw [] p0 p1 x y h0 n0 Z0 P_F_p0_scale P_F_p0_intCompact P_F_p1_scale P_F_p1_intCompact qx qy qxy) hZ (hw _ (List.mem_of_getElem? (i := 74) rfl)) (hw _ (List.mem_of_getElem? (i := 22) rfl)) (by decide) (by decide)) q1a q1c (g := (mkF m 2 #[.val (.ref p0), .val (.ref p1)] [(.ref p1), (.ref p0)])) rfl (by rw [hml]; rfl) (Steps.refl _) (argsL := [(.ref p1)]) (rest := []) (lenOf pd_8 rfl) rfl (by show 2 * 0 + _ ≤ _; exact Nat.le_of_eq rfl) (hb hby d24_2) (fun _ _ => ⟨rfl, e0, (by decide : 0 + 0 ≤ _), (by decide : 0 + 0 ≤ _)⟩)
  dsimp only [Pt.U, Pt.locs, Pt.cells, Pt.slots] at X1 l1 y1 z1 st1 hQ1
  rw [l1] at X1
  subst y1 z1
  obtain ⟨rfl, Nq1, eh1⟩ := hQ1
  have N1 := Fr.app N0 Nq1
  refine own_tr st1 ?_
  show own_G _ _ _ (T1.setTop (mkF m 5 #[.val (.ref p0), .val (.ref p1)] [(.int (-1 : Int32))])) _ _ _ _
  have hc2 : (-1 : Int32) < (0 : Int32) := (by decide)
  refine own_go (fun _ k => XS.ifYes X1.here hx rfl (pc0 := 5) (pc' := 12) rfl (hb hby d24_5) rfl ((if0 _ _).trans (tlt hc2).1) (by decide) (by decide) k) ?_
  show own_G _ _ _ (T1.setTop (mkF m 12 #[.val (.ref p0), .val (.ref p1)] [])) _ _ _ _
  refine own_go (fun _ k => XS.aloadN X1.here hx rfl (hb hby d24_12) rfl rfl k) ?_
  show own_G _ _ _ (T1.setTop (mkF m 13 #[.val (.ref p0), .val (.ref p1)] [(.ref p1)])) _ _ _ _
  exact own_endR X1 hx hlk Bd.returns rfl rfl rfl (hb hby d24_13) (by decide) (by decide) (Q := (Q24 Z p0 p1 x y h0 n0)) (by rw [eh1]; exact ⟨rfl, N1, rfl⟩)
theorem d18_0 : decode jdk_41_method_11_code 0 = .ok (.iload_n 0, 1) := by decide +kernel
theorem d18_1 : decode jdk_41_method_11_code 1 = .ok (.ifCond .lt 8, 3) := by decide +kernel
theorem d18_4 : decode jdk_41_method_11_code 4 = .ok (.iload_n 0, 1) := by decide +kernel
theorem d18_5 : decode jdk_41_method_11_code 5 = .ok (.iload_n 1, 1) := by decide +kernel
theorem d18_6 : decode jdk_41_method_11_code 6 = .ok (.if_icmp .lt 10, 3) := by decide +kernel
theorem d18_9 : decode jdk_41_method_11_code 9 = .ok (.aload_n 2, 1) := by decide +kernel
theorem d18_10 : decode jdk_41_method_11_code 10 = .ok (.iload_n 0, 1) := by decide +kernel
theorem d18_11 : decode jdk_41_method_11_code 11 = .ok (.iload_n 1, 1) := by decide +kernel
theorem d18_12 : decode jdk_41_method_11_code 12 = .ok (.invokestatic 95, 3) := by decide +kernel
theorem d18_15 : decode jdk_41_method_11_code 15 = .ok (.athrow, 1) := by decide +kernel
theorem d18_16 : decode jdk_41_method_11_code 16 = .ok (.iload_n 0, 1) := by decide +kernel
theorem d18_17 : decode jdk_41_method_11_code 17 = .ok (.ireturn, 1) := by decide +kernel
theorem pn_6 : plainName "jdk/internal/util/Preconditions" = true := by first | (simp [plainName, overriddenIn]; done) | decide +kernel
theorem ef_18 (m : MethodId) (p0 : Int32) (p1 : Int32) : entryFrame m #[(.int p0), (.int p1), .null] 3 = mkF m 0 #[.val (.int p0), .val (.int p1), .val .null] [] := by first | (simp [entryFrame, mkF, argsToLocals, Value.category]; done) | rfl
def Q18 (Z : State) (p0 : Int32) (p1 : Int32) (h0 : Heap) (n0 : Nat) (v : Option Value) (h : Heap) (L : List Loc) : Prop := v = some (.int p0) ∧ Fr n0 L ∧ h = h0
set_option maxRecDepth 65536 in
set_option maxHeartbeats 40000000 in
theorem rm18 (l : Launch) (Z : State) (a0 : Array Value) (hw : ∀ d ∈ tables_1, d.before a0 Z = true) (ws : List Jvm.Cond) (p0 : Int32) (p1 : Int32) (h0 : Heap) (n0 : Nat) (Z0 : n0 ≤ h0.size) (h1 : ¬ p0 < 0) (h2 : p0 < p1) :
    MetFree l (⟨"jdk/internal/util/Preconditions", "checkIndex", "(IILjava/util/function/BiFunction;)I"⟩ : MethodName) (head1 (Jvm.Cond.code (⟨"jdk/internal/util/Preconditions", "checkIndex", "(IILjava/util/function/BiFunction;)I"⟩ : MethodName) jdk_41_method_11_code 3 (some .int) :: ws) ({ frames := 0, cells := 0, slots := 0, locals := 0 } : Room)) (fun a U => a = #[(.int p0), (.int p1), .null] ∧ Z.Warmed39 U.vm ∧ U.heap = h0) (fun _ _ _ _ _ => True) (fun _ U o U' => ∃ v L, o = .returned v ∧ (Q18 Z p0 p1 h0 n0) v U'.heap L ∧ FrameEnd U o U' L ({ frames := 0, cells := 0, slots := 0, locals := 0 } : Room).cells ({ frames := 0, cells := 0, slots := 0, locals := 0 } : Room).slots) := by
  refine MetFree.of_bodySF (plainFor_of_name pn_6) hisR ?_
  intro p e s m args below meth c s₁ Bd hml0 hP hK
  obtain ⟨rfl, hZ, hh⟩ := hP
  have hx := Bd.exec
  have hby := Bd.bytes
  have hml : c.maxLocals = 3 := hml0
  have hown : s.vm.findClass "jdk/internal/util/Preconditions" = some m.cls := findClass_of_methodNamed Bd.named
  have hnm := (name_of_methodNamed Bd.named Bd.method).1
  have hlk : meth.locks = false := BodyLoose.notSynchronized Bd
  have X0 : Stand p l e ({ frames := 0, cells := 0, slots := 0, locals := 0 } : Room) s m #[(.int p0), (.int p1), .null] below meth c s₁ [] 0 0 := Stand.of_body Bd
  have e0 : s₁.heap = h0 := by rw [← hh, Bd.state]; rfl
  have N0 := Fr.nil n0
  show own_G p.tables e below (s₁.setTop (entryFrame m #[(.int p0), (.int p1), .null] 3)) s ({ frames := 0, cells := 0, slots := 0, locals := 0 } : Room).cells ({ frames := 0, cells := 0, slots := 0, locals := 0 } : Room).slots (Q18 Z p0 p1 h0 n0)
  refine own_go (fun _ k => castTop (ef_18 m p0 p1) k) ?_
  show own_G _ _ _ (s₁.setTop (mkF m 0 #[.val (.int p0), .val (.int p1), .val .null] [])) _ _ _ _
  refine own_go (fun _ k => XS.iloadN X0.here hx rfl (hb hby d18_0) rfl k) ?_
  show own_G _ _ _ (s₁.setTop (mkF m 1 #[.val (.int p0), .val (.int p1), .val .null] [(.int p0)])) _ _ _ _
  have hc1 : ¬ (p0 < (0 : Int32)) := h1
  refine own_go (fun _ k => XS.ifNo X0.here hx rfl (hb hby d18_1) rfl ((if0 _ _).trans (flt hc1).1) k) ?_
  show own_G _ _ _ (s₁.setTop (mkF m 4 #[.val (.int p0), .val (.int p1), .val .null] [])) _ _ _ _
  refine own_go (fun _ k => XS.iloadN X0.here hx rfl (hb hby d18_4) rfl k) ?_
  show own_G _ _ _ (s₁.setTop (mkF m 5 #[.val (.int p0), .val (.int p1), .val .null] [(.int p0)])) _ _ _ _
  refine own_go (fun _ k => XS.iloadN X0.here hx rfl (hb hby d18_5) rfl k) ?_
  show own_G _ _ _ (s₁.setTop (mkF m 6 #[.val (.int p0), .val (.int p1), .val .null] [(.int p1), (.int p0)])) _ _ _ _
  have hc2 : p0 < p1 := h2
  refine own_go (fun _ k => XS.icmpYes X0.here hx rfl (pc0 := 6) (pc' := 16) rfl (hb hby d18_6) rfl (tlt hc2).1 (by decide) (by decide) k) ?_
  show own_G _ _ _ (s₁.setTop (mkF m 16 #[.val (.int p0), .val (.int p1), .val .null] [])) _ _ _ _
  refine own_go (fun _ k => XS.iloadN X0.here hx rfl (hb hby d18_16) rfl k) ?_
  show own_G _ _ _ (s₁.setTop (mkF m 17 #[.val (.int p0), .val (.int p1), .val .null] [(.int p0)])) _ _ _ _
  exact own_endI X0 hx hlk Bd.returns (hb hby d18_17) (by decide) (by decide) (Q := (Q18 Z p0 p1 h0 n0)) (by rw [e0]; exact ⟨rfl, N0, rfl⟩)
theorem d17_0 : decode jdk_31_method_17_code 0 = .ok (.iload_n 0, 1) := by decide +kernel
theorem d17_1 : decode jdk_31_method_17_code 1 = .ok (.iload_n 1, 1) := by decide +kernel
theorem d17_2 : decode jdk_31_method_17_code 2 = .ok (.aconst_null, 1) := by decide +kernel
theorem d17_3 : decode jdk_31_method_17_code 3 = .ok (.invokestatic 105, 3) := by decide +kernel
theorem d17_6 : decode jdk_31_method_17_code 6 = .ok (.ireturn, 1) := by decide +kernel
theorem pd_9 : parseMethodDescriptor "(IILjava/util/function/BiFunction;)I" = some ⟨[.int, .int, (.object "java/util/function/BiFunction")], some .int⟩ := by decide +kernel
theorem pn_7 : plainName "java/util/Objects" = true := by first | (simp [plainName, overriddenIn]; done) | decide +kernel
theorem ef_17 (m : MethodId) (p0 : Int32) (p1 : Int32) : entryFrame m #[(.int p0), (.int p1)] 2 = mkF m 0 #[.val (.int p0), .val (.int p1)] [] := by first | (simp [entryFrame, mkF, argsToLocals, Value.category]; done) | rfl
def Q17 (Z : State) (p0 : Int32) (p1 : Int32) (h0 : Heap) (n0 : Nat) (v : Option Value) (h : Heap) (L : List Loc) : Prop := v = some (.int p0) ∧ Fr n0 L ∧ h = h0
set_option maxRecDepth 65536 in
set_option maxHeartbeats 40000000 in
theorem rm17 (l : Launch) (Z : State) (a0 : Array Value) (hw : ∀ d ∈ tables_1, d.before a0 Z = true) (ws : List Jvm.Cond) (p0 : Int32) (p1 : Int32) (h0 : Heap) (n0 : Nat) (Z0 : n0 ≤ h0.size) (h1 : ¬ p0 < 0) (h2 : p0 < p1) :
    MetFree l (⟨"java/util/Objects", "checkIndex", "(II)I"⟩ : MethodName) (head1 (Jvm.Cond.code (⟨"java/util/Objects", "checkIndex", "(II)I"⟩ : MethodName) jdk_31_method_17_code 2 (some .int) :: ws) ({ frames := 1, cells := 0, slots := 0, locals := 14 } : Room)) (fun a U => a = #[(.int p0), (.int p1)] ∧ Z.Warmed39 U.vm ∧ U.heap = h0) (fun _ _ _ _ _ => True) (fun _ U o U' => ∃ v L, o = .returned v ∧ (Q17 Z p0 p1 h0 n0) v U'.heap L ∧ FrameEnd U o U' L ({ frames := 1, cells := 0, slots := 0, locals := 14 } : Room).cells ({ frames := 1, cells := 0, slots := 0, locals := 14 } : Room).slots) := by
  refine MetFree.of_bodySF (plainFor_of_name pn_7) hisR ?_
  intro p e s m args below meth c s₁ Bd hml0 hP hK
  obtain ⟨rfl, hZ, hh⟩ := hP
  have hx := Bd.exec
  have hby := Bd.bytes
  have hml : c.maxLocals = 2 := hml0
  have hown : s.vm.findClass "java/util/Objects" = some m.cls := findClass_of_methodNamed Bd.named
  have hnm := (name_of_methodNamed Bd.named Bd.method).1
  have hlk : meth.locks = false := BodyLoose.notSynchronized Bd
  have X0 : Stand p l e ({ frames := 1, cells := 0, slots := 0, locals := 14 } : Room) s m #[(.int p0), (.int p1)] below meth c s₁ [] 0 0 := Stand.of_body Bd
  have e0 : s₁.heap = h0 := by rw [← hh, Bd.state]; rfl
  have N0 := Fr.nil n0
  show own_G p.tables e below (s₁.setTop (entryFrame m #[(.int p0), (.int p1)] 2)) s ({ frames := 1, cells := 0, slots := 0, locals := 14 } : Room).cells ({ frames := 1, cells := 0, slots := 0, locals := 14 } : Room).slots (Q17 Z p0 p1 h0 n0)
  refine own_go (fun _ k => castTop (ef_17 m p0 p1) k) ?_
  show own_G _ _ _ (s₁.setTop (mkF m 0 #[.val (.int p0), .val (.int p1)] [])) _ _ _ _
  refine own_go (fun _ k => XS.iloadN X0.here hx rfl (hb hby d17_0) rfl k) ?_
  show own_G _ _ _ (s₁.setTop (mkF m 1 #[.val (.int p0), .val (.int p1)] [(.int p0)])) _ _ _ _
  refine own_go (fun _ k => XS.iloadN X0.here hx rfl (hb hby d17_1) rfl k) ?_
  show own_G _ _ _ (s₁.setTop (mkF m 2 #[.val (.int p0), .val (.int p1)] [(.int p1), (.int p0)])) _ _ _ _
  refine own_go (fun _ k => XS.aconstNull X0.here hx rfl (hb hby d17_2) k) ?_
  show own_G _ _ _ (s₁.setTop (mkF m 3 #[.val (.int p0), .val (.int p1)] [.null, (.int p1), (.int p0)])) _ _ _ _
  obtain ⟨_, _, ⟨T1, L1, k1, n1⟩, -, X1, ⟨Lc1, hQ1, l1, y1, z1⟩, st1⟩ := Jvm.LawKit.callS X0 hx (y := (⟨"jdk/internal/util/Preconditions", "checkIndex", "(IILjava/util/function/BiFunction;)I"⟩ : MethodName)) hown (mvT hZ (hw _ (List.mem_of_getElem? (i := 116) rfl))) (mvT hZ (hw _ (List.mem_of_getElem? (i := 117) rfl))) (mvT hZ (hw _ (List.mem_of_getElem? (i := 118) rfl))) (mvT hZ (hw _ (List.mem_of_getElem? (i := 119) rfl))) (by decide) (backOf (W := 0) (rm18 l Z a0 hw [] p0 p1  h0 n0 Z0 (by assumption) (by assumption)) hZ (hw _ (List.mem_of_getElem? (i := 119) rfl)) (hw _ (List.mem_of_getElem? (i := 118) rfl)) (by decide) (by decide)) (g := (mkF m 3 #[.val (.int p0), .val (.int p1)] [.null, (.int p1), (.int p0)])) rfl (by rw [hml]; rfl) (argsL := [(.int p0), (.int p1), .null]) (rest := []) (lenOf pd_9 rfl) rfl (by show 2 * 0 + _ ≤ _; exact Nat.le_of_eq rfl) (hb hby d17_3) (fun _ _ => ⟨rfl, e0, (by decide : 0 + 0 ≤ _), (by decide : 0 + 0 ≤ _)⟩)
  dsimp only [Pt.U, Pt.locs, Pt.cells, Pt.slots] at X1 l1 y1 z1 st1 hQ1
  rw [l1] at X1
  subst y1 z1
  obtain ⟨rfl, Nq1, eh1⟩ := hQ1
  have N1 := Fr.app N0 Nq1
  refine own_go (fun _ k => st1 _ k) ?_
  show own_G _ _ _ (T1.setTop (mkF m 6 #[.val (.int p0), .val (.int p1)] [(.int p0)])) _ _ _ _
  exact own_endI X1 hx hlk Bd.returns (hb hby d17_6) (by decide) (by decide) (Q := (Q17 Z p0 p1 h0 n0)) (by rw [eh1]; exact ⟨rfl, N1, rfl⟩)
theorem d16_0 : decode jdk_2479_method_6_code 0 = .ok (.iload_n 1, 1) := by decide +kernel
theorem d16_1 : decode jdk_2479_method_6_code 1 = .ok (.aload_n 0, 1) := by decide +kernel
theorem d16_2 : decode jdk_2479_method_6_code 2 = .ok (.getfield 16, 3) := by decide +kernel
theorem d16_5 : decode jdk_2479_method_6_code 5 = .ok (.invokestatic 34, 3) := by decide +kernel
theorem d16_8 : decode jdk_2479_method_6_code 8 = .ok (.pop, 1) := by decide +kernel
theorem d16_9 : decode jdk_2479_method_6_code 9 = .ok (.aload_n 0, 1) := by decide +kernel
theorem d16_10 : decode jdk_2479_method_6_code 10 = .ok (.getfield 20, 3) := by decide +kernel
theorem d16_13 : decode jdk_2479_method_6_code 13 = .ok (.areturn, 1) := by decide +kernel
theorem pd_10 : parseMethodDescriptor "(II)I" = some ⟨[.int, .int], some .int⟩ := by decide +kernel
theorem ef_16 (m : MethodId) (p0 : Addr) (j : Nat) : entryFrame m #[(.ref p0), (.int (Int32.ofNat j))] 2 = mkF m 0 #[.val (.ref p0), .val (.int (Int32.ofNat j))] [] := by first | (simp [entryFrame, mkF, argsToLocals, Value.category]; done) | rfl
def Q16 (Z : State) (p0 : Addr) (j : Nat) (n : Nat) (one : Addr) (h0 : Heap) (n0 : Nat) (v : Option Value) (h : Heap) (L : List Loc) : Prop := v = some (.ref one) ∧ Fr n0 L ∧ h = h0
set_option maxRecDepth 65536 in
set_option maxHeartbeats 40000000 in
theorem rm16 (l : Launch) (Z : State) (a0 : Array Value) (hw : ∀ d ∈ tables_1, d.before a0 Z = true) (ws : List Jvm.Cond) (p0 : Addr) (j : Nat) (n : Nat) (one : Addr) (h0 : Heap) (n0 : Nat) (Z0 : n0 ≤ h0.size) (P_E_p0 : Exa Z h0 p0 "java/util/Collections$CopiesList") (P_F_p0_n : Fld Z h0 p0 "java/util/Collections$CopiesList" "n" "I" (.int (Int32.ofNat n))) (P_F_p0_element : Fld Z h0 p0 "java/util/Collections$CopiesList" "element" "Ljava/lang/Object;" (.ref one)) (hjn : j < n) (hn15 : n ≤ 15) :
    MetFree l (⟨"java/util/Collections$CopiesList", "get", "(I)Ljava/lang/Object;"⟩ : MethodName) (head1 (Jvm.Cond.code (⟨"java/util/Collections$CopiesList", "get", "(I)Ljava/lang/Object;"⟩ : MethodName) jdk_2479_method_6_code 2 (some (.object "java/lang/Object")) :: ws) ({ frames := 2, cells := 0, slots := 0, locals := 27 } : Room)) (fun a U => a = #[(.ref p0), (.int (Int32.ofNat j))] ∧ Z.Warmed39 U.vm ∧ U.heap = h0) (fun _ _ _ _ _ => True) (fun _ U o U' => ∃ v L, o = .returned v ∧ (Q16 Z p0 j n one h0 n0) v U'.heap L ∧ FrameEnd U o U' L ({ frames := 2, cells := 0, slots := 0, locals := 27 } : Room).cells ({ frames := 2, cells := 0, slots := 0, locals := 27 } : Room).slots) := by
  refine MetFree.of_bodySF (plainFor_of_name pn_3) hisR ?_
  intro p e s m args below meth c s₁ Bd hml0 hP hK
  obtain ⟨rfl, hZ, hh⟩ := hP
  have hx := Bd.exec
  have hby := Bd.bytes
  have hml : c.maxLocals = 2 := hml0
  have hown : s.vm.findClass "java/util/Collections$CopiesList" = some m.cls := findClass_of_methodNamed Bd.named
  have hnm := (name_of_methodNamed Bd.named Bd.method).1
  have hlk : meth.locks = false := BodyLoose.notSynchronized Bd
  have X0 : Stand p l e ({ frames := 2, cells := 0, slots := 0, locals := 27 } : Room) s m #[(.ref p0), (.int (Int32.ofNat j))] below meth c s₁ [] 0 0 := Stand.of_body Bd
  have e0 : s₁.heap = h0 := by rw [← hh, Bd.state]; rfl
  have N0 := Fr.nil n0
  show own_G p.tables e below (s₁.setTop (entryFrame m #[(.ref p0), (.int (Int32.ofNat j))] 2)) s ({ frames := 2, cells := 0, slots := 0, locals := 27 } : Room).cells ({ frames := 2, cells := 0, slots := 0, locals := 27 } : Room).slots (Q16 Z p0 j n one h0 n0)
  refine own_go (fun _ k => castTop (ef_16 m p0 j) k) ?_
  show own_G _ _ _ (s₁.setTop (mkF m 0 #[.val (.ref p0), .val (.int (Int32.ofNat j))] [])) _ _ _ _
  refine own_go (fun _ k => XS.iloadN X0.here hx rfl (hb hby d16_0) rfl k) ?_
  show own_G _ _ _ (s₁.setTop (mkF m 1 #[.val (.ref p0), .val (.int (Int32.ofNat j))] [(.int (Int32.ofNat j))])) _ _ _ _
  refine own_go (fun _ k => XS.aloadN X0.here hx rfl (hb hby d16_1) rfl rfl k) ?_
  show own_G _ _ _ (s₁.setTop (mkF m 2 #[.val (.ref p0), .val (.int (Int32.ofNat j))] [(.ref p0), (.int (Int32.ofNat j))])) _ _ _ _
  obtain ⟨T1, X1, e1, st1⟩ := getF X0 hx hZ hown (host := "") (Or.inl (hw _ (List.mem_of_getElem? (i := 50) rfl))) Via.refl e0 P_F_p0_n (g := (mkF m 2 #[.val (.ref p0), .val (.int (Int32.ofNat j))] [(.ref p0), (.int (Int32.ofNat j))])) rfl rfl (hb hby d16_2)
  refine own_go (fun _ k => st1 _ k) ?_
  show own_G _ _ _ (T1.setTop (mkF m 5 #[.val (.ref p0), .val (.int (Int32.ofNat j))] [(.int (Int32.ofNat n)), (.int (Int32.ofNat j))])) _ _ _ _
  obtain ⟨_, _, ⟨T2, L2, k2, n2⟩, -, X2, ⟨Lc2, hQ2, l2, y2, z2⟩, st2⟩ := Jvm.LawKit.callS X1 hx (y := (⟨"java/util/Objects", "checkIndex", "(II)I"⟩ : MethodName)) hown (mvT hZ (hw _ (List.mem_of_getElem? (i := 112) rfl))) (mvT hZ (hw _ (List.mem_of_getElem? (i := 113) rfl))) (mvT hZ (hw _ (List.mem_of_getElem? (i := 114) rfl))) (mvT hZ (hw _ (List.mem_of_getElem? (i := 115) rfl))) (by decide) (backOf (W := 0) (rm17 l Z a0 hw [] (Int32.ofNat j) (Int32.ofNat n)  h0 n0 Z0 (own_inb hjn (by omega)).1 (own_inb hjn (by omega)).2) hZ (hw _ (List.mem_of_getElem? (i := 115) rfl)) (hw _ (List.mem_of_getElem? (i := 114) rfl)) (by decide) (by decide)) (g := (mkF m 5 #[.val (.ref p0), .val (.int (Int32.ofNat j))] [(.int (Int32.ofNat n)), (.int (Int32.ofNat j))])) rfl (by rw [hml]; rfl) (argsL := [(.int (Int32.ofNat j)), (.int (Int32.ofNat n))]) (rest := []) (lenOf pd_10 rfl) rfl (by show 2 * 0 + _ ≤ _; exact Nat.le_of_eq rfl) (hb hby d16_5) (fun _ _ => ⟨rfl, e1, (by decide : 0 + 0 ≤ _), (by decide : 0 + 0 ≤ _)⟩)
  dsimp only [Pt.U, Pt.locs, Pt.cells, Pt.slots] at X2 l2 y2 z2 st2 hQ2
  rw [l2] at X2
  subst y2 z2
  obtain ⟨rfl, Nq2, eh2⟩ := hQ2
  have N2 := Fr.app N0 Nq2
  refine own_go (fun _ k => st2 _ k) ?_
  show own_G _ _ _ (T2.setTop (mkF m 8 #[.val (.ref p0), .val (.int (Int32.ofNat j))] [(.int (Int32.ofNat j))])) _ _ _ _
  refine own_go (fun _ k => XS.pop X2.here hx rfl (hb hby d16_8) rfl rfl k) ?_
  show own_G _ _ _ (T2.setTop (mkF m 9 #[.val (.ref p0), .val (.int (Int32.ofNat j))] [])) _ _ _ _
  refine own_go (fun _ k => XS.aloadN X2.here hx rfl (hb hby d16_9) rfl rfl k) ?_
  show own_G _ _ _ (T2.setTop (mkF m 10 #[.val (.ref p0), .val (.int (Int32.ofNat j))] [(.ref p0)])) _ _ _ _
  obtain ⟨T3, X3, e3, st3⟩ := getF X2 hx hZ hown (host := "") (Or.inl (hw _ (List.mem_of_getElem? (i := 52) rfl))) Via.refl eh2 P_F_p0_element (g := (mkF m 10 #[.val (.ref p0), .val (.int (Int32.ofNat j))] [(.ref p0)])) rfl rfl (hb hby d16_10)
  refine own_go (fun _ k => st3 _ k) ?_
  show own_G _ _ _ (T3.setTop (mkF m 13 #[.val (.ref p0), .val (.int (Int32.ofNat j))] [(.ref one)])) _ _ _ _
  exact own_endR X3 hx hlk Bd.returns rfl rfl rfl (hb hby d16_13) (by decide) (by decide) (Q := (Q16 Z p0 j n one h0 n0)) (by rw [e3]; exact ⟨rfl, N2, rfl⟩)
theorem d15_0 : decode prog_10_method_16_code 0 = .ok (.aload_n 0, 1) := by decide +kernel
theorem d15_1 : decode prog_10_method_16_code 1 = .ok (.getfield 7, 3) := by decide +kernel
theorem d15_4 : decode prog_10_method_16_code 4 = .ok (.iload_n 1, 1) := by decide +kernel
theorem d15_5 : decode prog_10_method_16_code 5 = .ok (.iaload, 1) := by decide +kernel
theorem d15_6 : decode prog_10_method_16_code 6 = .ok (.iconst (-1), 1) := by decide +kernel
theorem d15_7 : decode prog_10_method_16_code 7 = .ok (.if_icmp .ne 9, 3) := by decide +kernel
theorem d15_10 : decode prog_10_method_16_code 10 = .ok (.getstatic 102, 3) := by decide +kernel
theorem d15_13 : decode prog_10_method_16_code 13 = .ok (.goto 18, 3) := by decide +kernel
theorem d15_16 : decode prog_10_method_16_code 16 = .ok (.aload_n 2, 1) := by decide +kernel
theorem d15_17 : decode prog_10_method_16_code 17 = .ok (.aload_n 0, 1) := by decide +kernel
theorem d15_18 : decode prog_10_method_16_code 18 = .ok (.getfield 7, 3) := by decide +kernel
theorem d15_21 : decode prog_10_method_16_code 21 = .ok (.iload_n 1, 1) := by decide +kernel
theorem d15_22 : decode prog_10_method_16_code 22 = .ok (.iaload, 1) := by decide +kernel
theorem d15_23 : decode prog_10_method_16_code 23 = .ok (.invokeinterface 119 2, 5) := by decide +kernel
theorem d15_28 : decode prog_10_method_16_code 28 = .ok (.checkcast 22, 3) := by decide +kernel
theorem d15_31 : decode prog_10_method_16_code 31 = .ok (.areturn, 1) := by decide +kernel
theorem pd_11 : parseMethodDescriptor "(I)Ljava/lang/Object;" = some ⟨[.int], some (.object "java/lang/Object")⟩ := by decide +kernel
theorem pn_8 : plainName "com/example/slackline/slackline/Precedence" = true := by first | (simp [plainName, overriddenIn]; done) | decide +kernel
theorem ef_15 (m : MethodId) (p0 : Addr) (p2 : Addr) (j : Nat) : entryFrame m #[(.ref p0), (.int (Int32.ofNat j)), (.ref p2)] 3 = mkF m 0 #[.val (.ref p0), .val (.int (Int32.ofNat j)), .val (.ref p2)] [] := by first | (simp [entryFrame, mkF, argsToLocals, Value.category]; done) | rfl
def Q15 (Z : State) (p0 : Addr) (p2 : Addr) (j : Nat) (n : Nat) (one : Addr) (ta : Addr) (kt : ClassId) (h0 : Heap) (n0 : Nat) (v : Option Value) (h : Heap) (L : List Loc) : Prop := v = some (.ref one) ∧ Fr n0 L ∧ h = h0
set_option maxRecDepth 65536 in
set_option maxHeartbeats 40000000 in
theorem rm15 (l : Launch) (Z : State) (a0 : Array Value) (hw : ∀ d ∈ tables_1, d.before a0 Z = true) (ws : List Jvm.Cond) (p0 : Addr) (p2 : Addr) (j : Nat) (n : Nat) (one : Addr) (ta : Addr) (kt : ClassId) (h0 : Heap) (n0 : Nat) (Z0 : n0 ≤ h0.size) (P_Old : Old Z n0 h0) (H1 : own_BD Z Z.heap one (1 : Int64)) (P_F_p0_tasks : Fld Z h0 p0 "com/example/slackline/slackline/Precedence" "tasks" "[I" (.ref ta)) (P_V_ta : Arv Z h0 ta kt .int (Int32.ofNat n) (own_fam own_gi (.int 0) n n) (.int 0)) (P_E_p2 : Exa Z h0 p2 "java/util/Collections$CopiesList") (P_F_p2_n : Fld Z h0 p2 "java/util/Collections$CopiesList" "n" "I" (.int (Int32.ofNat n))) (P_F_p2_element : Fld Z h0 p2 "java/util/Collections$CopiesList" "element" "Ljava/lang/Object;" (.ref one)) (hjn : j < n) (hn15 : n ≤ 15) :
    MetFree l (⟨"com/example/slackline/slackline/Precedence", "time", "(ILjava/util/List;)Ljava/math/BigDecimal;"⟩ : MethodName) (head1 (Jvm.Cond.code (⟨"com/example/slackline/slackline/Precedence", "time", "(ILjava/util/List;)Ljava/math/BigDecimal;"⟩ : MethodName) prog_10_method_16_code 3 (some (.object "java/math/BigDecimal")) :: ws) ({ frames := 3, cells := 0, slots := 0, locals := 40 } : Room)) (fun a U => a = #[(.ref p0), (.int (Int32.ofNat j)), (.ref p2)] ∧ Z.Warmed39 U.vm ∧ U.heap = h0) (fun _ _ _ _ _ => True) (fun _ U o U' => ∃ v L, o = .returned v ∧ (Q15 Z p0 p2 j n one ta kt h0 n0) v U'.heap L ∧ FrameEnd U o U' L ({ frames := 3, cells := 0, slots := 0, locals := 40 } : Room).cells ({ frames := 3, cells := 0, slots := 0, locals := 40 } : Room).slots) := by
  refine MetFree.of_bodySF (plainFor_of_name pn_8) hisR ?_
  intro p e s m args below meth c s₁ Bd hml0 hP hK
  obtain ⟨rfl, hZ, hh⟩ := hP
  have hx := Bd.exec
  have hby := Bd.bytes
  have hml : c.maxLocals = 3 := hml0
  have hown : s.vm.findClass "com/example/slackline/slackline/Precedence" = some m.cls := findClass_of_methodNamed Bd.named
  have hnm := (name_of_methodNamed Bd.named Bd.method).1
  have hlk : meth.locks = false := BodyLoose.notSynchronized Bd
  have X0 : Stand p l e ({ frames := 3, cells := 0, slots := 0, locals := 40 } : Room) s m #[(.ref p0), (.int (Int32.ofNat j)), (.ref p2)] below meth c s₁ [] 0 0 := Stand.of_body Bd
  have e0 : s₁.heap = h0 := by rw [← hh, Bd.state]; rfl
  have N0 := Fr.nil n0
  show own_G p.tables e below (s₁.setTop (entryFrame m #[(.ref p0), (.int (Int32.ofNat j)), (.ref p2)] 3)) s ({ frames := 3, cells := 0, slots := 0, locals := 40 } : Room).cells ({ frames := 3, cells := 0, slots := 0, locals := 40 } : Room).slots (Q15 Z p0 p2 j n one ta kt h0 n0)
  refine own_go (fun _ k => castTop (ef_15 m p0 p2 j) k) ?_
  show own_G _ _ _ (s₁.setTop (mkF m 0 #[.val (.ref p0), .val (.int (Int32.ofNat j)), .val (.ref p2)] [])) _ _ _ _
  have bq1 := own_BD.ext (H1) P_Old.2
  have f2 : Exa Z h0 one "java/math/BigDecimal" := bq1.1
  have f3 : Fld Z h0 one "java/math/BigDecimal" "scale" "I" (.int (0 : Int32)) := bq1.2.1
  have f4 : Fld Z h0 one "java/math/BigDecimal" "intCompact" "J" (.long (1 : Int64)) := bq1.2.2
  refine own_go (fun _ k => XS.aloadN X0.here hx rfl (hb hby d15_0) rfl rfl k) ?_
  show own_G _ _ _ (s₁.setTop (mkF m 1 #[.val (.ref p0), .val (.int (Int32.ofNat j)), .val (.ref p2)] [(.ref p0)])) _ _ _ _
  obtain ⟨T5, X5, e5, st5⟩ := getF X0 hx hZ hown (host := "") (Or.inl (hw _ (List.mem_of_getElem? (i := 15) rfl))) Via.refl e0 P_F_p0_tasks (g := (mkF m 1 #[.val (.ref p0), .val (.int (Int32.ofNat j)), .val (.ref p2)] [(.ref p0)])) rfl rfl (hb hby d15_1)
  refine own_go (fun _ k => st5 _ k) ?_
  show own_G _ _ _ (T5.setTop (mkF m 4 #[.val (.ref p0), .val (.int (Int32.ofNat j)), .val (.ref p2)] [(.ref ta)])) _ _ _ _
  refine own_go (fun _ k => XS.iloadN X5.here hx rfl (hb hby d15_4) rfl k) ?_
  show own_G _ _ _ (T5.setTop (mkF m 5 #[.val (.ref p0), .val (.int (Int32.ofNat j)), .val (.ref p2)] [(.int (Int32.ofNat j)), (.ref ta)])) _ _ _ _
  obtain ⟨cl6, Ar6, q6, S6, Ng6, H6, G6⟩ := id P_V_ta
  have in6 : ¬ ((Int32.ofNat j) < 0 ∨ cl6.slots.size ≤ ((Int32.ofNat j)).toNatClampNeg) := inb_of S6 (own_inb (hjn) (by omega))
  have at6 : cl6.slots[((Int32.ofNat j)).toNatClampNeg]? = some (.int (Int32.ofNat j)) := H6.at in6 (by rw [own_cl j (by omega)]; exact own_fam_get _ _ _ _ _ (hjn) (hjn))
  refine own_go (fun _ k => X5.iaload hx (j := (Int32.ofNat j)) (v := (.int (Int32.ofNat j))) (by rw [e5]; exact Ar6.1) (State.isArrayOf_alike hZ.alike Ar6.2.1) Ar6.2.2 in6 at6 (g := (mkF m 5 #[.val (.ref p0), .val (.int (Int32.ofNat j)), .val (.ref p2)] [(.int (Int32.ofNat j)), (.ref ta)])) rfl rfl (hb hby d15_5) _ k) ?_
  show own_G _ _ _ (T5.setTop (mkF m 6 #[.val (.ref p0), .val (.int (Int32.ofNat j)), .val (.ref p2)] [(.int (Int32.ofNat j))])) _ _ _ _
  refine own_go (fun _ k => XS.iconst X5.here hx rfl (hb hby d15_6) k) ?_
  show own_G _ _ _ (T5.setTop (mkF m 7 #[.val (.ref p0), .val (.int (Int32.ofNat j)), .val (.ref p2)] [(.int (-1 : Int32)), (.int (Int32.ofNat j))])) _ _ _ _
  have hc7 : ¬ ((Int32.ofNat j) = (-1 : Int32)) := own_m1 j (by omega)
  refine own_go (fun _ k => XS.icmpYes X5.here hx rfl (pc0 := 7) (pc' := 16) rfl (hb hby d15_7) rfl (feq hc7).2 (by decide) (by decide) k) ?_
  show own_G _ _ _ (T5.setTop (mkF m 16 #[.val (.ref p0), .val (.int (Int32.ofNat j)), .val (.ref p2)] [])) _ _ _ _
  refine own_go (fun _ k => XS.aloadN X5.here hx rfl (hb hby d15_16) rfl rfl k) ?_
  show own_G _ _ _ (T5.setTop (mkF m 17 #[.val (.ref p0), .val (.int (Int32.ofNat j)), .val (.ref p2)] [(.ref p2)])) _ _ _ _
  refine own_go (fun _ k => XS.aloadN X5.here hx rfl (hb hby d15_17) rfl rfl k) ?_
  show own_G _ _ _ (T5.setTop (mkF m 18 #[.val (.ref p0), .val (.int (Int32.ofNat j)), .val (.ref p2)] [(.ref p0), (.ref p2)])) _ _ _ _
  obtain ⟨T8, X8, e8, st8⟩ := getF X5 hx hZ hown (host := "") (Or.inl (hw _ (List.mem_of_getElem? (i := 15) rfl))) Via.refl e5 P_F_p0_tasks (g := (mkF m 18 #[.val (.ref p0), .val (.int (Int32.ofNat j)), .val (.ref p2)] [(.ref p0), (.ref p2)])) rfl rfl (hb hby d15_18)
  refine own_go (fun _ k => st8 _ k) ?_
  show own_G _ _ _ (T8.setTop (mkF m 21 #[.val (.ref p0), .val (.int (Int32.ofNat j)), .val (.ref p2)] [(.ref ta), (.ref p2)])) _ _ _ _
  refine own_go (fun _ k => XS.iloadN X8.here hx rfl (hb hby d15_21) rfl k) ?_
  show own_G _ _ _ (T8.setTop (mkF m 22 #[.val (.ref p0), .val (.int (Int32.ofNat j)), .val (.ref p2)] [(.int (Int32.ofNat j)), (.ref ta), (.ref p2)])) _ _ _ _
  obtain ⟨cl9, Ar9, q9, S9, Ng9, H9, G9⟩ := id P_V_ta
  have in9 : ¬ ((Int32.ofNat j) < 0 ∨ cl9.slots.size ≤ ((Int32.ofNat j)).toNatClampNeg) := inb_of S9 (own_inb (hjn) (by omega))
  have at9 : cl9.slots[((Int32.ofNat j)).toNatClampNeg]? = some (.int (Int32.ofNat j)) := H9.at in9 (by rw [own_cl j (by omega)]; exact own_fam_get _ _ _ _ _ (hjn) (hjn))
  refine own_go (fun _ k => X8.iaload hx (j := (Int32.ofNat j)) (v := (.int (Int32.ofNat j))) (by rw [e8]; exact Ar9.1) (State.isArrayOf_alike hZ.alike Ar9.2.1) Ar9.2.2 in9 at9 (g := (mkF m 22 #[.val (.ref p0), .val (.int (Int32.ofNat j)), .val (.ref p2)] [(.int (Int32.ofNat j)), (.ref ta), (.ref p2)])) rfl rfl (hb hby d15_22) _ k) ?_
  show own_G _ _ _ (T8.setTop (mkF m 23 #[.val (.ref p0), .val (.int (Int32.ofNat j)), .val (.ref p2)] [(.int (Int32.ofNat j)), (.ref p2)])) _ _ _ _
  obtain ⟨cq10, kq10, q10a, q10b, q10c⟩ := isOf hZ e8 P_E_p2
  obtain ⟨_, _, ⟨T10, L10, k10, n10⟩, -, X10, ⟨Lc10, hQ10, l10, y10, z10⟩, st10⟩ := X8.interfaceBack hx (xi := (⟨"java/util/List", "get", "(I)Ljava/lang/Object;"⟩ : MethodName)) (y := (⟨"java/util/Collections$CopiesList", "get", "(I)Ljava/lang/Object;"⟩ : MethodName)) hown (mvT hZ (hw _ (List.mem_of_getElem? (i := 103) rfl))) (mvT hZ (hw _ (List.mem_of_getElem? (i := 104) rfl))) (mvT hZ (hw _ (List.mem_of_getElem? (i := 105) rfl))) (mvT hZ (hw _ (List.mem_of_getElem? (i := 106) rfl))) (mvT hZ (hw _ (List.mem_of_getElem? (i := 107) rfl))) (mvT hZ (hw _ (List.mem_of_getElem? (i := 108) rfl))) (mvT hZ (hw _ (List.mem_of_getElem? (i := 109) rfl))) (mvT hZ (hw _ (List.mem_of_getElem? (i := 110) rfl))) (by decide) (backOf (W := 0) (rm16 l Z a0 hw [] p2 j n one h0 n0 Z0 P_E_p2 P_F_p2_n P_F_p2_element hjn hn15) hZ (hw _ (List.mem_of_getElem? (i := 111) rfl)) (hw _ (List.mem_of_getElem? (i := 29) rfl)) (by decide) (by decide)) q10a q10b q10c (g := (mkF m 23 #[.val (.ref p0), .val (.int (Int32.ofNat j)), .val (.ref p2)] [(.int (Int32.ofNat j)), (.ref p2)])) rfl (by rw [hml]; rfl) (Steps.refl _) (argsL := [(.int (Int32.ofNat j))]) (rest := []) (lenOf pd_11 rfl) rfl (by show 2 * 0 + _ ≤ _; exact Nat.le_of_eq rfl) (hb hby d15_23) (fun _ _ => ⟨rfl, e8, (by decide : 0 + 0 ≤ _), (by decide : 0 + 0 ≤ _)⟩)
  dsimp only [Pt.U, Pt.locs, Pt.cells, Pt.slots] at X10 l10 y10 z10 st10 hQ10
  rw [l10] at X10
  subst y10 z10
  obtain ⟨rfl, Nq10, eh10⟩ := hQ10
  have N10 := Fr.app N0 Nq10
  refine own_tr st10 ?_
  show own_G _ _ _ (T10.setTop (mkF m 28 #[.val (.ref p0), .val (.int (Int32.ofNat j)), .val (.ref p2)] [(.ref one)])) _ _ _ _
  obtain ⟨T11, X11, e11, st11⟩ := castY X10 hx hZ hown (hw _ (List.mem_of_getElem? (i := 63) rfl)) eh10 (Ins.self f2) (g := (mkF m 28 #[.val (.ref p0), .val (.int (Int32.ofNat j)), .val (.ref p2)] [(.ref one)])) rfl rfl (hb hby d15_28)
  refine own_go (fun _ k => st11 _ k) ?_
  show own_G _ _ _ (T11.setTop (mkF m 31 #[.val (.ref p0), .val (.int (Int32.ofNat j)), .val (.ref p2)] [(.ref one)])) _ _ _ _
  exact own_endR X11 hx hlk Bd.returns rfl rfl rfl (hb hby d15_31) (by decide) (by decide) (Q := (Q15 Z p0 p2 j n one ta kt h0 n0)) (by rw [e11]; exact ⟨rfl, N10, rfl⟩)
theorem d9_0 : decode prog_10_method_15_code 0 = .ok (.aload_n 0, 1) := by decide +kernel
theorem d9_1 : decode prog_10_method_15_code 1 = .ok (.getfield 7, 3) := by decide +kernel
theorem d9_4 : decode prog_10_method_15_code 4 = .ok (.arraylength, 1) := by decide +kernel
theorem d9_5 : decode prog_10_method_15_code 5 = .ok (.anewarray 22, 3) := by decide +kernel
theorem d9_8 : decode prog_10_method_15_code 8 = .ok (.astore_n 2, 1) := by decide +kernel
theorem d9_9 : decode prog_10_method_15_code 9 = .ok (.iconst 0, 1) := by decide +kernel
theorem d9_10 : decode prog_10_method_15_code 10 = .ok (.istore_n 3, 1) := by decide +kernel
theorem d9_11 : decode prog_10_method_15_code 11 = .ok (.iload_n 3, 1) := by decide +kernel
theorem d9_12 : decode prog_10_method_15_code 12 = .ok (.aload_n 0, 1) := by decide +kernel
theorem d9_13 : decode prog_10_method_15_code 13 = .ok (.getfield 7, 3) := by decide +kernel
theorem d9_16 : decode prog_10_method_15_code 16 = .ok (.arraylength, 1) := by decide +kernel
theorem d9_17 : decode prog_10_method_15_code 17 = .ok (.if_icmp .ge 76, 3) := by decide +kernel
theorem d9_20 : decode prog_10_method_15_code 20 = .ok (.getstatic 102, 3) := by decide +kernel
theorem d9_23 : decode prog_10_method_15_code 23 = .ok (.astore 4, 2) := by decide +kernel
theorem d9_25 : decode prog_10_method_15_code 25 = .ok (.aload_n 0, 1) := by decide +kernel
theorem d9_26 : decode prog_10_method_15_code 26 = .ok (.getfield 13, 3) := by decide +kernel
theorem d9_29 : decode prog_10_method_15_code 29 = .ok (.iload_n 3, 1) := by decide +kernel
theorem d9_30 : decode prog_10_method_15_code 30 = .ok (.aaload, 1) := by decide +kernel
theorem d9_31 : decode prog_10_method_15_code 31 = .ok (.astore 5, 2) := by decide +kernel
theorem d9_33 : decode prog_10_method_15_code 33 = .ok (.aload 5, 2) := by decide +kernel
theorem d9_35 : decode prog_10_method_15_code 35 = .ok (.arraylength, 1) := by decide +kernel
theorem d9_36 : decode prog_10_method_15_code 36 = .ok (.istore 6, 2) := by decide +kernel
theorem d9_38 : decode prog_10_method_15_code 38 = .ok (.iconst 0, 1) := by decide +kernel
theorem d9_39 : decode prog_10_method_15_code 39 = .ok (.istore 7, 2) := by decide +kernel
theorem d9_41 : decode prog_10_method_15_code 41 = .ok (.iload 7, 2) := by decide +kernel
theorem d9_43 : decode prog_10_method_15_code 43 = .ok (.iload 6, 2) := by decide +kernel
theorem d9_45 : decode prog_10_method_15_code 45 = .ok (.if_icmp .ge 37, 3) := by decide +kernel
theorem d9_48 : decode prog_10_method_15_code 48 = .ok (.aload 5, 2) := by decide +kernel
theorem d9_50 : decode prog_10_method_15_code 50 = .ok (.iload 7, 2) := by decide +kernel
theorem d9_52 : decode prog_10_method_15_code 52 = .ok (.iaload, 1) := by decide +kernel
theorem d9_53 : decode prog_10_method_15_code 53 = .ok (.istore 8, 2) := by decide +kernel
theorem d9_55 : decode prog_10_method_15_code 55 = .ok (.aload 4, 2) := by decide +kernel
theorem d9_57 : decode prog_10_method_15_code 57 = .ok (.aload_n 2, 1) := by decide +kernel
theorem d9_58 : decode prog_10_method_15_code 58 = .ok (.iload 8, 2) := by decide +kernel
theorem d9_60 : decode prog_10_method_15_code 60 = .ok (.aaload, 1) := by decide +kernel
theorem d9_61 : decode prog_10_method_15_code 61 = .ok (.aload_n 0, 1) := by decide +kernel
theorem d9_62 : decode prog_10_method_15_code 62 = .ok (.iload 8, 2) := by decide +kernel
theorem d9_64 : decode prog_10_method_15_code 64 = .ok (.aload_n 1, 1) := by decide +kernel
theorem d9_65 : decode prog_10_method_15_code 65 = .ok (.invokevirtual 105, 3) := by decide +kernel
theorem d9_68 : decode prog_10_method_15_code 68 = .ok (.invokevirtual 109, 3) := by decide +kernel
theorem d9_71 : decode prog_10_method_15_code 71 = .ok (.invokevirtual 112, 3) := by decide +kernel
theorem d9_74 : decode prog_10_method_15_code 74 = .ok (.astore 4, 2) := by decide +kernel
theorem d9_76 : decode prog_10_method_15_code 76 = .ok (.iinc 7 1, 3) := by decide +kernel
theorem d9_79 : decode prog_10_method_15_code 79 = .ok (.goto (-38), 3) := by decide +kernel
theorem d9_82 : decode prog_10_method_15_code 82 = .ok (.aload_n 2, 1) := by decide +kernel
theorem d9_83 : decode prog_10_method_15_code 83 = .ok (.iload_n 3, 1) := by decide +kernel
theorem d9_84 : decode prog_10_method_15_code 84 = .ok (.aload 4, 2) := by decide +kernel
theorem d9_86 : decode prog_10_method_15_code 86 = .ok (.aastore, 1) := by decide +kernel
theorem d9_87 : decode prog_10_method_15_code 87 = .ok (.iinc 3 1, 3) := by decide +kernel
theorem d9_90 : decode prog_10_method_15_code 90 = .ok (.goto (-79), 3) := by decide +kernel
theorem d9_93 : decode prog_10_method_15_code 93 = .ok (.aload_n 2, 1) := by decide +kernel
theorem d9_94 : decode prog_10_method_15_code 94 = .ok (.areturn, 1) := by decide +kernel
theorem pd_12 : parseMethodDescriptor "(ILjava/util/List;)Ljava/math/BigDecimal;" = some ⟨[.int, (.object "java/util/List")], some (.object "java/math/BigDecimal")⟩ := by decide +kernel
theorem pd_13 : parseMethodDescriptor "(Ljava/math/BigDecimal;)Ljava/math/BigDecimal;" = some ⟨[(.object "java/math/BigDecimal")], some (.object "java/math/BigDecimal")⟩ := by decide +kernel
theorem ef_9 (m : MethodId) (p0 : Addr) (p1 : Addr) : entryFrame m #[(.ref p0), (.ref p1)] 9 = mkF m 0 #[.val (.ref p0), .val (.ref p1), .unset, .unset, .unset, .unset, .unset, .unset, .unset] [] := by first | (simp [entryFrame, mkF, argsToLocals, Value.category]; done) | rfl
def Q9 (Z : State) (p0 : Addr) (p1 : Addr) (zt : Addr) (kz : ClassId) (zz : Nat → Addr) (zero : Addr) (one : Addr) (ta : Addr) (kt : ClassId) (be : Addr) (kb : ClassId) (bf : Nat → Addr) (n : Nat) (n1 : Nat) (h0 : Heap) (n0 : Nat) (v : Option Value) (h : Heap) (L : List Loc) : Prop := ∃ (sa : Addr) (ks : ClassId) (sf : Nat → Addr), v = some (.ref sa) ∧ Fr n0 L ∧ Keep h0 h [] ∧ Arv Z h sa ks (.object "java/math/BigDecimal") (Int32.ofNat n) (own_fam (own_gr sf) .null n n) .null ∧ own_BDs Z h sf n
set_option maxRecDepth 65536 in
set_option maxHeartbeats 40000000 in
theorem rm9 (l : Launch) (Z : State) (a0 : Array Value) (hw : ∀ d ∈ tables_1, d.before a0 Z = true) (ws : List Jvm.Cond) (p0 : Addr) (p1 : Addr) (zt : Addr) (kz : ClassId) (zz : Nat → Addr) (zero : Addr) (one : Addr) (ta : Addr) (kt : ClassId) (be : Addr) (kb : ClassId) (bf : Nat → Addr) (n : Nat) (n1 : Nat) (h0 : Heap) (n0 : Nat) (Z0 : n0 ≤ h0.size) (P_E_p0 : Exa Z h0 p0 "com/example/slackline/slackline/Precedence") (P_Old : Old Z n0 h0) (P_ZS_java_math_BigDecimal_ZERO_THROUGH_TEN : Sta Z Z.heap "java/math/BigDecimal" "ZERO_THROUGH_TEN" "[Ljava/math/BigDecimal;" (.ref zt)) (VZ : Arv Z Z.heap zt kz (.object "java/math/BigDecimal") (11 : Int32) (own_fam (own_gr zz) .null 11 11) .null) (HZZ : own_BDs Z Z.heap zz 11) (P_ZS_java_math_BigDecimal_ZERO : Sta Z Z.heap "java/math/BigDecimal" "ZERO" "Ljava/math/BigDecimal;" (.ref zero)) (H0 : own_BD Z Z.heap zero (Int64.ofNat 0)) (H1 : own_BD Z Z.heap one (1 : Int64)) (P_F_p0_tasks : Fld Z h0 p0 "com/example/slackline/slackline/Precedence" "tasks" "[I" (.ref ta)) (P_F_p0_before : Fld Z h0 p0 "com/example/slackline/slackline/Precedence" "before" "[[I" (.ref be)) (P_V_ta : Arv Z h0 ta kt .int (Int32.ofNat n) (own_fam own_gi (.int 0) n n) (.int 0)) (P_V_be : Arv Z h0 be kb (.array .int) (Int32.ofNat n) (own_fam (own_gr bf) .null n n) .null) (P_G_B : own_Bef Z h0 bf n n1) (P_E_p1 : Exa Z h0 p1 "java/util/Collections$CopiesList") (P_F_p1_n : Fld Z h0 p1 "java/util/Collections$CopiesList" "n" "I" (.int (Int32.ofNat n))) (P_F_p1_element : Fld Z h0 p1 "java/util/Collections$CopiesList" "element" "Ljava/lang/Object;" (.ref one)) (hn15 : n ≤ 15) :
    MetFree l (⟨"com/example/slackline/slackline/Precedence", "starts", "(Ljava/util/List;)[Ljava/math/BigDecimal;"⟩ : MethodName) (head1 (Jvm.Cond.code (⟨"com/example/slackline/slackline/Precedence", "starts", "(Ljava/util/List;)[Ljava/math/BigDecimal;"⟩ : MethodName) prog_10_method_15_code 9 (some (.array (.object "java/math/BigDecimal"))) :: ws) ({ frames := 8, cells := 16, slots := 90, locals := 124 } : Room)) (fun a U => a = #[(.ref p0), (.ref p1)] ∧ Z.Warmed39 U.vm ∧ U.heap = h0) (fun _ _ _ _ _ => True) (fun _ U o U' => ∃ v L, o = .returned v ∧ (Q9 Z p0 p1 zt kz zz zero one ta kt be kb bf n n1 h0 n0) v U'.heap L ∧ FrameEnd U o U' L ({ frames := 8, cells := 16, slots := 90, locals := 124 } : Room).cells ({ frames := 8, cells := 16, slots := 90, locals := 124 } : Room).slots) := by
  refine MetFree.of_bodySF (plainFor_of_name pn_8) hisR ?_
  intro p e s m args below meth c s₁ Bd hml0 hP hK
  obtain ⟨rfl, hZ, hh⟩ := hP
  have hx := Bd.exec
  have hby := Bd.bytes
  have hml : c.maxLocals = 9 := hml0
  have hown : s.vm.findClass "com/example/slackline/slackline/Precedence" = some m.cls := findClass_of_methodNamed Bd.named
  have hnm := (name_of_methodNamed Bd.named Bd.method).1
  have hlk : meth.locks = false := BodyLoose.notSynchronized Bd
  have X0 : Stand p l e ({ frames := 8, cells := 16, slots := 90, locals := 124 } : Room) s m #[(.ref p0), (.ref p1)] below meth c s₁ [] 0 0 := Stand.of_body Bd
  have e0 : s₁.heap = h0 := by rw [← hh, Bd.state]; rfl
  have N0 := Fr.nil n0
  have K0 : Keep h0 h0 [] := Keep.refl h0 []
  show own_G p.tables e below (s₁.setTop (entryFrame m #[(.ref p0), (.ref p1)] 9)) s ({ frames := 8, cells := 16, slots := 90, locals := 124 } : Room).cells ({ frames := 8, cells := 16, slots := 90, locals := 124 } : Room).slots (Q9 Z p0 p1 zt kz zz zero one ta kt be kb bf n n1 h0 n0)
  refine own_go (fun _ k => castTop (ef_9 m p0 p1) k) ?_
  show own_G _ _ _ (s₁.setTop (mkF m 0 #[.val (.ref p0), .val (.ref p1), .unset, .unset, .unset, .unset, .unset, .unset, .unset] [])) _ _ _ _
  have bq1 := own_BD.ext (H0) P_Old.2
  have f2 : Exa Z h0 zero "java/math/BigDecimal" := bq1.1
  have f3 : Fld Z h0 zero "java/math/BigDecimal" "scale" "I" (.int (0 : Int32)) := bq1.2.1
  have f4 : Fld Z h0 zero "java/math/BigDecimal" "intCompact" "J" (.long (Int64.ofNat 0)) := bq1.2.2
  have bq5 := own_BD.ext (H1) P_Old.2
  have f6 : Exa Z h0 one "java/math/BigDecimal" := bq5.1
  have f7 : Fld Z h0 one "java/math/BigDecimal" "scale" "I" (.int (0 : Int32)) := bq5.2.1
  have f8 : Fld Z h0 one "java/math/BigDecimal" "intCompact" "J" (.long (1 : Int64)) := bq5.2.2
  refine own_go (fun _ k => XS.aloadN X0.here hx rfl (hb hby d9_0) rfl rfl k) ?_
  show own_G _ _ _ (s₁.setTop (mkF m 1 #[.val (.ref p0), .val (.ref p1), .unset, .unset, .unset, .unset, .unset, .unset, .unset] [(.ref p0)])) _ _ _ _
  obtain ⟨T9, X9, e9, st9⟩ := getF X0 hx hZ hown (host := "") (Or.inl (hw _ (List.mem_of_getElem? (i := 15) rfl))) Via.refl e0 P_F_p0_tasks (g := (mkF m 1 #[.val (.ref p0), .val (.ref p1), .unset, .unset, .unset, .unset, .unset, .unset, .unset] [(.ref p0)])) rfl rfl (hb hby d9_1)
  refine own_go (fun _ k => st9 _ k) ?_
  show own_G _ _ _ (T9.setTop (mkF m 4 #[.val (.ref p0), .val (.ref p1), .unset, .unset, .unset, .unset, .unset, .unset, .unset] [(.ref ta)])) _ _ _ _
  obtain ⟨cl10, Ar10, -, S10, Ng10, -, -⟩ := id P_V_ta
  refine own_go (fun _ k => X9.arraylength hx (by rw [e9]; exact Ar10.1) (State.isArrayOf_alike hZ.alike Ar10.2.1) (g := (mkF m 4 #[.val (.ref p0), .val (.ref p1), .unset, .unset, .unset, .unset, .unset, .unset, .unset] [(.ref ta)])) rfl rfl (hb hby d9_4) _ k) ?_
  rw [len_of S10 Ng10]
  show own_G _ _ _ (T9.setTop (mkF m 5 #[.val (.ref p0), .val (.ref p1), .unset, .unset, .unset, .unset, .unset, .unset, .unset] [(.int (Int32.ofNat n))])) _ _ _ _
  obtain ⟨T11, h11, k11, X11, e11, E11, A11, O11, st11⟩ := newR X9 hx hZ hown (hw _ (List.mem_of_getElem? (i := 63) rfl)) (hw _ (List.mem_of_getElem? (i := 64) rfl)) e9 (g := (mkF m 5 #[.val (.ref p0), .val (.ref p1), .unset, .unset, .unset, .unset, .unset, .unset, .unset] [(.int (Int32.ofNat n))])) rfl (hb hby d9_5) rfl (own_nn n (by omega)) (cap := 15) (by rw [own_cl n (by omega)]; exact hn15) (by decide) (by decide) (by decide)
  obtain ⟨b11, g11⟩ : ∃ z, z = h0.size := ⟨_, rfl⟩
  rw [← g11] at A11 st11
  have ne12 : p0 ≠ b11 := Nat.ne_of_lt (Nat.lt_of_lt_of_le P_E_p0.lt (Nat.le_of_eq g11.symm))
  have ne13 : ta ≠ b11 := Nat.ne_of_lt (Nat.lt_of_lt_of_le P_V_ta.lt (Nat.le_of_eq g11.symm))
  have ne14 : be ≠ b11 := Nat.ne_of_lt (Nat.lt_of_lt_of_le P_V_be.lt (Nat.le_of_eq g11.symm))
  have gn15 := P_G_B.fresh (x := b11) (Nat.le_of_eq g11.symm)
  have ne16 : p1 ≠ b11 := Nat.ne_of_lt (Nat.lt_of_lt_of_le P_E_p1.lt (Nat.le_of_eq g11.symm))
  have ne17 : zero ≠ b11 := Nat.ne_of_lt (Nat.lt_of_lt_of_le f2.lt (Nat.le_of_eq g11.symm))
  have ne18 : one ≠ b11 := Nat.ne_of_lt (Nat.lt_of_lt_of_le f6.lt (Nat.le_of_eq g11.symm))
  have gg11 : n0 ≤ b11 := Nat.le_trans Z0 (Nat.le_of_eq g11.symm)
  have sz11_0 : h0.size ≤ b11 := Nat.le_trans K0.1 (Nat.le_of_eq g11.symm)
  have Zs11 : n0 ≤ h11.size := Nat.le_trans Z0 E11.1
  have K11_0 : Keep h0 h11 [] := K0.ext E11
  have f19 : Exa Z h11 p0 "com/example/slackline/slackline/Precedence" := P_E_p0.ext E11
  have f20 : Old Z n0 h11 := P_Old.ext E11
  have f21 : Fld Z h11 p0 "com/example/slackline/slackline/Precedence" "tasks" "[I" (.ref ta) := P_F_p0_tasks.ext E11
  have f22 : Fld Z h11 p0 "com/example/slackline/slackline/Precedence" "before" "[[I" (.ref be) := P_F_p0_before.ext E11
  have f23 : Arv Z h11 ta kt .int (Int32.ofNat n) (own_fam own_gi (.int 0) n n) (.int 0) := P_V_ta.ext E11
  have f24 : Arv Z h11 be kb (.array .int) (Int32.ofNat n) (own_fam (own_gr bf) .null n n) .null := P_V_be.ext E11
  have f25 : own_Bef Z h11 bf n n1 := P_G_B.ext E11
  have f26 : Exa Z h11 p1 "java/util/Collections$CopiesList" := P_E_p1.ext E11
  have f27 : Fld Z h11 p1 "java/util/Collections$CopiesList" "n" "I" (.int (Int32.ofNat n)) := P_F_p1_n.ext E11
  have f28 : Fld Z h11 p1 "java/util/Collections$CopiesList" "element" "Ljava/lang/Object;" (.ref one) := P_F_p1_element.ext E11
  have f29 : Exa Z h11 zero "java/math/BigDecimal" := f2.ext E11
  have f30 : Fld Z h11 zero "java/math/BigDecimal" "scale" "I" (.int (0 : Int32)) := f3.ext E11
  have f31 : Fld Z h11 zero "java/math/BigDecimal" "intCompact" "J" (.long (Int64.ofNat 0)) := f4.ext E11
  have f32 : Exa Z h11 one "java/math/BigDecimal" := f6.ext E11
  have f33 : Fld Z h11 one "java/math/BigDecimal" "scale" "I" (.int (0 : Int32)) := f7.ext E11
  have f34 : Fld Z h11 one "java/math/BigDecimal" "intCompact" "J" (.long (1 : Int64)) := f8.ext E11
  have f35 : Ovr Z k11 "java/math/BigDecimal" := O11
  have f36 : Arv Z h11 b11 k11 (.object "java/math/BigDecimal") (Int32.ofNat n) [] .null := Arv.new A11 (own_nn n (by omega))
  refine own_go (fun _ k => st11 _ k) ?_
  show own_G _ _ _ (T11.setTop (mkF m 8 #[.val (.ref p0), .val (.ref p1), .unset, .unset, .unset, .unset, .unset, .unset, .unset] [(.ref b11)])) _ _ _ _
  have f37 : Arv Z h11 b11 k11 (.object "java/math/BigDecimal") (Int32.ofNat n) (own_fam (own_gr (fun _ => p0)) .null n 0) .null := (f36).pad (fun i => own_fam_pad _ _ _ i)
  have f38 : own_BDs Z h11 (fun _ => p0) 0 := (fun j hj => absurd hj (Nat.not_lt_zero j))
  refine own_go (fun _ k => XS.astoreN X11.here hx rfl (hb hby d9_8) rfl rfl (l' := #[.val (.ref p0), .val (.ref p1), .val (.ref b11), .unset, .unset, .unset, .unset, .unset, .unset]) rfl k) ?_
  show own_G _ _ _ (T11.setTop (mkF m 9 #[.val (.ref p0), .val (.ref p1), .val (.ref b11), .unset, .unset, .unset, .unset, .unset, .unset] [])) _ _ _ _
  refine own_go (fun _ k => XS.iconst X11.here hx rfl (hb hby d9_9) k) ?_
  show own_G _ _ _ (T11.setTop (mkF m 10 #[.val (.ref p0), .val (.ref p1), .val (.ref b11), .unset, .unset, .unset, .unset, .unset, .unset] [(.int (0 : Int32))])) _ _ _ _
  refine own_go (fun _ k => XS.istoreN X11.here hx rfl (hb hby d9_10) rfl (l' := #[.val (.ref p0), .val (.ref p1), .val (.ref b11), .val (.int (0 : Int32)), .unset, .unset, .unset, .unset, .unset]) rfl k) ?_
  show own_G _ _ _ (T11.setTop (mkF m 11 #[.val (.ref p0), .val (.ref p1), .val (.ref b11), .val (.int (0 : Int32)), .unset, .unset, .unset, .unset, .unset] [])) _ _ _ _
  have loop : ∀ (f i : Nat) (hif : i + f = n) (T : State) (Lc : List Loc) (hp : Heap) (cz sz : Nat) (sf : Nat → Addr) (l4 : Slot) (l5 : Slot) (l6 : Slot) (l7 : Slot) (l8 : Slot) (ok4 : own_ok l4) (ok5 : own_ok l5) (ok6 : own_ok l6) (ok7 : own_ok l7) (ok8 : own_ok l8) (X : Stand p l e ({ frames := 8, cells := 16, slots := 90, locals := 124 } : Room) s m #[(.ref p0), (.ref p1)] below meth c T Lc cz sz) (eT : T.heap = hp) (Nn : Fr n0 Lc) (Zp : n0 ≤ hp.size) (Kp : Keep h0 hp []) (hcz : cz + f * 1 + 0 ≤ 16) (hsz : sz + f * 5 + 0 ≤ 90) (J0 : Exa Z hp p0 "com/example/slackline/slackline/Precedence") (J1 : Old Z n0 hp) (J2 : Fld Z hp p0 "com/example/slackline/slackline/Precedence" "tasks" "[I" (.ref ta)) (J3 : Fld Z hp p0 "com/example/slackline/slackline/Precedence" "before" "[[I" (.ref be)) (J4 : Arv Z hp ta kt .int (Int32.ofNat n) (own_fam own_gi (.int 0) n n) (.int 0)) (J5 : Arv Z hp be kb (.array .int) (Int32.ofNat n) (own_fam (own_gr bf) .null n n) .null) (J6 : own_Bef Z hp bf n n1) (J7 : Exa Z hp p1 "java/util/Collections$CopiesList") (J8 : Fld Z hp p1 "java/util/Collections$CopiesList" "n" "I" (.int (Int32.ofNat n))) (J9 : Fld Z hp p1 "java/util/Collections$CopiesList" "element" "Ljava/lang/Object;" (.ref one)) (J10 : Exa Z hp zero "java/math/BigDecimal") (J11 : Fld Z hp zero "java/math/BigDecimal" "scale" "I" (.int (0 : Int32))) (J12 : Fld Z hp zero "java/math/BigDecimal" "intCompact" "J" (.long (Int64.ofNat 0))) (J13 : Exa Z hp one "java/math/BigDecimal") (J14 : Fld Z hp one "java/math/BigDecimal" "scale" "I" (.int (0 : Int32))) (J15 : Fld Z hp one "java/math/BigDecimal" "intCompact" "J" (.long (1 : Int64))) (J16 : Arv Z hp b11 k11 (.object "java/math/BigDecimal") (Int32.ofNat n) (own_fam (own_gr sf) .null n i) .null) (J17 : own_BDs Z hp sf i), own_G p.tables e below (T.setTop (mkF m 11 #[.val (.ref p0), .val (.ref p1), .val (.ref b11), .val (.int (Int32.ofNat i)), l4, l5, l6, l7, l8] [])) s ({ frames := 8, cells := 16, slots := 90, locals := 124 } : Room).cells ({ frames := 8, cells := 16, slots := 90, locals := 124 } : Room).slots (Q9 Z p0 p1 zt kz zz zero one ta kt be kb bf n n1 h0 n0) := by
    intro f
    induction f with
    | zero =>
      intro i hif T Lc hp cz sz sf l4 l5 l6 l7 l8 ok4 ok5 ok6 ok7 ok8 X eT Nn Zp Kp hcz hsz J0 J1 J2 J3 J4 J5 J6 J7 J8 J9 J10 J11 J12 J13 J14 J15 J16 J17
      have hin : n = i := by omega
      subst hin
      refine own_go (fun _ k => XS.iloadN X.here hx rfl (hb hby d9_11) rfl k) ?_
      show own_G _ _ _ (T.setTop (mkF m 12 #[.val (.ref p0), .val (.ref p1), .val (.ref b11), .val (.int (Int32.ofNat n)), l4, l5, l6, l7, l8] [(.int (Int32.ofNat n))])) _ _ _ _
      refine own_go (fun _ k => XS.aloadN X.here hx rfl (hb hby d9_12) rfl rfl k) ?_
      show own_G _ _ _ (T.setTop (mkF m 13 #[.val (.ref p0), .val (.ref p1), .val (.ref b11), .val (.int (Int32.ofNat n)), l4, l5, l6, l7, l8] [(.ref p0), (.int (Int32.ofNat n))])) _ _ _ _
      obtain ⟨T129, X129, e129, st129⟩ := getF X hx hZ hown (host := "") (Or.inl (hw _ (List.mem_of_getElem? (i := 15) rfl))) Via.refl eT J2 (g := (mkF m 13 #[.val (.ref p0), .val (.ref p1), .val (.ref b11), .val (.int (Int32.ofNat n)), l4, l5, l6, l7, l8] [(.ref p0), (.int (Int32.ofNat n))])) rfl rfl (hb hby d9_13)
      refine own_go (fun _ k => st129 _ k) ?_
      show own_G _ _ _ (T129.setTop (mkF m 16 #[.val (.ref p0), .val (.ref p1), .val (.ref b11), .val (.int (Int32.ofNat n)), l4, l5, l6, l7, l8] [(.ref ta), (.int (Int32.ofNat n))])) _ _ _ _
      obtain ⟨cl130, Ar130, -, S130, Ng130, -, -⟩ := id J4
      refine own_go (fun _ k => X129.arraylength hx (by rw [e129]; exact Ar130.1) (State.isArrayOf_alike hZ.alike Ar130.2.1) (g := (mkF m 16 #[.val (.ref p0), .val (.ref p1), .val (.ref b11), .val (.int (Int32.ofNat n)), l4, l5, l6, l7, l8] [(.ref ta), (.int (Int32.ofNat n))])) rfl rfl (hb hby d9_16) _ k) ?_
      rw [len_of S130 Ng130]
      show own_G _ _ _ (T129.setTop (mkF m 17 #[.val (.ref p0), .val (.ref p1), .val (.ref b11), .val (.int (Int32.ofNat n)), l4, l5, l6, l7, l8] [(.int (Int32.ofNat n)), (.int (Int32.ofNat n))])) _ _ _ _
      have hc131 : ¬ ((Int32.ofNat n) < (Int32.ofNat n)) := (fun q => absurd ((own_ltI n n (by omega) (by omega)).mp q) (Nat.lt_irrefl _))
      refine own_go (fun _ k => XS.icmpYes X129.here hx rfl (pc0 := 17) (pc' := 93) rfl (hb hby d9_17) rfl (flt hc131).2.1 (by decide) (by decide) k) ?_
      show own_G _ _ _ (T129.setTop (mkF m 93 #[.val (.ref p0), .val (.ref p1), .val (.ref b11), .val (.int (Int32.ofNat n)), l4, l5, l6, l7, l8] [])) _ _ _ _
      refine own_go (fun _ k => XS.aloadN X129.here hx rfl (hb hby d9_93) rfl rfl k) ?_
      show own_G _ _ _ (T129.setTop (mkF m 94 #[.val (.ref p0), .val (.ref p1), .val (.ref b11), .val (.int (Int32.ofNat n)), l4, l5, l6, l7, l8] [(.ref b11)])) _ _ _ _
      exact own_endR X129 hx hlk Bd.returns rfl rfl rfl (hb hby d9_94) (by first | decide | omega | (dsimp only [Pt.cells, Pt.slots]; omega)) (by first | decide | omega | (dsimp only [Pt.cells, Pt.slots]; omega)) (Q := (Q9 Z p0 p1 zt kz zz zero one ta kt be kb bf n n1 h0 n0)) (by rw [e129]; exact ⟨b11, k11, sf, rfl, Nn, Kp, J16, J17⟩)
    | succ f ih =>
      intro i hif T Lc hp cz sz sf l4 l5 l6 l7 l8 ok4 ok5 ok6 ok7 ok8 X eT Nn Zp Kp hcz hsz J0 J1 J2 J3 J4 J5 J6 J7 J8 J9 J10 J11 J12 J13 J14 J15 J16 J17
      have hin : i < n := by omega
      refine own_go (fun _ k => XS.iloadN X.here hx rfl (hb hby d9_11) rfl k) ?_
      show own_G _ _ _ (T.setTop (mkF m 12 #[.val (.ref p0), .val (.ref p1), .val (.ref b11), .val (.int (Int32.ofNat i)), l4, l5, l6, l7, l8] [(.int (Int32.ofNat i))])) _ _ _ _
      refine own_go (fun _ k => XS.aloadN X.here hx rfl (hb hby d9_12) rfl rfl k) ?_
      show own_G _ _ _ (T.setTop (mkF m 13 #[.val (.ref p0), .val (.ref p1), .val (.ref b11), .val (.int (Int32.ofNat i)), l4, l5, l6, l7, l8] [(.ref p0), (.int (Int32.ofNat i))])) _ _ _ _
      obtain ⟨T39, X39, e39, st39⟩ := getF X hx hZ hown (host := "") (Or.inl (hw _ (List.mem_of_getElem? (i := 15) rfl))) Via.refl eT J2 (g := (mkF m 13 #[.val (.ref p0), .val (.ref p1), .val (.ref b11), .val (.int (Int32.ofNat i)), l4, l5, l6, l7, l8] [(.ref p0), (.int (Int32.ofNat i))])) rfl rfl (hb hby d9_13)
      refine own_go (fun _ k => st39 _ k) ?_
      show own_G _ _ _ (T39.setTop (mkF m 16 #[.val (.ref p0), .val (.ref p1), .val (.ref b11), .val (.int (Int32.ofNat i)), l4, l5, l6, l7, l8] [(.ref ta), (.int (Int32.ofNat i))])) _ _ _ _
      obtain ⟨cl40, Ar40, -, S40, Ng40, -, -⟩ := id J4
      refine own_go (fun _ k => X39.arraylength hx (by rw [e39]; exact Ar40.1) (State.isArrayOf_alike hZ.alike Ar40.2.1) (g := (mkF m 16 #[.val (.ref p0), .val (.ref p1), .val (.ref b11), .val (.int (Int32.ofNat i)), l4, l5, l6, l7, l8] [(.ref ta), (.int (Int32.ofNat i))])) rfl rfl (hb hby d9_16) _ k) ?_
      rw [len_of S40 Ng40]
      show own_G _ _ _ (T39.setTop (mkF m 17 #[.val (.ref p0), .val (.ref p1), .val (.ref b11), .val (.int (Int32.ofNat i)), l4, l5, l6, l7, l8] [(.int (Int32.ofNat n)), (.int (Int32.ofNat i))])) _ _ _ _
      have hc41 : (Int32.ofNat i) < (Int32.ofNat n) := (own_ltI i n (by omega) (by omega)).mpr hin
      refine own_go (fun _ k => XS.icmpNo X39.here hx rfl (hb hby d9_17) rfl (tlt hc41).2.1 k) ?_
      show own_G _ _ _ (T39.setTop (mkF m 20 #[.val (.ref p0), .val (.ref p1), .val (.ref b11), .val (.int (Int32.ofNat i)), l4, l5, l6, l7, l8] [])) _ _ _ _
      obtain ⟨T42, X42, e42, st42⟩ := getS2 X39 hx hZ hown (host := "") (Or.inl (hw _ (List.mem_of_getElem? (i := 65) rfl))) Via.refl e39 (P_ZS_java_math_BigDecimal_ZERO.ext J1.2) (g := (mkF m 20 #[.val (.ref p0), .val (.ref p1), .val (.ref b11), .val (.int (Int32.ofNat i)), l4, l5, l6, l7, l8] [])) rfl (hb hby d9_20)
      refine own_go (fun _ k => st42 _ k) ?_
      show own_G _ _ _ (T42.setTop (mkF m 23 #[.val (.ref p0), .val (.ref p1), .val (.ref b11), .val (.int (Int32.ofNat i)), l4, l5, l6, l7, l8] [(.ref zero)])) _ _ _ _
      refine own_go (fun _ k => XS.astore X42.here hx rfl (hb hby d9_23) rfl rfl (l' := #[.val (.ref p0), .val (.ref p1), .val (.ref b11), .val (.int (Int32.ofNat i)), .val (.ref zero), l5, l6, l7, l8]) (by rcases ok4 with h_ | ⟨z_, h_⟩ | ⟨a_, h_⟩ <;> rw [h_] <;> rfl) k) ?_
      show own_G _ _ _ (T42.setTop (mkF m 25 #[.val (.ref p0), .val (.ref p1), .val (.ref b11), .val (.int (Int32.ofNat i)), .val (.ref zero), l5, l6, l7, l8] [])) _ _ _ _
      refine own_go (fun _ k => XS.aloadN X42.here hx rfl (hb hby d9_25) rfl rfl k) ?_
      show own_G _ _ _ (T42.setTop (mkF m 26 #[.val (.ref p0), .val (.ref p1), .val (.ref b11), .val (.int (Int32.ofNat i)), .val (.ref zero), l5, l6, l7, l8] [(.ref p0)])) _ _ _ _
      obtain ⟨T43, X43, e43, st43⟩ := getF X42 hx hZ hown (host := "") (Or.inl (hw _ (List.mem_of_getElem? (i := 17) rfl))) Via.refl e42 J3 (g := (mkF m 26 #[.val (.ref p0), .val (.ref p1), .val (.ref b11), .val (.int (Int32.ofNat i)), .val (.ref zero), l5, l6, l7, l8] [(.ref p0)])) rfl rfl (hb hby d9_26)
      refine own_go (fun _ k => st43 _ k) ?_
      show own_G _ _ _ (T43.setTop (mkF m 29 #[.val (.ref p0), .val (.ref p1), .val (.ref b11), .val (.int (Int32.ofNat i)), .val (.ref zero), l5, l6, l7, l8] [(.ref be)])) _ _ _ _
      refine own_go (fun _ k => XS.iloadN X43.here hx rfl (hb hby d9_29) rfl k) ?_
      show own_G _ _ _ (T43.setTop (mkF m 30 #[.val (.ref p0), .val (.ref p1), .val (.ref b11), .val (.int (Int32.ofNat i)), .val (.ref zero), l5, l6, l7, l8] [(.int (Int32.ofNat i)), (.ref be)])) _ _ _ _
      obtain ⟨cl44, Ar44, q44, S44, Ng44, H44, G44⟩ := id J5
      have in44 : ¬ ((Int32.ofNat i) < 0 ∨ cl44.slots.size ≤ ((Int32.ofNat i)).toNatClampNeg) := inb_of S44 (own_inb (hin) (by omega))
      have at44 : cl44.slots[((Int32.ofNat i)).toNatClampNeg]? = some (.ref (bf i)) := H44.at in44 (by rw [own_cl i (by omega)]; exact own_fam_get _ _ _ _ _ (hin) (hin))
      refine own_go (fun _ k => X43.aaload hx (j := (Int32.ofNat i)) (v := (.ref (bf i))) (by rw [e43]; exact Ar44.1) (State.isArrayOf_alike hZ.alike Ar44.2.1) rfl Ar44.2.2 in44 at44 (g := (mkF m 30 #[.val (.ref p0), .val (.ref p1), .val (.ref b11), .val (.int (Int32.ofNat i)), .val (.ref zero), l5, l6, l7, l8] [(.int (Int32.ofNat i)), (.ref be)])) rfl rfl (hb hby d9_30) _ k) ?_
      show own_G _ _ _ (T43.setTop (mkF m 31 #[.val (.ref p0), .val (.ref p1), .val (.ref b11), .val (.int (Int32.ofNat i)), .val (.ref zero), l5, l6, l7, l8] [(.ref (bf i))])) _ _ _ _
      refine own_go (fun _ k => XS.astore X43.here hx rfl (hb hby d9_31) rfl rfl (l' := #[.val (.ref p0), .val (.ref p1), .val (.ref b11), .val (.int (Int32.ofNat i)), .val (.ref zero), .val (.ref (bf i)), l6, l7, l8]) (by rcases ok5 with h_ | ⟨z_, h_⟩ | ⟨a_, h_⟩ <;> rw [h_] <;> rfl) k) ?_
      show own_G _ _ _ (T43.setTop (mkF m 33 #[.val (.ref p0), .val (.ref p1), .val (.ref b11), .val (.int (Int32.ofNat i)), .val (.ref zero), .val (.ref (bf i)), l6, l7, l8] [])) _ _ _ _
      rcases Nat.eq_zero_or_pos i with hi0 | hi0
      · obtain ⟨kv, Vb⟩ := own_Bef.at0 J6 hin hi0
        show own_G _ _ _ (T43.setTop (mkF m 33 #[.val (.ref p0), .val (.ref p1), .val (.ref b11), .val (.int (Int32.ofNat i)), .val (.ref zero), .val (.ref (bf i)), l6, l7, l8] [])) _ _ _ _
        refine own_go (fun _ k => XS.aload X43.here hx rfl (hb hby d9_33) rfl rfl k) ?_
        show own_G _ _ _ (T43.setTop (mkF m 35 #[.val (.ref p0), .val (.ref p1), .val (.ref b11), .val (.int (Int32.ofNat i)), .val (.ref zero), .val (.ref (bf i)), l6, l7, l8] [(.ref (bf i))])) _ _ _ _
        obtain ⟨cl45, Ar45, -, S45, Ng45, -, -⟩ := id Vb
        refine own_go (fun _ k => X43.arraylength hx (by rw [e43]; exact Ar45.1) (State.isArrayOf_alike hZ.alike Ar45.2.1) (g := (mkF m 35 #[.val (.ref p0), .val (.ref p1), .val (.ref b11), .val (.int (Int32.ofNat i)), .val (.ref zero), .val (.ref (bf i)), l6, l7, l8] [(.ref (bf i))])) rfl rfl (hb hby d9_35) _ k) ?_
        rw [len_of S45 Ng45]
        show own_G _ _ _ (T43.setTop (mkF m 36 #[.val (.ref p0), .val (.ref p1), .val (.ref b11), .val (.int (Int32.ofNat i)), .val (.ref zero), .val (.ref (bf i)), l6, l7, l8] [(.int (0 : Int32))])) _ _ _ _
        refine own_go (fun _ k => XS.istore X43.here hx rfl (hb hby d9_36) rfl (l' := #[.val (.ref p0), .val (.ref p1), .val (.ref b11), .val (.int (Int32.ofNat i)), .val (.ref zero), .val (.ref (bf i)), .val (.int (0 : Int32)), l7, l8]) (by rcases ok6 with h_ | ⟨z_, h_⟩ | ⟨a_, h_⟩ <;> rw [h_] <;> rfl) k) ?_
        show own_G _ _ _ (T43.setTop (mkF m 38 #[.val (.ref p0), .val (.ref p1), .val (.ref b11), .val (.int (Int32.ofNat i)), .val (.ref zero), .val (.ref (bf i)), .val (.int (0 : Int32)), l7, l8] [])) _ _ _ _
        refine own_go (fun _ k => XS.iconst X43.here hx rfl (hb hby d9_38) k) ?_
        show own_G _ _ _ (T43.setTop (mkF m 39 #[.val (.ref p0), .val (.ref p1), .val (.ref b11), .val (.int (Int32.ofNat i)), .val (.ref zero), .val (.ref (bf i)), .val (.int (0 : Int32)), l7, l8] [(.int (0 : Int32))])) _ _ _ _
        refine own_go (fun _ k => XS.istore X43.here hx rfl (hb hby d9_39) rfl (l' := #[.val (.ref p0), .val (.ref p1), .val (.ref b11), .val (.int (Int32.ofNat i)), .val (.ref zero), .val (.ref (bf i)), .val (.int (0 : Int32)), .val (.int (0 : Int32)), l8]) (by rcases ok7 with h_ | ⟨z_, h_⟩ | ⟨a_, h_⟩ <;> rw [h_] <;> rfl) k) ?_
        show own_G _ _ _ (T43.setTop (mkF m 41 #[.val (.ref p0), .val (.ref p1), .val (.ref b11), .val (.int (Int32.ofNat i)), .val (.ref zero), .val (.ref (bf i)), .val (.int (0 : Int32)), .val (.int (0 : Int32)), l8] [])) _ _ _ _
        refine own_go (fun _ k => XS.iload X43.here hx rfl (hb hby d9_41) rfl k) ?_
        show own_G _ _ _ (T43.setTop (mkF m 43 #[.val (.ref p0), .val (.ref p1), .val (.ref b11), .val (.int (Int32.ofNat i)), .val (.ref zero), .val (.ref (bf i)), .val (.int (0 : Int32)), .val (.int (0 : Int32)), l8] [(.int (0 : Int32))])) _ _ _ _
        refine own_go (fun _ k => XS.iload X43.here hx rfl (hb hby d9_43) rfl k) ?_
        show own_G _ _ _ (T43.setTop (mkF m 45 #[.val (.ref p0), .val (.ref p1), .val (.ref b11), .val (.int (Int32.ofNat i)), .val (.ref zero), .val (.ref (bf i)), .val (.int (0 : Int32)), .val (.int (0 : Int32)), l8] [(.int (0 : Int32)), (.int (0 : Int32))])) _ _ _ _
        have hc46 : ¬ ((0 : Int32) < (0 : Int32)) := (by decide)
        refine own_go (fun _ k => XS.icmpYes X43.here hx rfl (pc0 := 45) (pc' := 82) rfl (hb hby d9_45) rfl (flt hc46).2.1 (by decide) (by decide) k) ?_
        show own_G _ _ _ (T43.setTop (mkF m 82 #[.val (.ref p0), .val (.ref p1), .val (.ref b11), .val (.int (Int32.ofNat i)), .val (.ref zero), .val (.ref (bf i)), .val (.int (0 : Int32)), .val (.int (0 : Int32)), l8] [])) _ _ _ _
        refine own_go (fun _ k => XS.aloadN X43.here hx rfl (hb hby d9_82) rfl rfl k) ?_
        show own_G _ _ _ (T43.setTop (mkF m 83 #[.val (.ref p0), .val (.ref p1), .val (.ref b11), .val (.int (Int32.ofNat i)), .val (.ref zero), .val (.ref (bf i)), .val (.int (0 : Int32)), .val (.int (0 : Int32)), l8] [(.ref b11)])) _ _ _ _
        refine own_go (fun _ k => XS.iloadN X43.here hx rfl (hb hby d9_83) rfl k) ?_
        show own_G _ _ _ (T43.setTop (mkF m 84 #[.val (.ref p0), .val (.ref p1), .val (.ref b11), .val (.int (Int32.ofNat i)), .val (.ref zero), .val (.ref (bf i)), .val (.int (0 : Int32)), .val (.int (0 : Int32)), l8] [(.int (Int32.ofNat i)), (.ref b11)])) _ _ _ _
        refine own_go (fun _ k => XS.aload X43.here hx rfl (hb hby d9_84) rfl rfl k) ?_
        show own_G _ _ _ (T43.setTop (mkF m 86 #[.val (.ref p0), .val (.ref p1), .val (.ref b11), .val (.int (Int32.ofNat i)), .val (.ref zero), .val (.ref (bf i)), .val (.int (0 : Int32)), .val (.int (0 : Int32)), l8] [(.ref zero), (.int (Int32.ofNat i)), (.ref b11)])) _ _ _ _
        obtain ⟨cl47, Ar47, q47, S47, Ng47, H47, G47⟩ := id J16
        have in47 : ¬ ((Int32.ofNat i) < 0 ∨ cl47.slots.size ≤ ((Int32.ofNat i)).toNatClampNeg) := inb_of S47 (own_inb hin (by omega))
        obtain ⟨T47, h47, X47, e47, W47, st47⟩ := stR X43 hx hZ e43 Ar47 (j := (Int32.ofNat i)) in47 rfl (Sto.ofV Ar47 q47 f35 (Ins.self J10)) (g := (mkF m 86 #[.val (.ref p0), .val (.ref p1), .val (.ref b11), .val (.int (Int32.ofNat i)), .val (.ref zero), .val (.ref (bf i)), .val (.int (0 : Int32)), .val (.int (0 : Int32)), l8] [(.ref zero), (.int (Int32.ofNat i)), (.ref b11)])) rfl rfl (hb hby d9_86)
        have N47 := Fr.snoc X47 Nn gg11
        have Zs47 : n0 ≤ h47.size := Nat.le_trans Zp (Keep.of_wr W47).1
        have K47_0 : Keep h0 h47 [] := Kp.wr W47 (Or.inr sz11_0)
        have f48 : Exa Z h47 p0 "com/example/slackline/slackline/Precedence" := J0.wr W47
        have f49 : Old Z n0 h47 := J1.wr W47 gg11
        have f50 : Fld Z h47 p0 "com/example/slackline/slackline/Precedence" "tasks" "[I" (.ref ta) := J2.other W47 (Or.inl ne12)
        have f51 : Fld Z h47 p0 "com/example/slackline/slackline/Precedence" "before" "[[I" (.ref be) := J3.other W47 (Or.inl ne12)
        have f52 : Arv Z h47 ta kt .int (Int32.ofNat n) (own_fam own_gi (.int 0) n n) (.int 0) := J4.other W47 ne13
        have f53 : Arv Z h47 be kb (.array .int) (Int32.ofNat n) (own_fam (own_gr bf) .null n n) .null := J5.other W47 ne14
        have f54 : own_Bef Z h47 bf n n1 := J6.wr W47 gn15
        have f55 : Exa Z h47 p1 "java/util/Collections$CopiesList" := J7.wr W47
        have f56 : Fld Z h47 p1 "java/util/Collections$CopiesList" "n" "I" (.int (Int32.ofNat n)) := J8.other W47 (Or.inl ne16)
        have f57 : Fld Z h47 p1 "java/util/Collections$CopiesList" "element" "Ljava/lang/Object;" (.ref one) := J9.other W47 (Or.inl ne16)
        have f58 : Exa Z h47 zero "java/math/BigDecimal" := J10.wr W47
        have f59 : Fld Z h47 zero "java/math/BigDecimal" "scale" "I" (.int (0 : Int32)) := J11.other W47 (Or.inl ne17)
        have f60 : Fld Z h47 zero "java/math/BigDecimal" "intCompact" "J" (.long (Int64.ofNat 0)) := J12.other W47 (Or.inl ne17)
        have f61 : Exa Z h47 one "java/math/BigDecimal" := J13.wr W47
        have f62 : Fld Z h47 one "java/math/BigDecimal" "scale" "I" (.int (0 : Int32)) := J14.other W47 (Or.inl ne18)
        have f63 : Fld Z h47 one "java/math/BigDecimal" "intCompact" "J" (.long (1 : Int64)) := J15.other W47 (Or.inl ne18)
        have f64 : own_BDs Z h47 sf i := J17.wr W47 (fun j hj => by obtain ⟨c_, A_, -⟩ := J16; exact ne_arr (J17 j hj).1 (hw _ (List.mem_of_getElem? (i := 145) rfl)) A_)
        have f65 : Arv Z h47 b11 k11 (.object "java/math/BigDecimal") (Int32.ofNat n) (own_fam (own_gr (fun j => if j = i then zero else sf j)) .null n (i + 1)) .null := (by have q := Arv.set Ar47 q47 S47 Ng47 H47 G47 rfl W47 i (own_cl i (by omega)) (by rw [own_fam_len]; exact hin); rw [own_gr_set] at q; exact q)
        refine own_go (fun _ k => st47 _ k) ?_
        show own_G _ _ _ (T47.setTop (mkF m 87 #[.val (.ref p0), .val (.ref p1), .val (.ref b11), .val (.int (Int32.ofNat i)), .val (.ref zero), .val (.ref (bf i)), .val (.int (0 : Int32)), .val (.int (0 : Int32)), l8] [])) _ _ _ _
        have bz66 : own_BD Z h47 zero (Int64.ofNat i) := by have q : own_BD Z h47 zero (Int64.ofNat 0) := ⟨f58, f59, f60⟩; rw [← hi0] at q; exact q
        have f67 : own_BDs Z h47 (fun j => if j = i then zero else sf j) (i + 1) := own_BDs.snoc f64 bz66
        refine own_go (fun _ k => XS.iinc X47.here hx rfl (hb hby d9_87) rfl (l' := #[.val (.ref p0), .val (.ref p1), .val (.ref b11), .val (.int ((Int32.ofNat i) + (1 : Int32))), .val (.ref zero), .val (.ref (bf i)), .val (.int (0 : Int32)), .val (.int (0 : Int32)), l8]) rfl k) ?_
        rw [own_inc i]
        show own_G _ _ _ (T47.setTop (mkF m 90 #[.val (.ref p0), .val (.ref p1), .val (.ref b11), .val (.int (Int32.ofNat (i + 1))), .val (.ref zero), .val (.ref (bf i)), .val (.int (0 : Int32)), .val (.int (0 : Int32)), l8] [])) _ _ _ _
        refine own_go (fun _ k => XS.goto X47.here hx rfl (pc0 := 90) (pc' := 11) rfl (hb hby d9_90) (by decide) (by decide) k) ?_
        show own_G _ _ _ (T47.setTop (mkF m 11 #[.val (.ref p0), .val (.ref p1), .val (.ref b11), .val (.int (Int32.ofNat (i + 1))), .val (.ref zero), .val (.ref (bf i)), .val (.int (0 : Int32)), .val (.int (0 : Int32)), l8] [])) _ _ _ _
        exact ih (i + 1) (by omega) _ _ _ _ _ (fun j => if j = i then zero else sf j) (.val (.ref zero)) (.val (.ref (bf i))) (.val (.int (0 : Int32))) (.val (.int (0 : Int32))) (l8) (Or.inr (Or.inr ⟨_, rfl⟩)) (Or.inr (Or.inr ⟨_, rfl⟩)) (Or.inr (Or.inl ⟨_, rfl⟩)) (Or.inr (Or.inl ⟨_, rfl⟩)) ok8 X47 e47 N47 Zs47 K47_0 (by omega) (by omega) f48 f49 f50 f51 f52 f53 f54 f55 f56 f57 f58 f59 f60 f61 f62 f63 f65 f67
      · obtain ⟨kv, Vb⟩ := own_Bef.at1 J6 hin (by omega) (by omega)
        show own_G _ _ _ (T43.setTop (mkF m 33 #[.val (.ref p0), .val (.ref p1), .val (.ref b11), .val (.int (Int32.ofNat i)), .val (.ref zero), .val (.ref (bf i)), l6, l7, l8] [])) _ _ _ _
        refine own_go (fun _ k => XS.aload X43.here hx rfl (hb hby d9_33) rfl rfl k) ?_
        show own_G _ _ _ (T43.setTop (mkF m 35 #[.val (.ref p0), .val (.ref p1), .val (.ref b11), .val (.int (Int32.ofNat i)), .val (.ref zero), .val (.ref (bf i)), l6, l7, l8] [(.ref (bf i))])) _ _ _ _
        obtain ⟨cl68, Ar68, -, S68, Ng68, -, -⟩ := id Vb
        refine own_go (fun _ k => X43.arraylength hx (by rw [e43]; exact Ar68.1) (State.isArrayOf_alike hZ.alike Ar68.2.1) (g := (mkF m 35 #[.val (.ref p0), .val (.ref p1), .val (.ref b11), .val (.int (Int32.ofNat i)), .val (.ref zero), .val (.ref (bf i)), l6, l7, l8] [(.ref (bf i))])) rfl rfl (hb hby d9_35) _ k) ?_
        rw [len_of S68 Ng68]
        show own_G _ _ _ (T43.setTop (mkF m 36 #[.val (.ref p0), .val (.ref p1), .val (.ref b11), .val (.int (Int32.ofNat i)), .val (.ref zero), .val (.ref (bf i)), l6, l7, l8] [(.int (1 : Int32))])) _ _ _ _
        refine own_go (fun _ k => XS.istore X43.here hx rfl (hb hby d9_36) rfl (l' := #[.val (.ref p0), .val (.ref p1), .val (.ref b11), .val (.int (Int32.ofNat i)), .val (.ref zero), .val (.ref (bf i)), .val (.int (1 : Int32)), l7, l8]) (by rcases ok6 with h_ | ⟨z_, h_⟩ | ⟨a_, h_⟩ <;> rw [h_] <;> rfl) k) ?_
        show own_G _ _ _ (T43.setTop (mkF m 38 #[.val (.ref p0), .val (.ref p1), .val (.ref b11), .val (.int (Int32.ofNat i)), .val (.ref zero), .val (.ref (bf i)), .val (.int (1 : Int32)), l7, l8] [])) _ _ _ _
        refine own_go (fun _ k => XS.iconst X43.here hx rfl (hb hby d9_38) k) ?_
        show own_G _ _ _ (T43.setTop (mkF m 39 #[.val (.ref p0), .val (.ref p1), .val (.ref b11), .val (.int (Int32.ofNat i)), .val (.ref zero), .val (.ref (bf i)), .val (.int (1 : Int32)), l7, l8] [(.int (0 : Int32))])) _ _ _ _
        refine own_go (fun _ k => XS.istore X43.here hx rfl (hb hby d9_39) rfl (l' := #[.val (.ref p0), .val (.ref p1), .val (.ref b11), .val (.int (Int32.ofNat i)), .val (.ref zero), .val (.ref (bf i)), .val (.int (1 : Int32)), .val (.int (0 : Int32)), l8]) (by rcases ok7 with h_ | ⟨z_, h_⟩ | ⟨a_, h_⟩ <;> rw [h_] <;> rfl) k) ?_
        show own_G _ _ _ (T43.setTop (mkF m 41 #[.val (.ref p0), .val (.ref p1), .val (.ref b11), .val (.int (Int32.ofNat i)), .val (.ref zero), .val (.ref (bf i)), .val (.int (1 : Int32)), .val (.int (0 : Int32)), l8] [])) _ _ _ _
        refine own_go (fun _ k => XS.iload X43.here hx rfl (hb hby d9_41) rfl k) ?_
        show own_G _ _ _ (T43.setTop (mkF m 43 #[.val (.ref p0), .val (.ref p1), .val (.ref b11), .val (.int (Int32.ofNat i)), .val (.ref zero), .val (.ref (bf i)), .val (.int (1 : Int32)), .val (.int (0 : Int32)), l8] [(.int (0 : Int32))])) _ _ _ _
        refine own_go (fun _ k => XS.iload X43.here hx rfl (hb hby d9_43) rfl k) ?_
        show own_G _ _ _ (T43.setTop (mkF m 45 #[.val (.ref p0), .val (.ref p1), .val (.ref b11), .val (.int (Int32.ofNat i)), .val (.ref zero), .val (.ref (bf i)), .val (.int (1 : Int32)), .val (.int (0 : Int32)), l8] [(.int (1 : Int32)), (.int (0 : Int32))])) _ _ _ _
        have hc69 : (0 : Int32) < (1 : Int32) := (by decide)
        refine own_go (fun _ k => XS.icmpNo X43.here hx rfl (hb hby d9_45) rfl (tlt hc69).2.1 k) ?_
        show own_G _ _ _ (T43.setTop (mkF m 48 #[.val (.ref p0), .val (.ref p1), .val (.ref b11), .val (.int (Int32.ofNat i)), .val (.ref zero), .val (.ref (bf i)), .val (.int (1 : Int32)), .val (.int (0 : Int32)), l8] [])) _ _ _ _
        refine own_go (fun _ k => XS.aload X43.here hx rfl (hb hby d9_48) rfl rfl k) ?_
        show own_G _ _ _ (T43.setTop (mkF m 50 #[.val (.ref p0), .val (.ref p1), .val (.ref b11), .val (.int (Int32.ofNat i)), .val (.ref zero), .val (.ref (bf i)), .val (.int (1 : Int32)), .val (.int (0 : Int32)), l8] [(.ref (bf i))])) _ _ _ _
        refine own_go (fun _ k => XS.iload X43.here hx rfl (hb hby d9_50) rfl k) ?_
        show own_G _ _ _ (T43.setTop (mkF m 52 #[.val (.ref p0), .val (.ref p1), .val (.ref b11), .val (.int (Int32.ofNat i)), .val (.ref zero), .val (.ref (bf i)), .val (.int (1 : Int32)), .val (.int (0 : Int32)), l8] [(.int (0 : Int32)), (.ref (bf i))])) _ _ _ _
        obtain ⟨cl70, Ar70, q70, S70, Ng70, H70, G70⟩ := id Vb
        have in70 : ¬ ((0 : Int32) < 0 ∨ cl70.slots.size ≤ ((0 : Int32)).toNatClampNeg) := inb_of S70 ⟨by decide, by decide⟩
        have at70 : cl70.slots[((0 : Int32)).toNatClampNeg]? = some (.int (Int32.ofNat (i - 1))) := H70.at in70 rfl
        refine own_go (fun _ k => X43.iaload hx (j := (0 : Int32)) (v := (.int (Int32.ofNat (i - 1)))) (by rw [e43]; exact Ar70.1) (State.isArrayOf_alike hZ.alike Ar70.2.1) Ar70.2.2 in70 at70 (g := (mkF m 52 #[.val (.ref p0), .val (.ref p1), .val (.ref b11), .val (.int (Int32.ofNat i)), .val (.ref zero), .val (.ref (bf i)), .val (.int (1 : Int32)), .val (.int (0 : Int32)), l8] [(.int (0 : Int32)), (.ref (bf i))])) rfl rfl (hb hby d9_52) _ k) ?_
        show own_G _ _ _ (T43.setTop (mkF m 53 #[.val (.ref p0), .val (.ref p1), .val (.ref b11), .val (.int (Int32.ofNat i)), .val (.ref zero), .val (.ref (bf i)), .val (.int (1 : Int32)), .val (.int (0 : Int32)), l8] [(.int (Int32.ofNat (i - 1)))])) _ _ _ _
        refine own_go (fun _ k => XS.istore X43.here hx rfl (hb hby d9_53) rfl (l' := #[.val (.ref p0), .val (.ref p1), .val (.ref b11), .val (.int (Int32.ofNat i)), .val (.ref zero), .val (.ref (bf i)), .val (.int (1 : Int32)), .val (.int (0 : Int32)), .val (.int (Int32.ofNat (i - 1)))]) (by rcases ok8 with h_ | ⟨z_, h_⟩ | ⟨a_, h_⟩ <;> rw [h_] <;> rfl) k) ?_
        show own_G _ _ _ (T43.setTop (mkF m 55 #[.val (.ref p0), .val (.ref p1), .val (.ref b11), .val (.int (Int32.ofNat i)), .val (.ref zero), .val (.ref (bf i)), .val (.int (1 : Int32)), .val (.int (0 : Int32)), .val (.int (Int32.ofNat (i - 1)))] [])) _ _ _ _
        refine own_go (fun _ k => XS.aload X43.here hx rfl (hb hby d9_55) rfl rfl k) ?_
        show own_G _ _ _ (T43.setTop (mkF m 57 #[.val (.ref p0), .val (.ref p1), .val (.ref b11), .val (.int (Int32.ofNat i)), .val (.ref zero), .val (.ref (bf i)), .val (.int (1 : Int32)), .val (.int (0 : Int32)), .val (.int (Int32.ofNat (i - 1)))] [(.ref zero)])) _ _ _ _
        refine own_go (fun _ k => XS.aloadN X43.here hx rfl (hb hby d9_57) rfl rfl k) ?_
        show own_G _ _ _ (T43.setTop (mkF m 58 #[.val (.ref p0), .val (.ref p1), .val (.ref b11), .val (.int (Int32.ofNat i)), .val (.ref zero), .val (.ref (bf i)), .val (.int (1 : Int32)), .val (.int (0 : Int32)), .val (.int (Int32.ofNat (i - 1)))] [(.ref b11), (.ref zero)])) _ _ _ _
        refine own_go (fun _ k => XS.iload X43.here hx rfl (hb hby d9_58) rfl k) ?_
        show own_G _ _ _ (T43.setTop (mkF m 60 #[.val (.ref p0), .val (.ref p1), .val (.ref b11), .val (.int (Int32.ofNat i)), .val (.ref zero), .val (.ref (bf i)), .val (.int (1 : Int32)), .val (.int (0 : Int32)), .val (.int (Int32.ofNat (i - 1)))] [(.int (Int32.ofNat (i - 1))), (.ref b11), (.ref zero)])) _ _ _ _
        obtain ⟨cl71, Ar71, q71, S71, Ng71, H71, G71⟩ := id J16
        have in71 : ¬ ((Int32.ofNat (i - 1)) < 0 ∨ cl71.slots.size ≤ ((Int32.ofNat (i - 1))).toNatClampNeg) := inb_of S71 (own_inb (by omega) (by omega))
        have at71 : cl71.slots[((Int32.ofNat (i - 1))).toNatClampNeg]? = some (.ref (sf (i - 1))) := H71.at in71 (by rw [own_cl ((i - 1)) (by omega)]; exact own_fam_get _ _ _ _ _ (by omega) (by omega))
        refine own_go (fun _ k => X43.aaload hx (j := (Int32.ofNat (i - 1))) (v := (.ref (sf (i - 1)))) (by rw [e43]; exact Ar71.1) (State.isArrayOf_alike hZ.alike Ar71.2.1) rfl Ar71.2.2 in71 at71 (g := (mkF m 60 #[.val (.ref p0), .val (.ref p1), .val (.ref b11), .val (.int (Int32.ofNat i)), .val (.ref zero), .val (.ref (bf i)), .val (.int (1 : Int32)), .val (.int (0 : Int32)), .val (.int (Int32.ofNat (i - 1)))] [(.int (Int32.ofNat (i - 1))), (.ref b11), (.ref zero)])) rfl rfl (hb hby d9_60) _ k) ?_
        show own_G _ _ _ (T43.setTop (mkF m 61 #[.val (.ref p0), .val (.ref p1), .val (.ref b11), .val (.int (Int32.ofNat i)), .val (.ref zero), .val (.ref (bf i)), .val (.int (1 : Int32)), .val (.int (0 : Int32)), .val (.int (Int32.ofNat (i - 1)))] [(.ref (sf (i - 1))), (.ref zero)])) _ _ _ _
        have bq72 := J17 (i - 1) (by omega)
        have f73 : Exa Z hp (sf (i - 1)) "java/math/BigDecimal" := bq72.1
        have f74 : Fld Z hp (sf (i - 1)) "java/math/BigDecimal" "scale" "I" (.int (0 : Int32)) := bq72.2.1
        have f75 : Fld Z hp (sf (i - 1)) "java/math/BigDecimal" "intCompact" "J" (.long (Int64.ofNat (i - 1))) := bq72.2.2
        refine own_go (fun _ k => XS.aloadN X43.here hx rfl (hb hby d9_61) rfl rfl k) ?_
        show own_G _ _ _ (T43.setTop (mkF m 62 #[.val (.ref p0), .val (.ref p1), .val (.ref b11), .val (.int (Int32.ofNat i)), .val (.ref zero), .val (.ref (bf i)), .val (.int (1 : Int32)), .val (.int (0 : Int32)), .val (.int (Int32.ofNat (i - 1)))] [(.ref p0), (.ref (sf (i - 1))), (.ref zero)])) _ _ _ _
        refine own_go (fun _ k => XS.iload X43.here hx rfl (hb hby d9_62) rfl k) ?_
        show own_G _ _ _ (T43.setTop (mkF m 64 #[.val (.ref p0), .val (.ref p1), .val (.ref b11), .val (.int (Int32.ofNat i)), .val (.ref zero), .val (.ref (bf i)), .val (.int (1 : Int32)), .val (.int (0 : Int32)), .val (.int (Int32.ofNat (i - 1)))] [(.int (Int32.ofNat (i - 1))), (.ref p0), (.ref (sf (i - 1))), (.ref zero)])) _ _ _ _
        refine own_go (fun _ k => XS.aloadN X43.here hx rfl (hb hby d9_64) rfl rfl k) ?_
        show own_G _ _ _ (T43.setTop (mkF m 65 #[.val (.ref p0), .val (.ref p1), .val (.ref b11), .val (.int (Int32.ofNat i)), .val (.ref zero), .val (.ref (bf i)), .val (.int (1 : Int32)), .val (.int (0 : Int32)), .val (.int (Int32.ofNat (i - 1)))] [(.ref p1), (.int (Int32.ofNat (i - 1))), (.ref p0), (.ref (sf (i - 1))), (.ref zero)])) _ _ _ _
        obtain ⟨cq76, q76, q76'⟩ := J0.cell
        obtain ⟨_, _, ⟨T76, L76, k76, n76⟩, -, X76, ⟨Lc76, hQ76, l76, y76, z76⟩, st76⟩ := X43.privateBack hx (y := (⟨"com/example/slackline/slackline/Precedence", "time", "(ILjava/util/List;)Ljava/math/BigDecimal;"⟩ : MethodName)) hown (mvT hZ (hw _ (List.mem_of_getElem? (i := 99) rfl))) (mvT hZ (hw _ (List.mem_of_getElem? (i := 100) rfl))) (own_selp (mvT hZ (hw _ (List.mem_of_getElem? (i := 57) rfl))) rfl (Cond.privateMethod_at (mvP hZ (hw _ (List.mem_of_getElem? (i := 101) rfl)) (args := #[]))) (mvT hZ (hw _ (List.mem_of_getElem? (i := 100) rfl))) (by decide)) (Cond.privateMethod_at (mvP hZ (hw _ (List.mem_of_getElem? (i := 101) rfl)) (args := #[]))) (mvT hZ (hw _ (List.mem_of_getElem? (i := 102) rfl))) (by decide) (backOf (W := 2) (rm15 l Z a0 hw [] p0 p1 (i - 1) n one ta kt hp n0 Zp J1 H1 J2 J4 J7 J8 J9 (by omega) hn15) hZ (hw _ (List.mem_of_getElem? (i := 102) rfl)) (hw _ (List.mem_of_getElem? (i := 2) rfl)) (by decide) (by decide)) (g := (mkF m 65 #[.val (.ref p0), .val (.ref p1), .val (.ref b11), .val (.int (Int32.ofNat i)), .val (.ref zero), .val (.ref (bf i)), .val (.int (1 : Int32)), .val (.int (0 : Int32)), .val (.int (Int32.ofNat (i - 1)))] [(.ref p1), (.int (Int32.ofNat (i - 1))), (.ref p0), (.ref (sf (i - 1))), (.ref zero)])) rfl (by rw [hml]; rfl) (Steps.refl _) (a := p0) (by rw [e43]; exact q76) q76' (argsL := [(.int (Int32.ofNat (i - 1))), (.ref p1)]) (rest := [(.ref (sf (i - 1))), (.ref zero)]) (lenOf pd_12 rfl) rfl (by show 2 * 0 + _ ≤ _; exact Nat.le_of_eq rfl) (hb hby d9_65) (fun _ _ => ⟨rfl, e43, (by first | decide | omega | (dsimp only [Pt.cells, Pt.slots]; omega)), (by first | decide | omega | (dsimp only [Pt.cells, Pt.slots]; omega))⟩)
        dsimp only [Pt.U, Pt.locs, Pt.cells, Pt.slots] at X76 l76 y76 z76 st76 hQ76
        rw [l76] at X76
        subst y76 z76
        obtain ⟨rfl, Nq76, eh76⟩ := hQ76
        have N76 := Fr.app Nn Nq76
        refine own_tr st76 ?_
        show own_G _ _ _ (T76.setTop (mkF m 68 #[.val (.ref p0), .val (.ref p1), .val (.ref b11), .val (.int (Int32.ofNat i)), .val (.ref zero), .val (.ref (bf i)), .val (.int (1 : Int32)), .val (.int (0 : Int32)), .val (.int (Int32.ofNat (i - 1)))] [(.ref one), (.ref (sf (i - 1))), (.ref zero)])) _ _ _ _
        obtain ⟨cq77, kq77, q77a, q77b, q77c⟩ := isOf hZ eh76 f73
        obtain ⟨_, _, ⟨T77, L77, k77, n77⟩, -, X77, ⟨Lc77, hQ77, l77, y77, z77⟩, st77⟩ := X76.virtualBack hx (y := (⟨"java/math/BigDecimal", "add", "(Ljava/math/BigDecimal;)Ljava/math/BigDecimal;"⟩ : MethodName)) (z := (⟨"java/math/BigDecimal", "add", "(Ljava/math/BigDecimal;)Ljava/math/BigDecimal;"⟩ : MethodName)) hown (mvT hZ (hw _ (List.mem_of_getElem? (i := 120) rfl))) (mvT hZ (hw _ (List.mem_of_getElem? (i := 121) rfl))) (notFace_of_selects (args := #[]) (mvT hZ (hw _ (List.mem_of_getElem? (i := 123) rfl)))) (mvT hZ (hw _ (List.mem_of_getElem? (i := 123) rfl))) (mvT hZ (hw _ (List.mem_of_getElem? (i := 122) rfl))) (by decide) (backOf (W := 1) (rm19 l Z a0 hw [] (sf (i - 1)) one (i - 1) zt kz zz hp n0 Zp J1 P_ZS_java_math_BigDecimal_ZERO_THROUGH_TEN VZ HZZ (by omega) f74 f75 J14 J15) hZ (hw _ (List.mem_of_getElem? (i := 124) rfl)) (hw _ (List.mem_of_getElem? (i := 22) rfl)) (by decide) (by decide)) q77a q77c (g := (mkF m 68 #[.val (.ref p0), .val (.ref p1), .val (.ref b11), .val (.int (Int32.ofNat i)), .val (.ref zero), .val (.ref (bf i)), .val (.int (1 : Int32)), .val (.int (0 : Int32)), .val (.int (Int32.ofNat (i - 1)))] [(.ref one), (.ref (sf (i - 1))), (.ref zero)])) rfl (by rw [hml]; rfl) (Steps.refl _) (argsL := [(.ref one)]) (rest := [(.ref zero)]) (lenOf pd_13 rfl) rfl (by show 2 * 0 + _ ≤ _; exact Nat.le_of_eq rfl) (hb hby d9_68) (fun _ _ => ⟨rfl, eh76, (by first | decide | omega | (dsimp only [Pt.cells, Pt.slots]; omega)), (by first | decide | omega | (dsimp only [Pt.cells, Pt.slots]; omega))⟩)
        dsimp only [Pt.U, Pt.locs, Pt.cells, Pt.slots] at X77 l77 y77 z77 st77 hQ77
        rw [l77] at X77
        subst y77 z77
        obtain ⟨b77, rfl, Nq77, Kq77, r77_0, r77_1, r77_2⟩ := hQ77
        have N77 := Fr.app N76 Nq77
        have f78 : Exa Z T77.heap p0 "com/example/slackline/slackline/Precedence" := J0.keep Kq77
        have f79 : Old Z n0 T77.heap := J1.keep Kq77 all0
        have f80 : Fld Z T77.heap p0 "com/example/slackline/slackline/Precedence" "tasks" "[I" (.ref ta) := J2.keep Kq77 nin0
        have f81 : Fld Z T77.heap p0 "com/example/slackline/slackline/Precedence" "before" "[[I" (.ref be) := J3.keep Kq77 nin0
        have f82 : Arv Z T77.heap ta kt .int (Int32.ofNat n) (own_fam own_gi (.int 0) n n) (.int 0) := J4.keep Kq77 nin0
        have f83 : Arv Z T77.heap be kb (.array .int) (Int32.ofNat n) (own_fam (own_gr bf) .null n n) .null := J5.keep Kq77 nin0
        have f84 : own_Bef Z T77.heap bf n n1 := J6.keep Kq77 (fun _ _ => nin0)
        have f85 : Exa Z T77.heap p1 "java/util/Collections$CopiesList" := J7.keep Kq77
        have f86 : Fld Z T77.heap p1 "java/util/Collections$CopiesList" "n" "I" (.int (Int32.ofNat n)) := J8.keep Kq77 nin0
        have f87 : Fld Z T77.heap p1 "java/util/Collections$CopiesList" "element" "Ljava/lang/Object;" (.ref one) := J9.keep Kq77 nin0
        have f88 : Exa Z T77.heap zero "java/math/BigDecimal" := J10.keep Kq77
        have f89 : Fld Z T77.heap zero "java/math/BigDecimal" "scale" "I" (.int (0 : Int32)) := J11.keep Kq77 nin0
        have f90 : Fld Z T77.heap zero "java/math/BigDecimal" "intCompact" "J" (.long (Int64.ofNat 0)) := J12.keep Kq77 nin0
        have f91 : Exa Z T77.heap one "java/math/BigDecimal" := J13.keep Kq77
        have f92 : Fld Z T77.heap one "java/math/BigDecimal" "scale" "I" (.int (0 : Int32)) := J14.keep Kq77 nin0
        have f93 : Fld Z T77.heap one "java/math/BigDecimal" "intCompact" "J" (.long (1 : Int64)) := J15.keep Kq77 nin0
        have f94 : Arv Z T77.heap b11 k11 (.object "java/math/BigDecimal") (Int32.ofNat n) (own_fam (own_gr sf) .null n i) .null := J16.keep Kq77 nin0
        have f95 : own_BDs Z T77.heap sf i := J17.keep Kq77 (fun _ _ => nin0)
        have f96 : Arv Z T77.heap (bf i) kv .int (1 : Int32) [(.int (Int32.ofNat (i - 1)))] (.int 0) := Vb.keep Kq77 nin0
        have f97 : Exa Z T77.heap (sf (i - 1)) "java/math/BigDecimal" := f73.keep Kq77
        have f98 : Fld Z T77.heap (sf (i - 1)) "java/math/BigDecimal" "scale" "I" (.int (0 : Int32)) := f74.keep Kq77 nin0
        have f99 : Fld Z T77.heap (sf (i - 1)) "java/math/BigDecimal" "intCompact" "J" (.long (Int64.ofNat (i - 1))) := f75.keep Kq77 nin0
        have Zs77 : n0 ≤ T77.heap.size := Nat.le_trans Zp Kq77.1
        have K77_0 : Keep h0 T77.heap [] := Kp.trans Kq77 all0
        refine own_tr st77 ?_
        show own_G _ _ _ (T77.setTop (mkF m 71 #[.val (.ref p0), .val (.ref p1), .val (.ref b11), .val (.int (Int32.ofNat i)), .val (.ref zero), .val (.ref (bf i)), .val (.int (1 : Int32)), .val (.int (0 : Int32)), .val (.int (Int32.ofNat (i - 1)))] [(.ref b77), (.ref zero)])) _ _ _ _
        obtain ⟨cq100, kq100, q100a, q100b, q100c⟩ := isOf hZ rfl f88
        obtain ⟨_, _, ⟨T100, L100, k100, n100⟩, -, X100, ⟨Lc100, hQ100, l100, y100, z100⟩, st100⟩ := X77.virtualBack hx (y := (⟨"java/math/BigDecimal", "max", "(Ljava/math/BigDecimal;)Ljava/math/BigDecimal;"⟩ : MethodName)) (z := (⟨"java/math/BigDecimal", "max", "(Ljava/math/BigDecimal;)Ljava/math/BigDecimal;"⟩ : MethodName)) hown (mvT hZ (hw _ (List.mem_of_getElem? (i := 138) rfl))) (mvT hZ (hw _ (List.mem_of_getElem? (i := 139) rfl))) (notFace_of_selects (args := #[]) (mvT hZ (hw _ (List.mem_of_getElem? (i := 141) rfl)))) (mvT hZ (hw _ (List.mem_of_getElem? (i := 141) rfl))) (mvT hZ (hw _ (List.mem_of_getElem? (i := 140) rfl))) (by decide) (backOf (W := 0) (rm24 l Z a0 hw [] zero b77 0 (i - 1 + 1) T77.heap n0 Zs77 f88 f89 f90 r77_1 r77_2 (by omega) (by omega) (by omega)) hZ (hw _ (List.mem_of_getElem? (i := 142) rfl)) (hw _ (List.mem_of_getElem? (i := 22) rfl)) (by decide) (by decide)) q100a q100c (g := (mkF m 71 #[.val (.ref p0), .val (.ref p1), .val (.ref b11), .val (.int (Int32.ofNat i)), .val (.ref zero), .val (.ref (bf i)), .val (.int (1 : Int32)), .val (.int (0 : Int32)), .val (.int (Int32.ofNat (i - 1)))] [(.ref b77), (.ref zero)])) rfl (by rw [hml]; rfl) (Steps.refl _) (argsL := [(.ref b77)]) (rest := []) (lenOf pd_13 rfl) rfl (by show 2 * 0 + _ ≤ _; exact Nat.le_of_eq rfl) (hb hby d9_71) (fun _ _ => ⟨rfl, rfl, (by first | decide | omega | (dsimp only [Pt.cells, Pt.slots]; omega)), (by first | decide | omega | (dsimp only [Pt.cells, Pt.slots]; omega))⟩)
        dsimp only [Pt.U, Pt.locs, Pt.cells, Pt.slots] at X100 l100 y100 z100 st100 hQ100
        rw [l100] at X100
        subst y100 z100
        obtain ⟨rfl, Nq100, eh100⟩ := hQ100
        have N100 := Fr.app N77 Nq100
        refine own_tr st100 ?_
        show own_G _ _ _ (T100.setTop (mkF m 74 #[.val (.ref p0), .val (.ref p1), .val (.ref b11), .val (.int (Int32.ofNat i)), .val (.ref zero), .val (.ref (bf i)), .val (.int (1 : Int32)), .val (.int (0 : Int32)), .val (.int (Int32.ofNat (i - 1)))] [(.ref b77)])) _ _ _ _
        refine own_go (fun _ k => XS.astore X100.here hx rfl (hb hby d9_74) rfl rfl (l' := #[.val (.ref p0), .val (.ref p1), .val (.ref b11), .val (.int (Int32.ofNat i)), .val (.ref b77), .val (.ref (bf i)), .val (.int (1 : Int32)), .val (.int (0 : Int32)), .val (.int (Int32.ofNat (i - 1)))]) rfl k) ?_
        show own_G _ _ _ (T100.setTop (mkF m 76 #[.val (.ref p0), .val (.ref p1), .val (.ref b11), .val (.int (Int32.ofNat i)), .val (.ref b77), .val (.ref (bf i)), .val (.int (1 : Int32)), .val (.int (0 : Int32)), .val (.int (Int32.ofNat (i - 1)))] [])) _ _ _ _
        refine own_go (fun _ k => XS.iinc X100.here hx rfl (hb hby d9_76) rfl (l' := #[.val (.ref p0), .val (.ref p1), .val (.ref b11), .val (.int (Int32.ofNat i)), .val (.ref b77), .val (.ref (bf i)), .val (.int (1 : Int32)), .val (.int (1 : Int32)), .val (.int (Int32.ofNat (i - 1)))]) rfl k) ?_
        show own_G _ _ _ (T100.setTop (mkF m 79 #[.val (.ref p0), .val (.ref p1), .val (.ref b11), .val (.int (Int32.ofNat i)), .val (.ref b77), .val (.ref (bf i)), .val (.int (1 : Int32)), .val (.int (1 : Int32)), .val (.int (Int32.ofNat (i - 1)))] [])) _ _ _ _
        refine own_go (fun _ k => XS.goto X100.here hx rfl (pc0 := 79) (pc' := 41) rfl (hb hby d9_79) (by decide) (by decide) k) ?_
        show own_G _ _ _ (T100.setTop (mkF m 41 #[.val (.ref p0), .val (.ref p1), .val (.ref b11), .val (.int (Int32.ofNat i)), .val (.ref b77), .val (.ref (bf i)), .val (.int (1 : Int32)), .val (.int (1 : Int32)), .val (.int (Int32.ofNat (i - 1)))] [])) _ _ _ _
        refine own_go (fun _ k => XS.iload X100.here hx rfl (hb hby d9_41) rfl k) ?_
        show own_G _ _ _ (T100.setTop (mkF m 43 #[.val (.ref p0), .val (.ref p1), .val (.ref b11), .val (.int (Int32.ofNat i)), .val (.ref b77), .val (.ref (bf i)), .val (.int (1 : Int32)), .val (.int (1 : Int32)), .val (.int (Int32.ofNat (i - 1)))] [(.int (1 : Int32))])) _ _ _ _
        refine own_go (fun _ k => XS.iload X100.here hx rfl (hb hby d9_43) rfl k) ?_
        show own_G _ _ _ (T100.setTop (mkF m 45 #[.val (.ref p0), .val (.ref p1), .val (.ref b11), .val (.int (Int32.ofNat i)), .val (.ref b77), .val (.ref (bf i)), .val (.int (1 : Int32)), .val (.int (1 : Int32)), .val (.int (Int32.ofNat (i - 1)))] [(.int (1 : Int32)), (.int (1 : Int32))])) _ _ _ _
        have hc101 : ¬ ((1 : Int32) < (1 : Int32)) := (by decide)
        refine own_go (fun _ k => XS.icmpYes X100.here hx rfl (pc0 := 45) (pc' := 82) rfl (hb hby d9_45) rfl (flt hc101).2.1 (by decide) (by decide) k) ?_
        show own_G _ _ _ (T100.setTop (mkF m 82 #[.val (.ref p0), .val (.ref p1), .val (.ref b11), .val (.int (Int32.ofNat i)), .val (.ref b77), .val (.ref (bf i)), .val (.int (1 : Int32)), .val (.int (1 : Int32)), .val (.int (Int32.ofNat (i - 1)))] [])) _ _ _ _
        refine own_go (fun _ k => XS.aloadN X100.here hx rfl (hb hby d9_82) rfl rfl k) ?_
        show own_G _ _ _ (T100.setTop (mkF m 83 #[.val (.ref p0), .val (.ref p1), .val (.ref b11), .val (.int (Int32.ofNat i)), .val (.ref b77), .val (.ref (bf i)), .val (.int (1 : Int32)), .val (.int (1 : Int32)), .val (.int (Int32.ofNat (i - 1)))] [(.ref b11)])) _ _ _ _
        refine own_go (fun _ k => XS.iloadN X100.here hx rfl (hb hby d9_83) rfl k) ?_
        show own_G _ _ _ (T100.setTop (mkF m 84 #[.val (.ref p0), .val (.ref p1), .val (.ref b11), .val (.int (Int32.ofNat i)), .val (.ref b77), .val (.ref (bf i)), .val (.int (1 : Int32)), .val (.int (1 : Int32)), .val (.int (Int32.ofNat (i - 1)))] [(.int (Int32.ofNat i)), (.ref b11)])) _ _ _ _
        refine own_go (fun _ k => XS.aload X100.here hx rfl (hb hby d9_84) rfl rfl k) ?_
        show own_G _ _ _ (T100.setTop (mkF m 86 #[.val (.ref p0), .val (.ref p1), .val (.ref b11), .val (.int (Int32.ofNat i)), .val (.ref b77), .val (.ref (bf i)), .val (.int (1 : Int32)), .val (.int (1 : Int32)), .val (.int (Int32.ofNat (i - 1)))] [(.ref b77), (.int (Int32.ofNat i)), (.ref b11)])) _ _ _ _
        obtain ⟨cl102, Ar102, q102, S102, Ng102, H102, G102⟩ := id f94
        have in102 : ¬ ((Int32.ofNat i) < 0 ∨ cl102.slots.size ≤ ((Int32.ofNat i)).toNatClampNeg) := inb_of S102 (own_inb hin (by omega))
        obtain ⟨T102, h102, X102, e102, W102, st102⟩ := stR X100 hx hZ eh100 Ar102 (j := (Int32.ofNat i)) in102 rfl (Sto.ofV Ar102 q102 f35 (Ins.self r77_0)) (g := (mkF m 86 #[.val (.ref p0), .val (.ref p1), .val (.ref b11), .val (.int (Int32.ofNat i)), .val (.ref b77), .val (.ref (bf i)), .val (.int (1 : Int32)), .val (.int (1 : Int32)), .val (.int (Int32.ofNat (i - 1)))] [(.ref b77), (.int (Int32.ofNat i)), (.ref b11)])) rfl rfl (hb hby d9_86)
        have N102 := Fr.snoc X102 N100 gg11
        have Zs102 : n0 ≤ h102.size := Nat.le_trans Zs77 (Keep.of_wr W102).1
        have K102_0 : Keep h0 h102 [] := K77_0.wr W102 (Or.inr sz11_0)
        have f103 : Exa Z h102 p0 "com/example/slackline/slackline/Precedence" := f78.wr W102
        have f104 : Old Z n0 h102 := f79.wr W102 gg11
        have f105 : Fld Z h102 p0 "com/example/slackline/slackline/Precedence" "tasks" "[I" (.ref ta) := f80.other W102 (Or.inl ne12)
        have f106 : Fld Z h102 p0 "com/example/slackline/slackline/Precedence" "before" "[[I" (.ref be) := f81.other W102 (Or.inl ne12)
        have f107 : Arv Z h102 ta kt .int (Int32.ofNat n) (own_fam own_gi (.int 0) n n) (.int 0) := f82.other W102 ne13
        have f108 : Arv Z h102 be kb (.array .int) (Int32.ofNat n) (own_fam (own_gr bf) .null n n) .null := f83.other W102 ne14
        have f109 : own_Bef Z h102 bf n n1 := f84.wr W102 gn15
        have f110 : Exa Z h102 p1 "java/util/Collections$CopiesList" := f85.wr W102
        have f111 : Fld Z h102 p1 "java/util/Collections$CopiesList" "n" "I" (.int (Int32.ofNat n)) := f86.other W102 (Or.inl ne16)
        have f112 : Fld Z h102 p1 "java/util/Collections$CopiesList" "element" "Ljava/lang/Object;" (.ref one) := f87.other W102 (Or.inl ne16)
        have f113 : Exa Z h102 zero "java/math/BigDecimal" := f88.wr W102
        have f114 : Fld Z h102 zero "java/math/BigDecimal" "scale" "I" (.int (0 : Int32)) := f89.other W102 (Or.inl ne17)
        have f115 : Fld Z h102 zero "java/math/BigDecimal" "intCompact" "J" (.long (Int64.ofNat 0)) := f90.other W102 (Or.inl ne17)
        have f116 : Exa Z h102 one "java/math/BigDecimal" := f91.wr W102
        have f117 : Fld Z h102 one "java/math/BigDecimal" "scale" "I" (.int (0 : Int32)) := f92.other W102 (Or.inl ne18)
        have f118 : Fld Z h102 one "java/math/BigDecimal" "intCompact" "J" (.long (1 : Int64)) := f93.other W102 (Or.inl ne18)
        have f119 : own_BDs Z h102 sf i := f95.wr W102 (fun j hj => by obtain ⟨c_, A_, -⟩ := f94; exact ne_arr (f95 j hj).1 (hw _ (List.mem_of_getElem? (i := 145) rfl)) A_)
        have f120 : Exa Z h102 (sf (i - 1)) "java/math/BigDecimal" := f97.wr W102
        have f121 : Fld Z h102 (sf (i - 1)) "java/math/BigDecimal" "scale" "I" (.int (0 : Int32)) := f98.other W102 (Or.inl (by obtain ⟨c_, A_, -⟩ := f94; exact ne_arr f97 (hw _ (List.mem_of_getElem? (i := 145) rfl)) A_))
        have f122 : Fld Z h102 (sf (i - 1)) "java/math/BigDecimal" "intCompact" "J" (.long (Int64.ofNat (i - 1))) := f99.other W102 (Or.inl (by obtain ⟨c_, A_, -⟩ := f94; exact ne_arr f97 (hw _ (List.mem_of_getElem? (i := 145) rfl)) A_))
        have f123 : Exa Z h102 b77 "java/math/BigDecimal" := r77_0.wr W102
        have f124 : Fld Z h102 b77 "java/math/BigDecimal" "scale" "I" (.int (0 : Int32)) := r77_1.other W102 (Or.inl (by obtain ⟨c_, A_, -⟩ := f94; exact ne_arr r77_0 (hw _ (List.mem_of_getElem? (i := 145) rfl)) A_))
        have f125 : Fld Z h102 b77 "java/math/BigDecimal" "intCompact" "J" (.long (Int64.ofNat ((i - 1) + 1))) := r77_2.other W102 (Or.inl (by obtain ⟨c_, A_, -⟩ := f94; exact ne_arr r77_0 (hw _ (List.mem_of_getElem? (i := 145) rfl)) A_))
        have f126 : Arv Z h102 b11 k11 (.object "java/math/BigDecimal") (Int32.ofNat n) (own_fam (own_gr (fun j => if j = i then b77 else sf j)) .null n (i + 1)) .null := (by have q := Arv.set Ar102 q102 S102 Ng102 H102 G102 rfl W102 i (own_cl i (by omega)) (by rw [own_fam_len]; exact hin); rw [own_gr_set] at q; exact q)
        refine own_go (fun _ k => st102 _ k) ?_
        show own_G _ _ _ (T102.setTop (mkF m 87 #[.val (.ref p0), .val (.ref p1), .val (.ref b11), .val (.int (Int32.ofNat i)), .val (.ref b77), .val (.ref (bf i)), .val (.int (1 : Int32)), .val (.int (1 : Int32)), .val (.int (Int32.ofNat (i - 1)))] [])) _ _ _ _
        have bz127 : own_BD Z h102 b77 (Int64.ofNat i) := by have q : own_BD Z h102 b77 (Int64.ofNat (i - 1 + 1)) := ⟨f123, f124, f125⟩; rw [Nat.sub_add_cancel hi0] at q; exact q
        have f128 : own_BDs Z h102 (fun j => if j = i then b77 else sf j) (i + 1) := own_BDs.snoc f119 bz127
        refine own_go (fun _ k => XS.iinc X102.here hx rfl (hb hby d9_87) rfl (l' := #[.val (.ref p0), .val (.ref p1), .val (.ref b11), .val (.int ((Int32.ofNat i) + (1 : Int32))), .val (.ref b77), .val (.ref (bf i)), .val (.int (1 : Int32)), .val (.int (1 : Int32)), .val (.int (Int32.ofNat (i - 1)))]) rfl k) ?_
        rw [own_inc i]
        show own_G _ _ _ (T102.setTop (mkF m 90 #[.val (.ref p0), .val (.ref p1), .val (.ref b11), .val (.int (Int32.ofNat (i + 1))), .val (.ref b77), .val (.ref (bf i)), .val (.int (1 : Int32)), .val (.int (1 : Int32)), .val (.int (Int32.ofNat (i - 1)))] [])) _ _ _ _
        refine own_go (fun _ k => XS.goto X102.here hx rfl (pc0 := 90) (pc' := 11) rfl (hb hby d9_90) (by decide) (by decide) k) ?_
        show own_G _ _ _ (T102.setTop (mkF m 11 #[.val (.ref p0), .val (.ref p1), .val (.ref b11), .val (.int (Int32.ofNat (i + 1))), .val (.ref b77), .val (.ref (bf i)), .val (.int (1 : Int32)), .val (.int (1 : Int32)), .val (.int (Int32.ofNat (i - 1)))] [])) _ _ _ _
        exact ih (i + 1) (by omega) _ _ _ _ _ (fun j => if j = i then b77 else sf j) (.val (.ref b77)) (.val (.ref (bf i))) (.val (.int (1 : Int32))) (.val (.int (1 : Int32))) (.val (.int (Int32.ofNat (i - 1)))) (Or.inr (Or.inr ⟨_, rfl⟩)) (Or.inr (Or.inr ⟨_, rfl⟩)) (Or.inr (Or.inl ⟨_, rfl⟩)) (Or.inr (Or.inl ⟨_, rfl⟩)) (Or.inr (Or.inl ⟨_, rfl⟩)) X102 e102 N102 Zs102 K102_0 (by omega) (by omega) f103 f104 f105 f106 f107 f108 f109 f110 f111 f112 f113 f114 f115 f116 f117 f118 f126 f128
  exact loop n 0 (by omega) _ _ _ _ _ (fun _ => p0) .unset .unset .unset .unset .unset (Or.inl rfl) (Or.inl rfl) (Or.inl rfl) (Or.inl rfl) (Or.inl rfl) X11 e11 N0 Zs11 K11_0 (by omega) (by omega) f19 f20 f21 f22 f23 f24 f25 f26 f27 f28 f29 f30 f31 f32 f33 f34 f37 f38
theorem d8_0 : decode prog_10_method_12_code 0 = .ok (.aload_n 0, 1) := by decide +kernel
theorem d8_1 : decode prog_10_method_12_code 1 = .ok (.aload_n 1, 1) := by decide +kernel
theorem d8_2 : decode prog_10_method_12_code 2 = .ok (.invokevirtual 98, 3) := by decide +kernel
theorem d8_5 : decode prog_10_method_12_code 5 = .ok (.astore_n 2, 1) := by decide +kernel
theorem d8_6 : decode prog_10_method_12_code 6 = .ok (.getstatic 102, 3) := by decide +kernel
theorem d8_9 : decode prog_10_method_12_code 9 = .ok (.astore_n 3, 1) := by decide +kernel
theorem d8_10 : decode prog_10_method_12_code 10 = .ok (.iconst 0, 1) := by decide +kernel
theorem d8_11 : decode prog_10_method_12_code 11 = .ok (.istore 4, 2) := by decide +kernel
theorem d8_13 : decode prog_10_method_12_code 13 = .ok (.iload 4, 2) := by decide +kernel
theorem d8_15 : decode prog_10_method_12_code 15 = .ok (.aload_n 0, 1) := by decide +kernel
theorem d8_16 : decode prog_10_method_12_code 16 = .ok (.getfield 7, 3) := by decide +kernel
theorem d8_19 : decode prog_10_method_12_code 19 = .ok (.arraylength, 1) := by decide +kernel
theorem d8_20 : decode prog_10_method_12_code 20 = .ok (.if_icmp .ge 28, 3) := by decide +kernel
theorem d8_23 : decode prog_10_method_12_code 23 = .ok (.aload_n 3, 1) := by decide +kernel
theorem d8_24 : decode prog_10_method_12_code 24 = .ok (.aload_n 2, 1) := by decide +kernel
theorem d8_25 : decode prog_10_method_12_code 25 = .ok (.iload 4, 2) := by decide +kernel
theorem d8_27 : decode prog_10_method_12_code 27 = .ok (.aaload, 1) := by decide +kernel
theorem d8_28 : decode prog_10_method_12_code 28 = .ok (.aload_n 0, 1) := by decide +kernel
theorem d8_29 : decode prog_10_method_12_code 29 = .ok (.iload 4, 2) := by decide +kernel
theorem d8_31 : decode prog_10_method_12_code 31 = .ok (.aload_n 1, 1) := by decide +kernel
theorem d8_32 : decode prog_10_method_12_code 32 = .ok (.invokevirtual 105, 3) := by decide +kernel
theorem d8_35 : decode prog_10_method_12_code 35 = .ok (.invokevirtual 109, 3) := by decide +kernel
theorem d8_38 : decode prog_10_method_12_code 38 = .ok (.invokevirtual 112, 3) := by decide +kernel
theorem d8_41 : decode prog_10_method_12_code 41 = .ok (.astore_n 3, 1) := by decide +kernel
theorem d8_42 : decode prog_10_method_12_code 42 = .ok (.iinc 4 1, 3) := by decide +kernel
theorem d8_45 : decode prog_10_method_12_code 45 = .ok (.goto (-32), 3) := by decide +kernel
theorem d8_48 : decode prog_10_method_12_code 48 = .ok (.aload_n 3, 1) := by decide +kernel
theorem d8_49 : decode prog_10_method_12_code 49 = .ok (.areturn, 1) := by decide +kernel
theorem pd_14 : parseMethodDescriptor "(Ljava/util/List;)[Ljava/math/BigDecimal;" = some ⟨[(.object "java/util/List")], some (.array (.object "java/math/BigDecimal"))⟩ := by decide +kernel
theorem ef_8 (m : MethodId) (p0 : Addr) (p1 : Addr) : entryFrame m #[(.ref p0), (.ref p1)] 5 = mkF m 0 #[.val (.ref p0), .val (.ref p1), .unset, .unset, .unset] [] := by first | (simp [entryFrame, mkF, argsToLocals, Value.category]; done) | rfl
def Q8 (Z : State) (p0 : Addr) (p1 : Addr) (zt : Addr) (kz : ClassId) (zz : Nat → Addr) (zero : Addr) (one : Addr) (ta : Addr) (kt : ClassId) (be : Addr) (kb : ClassId) (bf : Nat → Addr) (n : Nat) (n1 : Nat) (h0 : Heap) (n0 : Nat) (v : Option Value) (h : Heap) (L : List Loc) : Prop := ∃ (b : Addr), v = some (.ref b) ∧ Fr n0 L ∧ Keep h0 h [] ∧ Exa Z h b "java/math/BigDecimal" ∧ Fld Z h b "java/math/BigDecimal" "scale" "I" (.int (0 : Int32)) ∧ Fld Z h b "java/math/BigDecimal" "intCompact" "J" (.long (Int64.ofNat n))
set_option maxRecDepth 65536 in
set_option maxHeartbeats 40000000 in
theorem rm8 (l : Launch) (Z : State) (a0 : Array Value) (hw : ∀ d ∈ tables_1, d.before a0 Z = true) (ws : List Jvm.Cond) (p0 : Addr) (p1 : Addr) (zt : Addr) (kz : ClassId) (zz : Nat → Addr) (zero : Addr) (one : Addr) (ta : Addr) (kt : ClassId) (be : Addr) (kb : ClassId) (bf : Nat → Addr) (n : Nat) (n1 : Nat) (h0 : Heap) (n0 : Nat) (Z0 : n0 ≤ h0.size) (P_E_p0 : Exa Z h0 p0 "com/example/slackline/slackline/Precedence") (P_Old : Old Z n0 h0) (P_ZS_java_math_BigDecimal_ZERO_THROUGH_TEN : Sta Z Z.heap "java/math/BigDecimal" "ZERO_THROUGH_TEN" "[Ljava/math/BigDecimal;" (.ref zt)) (VZ : Arv Z Z.heap zt kz (.object "java/math/BigDecimal") (11 : Int32) (own_fam (own_gr zz) .null 11 11) .null) (HZZ : own_BDs Z Z.heap zz 11) (P_ZS_java_math_BigDecimal_ZERO : Sta Z Z.heap "java/math/BigDecimal" "ZERO" "Ljava/math/BigDecimal;" (.ref zero)) (H0 : own_BD Z Z.heap zero (Int64.ofNat 0)) (H1 : own_BD Z Z.heap one (1 : Int64)) (P_F_p0_tasks : Fld Z h0 p0 "com/example/slackline/slackline/Precedence" "tasks" "[I" (.ref ta)) (P_F_p0_before : Fld Z h0 p0 "com/example/slackline/slackline/Precedence" "before" "[[I" (.ref be)) (P_V_ta : Arv Z h0 ta kt .int (Int32.ofNat n) (own_fam own_gi (.int 0) n n) (.int 0)) (P_V_be : Arv Z h0 be kb (.array .int) (Int32.ofNat n) (own_fam (own_gr bf) .null n n) .null) (P_G_B : own_Bef Z h0 bf n n1) (P_E_p1 : Exa Z h0 p1 "java/util/Collections$CopiesList") (P_F_p1_n : Fld Z h0 p1 "java/util/Collections$CopiesList" "n" "I" (.int (Int32.ofNat n))) (P_F_p1_element : Fld Z h0 p1 "java/util/Collections$CopiesList" "element" "Ljava/lang/Object;" (.ref one)) (hn15 : n ≤ 15) :
    MetFree l (⟨"com/example/slackline/slackline/Precedence", "length", "(Ljava/util/List;)Ljava/math/BigDecimal;"⟩ : MethodName) (head1 (Jvm.Cond.code (⟨"com/example/slackline/slackline/Precedence", "length", "(Ljava/util/List;)Ljava/math/BigDecimal;"⟩ : MethodName) prog_10_method_12_code 5 (some (.object "java/math/BigDecimal")) :: ws) ({ frames := 9, cells := 31, slots := 165, locals := 144 } : Room)) (fun a U => a = #[(.ref p0), (.ref p1)] ∧ Z.Warmed39 U.vm ∧ U.heap = h0) (fun _ _ _ _ _ => True) (fun _ U o U' => ∃ v L, o = .returned v ∧ (Q8 Z p0 p1 zt kz zz zero one ta kt be kb bf n n1 h0 n0) v U'.heap L ∧ FrameEnd U o U' L ({ frames := 9, cells := 31, slots := 165, locals := 144 } : Room).cells ({ frames := 9, cells := 31, slots := 165, locals := 144 } : Room).slots) := by
  refine MetFree.of_bodySF (plainFor_of_name pn_8) hisR ?_
  intro p e s m args below meth c s₁ Bd hml0 hP hK
  obtain ⟨rfl, hZ, hh⟩ := hP
  have hx := Bd.exec
  have hby := Bd.bytes
  have hml : c.maxLocals = 5 := hml0
  have hown : s.vm.findClass "com/example/slackline/slackline/Precedence" = some m.cls := findClass_of_methodNamed Bd.named
  have hnm := (name_of_methodNamed Bd.named Bd.method).1
  have hlk : meth.locks = false := BodyLoose.notSynchronized Bd
  have X0 : Stand p l e ({ frames := 9, cells := 31, slots := 165, locals := 144 } : Room) s m #[(.ref p0), (.ref p1)] below meth c s₁ [] 0 0 := Stand.of_body Bd
  have e0 : s₁.heap = h0 := by rw [← hh, Bd.state]; rfl
  have N0 := Fr.nil n0
  have K0 : Keep h0 h0 [] := Keep.refl h0 []
  show own_G p.tables e below (s₁.setTop (entryFrame m #[(.ref p0), (.ref p1)] 5)) s ({ frames := 9, cells := 31, slots := 165, locals := 144 } : Room).cells ({ frames := 9, cells := 31, slots := 165, locals := 144 } : Room).slots (Q8 Z p0 p1 zt kz zz zero one ta kt be kb bf n n1 h0 n0)
  refine own_go (fun _ k => castTop (ef_8 m p0 p1) k) ?_
  show own_G _ _ _ (s₁.setTop (mkF m 0 #[.val (.ref p0), .val (.ref p1), .unset, .unset, .unset] [])) _ _ _ _
  have bq1 := own_BD.ext (H0) P_Old.2
  have f2 : Exa Z h0 zero "java/math/BigDecimal" := bq1.1
  have f3 : Fld Z h0 zero "java/math/BigDecimal" "scale" "I" (.int (0 : Int32)) := bq1.2.1
  have f4 : Fld Z h0 zero "java/math/BigDecimal" "intCompact" "J" (.long (Int64.ofNat 0)) := bq1.2.2
  have bq5 := own_BD.ext (H1) P_Old.2
  have f6 : Exa Z h0 one "java/math/BigDecimal" := bq5.1
  have f7 : Fld Z h0 one "java/math/BigDecimal" "scale" "I" (.int (0 : Int32)) := bq5.2.1
  have f8 : Fld Z h0 one "java/math/BigDecimal" "intCompact" "J" (.long (1 : Int64)) := bq5.2.2
  refine own_go (fun _ k => XS.aloadN X0.here hx rfl (hb hby d8_0) rfl rfl k) ?_
  show own_G _ _ _ (s₁.setTop (mkF m 1 #[.val (.ref p0), .val (.ref p1), .unset, .unset, .unset] [(.ref p0)])) _ _ _ _
  refine own_go (fun _ k => XS.aloadN X0.here hx rfl (hb hby d8_1) rfl rfl k) ?_
  show own_G _ _ _ (s₁.setTop (mkF m 2 #[.val (.ref p0), .val (.ref p1), .unset, .unset, .unset] [(.ref p1), (.ref p0)])) _ _ _ _
  obtain ⟨cq9, q9, q9'⟩ := P_E_p0.cell
  obtain ⟨_, _, ⟨T9, L9, k9, n9⟩, -, X9, ⟨Lc9, hQ9, l9, y9, z9⟩, st9⟩ := X0.privateBack hx (y := (⟨"com/example/slackline/slackline/Precedence", "starts", "(Ljava/util/List;)[Ljava/math/BigDecimal;"⟩ : MethodName)) hown (mvT hZ (hw _ (List.mem_of_getElem? (i := 59) rfl))) (mvT hZ (hw _ (List.mem_of_getElem? (i := 60) rfl))) (own_selp (mvT hZ (hw _ (List.mem_of_getElem? (i := 57) rfl))) rfl (Cond.privateMethod_at (mvP hZ (hw _ (List.mem_of_getElem? (i := 61) rfl)) (args := #[]))) (mvT hZ (hw _ (List.mem_of_getElem? (i := 60) rfl))) (by decide)) (Cond.privateMethod_at (mvP hZ (hw _ (List.mem_of_getElem? (i := 61) rfl)) (args := #[]))) (mvT hZ (hw _ (List.mem_of_getElem? (i := 62) rfl))) (by decide) (backOf (W := 0) (rm9 l Z a0 hw [] p0 p1 zt kz zz zero one ta kt be kb bf n n1 h0 n0 Z0 P_E_p0 P_Old P_ZS_java_math_BigDecimal_ZERO_THROUGH_TEN VZ HZZ P_ZS_java_math_BigDecimal_ZERO H0 H1 P_F_p0_tasks P_F_p0_before P_V_ta P_V_be P_G_B P_E_p1 P_F_p1_n P_F_p1_element hn15) hZ (hw _ (List.mem_of_getElem? (i := 62) rfl)) (hw _ (List.mem_of_getElem? (i := 2) rfl)) (by decide) (by decide)) (g := (mkF m 2 #[.val (.ref p0), .val (.ref p1), .unset, .unset, .unset] [(.ref p1), (.ref p0)])) rfl (by rw [hml]; rfl) (Steps.refl _) (a := p0) (by rw [e0]; exact q9) q9' (argsL := [(.ref p1)]) (rest := []) (lenOf pd_14 rfl) rfl (by show 2 * 0 + _ ≤ _; exact Nat.le_of_eq rfl) (hb hby d8_2) (fun _ _ => ⟨rfl, e0, (by decide : 0 + 16 ≤ _), (by decide : 0 + 90 ≤ _)⟩)
  dsimp only [Pt.U, Pt.locs, Pt.cells, Pt.slots] at X9 l9 y9 z9 st9 hQ9
  rw [l9] at X9
  subst y9 z9
  obtain ⟨sa9, ks9, sf9, rfl, Nq9, Kq9, r9_0, r9_1⟩ := hQ9
  have N9 := Fr.app N0 Nq9
  have f10 : Exa Z T9.heap p0 "com/example/slackline/slackline/Precedence" := P_E_p0.keep Kq9
  have f11 : Old Z n0 T9.heap := P_Old.keep Kq9 all0
  have f12 : Fld Z T9.heap p0 "com/example/slackline/slackline/Precedence" "tasks" "[I" (.ref ta) := P_F_p0_tasks.keep Kq9 nin0
  have f13 : Fld Z T9.heap p0 "com/example/slackline/slackline/Precedence" "before" "[[I" (.ref be) := P_F_p0_before.keep Kq9 nin0
  have f14 : Arv Z T9.heap ta kt .int (Int32.ofNat n) (own_fam own_gi (.int 0) n n) (.int 0) := P_V_ta.keep Kq9 nin0
  have f15 : Arv Z T9.heap be kb (.array .int) (Int32.ofNat n) (own_fam (own_gr bf) .null n n) .null := P_V_be.keep Kq9 nin0
  have f16 : own_Bef Z T9.heap bf n n1 := P_G_B.keep Kq9 (fun _ _ => nin0)
  have f17 : Exa Z T9.heap p1 "java/util/Collections$CopiesList" := P_E_p1.keep Kq9
  have f18 : Fld Z T9.heap p1 "java/util/Collections$CopiesList" "n" "I" (.int (Int32.ofNat n)) := P_F_p1_n.keep Kq9 nin0
  have f19 : Fld Z T9.heap p1 "java/util/Collections$CopiesList" "element" "Ljava/lang/Object;" (.ref one) := P_F_p1_element.keep Kq9 nin0
  have f20 : Exa Z T9.heap zero "java/math/BigDecimal" := f2.keep Kq9
  have f21 : Fld Z T9.heap zero "java/math/BigDecimal" "scale" "I" (.int (0 : Int32)) := f3.keep Kq9 nin0
  have f22 : Fld Z T9.heap zero "java/math/BigDecimal" "intCompact" "J" (.long (Int64.ofNat 0)) := f4.keep Kq9 nin0
  have f23 : Exa Z T9.heap one "java/math/BigDecimal" := f6.keep Kq9
  have f24 : Fld Z T9.heap one "java/math/BigDecimal" "scale" "I" (.int (0 : Int32)) := f7.keep Kq9 nin0
  have f25 : Fld Z T9.heap one "java/math/BigDecimal" "intCompact" "J" (.long (1 : Int64)) := f8.keep Kq9 nin0
  have Zs9 : n0 ≤ T9.heap.size := Nat.le_trans Z0 Kq9.1
  have K9_0 : Keep h0 T9.heap [] := K0.trans Kq9 all0
  refine own_tr st9 ?_
  show own_G _ _ _ (T9.setTop (mkF m 5 #[.val (.ref p0), .val (.ref p1), .unset, .unset, .unset] [(.ref sa9)])) _ _ _ _
  refine own_go (fun _ k => XS.astoreN X9.here hx rfl (hb hby d8_5) rfl rfl (l' := #[.val (.ref p0), .val (.ref p1), .val (.ref sa9), .unset, .unset]) rfl k) ?_
  show own_G _ _ _ (T9.setTop (mkF m 6 #[.val (.ref p0), .val (.ref p1), .val (.ref sa9), .unset, .unset] [])) _ _ _ _
  obtain ⟨T26, X26, e26, st26⟩ := getS2 X9 hx hZ hown (host := "") (Or.inl (hw _ (List.mem_of_getElem? (i := 65) rfl))) Via.refl rfl (P_ZS_java_math_BigDecimal_ZERO.ext f11.2) (g := (mkF m 6 #[.val (.ref p0), .val (.ref p1), .val (.ref sa9), .unset, .unset] [])) rfl (hb hby d8_6)
  refine own_go (fun _ k => st26 _ k) ?_
  show own_G _ _ _ (T26.setTop (mkF m 9 #[.val (.ref p0), .val (.ref p1), .val (.ref sa9), .unset, .unset] [(.ref zero)])) _ _ _ _
  refine own_go (fun _ k => XS.astoreN X26.here hx rfl (hb hby d8_9) rfl rfl (l' := #[.val (.ref p0), .val (.ref p1), .val (.ref sa9), .val (.ref zero), .unset]) rfl k) ?_
  show own_G _ _ _ (T26.setTop (mkF m 10 #[.val (.ref p0), .val (.ref p1), .val (.ref sa9), .val (.ref zero), .unset] [])) _ _ _ _
  refine own_go (fun _ k => XS.iconst X26.here hx rfl (hb hby d8_10) k) ?_
  show own_G _ _ _ (T26.setTop (mkF m 11 #[.val (.ref p0), .val (.ref p1), .val (.ref sa9), .val (.ref zero), .unset] [(.int (0 : Int32))])) _ _ _ _
  refine own_go (fun _ k => XS.istore X26.here hx rfl (hb hby d8_11) rfl (l' := #[.val (.ref p0), .val (.ref p1), .val (.ref sa9), .val (.ref zero), .val (.int (0 : Int32))]) rfl k) ?_
  show own_G _ _ _ (T26.setTop (mkF m 13 #[.val (.ref p0), .val (.ref p1), .val (.ref sa9), .val (.ref zero), .val (.int (0 : Int32))] [])) _ _ _ _
  have loop : ∀ (f i : Nat) (hif : i + f = n) (T : State) (Lc : List Loc) (hp : Heap) (cz sz : Nat) (acc : Addr) (X : Stand p l e ({ frames := 9, cells := 31, slots := 165, locals := 144 } : Room) s m #[(.ref p0), (.ref p1)] below meth c T Lc cz sz) (eT : T.heap = hp) (Nn : Fr n0 Lc) (Zp : n0 ≤ hp.size) (Kp : Keep h0 hp []) (hcz : cz + f * 1 + 0 ≤ 31) (hsz : sz + f * 5 + 0 ≤ 165) (J0 : Exa Z hp p0 "com/example/slackline/slackline/Precedence") (J1 : Old Z n0 hp) (J2 : Fld Z hp p0 "com/example/slackline/slackline/Precedence" "tasks" "[I" (.ref ta)) (J3 : Fld Z hp p0 "com/example/slackline/slackline/Precedence" "before" "[[I" (.ref be)) (J4 : Arv Z hp ta kt .int (Int32.ofNat n) (own_fam own_gi (.int 0) n n) (.int 0)) (J5 : Arv Z hp be kb (.array .int) (Int32.ofNat n) (own_fam (own_gr bf) .null n n) .null) (J6 : own_Bef Z hp bf n n1) (J7 : Exa Z hp p1 "java/util/Collections$CopiesList") (J8 : Fld Z hp p1 "java/util/Collections$CopiesList" "n" "I" (.int (Int32.ofNat n))) (J9 : Fld Z hp p1 "java/util/Collections$CopiesList" "element" "Ljava/lang/Object;" (.ref one)) (J10 : Exa Z hp zero "java/math/BigDecimal") (J11 : Fld Z hp zero "java/math/BigDecimal" "scale" "I" (.int (0 : Int32))) (J12 : Fld Z hp zero "java/math/BigDecimal" "intCompact" "J" (.long (Int64.ofNat 0))) (J13 : Exa Z hp one "java/math/BigDecimal") (J14 : Fld Z hp one "java/math/BigDecimal" "scale" "I" (.int (0 : Int32))) (J15 : Fld Z hp one "java/math/BigDecimal" "intCompact" "J" (.long (1 : Int64))) (J16 : Arv Z hp sa9 ks9 (.object "java/math/BigDecimal") (Int32.ofNat n) (own_fam (own_gr sf9) .null n n) .null) (J17 : own_BDs Z hp sf9 n) (J18 : Exa Z hp acc "java/math/BigDecimal") (J19 : Fld Z hp acc "java/math/BigDecimal" "scale" "I" (.int (0 : Int32))) (J20 : Fld Z hp acc "java/math/BigDecimal" "intCompact" "J" (.long (Int64.ofNat i))), own_G p.tables e below (T.setTop (mkF m 13 #[.val (.ref p0), .val (.ref p1), .val (.ref sa9), .val (.ref acc), .val (.int (Int32.ofNat i))] [])) s ({ frames := 9, cells := 31, slots := 165, locals := 144 } : Room).cells ({ frames := 9, cells := 31, slots := 165, locals := 144 } : Room).slots (Q8 Z p0 p1 zt kz zz zero one ta kt be kb bf n n1 h0 n0) := by
    intro f
    induction f with
    | zero =>
      intro i hif T Lc hp cz sz acc X eT Nn Zp Kp hcz hsz J0 J1 J2 J3 J4 J5 J6 J7 J8 J9 J10 J11 J12 J13 J14 J15 J16 J17 J18 J19 J20
      have hin : n = i := by omega
      subst hin
      refine own_go (fun _ k => XS.iload X.here hx rfl (hb hby d8_13) rfl k) ?_
      show own_G _ _ _ (T.setTop (mkF m 15 #[.val (.ref p0), .val (.ref p1), .val (.ref sa9), .val (.ref acc), .val (.int (Int32.ofNat n))] [(.int (Int32.ofNat n))])) _ _ _ _
      refine own_go (fun _ k => XS.aloadN X.here hx rfl (hb hby d8_15) rfl rfl k) ?_
      show own_G _ _ _ (T.setTop (mkF m 16 #[.val (.ref p0), .val (.ref p1), .val (.ref sa9), .val (.ref acc), .val (.int (Int32.ofNat n))] [(.ref p0), (.int (Int32.ofNat n))])) _ _ _ _
      obtain ⟨T62, X62, e62, st62⟩ := getF X hx hZ hown (host := "") (Or.inl (hw _ (List.mem_of_getElem? (i := 15) rfl))) Via.refl eT J2 (g := (mkF m 16 #[.val (.ref p0), .val (.ref p1), .val (.ref sa9), .val (.ref acc), .val (.int (Int32.ofNat n))] [(.ref p0), (.int (Int32.ofNat n))])) rfl rfl (hb hby d8_16)
      refine own_go (fun _ k => st62 _ k) ?_
      show own_G _ _ _ (T62.setTop (mkF m 19 #[.val (.ref p0), .val (.ref p1), .val (.ref sa9), .val (.ref acc), .val (.int (Int32.ofNat n))] [(.ref ta), (.int (Int32.ofNat n))])) _ _ _ _
      obtain ⟨cl63, Ar63, -, S63, Ng63, -, -⟩ := id J4
      refine own_go (fun _ k => X62.arraylength hx (by rw [e62]; exact Ar63.1) (State.isArrayOf_alike hZ.alike Ar63.2.1) (g := (mkF m 19 #[.val (.ref p0), .val (.ref p1), .val (.ref sa9), .val (.ref acc), .val (.int (Int32.ofNat n))] [(.ref ta), (.int (Int32.ofNat n))])) rfl rfl (hb hby d8_19) _ k) ?_
      rw [len_of S63 Ng63]
      show own_G _ _ _ (T62.setTop (mkF m 20 #[.val (.ref p0), .val (.ref p1), .val (.ref sa9), .val (.ref acc), .val (.int (Int32.ofNat n))] [(.int (Int32.ofNat n)), (.int (Int32.ofNat n))])) _ _ _ _
      have hc64 : ¬ ((Int32.ofNat n) < (Int32.ofNat n)) := (fun q => absurd ((own_ltI n n (by omega) (by omega)).mp q) (Nat.lt_irrefl _))
      refine own_go (fun _ k => XS.icmpYes X62.here hx rfl (pc0 := 20) (pc' := 48) rfl (hb hby d8_20) rfl (flt hc64).2.1 (by decide) (by decide) k) ?_
      show own_G _ _ _ (T62.setTop (mkF m 48 #[.val (.ref p0), .val (.ref p1), .val (.ref sa9), .val (.ref acc), .val (.int (Int32.ofNat n))] [])) _ _ _ _
      refine own_go (fun _ k => XS.aloadN X62.here hx rfl (hb hby d8_48) rfl rfl k) ?_
      show own_G _ _ _ (T62.setTop (mkF m 49 #[.val (.ref p0), .val (.ref p1), .val (.ref sa9), .val (.ref acc), .val (.int (Int32.ofNat n))] [(.ref acc)])) _ _ _ _
      exact own_endR X62 hx hlk Bd.returns rfl rfl rfl (hb hby d8_49) (by first | decide | omega | (dsimp only [Pt.cells, Pt.slots]; omega)) (by first | decide | omega | (dsimp only [Pt.cells, Pt.slots]; omega)) (Q := (Q8 Z p0 p1 zt kz zz zero one ta kt be kb bf n n1 h0 n0)) (by rw [e62]; exact ⟨acc, rfl, Nn, Kp, J18, J19, J20⟩)
    | succ f ih =>
      intro i hif T Lc hp cz sz acc X eT Nn Zp Kp hcz hsz J0 J1 J2 J3 J4 J5 J6 J7 J8 J9 J10 J11 J12 J13 J14 J15 J16 J17 J18 J19 J20
      have hin : i < n := by omega
      refine own_go (fun _ k => XS.iload X.here hx rfl (hb hby d8_13) rfl k) ?_
      show own_G _ _ _ (T.setTop (mkF m 15 #[.val (.ref p0), .val (.ref p1), .val (.ref sa9), .val (.ref acc), .val (.int (Int32.ofNat i))] [(.int (Int32.ofNat i))])) _ _ _ _
      refine own_go (fun _ k => XS.aloadN X.here hx rfl (hb hby d8_15) rfl rfl k) ?_
      show own_G _ _ _ (T.setTop (mkF m 16 #[.val (.ref p0), .val (.ref p1), .val (.ref sa9), .val (.ref acc), .val (.int (Int32.ofNat i))] [(.ref p0), (.int (Int32.ofNat i))])) _ _ _ _
      obtain ⟨T27, X27, e27, st27⟩ := getF X hx hZ hown (host := "") (Or.inl (hw _ (List.mem_of_getElem? (i := 15) rfl))) Via.refl eT J2 (g := (mkF m 16 #[.val (.ref p0), .val (.ref p1), .val (.ref sa9), .val (.ref acc), .val (.int (Int32.ofNat i))] [(.ref p0), (.int (Int32.ofNat i))])) rfl rfl (hb hby d8_16)
      refine own_go (fun _ k => st27 _ k) ?_
      show own_G _ _ _ (T27.setTop (mkF m 19 #[.val (.ref p0), .val (.ref p1), .val (.ref sa9), .val (.ref acc), .val (.int (Int32.ofNat i))] [(.ref ta), (.int (Int32.ofNat i))])) _ _ _ _
      obtain ⟨cl28, Ar28, -, S28, Ng28, -, -⟩ := id J4
      refine own_go (fun _ k => X27.arraylength hx (by rw [e27]; exact Ar28.1) (State.isArrayOf_alike hZ.alike Ar28.2.1) (g := (mkF m 19 #[.val (.ref p0), .val (.ref p1), .val (.ref sa9), .val (.ref acc), .val (.int (Int32.ofNat i))] [(.ref ta), (.int (Int32.ofNat i))])) rfl rfl (hb hby d8_19) _ k) ?_
      rw [len_of S28 Ng28]
      show own_G _ _ _ (T27.setTop (mkF m 20 #[.val (.ref p0), .val (.ref p1), .val (.ref sa9), .val (.ref acc), .val (.int (Int32.ofNat i))] [(.int (Int32.ofNat n)), (.int (Int32.ofNat i))])) _ _ _ _
      have hc29 : (Int32.ofNat i) < (Int32.ofNat n) := (own_ltI i n (by omega) (by omega)).mpr hin
      refine own_go (fun _ k => XS.icmpNo X27.here hx rfl (hb hby d8_20) rfl (tlt hc29).2.1 k) ?_
      show own_G _ _ _ (T27.setTop (mkF m 23 #[.val (.ref p0), .val (.ref p1), .val (.ref sa9), .val (.ref acc), .val (.int (Int32.ofNat i))] [])) _ _ _ _
      refine own_go (fun _ k => XS.aloadN X27.here hx rfl (hb hby d8_23) rfl rfl k) ?_
      show own_G _ _ _ (T27.setTop (mkF m 24 #[.val (.ref p0), .val (.ref p1), .val (.ref sa9), .val (.ref acc), .val (.int (Int32.ofNat i))] [(.ref acc)])) _ _ _ _
      refine own_go (fun _ k => XS.aloadN X27.here hx rfl (hb hby d8_24) rfl rfl k) ?_
      show own_G _ _ _ (T27.setTop (mkF m 25 #[.val (.ref p0), .val (.ref p1), .val (.ref sa9), .val (.ref acc), .val (.int (Int32.ofNat i))] [(.ref sa9), (.ref acc)])) _ _ _ _
      refine own_go (fun _ k => XS.iload X27.here hx rfl (hb hby d8_25) rfl k) ?_
      show own_G _ _ _ (T27.setTop (mkF m 27 #[.val (.ref p0), .val (.ref p1), .val (.ref sa9), .val (.ref acc), .val (.int (Int32.ofNat i))] [(.int (Int32.ofNat i)), (.ref sa9), (.ref acc)])) _ _ _ _
      obtain ⟨cl30, Ar30, q30, S30, Ng30, H30, G30⟩ := id J16
      have in30 : ¬ ((Int32.ofNat i) < 0 ∨ cl30.slots.size ≤ ((Int32.ofNat i)).toNatClampNeg) := inb_of S30 (own_inb (hin) (by omega))
      have at30 : cl30.slots[((Int32.ofNat i)).toNatClampNeg]? = some (.ref (sf9 i)) := H30.at in30 (by rw [own_cl i (by omega)]; exact own_fam_get _ _ _ _ _ (hin) (hin))
      refine own_go (fun _ k => X27.aaload hx (j := (Int32.ofNat i)) (v := (.ref (sf9 i))) (by rw [e27]; exact Ar30.1) (State.isArrayOf_alike hZ.alike Ar30.2.1) rfl Ar30.2.2 in30 at30 (g := (mkF m 27 #[.val (.ref p0), .val (.ref p1), .val (.ref sa9), .val (.ref acc), .val (.int (Int32.ofNat i))] [(.int (Int32.ofNat i)), (.ref sa9), (.ref acc)])) rfl rfl (hb hby d8_27) _ k) ?_
      show own_G _ _ _ (T27.setTop (mkF m 28 #[.val (.ref p0), .val (.ref p1), .val (.ref sa9), .val (.ref acc), .val (.int (Int32.ofNat i))] [(.ref (sf9 i)), (.ref acc)])) _ _ _ _
      have bq31 := J17 i hin
      have f32 : Exa Z hp (sf9 i) "java/math/BigDecimal" := bq31.1
      have f33 : Fld Z hp (sf9 i) "java/math/BigDecimal" "scale" "I" (.int (0 : Int32)) := bq31.2.1
      have f34 : Fld Z hp (sf9 i) "java/math/BigDecimal" "intCompact" "J" (.long (Int64.ofNat i)) := bq31.2.2
      refine own_go (fun _ k => XS.aloadN X27.here hx rfl (hb hby d8_28) rfl rfl k) ?_
      show own_G _ _ _ (T27.setTop (mkF m 29 #[.val (.ref p0), .val (.ref p1), .val (.ref sa9), .val (.ref acc), .val (.int (Int32.ofNat i))] [(.ref p0), (.ref (sf9 i)), (.ref acc)])) _ _ _ _
      refine own_go (fun _ k => XS.iload X27.here hx rfl (hb hby d8_29) rfl k) ?_
      show own_G _ _ _ (T27.setTop (mkF m 31 #[.val (.ref p0), .val (.ref p1), .val (.ref sa9), .val (.ref acc), .val (.int (Int32.ofNat i))] [(.int (Int32.ofNat i)), (.ref p0), (.ref (sf9 i)), (.ref acc)])) _ _ _ _
      refine own_go (fun _ k => XS.aloadN X27.here hx rfl (hb hby d8_31) rfl rfl k) ?_
      show own_G _ _ _ (T27.setTop (mkF m 32 #[.val (.ref p0), .val (.ref p1), .val (.ref sa9), .val (.ref acc), .val (.int (Int32.ofNat i))] [(.ref p1), (.int (Int32.ofNat i)), (.ref p0), (.ref (sf9 i)), (.ref acc)])) _ _ _ _
      obtain ⟨cq35, q35, q35'⟩ := J0.cell
      obtain ⟨_, _, ⟨T35, L35, k35, n35⟩, -, X35, ⟨Lc35, hQ35, l35, y35, z35⟩, st35⟩ := X27.privateBack hx (y := (⟨"com/example/slackline/slackline/Precedence", "time", "(ILjava/util/List;)Ljava/math/BigDecimal;"⟩ : MethodName)) hown (mvT hZ (hw _ (List.mem_of_getElem? (i := 99) rfl))) (mvT hZ (hw _ (List.mem_of_getElem? (i := 100) rfl))) (own_selp (mvT hZ (hw _ (List.mem_of_getElem? (i := 57) rfl))) rfl (Cond.privateMethod_at (mvP hZ (hw _ (List.mem_of_getElem? (i := 101) rfl)) (args := #[]))) (mvT hZ (hw _ (List.mem_of_getElem? (i := 100) rfl))) (by decide)) (Cond.privateMethod_at (mvP hZ (hw _ (List.mem_of_getElem? (i := 101) rfl)) (args := #[]))) (mvT hZ (hw _ (List.mem_of_getElem? (i := 102) rfl))) (by decide) (backOf (W := 2) (rm15 l Z a0 hw [] p0 p1 i n one ta kt hp n0 Zp J1 H1 J2 J4 J7 J8 J9 hin hn15) hZ (hw _ (List.mem_of_getElem? (i := 102) rfl)) (hw _ (List.mem_of_getElem? (i := 2) rfl)) (by decide) (by decide)) (g := (mkF m 32 #[.val (.ref p0), .val (.ref p1), .val (.ref sa9), .val (.ref acc), .val (.int (Int32.ofNat i))] [(.ref p1), (.int (Int32.ofNat i)), (.ref p0), (.ref (sf9 i)), (.ref acc)])) rfl (by rw [hml]; rfl) (Steps.refl _) (a := p0) (by rw [e27]; exact q35) q35' (argsL := [(.int (Int32.ofNat i)), (.ref p1)]) (rest := [(.ref (sf9 i)), (.ref acc)]) (lenOf pd_12 rfl) rfl (by show 2 * 0 + _ ≤ _; exact Nat.le_of_eq rfl) (hb hby d8_32) (fun _ _ => ⟨rfl, e27, (by first | decide | omega | (dsimp only [Pt.cells, Pt.slots]; omega)), (by first | decide | omega | (dsimp only [Pt.cells, Pt.slots]; omega))⟩)
      dsimp only [Pt.U, Pt.locs, Pt.cells, Pt.slots] at X35 l35 y35 z35 st35 hQ35
      rw [l35] at X35
      subst y35 z35
      obtain ⟨rfl, Nq35, eh35⟩ := hQ35
      have N35 := Fr.app Nn Nq35
      refine own_tr st35 ?_
      show own_G _ _ _ (T35.setTop (mkF m 35 #[.val (.ref p0), .val (.ref p1), .val (.ref sa9), .val (.ref acc), .val (.int (Int32.ofNat i))] [(.ref one), (.ref (sf9 i)), (.ref acc)])) _ _ _ _
      obtain ⟨cq36, kq36, q36a, q36b, q36c⟩ := isOf hZ eh35 f32
      obtain ⟨_, _, ⟨T36, L36, k36, n36⟩, -, X36, ⟨Lc36, hQ36, l36, y36, z36⟩, st36⟩ := X35.virtualBack hx (y := (⟨"java/math/BigDecimal", "add", "(Ljava/math/BigDecimal;)Ljava/math/BigDecimal;"⟩ : MethodName)) (z := (⟨"java/math/BigDecimal", "add", "(Ljava/math/BigDecimal;)Ljava/math/BigDecimal;"⟩ : MethodName)) hown (mvT hZ (hw _ (List.mem_of_getElem? (i := 120) rfl))) (mvT hZ (hw _ (List.mem_of_getElem? (i := 121) rfl))) (notFace_of_selects (args := #[]) (mvT hZ (hw _ (List.mem_of_getElem? (i := 123) rfl)))) (mvT hZ (hw _ (List.mem_of_getElem? (i := 123) rfl))) (mvT hZ (hw _ (List.mem_of_getElem? (i := 122) rfl))) (by decide) (backOf (W := 1) (rm19 l Z a0 hw [] (sf9 i) one i zt kz zz hp n0 Zp J1 P_ZS_java_math_BigDecimal_ZERO_THROUGH_TEN VZ HZZ (by omega) f33 f34 J14 J15) hZ (hw _ (List.mem_of_getElem? (i := 124) rfl)) (hw _ (List.mem_of_getElem? (i := 22) rfl)) (by decide) (by decide)) q36a q36c (g := (mkF m 35 #[.val (.ref p0), .val (.ref p1), .val (.ref sa9), .val (.ref acc), .val (.int (Int32.ofNat i))] [(.ref one), (.ref (sf9 i)), (.ref acc)])) rfl (by rw [hml]; rfl) (Steps.refl _) (argsL := [(.ref one)]) (rest := [(.ref acc)]) (lenOf pd_13 rfl) rfl (by show 2 * 0 + _ ≤ _; exact Nat.le_of_eq rfl) (hb hby d8_35) (fun _ _ => ⟨rfl, eh35, (by first | decide | omega | (dsimp only [Pt.cells, Pt.slots]; omega)), (by first | decide | omega | (dsimp only [Pt.cells, Pt.slots]; omega))⟩)
      dsimp only [Pt.U, Pt.locs, Pt.cells, Pt.slots] at X36 l36 y36 z36 st36 hQ36
      rw [l36] at X36
      subst y36 z36
      obtain ⟨b36, rfl, Nq36, Kq36, r36_0, r36_1, r36_2⟩ := hQ36
      have N36 := Fr.app N35 Nq36
      have f37 : Exa Z T36.heap p0 "com/example/slackline/slackline/Precedence" := J0.keep Kq36
      have f38 : Old Z n0 T36.heap := J1.keep Kq36 all0
      have f39 : Fld Z T36.heap p0 "com/example/slackline/slackline/Precedence" "tasks" "[I" (.ref ta) := J2.keep Kq36 nin0
      have f40 : Fld Z T36.heap p0 "com/example/slackline/slackline/Precedence" "before" "[[I" (.ref be) := J3.keep Kq36 nin0
      have f41 : Arv Z T36.heap ta kt .int (Int32.ofNat n) (own_fam own_gi (.int 0) n n) (.int 0) := J4.keep Kq36 nin0
      have f42 : Arv Z T36.heap be kb (.array .int) (Int32.ofNat n) (own_fam (own_gr bf) .null n n) .null := J5.keep Kq36 nin0
      have f43 : own_Bef Z T36.heap bf n n1 := J6.keep Kq36 (fun _ _ => nin0)
      have f44 : Exa Z T36.heap p1 "java/util/Collections$CopiesList" := J7.keep Kq36
      have f45 : Fld Z T36.heap p1 "java/util/Collections$CopiesList" "n" "I" (.int (Int32.ofNat n)) := J8.keep Kq36 nin0
      have f46 : Fld Z T36.heap p1 "java/util/Collections$CopiesList" "element" "Ljava/lang/Object;" (.ref one) := J9.keep Kq36 nin0
      have f47 : Exa Z T36.heap zero "java/math/BigDecimal" := J10.keep Kq36
      have f48 : Fld Z T36.heap zero "java/math/BigDecimal" "scale" "I" (.int (0 : Int32)) := J11.keep Kq36 nin0
      have f49 : Fld Z T36.heap zero "java/math/BigDecimal" "intCompact" "J" (.long (Int64.ofNat 0)) := J12.keep Kq36 nin0
      have f50 : Exa Z T36.heap one "java/math/BigDecimal" := J13.keep Kq36
      have f51 : Fld Z T36.heap one "java/math/BigDecimal" "scale" "I" (.int (0 : Int32)) := J14.keep Kq36 nin0
      have f52 : Fld Z T36.heap one "java/math/BigDecimal" "intCompact" "J" (.long (1 : Int64)) := J15.keep Kq36 nin0
      have f53 : Arv Z T36.heap sa9 ks9 (.object "java/math/BigDecimal") (Int32.ofNat n) (own_fam (own_gr sf9) .null n n) .null := J16.keep Kq36 nin0
      have f54 : own_BDs Z T36.heap sf9 n := J17.keep Kq36 (fun _ _ => nin0)
      have f55 : Exa Z T36.heap acc "java/math/BigDecimal" := J18.keep Kq36
      have f56 : Fld Z T36.heap acc "java/math/BigDecimal" "scale" "I" (.int (0 : Int32)) := J19.keep Kq36 nin0
      have f57 : Fld Z T36.heap acc "java/math/BigDecimal" "intCompact" "J" (.long (Int64.ofNat i)) := J20.keep Kq36 nin0
      have f58 : Exa Z T36.heap (sf9 i) "java/math/BigDecimal" := f32.keep Kq36
      have f59 : Fld Z T36.heap (sf9 i) "java/math/BigDecimal" "scale" "I" (.int (0 : Int32)) := f33.keep Kq36 nin0
      have f60 : Fld Z T36.heap (sf9 i) "java/math/BigDecimal" "intCompact" "J" (.long (Int64.ofNat i)) := f34.keep Kq36 nin0
      have Zs36 : n0 ≤ T36.heap.size := Nat.le_trans Zp Kq36.1
      have K36_0 : Keep h0 T36.heap [] := Kp.trans Kq36 all0
      refine own_tr st36 ?_
      show own_G _ _ _ (T36.setTop (mkF m 38 #[.val (.ref p0), .val (.ref p1), .val (.ref sa9), .val (.ref acc), .val (.int (Int32.ofNat i))] [(.ref b36), (.ref acc)])) _ _ _ _
      obtain ⟨cq61, kq61, q61a, q61b, q61c⟩ := isOf hZ rfl f55
      obtain ⟨_, _, ⟨T61, L61, k61, n61⟩, -, X61, ⟨Lc61, hQ61, l61, y61, z61⟩, st61⟩ := X36.virtualBack hx (y := (⟨"java/math/BigDecimal", "max", "(Ljava/math/BigDecimal;)Ljava/math/BigDecimal;"⟩ : MethodName)) (z := (⟨"java/math/BigDecimal", "max", "(Ljava/math/BigDecimal;)Ljava/math/BigDecimal;"⟩ : MethodName)) hown (mvT hZ (hw _ (List.mem_of_getElem? (i := 138) rfl))) (mvT hZ (hw _ (List.mem_of_getElem? (i := 139) rfl))) (notFace_of_selects (args := #[]) (mvT hZ (hw _ (List.mem_of_getElem? (i := 141) rfl)))) (mvT hZ (hw _ (List.mem_of_getElem? (i := 141) rfl))) (mvT hZ (hw _ (List.mem_of_getElem? (i := 140) rfl))) (by decide) (backOf (W := 0) (rm24 l Z a0 hw [] acc b36 i (i + 1) T36.heap n0 Zs36 f55 f56 f57 r36_1 r36_2 (by omega) (by omega) (by omega)) hZ (hw _ (List.mem_of_getElem? (i := 142) rfl)) (hw _ (List.mem_of_getElem? (i := 22) rfl)) (by decide) (by decide)) q61a q61c (g := (mkF m 38 #[.val (.ref p0), .val (.ref p1), .val (.ref sa9), .val (.ref acc), .val (.int (Int32.ofNat i))] [(.ref b36), (.ref acc)])) rfl (by rw [hml]; rfl) (Steps.refl _) (argsL := [(.ref b36)]) (rest := []) (lenOf pd_13 rfl) rfl (by show 2 * 0 + _ ≤ _; exact Nat.le_of_eq rfl) (hb hby d8_38) (fun _ _ => ⟨rfl, rfl, (by first | decide | omega | (dsimp only [Pt.cells, Pt.slots]; omega)), (by first | decide | omega | (dsimp only [Pt.cells, Pt.slots]; omega))⟩)
      dsimp only [Pt.U, Pt.locs, Pt.cells, Pt.slots] at X61 l61 y61 z61 st61 hQ61
      rw [l61] at X61
      subst y61 z61
      obtain ⟨rfl, Nq61, eh61⟩ := hQ61
      have N61 := Fr.app N36 Nq61
      refine own_tr st61 ?_
      show own_G _ _ _ (T61.setTop (mkF m 41 #[.val (.ref p0), .val (.ref p1), .val (.ref sa9), .val (.ref acc), .val (.int (Int32.ofNat i))] [(.ref b36)])) _ _ _ _
      refine own_go (fun _ k => XS.astoreN X61.here hx rfl (hb hby d8_41) rfl rfl (l' := #[.val (.ref p0), .val (.ref p1), .val (.ref sa9), .val (.ref b36), .val (.int (Int32.ofNat i))]) rfl k) ?_
      show own_G _ _ _ (T61.setTop (mkF m 42 #[.val (.ref p0), .val (.ref p1), .val (.ref sa9), .val (.ref b36), .val (.int (Int32.ofNat i))] [])) _ _ _ _
      refine own_go (fun _ k => XS.iinc X61.here hx rfl (hb hby d8_42) rfl (l' := #[.val (.ref p0), .val (.ref p1), .val (.ref sa9), .val (.ref b36), .val (.int ((Int32.ofNat i) + (1 : Int32)))]) rfl k) ?_
      rw [own_inc i]
      show own_G _ _ _ (T61.setTop (mkF m 45 #[.val (.ref p0), .val (.ref p1), .val (.ref sa9), .val (.ref b36), .val (.int (Int32.ofNat (i + 1)))] [])) _ _ _ _
      refine own_go (fun _ k => XS.goto X61.here hx rfl (pc0 := 45) (pc' := 13) rfl (hb hby d8_45) (by decide) (by decide) k) ?_
      show own_G _ _ _ (T61.setTop (mkF m 13 #[.val (.ref p0), .val (.ref p1), .val (.ref sa9), .val (.ref b36), .val (.int (Int32.ofNat (i + 1)))] [])) _ _ _ _
      exact ih (i + 1) (by omega) _ _ _ _ _ b36 X61 eh61 N61 Zs36 K36_0 (by omega) (by omega) f37 f38 f39 f40 f41 f42 f43 f44 f45 f46 f47 f48 f49 f50 f51 f52 f53 f54 r36_0 r36_1 r36_2
  exact loop n 0 (by omega) _ _ _ _ _ zero X26 e26 N9 Zs9 K9_0 (by omega) (by omega) f10 f11 f12 f13 f14 f15 f16 f17 f18 f19 f20 f21 f22 f23 f24 f25 r9_0 r9_1 f20 f21 f22
theorem d2_0 : decode prog_10_method_1_code 0 = .ok (.aload_n 0, 1) := by decide +kernel
theorem d2_1 : decode prog_10_method_1_code 1 = .ok (.invokespecial 1, 3) := by decide +kernel
theorem d2_4 : decode prog_10_method_1_code 4 = .ok (.aload_n 0, 1) := by decide +kernel
theorem d2_5 : decode prog_10_method_1_code 5 = .ok (.aload_n 1, 1) := by decide +kernel
theorem d2_6 : decode prog_10_method_1_code 6 = .ok (.putfield 7, 3) := by decide +kernel
theorem d2_9 : decode prog_10_method_1_code 9 = .ok (.aload_n 0, 1) := by decide +kernel
theorem d2_10 : decode prog_10_method_1_code 10 = .ok (.aload_n 2, 1) := by decide +kernel
theorem d2_11 : decode prog_10_method_1_code 11 = .ok (.putfield 13, 3) := by decide +kernel
theorem d2_14 : decode prog_10_method_1_code 14 = .ok (.iconst 0, 1) := by decide +kernel
theorem d2_15 : decode prog_10_method_1_code 15 = .ok (.istore_n 3, 1) := by decide +kernel
theorem d2_16 : decode prog_10_method_1_code 16 = .ok (.aload_n 1, 1) := by decide +kernel
theorem d2_17 : decode prog_10_method_1_code 17 = .ok (.astore 4, 2) := by decide +kernel
theorem d2_19 : decode prog_10_method_1_code 19 = .ok (.aload 4, 2) := by decide +kernel
theorem d2_21 : decode prog_10_method_1_code 21 = .ok (.arraylength, 1) := by decide +kernel
theorem d2_22 : decode prog_10_method_1_code 22 = .ok (.istore 5, 2) := by decide +kernel
theorem d2_24 : decode prog_10_method_1_code 24 = .ok (.iconst 0, 1) := by decide +kernel
theorem d2_25 : decode prog_10_method_1_code 25 = .ok (.istore 6, 2) := by decide +kernel
theorem d2_27 : decode prog_10_method_1_code 27 = .ok (.iload 6, 2) := by decide +kernel
theorem d2_29 : decode prog_10_method_1_code 29 = .ok (.iload 5, 2) := by decide +kernel
theorem d2_31 : decode prog_10_method_1_code 31 = .ok (.if_icmp .ge 25, 3) := by decide +kernel
theorem d2_34 : decode prog_10_method_1_code 34 = .ok (.aload 4, 2) := by decide +kernel
theorem d2_36 : decode prog_10_method_1_code 36 = .ok (.iload 6, 2) := by decide +kernel
theorem d2_38 : decode prog_10_method_1_code 38 = .ok (.iaload, 1) := by decide +kernel
theorem d2_39 : decode prog_10_method_1_code 39 = .ok (.istore 7, 2) := by decide +kernel
theorem d2_41 : decode prog_10_method_1_code 41 = .ok (.iload 7, 2) := by decide +kernel
theorem d2_43 : decode prog_10_method_1_code 43 = .ok (.iconst (-1), 1) := by decide +kernel
theorem d2_44 : decode prog_10_method_1_code 44 = .ok (.if_icmp .eq 6, 3) := by decide +kernel
theorem d2_47 : decode prog_10_method_1_code 47 = .ok (.iinc 3 1, 3) := by decide +kernel
theorem d2_50 : decode prog_10_method_1_code 50 = .ok (.iinc 6 1, 3) := by decide +kernel
theorem d2_53 : decode prog_10_method_1_code 53 = .ok (.goto (-26), 3) := by decide +kernel
theorem d2_56 : decode prog_10_method_1_code 56 = .ok (.aload_n 0, 1) := by decide +kernel
theorem d2_57 : decode prog_10_method_1_code 57 = .ok (.iload_n 3, 1) := by decide +kernel
theorem d2_58 : decode prog_10_method_1_code 58 = .ok (.putfield 17, 3) := by decide +kernel
theorem d2_61 : decode prog_10_method_1_code 61 = .ok (.iload_n 3, 1) := by decide +kernel
theorem d2_62 : decode prog_10_method_1_code 62 = .ok (.getstatic 21, 3) := by decide +kernel
theorem d2_65 : decode prog_10_method_1_code 65 = .ok (.invokestatic 27, 3) := by decide +kernel
theorem d2_68 : decode prog_10_method_1_code 68 = .ok (.astore 4, 2) := by decide +kernel
theorem d2_70 : decode prog_10_method_1_code 70 = .ok (.aload_n 0, 1) := by decide +kernel
theorem d2_71 : decode prog_10_method_1_code 71 = .ok (.aload_n 0, 1) := by decide +kernel
theorem d2_72 : decode prog_10_method_1_code 72 = .ok (.aload 4, 2) := by decide +kernel
theorem d2_74 : decode prog_10_method_1_code 74 = .ok (.invokevirtual 33, 3) := by decide +kernel
theorem d2_77 : decode prog_10_method_1_code 77 = .ok (.iload_n 3, 1) := by decide +kernel
theorem d2_78 : decode prog_10_method_1_code 78 = .ok (.i2l, 1) := by decide +kernel
theorem d2_79 : decode prog_10_method_1_code 79 = .ok (.invokestatic 37, 3) := by decide +kernel
theorem d2_82 : decode prog_10_method_1_code 82 = .ok (.invokevirtual 41, 3) := by decide +kernel
theorem d2_85 : decode prog_10_method_1_code 85 = .ok (.ifCond .ne 7, 3) := by decide +kernel
theorem d2_88 : decode prog_10_method_1_code 88 = .ok (.iconst 1, 1) := by decide +kernel
theorem d2_89 : decode prog_10_method_1_code 89 = .ok (.goto 4, 3) := by decide +kernel
theorem d2_92 : decode prog_10_method_1_code 92 = .ok (.iconst 0, 1) := by decide +kernel
theorem d2_93 : decode prog_10_method_1_code 93 = .ok (.putfield 45, 3) := by decide +kernel
theorem d2_96 : decode prog_10_method_1_code 96 = .ok (.return_, 1) := by decide +kernel
theorem pd_15 : parseMethodDescriptor "(ILjava/lang/Object;)Ljava/util/List;" = some ⟨[.int, (.object "java/lang/Object")], some (.object "java/util/List")⟩ := by decide +kernel
theorem pd_16 : parseMethodDescriptor "(Ljava/util/List;)Ljava/math/BigDecimal;" = some ⟨[(.object "java/util/List")], some (.object "java/math/BigDecimal")⟩ := by decide +kernel
theorem ef_2 (m : MethodId) (p0 : Addr) (ta : Addr) (be : Addr) : entryFrame m #[(.ref p0), (.ref ta), (.ref be)] 8 = mkF m 0 #[.val (.ref p0), .val (.ref ta), .val (.ref be), .unset, .unset, .unset, .unset, .unset] [] := by first | (simp [entryFrame, mkF, argsToLocals, Value.category]; done) | rfl
def Q2 (Z : State) (p0 : Addr) (ta : Addr) (be : Addr) (zt : Addr) (kz : ClassId) (zz : Nat → Addr) (zero : Addr) (one : Addr) (kt : ClassId) (kb : ClassId) (bf : Nat → Addr) (n : Nat) (n1 : Nat) (h0 : Heap) (n0 : Nat) (v : Option Value) (h : Heap) (L : List Loc) : Prop := v = none ∧ Fr n0 L ∧ Keep h0 h [p0] ∧ Exa Z h p0 "com/example/slackline/slackline/Precedence" ∧ Fld Z h p0 "com/example/slackline/slackline/Precedence" "tasks" "[I" (.ref ta) ∧ Fld Z h p0 "com/example/slackline/slackline/Precedence" "before" "[[I" (.ref be) ∧ Fld Z h p0 "com/example/slackline/slackline/Precedence" "taskCount" "I" (.int (Int32.ofNat n)) ∧ Fld Z h p0 "com/example/slackline/slackline/Precedence" "chain" "Z" (.int (1 : Int32))
set_option maxRecDepth 65536 in
set_option maxHeartbeats 40000000 in
theorem rm2 (l : Launch) (Z : State) (a0 : Array Value) (hw : ∀ d ∈ tables_1, d.before a0 Z = true) (ws : List Jvm.Cond) (p0 : Addr) (ta : Addr) (be : Addr) (zt : Addr) (kz : ClassId) (zz : Nat → Addr) (zero : Addr) (one : Addr) (kt : ClassId) (kb : ClassId) (bf : Nat → Addr) (n : Nat) (n1 : Nat) (h0 : Heap) (n0 : Nat) (Z0 : n0 ≤ h0.size) (P_E_p0 : Exa Z h0 p0 "com/example/slackline/slackline/Precedence") (P_F_p0_tasks : Fld Z h0 p0 "com/example/slackline/slackline/Precedence" "tasks" "[I" .null) (P_F_p0_before : Fld Z h0 p0 "com/example/slackline/slackline/Precedence" "before" "[[I" .null) (P_F_p0_taskCount : Fld Z h0 p0 "com/example/slackline/slackline/Precedence" "taskCount" "I" (.int (0 : Int32))) (P_F_p0_chain : Fld Z h0 p0 "com/example/slackline/slackline/Precedence" "chain" "Z" (.int (0 : Int32))) (g_p0 : n0 ≤ p0) (P_Old : Old Z n0 h0) (P_ZS_java_math_BigDecimal_ZERO_THROUGH_TEN : Sta Z Z.heap "java/math/BigDecimal" "ZERO_THROUGH_TEN" "[Ljava/math/BigDecimal;" (.ref zt)) (VZ : Arv Z Z.heap zt kz (.object "java/math/BigDecimal") (11 : Int32) (own_fam (own_gr zz) .null 11 11) .null) (HZZ : own_BDs Z Z.heap zz 11) (P_ZS_java_math_BigDecimal_ZERO : Sta Z Z.heap "java/math/BigDecimal" "ZERO" "Ljava/math/BigDecimal;" (.ref zero)) (P_ZS_java_math_BigDecimal_ONE : Sta Z Z.heap "java/math/BigDecimal" "ONE" "Ljava/math/BigDecimal;" (.ref one)) (P_ZS_java_util_Collections_CopiesList__assertionsDisabled : Sta Z Z.heap "java/util/Collections$CopiesList" "$assertionsDisabled" "Z" (.int (1 : Int32))) (H0 : own_BD Z Z.heap zero (Int64.ofNat 0)) (H1 : own_BD Z Z.heap one (1 : Int64)) (P_V_ta : Arv Z h0 ta kt .int (Int32.ofNat n) (own_fam own_gi (.int 0) n n) (.int 0)) (P_V_be : Arv Z h0 be kb (.array .int) (Int32.ofNat n) (own_fam (own_gr bf) .null n n) .null) (P_G_B : own_Bef Z h0 bf n n1) (hn15 : n ≤ 15) (hbp : ∀ j, j < n → bf j ≠ p0) :
    MetFree l (⟨"com/example/slackline/slackline/Precedence", "<init>", "([I[[I)V"⟩ : MethodName) (head1 (Jvm.Cond.code (⟨"com/example/slackline/slackline/Precedence", "<init>", "([I[[I)V"⟩ : MethodName) prog_10_method_1_code 8 none :: ws) ({ frames := 10, cells := 33, slots := 173, locals := 161 } : Room)) (fun a U => a = #[(.ref p0), (.ref ta), (.ref be)] ∧ Z.Warmed39 U.vm ∧ U.heap = h0) (fun _ _ _ _ _ => True) (fun _ U o U' => ∃ v L, o = .returned v ∧ (Q2 Z p0 ta be zt kz zz zero one kt kb bf n n1 h0 n0) v U'.heap L ∧ FrameEnd U o U' L ({ frames := 10, cells := 33, slots := 173, locals := 161 } : Room).cells ({ frames := 10, cells := 33, slots := 173, locals := 161 } : Room).slots) := by
  refine MetFree.of_bodySF (plainFor_of_name pn_8) hisR ?_
  intro p e s m args below meth c s₁ Bd hml0 hP hK
  obtain ⟨rfl, hZ, hh⟩ := hP
  have hx := Bd.exec
  have hby := Bd.bytes
  have hml : c.maxLocals = 8 := hml0
  have hown : s.vm.findClass "com/example/slackline/slackline/Precedence" = some m.cls := findClass_of_methodNamed Bd.named
  have hnm := (name_of_methodNamed Bd.named Bd.method).1
  have hlk : meth.locks = false := BodyLoose.notSynchronized Bd
  have X0 : Stand p l e ({ frames := 10, cells := 33, slots := 173, locals := 161 } : Room) s m #[(.ref p0), (.ref ta), (.ref be)] below meth c s₁ [] 0 0 := Stand.of_body Bd
  have e0 : s₁.heap = h0 := by rw [← hh, Bd.state]; rfl
  have N0 := Fr.nil n0
  have K0 : Keep h0 h0 [p0] := Keep.refl h0 [p0]
  show own_G p.tables e below (s₁.setTop (entryFrame m #[(.ref p0), (.ref ta), (.ref be)] 8)) s ({ frames := 10, cells := 33, slots := 173, locals := 161 } : Room).cells ({ frames := 10, cells := 33, slots := 173, locals := 161 } : Room).slots (Q2 Z p0 ta be zt kz zz zero one kt kb bf n n1 h0 n0)
  refine own_go (fun _ k => castTop (ef_2 m p0 ta be) k) ?_
  show own_G _ _ _ (s₁.setTop (mkF m 0 #[.val (.ref p0), .val (.ref ta), .val (.ref be), .unset, .unset, .unset, .unset, .unset] [])) _ _ _ _
  have bq1 := own_BD.ext (H1) P_Old.2
  have f2 : Exa Z h0 one "java/math/BigDecimal" := bq1.1
  have f3 : Fld Z h0 one "java/math/BigDecimal" "scale" "I" (.int (0 : Int32)) := bq1.2.1
  have f4 : Fld Z h0 one "java/math/BigDecimal" "intCompact" "J" (.long (1 : Int64)) := bq1.2.2
  refine own_go (fun _ k => XS.aloadN X0.here hx rfl (hb hby d2_0) rfl rfl k) ?_
  show own_G _ _ _ (s₁.setTop (mkF m 1 #[.val (.ref p0), .val (.ref ta), .val (.ref be), .unset, .unset, .unset, .unset, .unset] [(.ref p0)])) _ _ _ _
  obtain ⟨T5, X5, e5, st5⟩ := initO X0 hx hZ hown (hw _ (List.mem_of_getElem? (i := 12) rfl)) (hw _ (List.mem_of_getElem? (i := 13) rfl)) (hw _ (List.mem_of_getElem? (i := 14) rfl)) e0 (g := (mkF m 1 #[.val (.ref p0), .val (.ref ta), .val (.ref be), .unset, .unset, .unset, .unset, .unset] [(.ref p0)])) rfl (by rw [hml]; rfl) rfl (hb hby d2_1) (by decide) (W := 0) (by show 2 * 0 + _ ≤ _; exact Nat.le_of_eq rfl) (by decide)
  refine own_go (fun _ k => st5 _ k) ?_
  show own_G _ _ _ (T5.setTop (mkF m 4 #[.val (.ref p0), .val (.ref ta), .val (.ref be), .unset, .unset, .unset, .unset, .unset] [])) _ _ _ _
  refine own_go (fun _ k => XS.aloadN X5.here hx rfl (hb hby d2_4) rfl rfl k) ?_
  show own_G _ _ _ (T5.setTop (mkF m 5 #[.val (.ref p0), .val (.ref ta), .val (.ref be), .unset, .unset, .unset, .unset, .unset] [(.ref p0)])) _ _ _ _
  refine own_go (fun _ k => XS.aloadN X5.here hx rfl (hb hby d2_5) rfl rfl k) ?_
  show own_G _ _ _ (T5.setTop (mkF m 6 #[.val (.ref p0), .val (.ref ta), .val (.ref be), .unset, .unset, .unset, .unset, .unset] [(.ref ta), (.ref p0)])) _ _ _ _
  obtain ⟨T6, h6, X6, e6, W6, st6⟩ := putF X5 hx hZ hown (host := "") (Or.inl (hw _ (List.mem_of_getElem? (i := 15) rfl))) Via.refl e5 P_F_p0_tasks P_E_p0 (Or.inr ⟨(hw _ (List.mem_of_getElem? (i := 16) rfl)), rfl, hnm⟩) (hw _ (List.mem_of_getElem? (i := 8) rfl)) (ty := (.array .int)) (by decide) rfl rfl (g := (mkF m 6 #[.val (.ref p0), .val (.ref ta), .val (.ref be), .unset, .unset, .unset, .unset, .unset] [(.ref ta), (.ref p0)])) rfl rfl (hb hby d2_6)
  have N6 := Fr.snoc X6 N0 g_p0
  have Zs6 : n0 ≤ h6.size := Nat.le_trans Z0 (Keep.of_wr W6).1
  have K6_0 : Keep h0 h6 [p0] := K0.wr W6 (Or.inl (List.mem_of_getElem? (i := 0) rfl))
  have f7 : Exa Z h6 p0 "com/example/slackline/slackline/Precedence" := P_E_p0.wr W6
  have f8 : Fld Z h6 p0 "com/example/slackline/slackline/Precedence" "tasks" "[I" (.ref ta) := P_F_p0_tasks.same W6
  have f9 : Fld Z h6 p0 "com/example/slackline/slackline/Precedence" "before" "[[I" .null := P_F_p0_before.other W6 (Or.inr (slot_ne (Or.inr (hw _ (List.mem_of_getElem? (i := 18) rfl))) (Or.inr (hw _ (List.mem_of_getElem? (i := 16) rfl))) (by decide) (t := (.array (.array .int))) (t' := (.array .int)) (by decide) (by decide)))
  have f10 : Fld Z h6 p0 "com/example/slackline/slackline/Precedence" "taskCount" "I" (.int (0 : Int32)) := P_F_p0_taskCount.other W6 (Or.inr (slot_ne (Or.inr (hw _ (List.mem_of_getElem? (i := 20) rfl))) (Or.inr (hw _ (List.mem_of_getElem? (i := 16) rfl))) (by decide) (t := .int) (t' := (.array .int)) (by decide) (by decide)))
  have f11 : Fld Z h6 p0 "com/example/slackline/slackline/Precedence" "chain" "Z" (.int (0 : Int32)) := P_F_p0_chain.other W6 (Or.inr (slot_ne (Or.inr (hw _ (List.mem_of_getElem? (i := 81) rfl))) (Or.inr (hw _ (List.mem_of_getElem? (i := 16) rfl))) (by decide) (t := .boolean) (t' := (.array .int)) (by decide) (by decide)))
  have f12 : Old Z n0 h6 := P_Old.wr W6 g_p0
  have f13 : Arv Z h6 ta kt .int (Int32.ofNat n) (own_fam own_gi (.int 0) n n) (.int 0) := P_V_ta.other W6 (Ne.symm (by obtain ⟨c_, A_, -⟩ := P_V_ta; exact ne_arr P_E_p0 (hw _ (List.mem_of_getElem? (i := 8) rfl)) A_))
  have f14 : Arv Z h6 be kb (.array .int) (Int32.ofNat n) (own_fam (own_gr bf) .null n n) .null := P_V_be.other W6 (Ne.symm (by obtain ⟨c_, A_, -⟩ := P_V_be; exact ne_arr P_E_p0 (hw _ (List.mem_of_getElem? (i := 8) rfl)) A_))
  have f15 : own_Bef Z h6 bf n n1 := P_G_B.wr W6 hbp
  have f16 : Exa Z h6 one "java/math/BigDecimal" := f2.wr W6
  have f17 : Fld Z h6 one "java/math/BigDecimal" "scale" "I" (.int (0 : Int32)) := f3.other W6 (Or.inl (ne_exa f2 P_E_p0 (by decide)))
  have f18 : Fld Z h6 one "java/math/BigDecimal" "intCompact" "J" (.long (1 : Int64)) := f4.other W6 (Or.inl (ne_exa f2 P_E_p0 (by decide)))
  refine own_go (fun _ k => st6 _ k) ?_
  show own_G _ _ _ (T6.setTop (mkF m 9 #[.val (.ref p0), .val (.ref ta), .val (.ref be), .unset, .unset, .unset, .unset, .unset] [])) _ _ _ _
  refine own_go (fun _ k => XS.aloadN X6.here hx rfl (hb hby d2_9) rfl rfl k) ?_
  show own_G _ _ _ (T6.setTop (mkF m 10 #[.val (.ref p0), .val (.ref ta), .val (.ref be), .unset, .unset, .unset, .unset, .unset] [(.ref p0)])) _ _ _ _
  refine own_go (fun _ k => XS.aloadN X6.here hx rfl (hb hby d2_10) rfl rfl k) ?_
  show own_G _ _ _ (T6.setTop (mkF m 11 #[.val (.ref p0), .val (.ref ta), .val (.ref be), .unset, .unset, .unset, .unset, .unset] [(.ref be), (.ref p0)])) _ _ _ _
  obtain ⟨T19, h19, X19, e19, W19, st19⟩ := putF X6 hx hZ hown (host := "") (Or.inl (hw _ (List.mem_of_getElem? (i := 17) rfl))) Via.refl e6 f9 f7 (Or.inr ⟨(hw _ (List.mem_of_getElem? (i := 18) rfl)), rfl, hnm⟩) (hw _ (List.mem_of_getElem? (i := 8) rfl)) (ty := (.array (.array .int))) (by decide) rfl rfl (g := (mkF m 11 #[.val (.ref p0), .val (.ref ta), .val (.ref be), .unset, .unset, .unset, .unset, .unset] [(.ref be), (.ref p0)])) rfl rfl (hb hby d2_11)
  have N19 := Fr.snoc X19 N6 g_p0
  have Zs19 : n0 ≤ h19.size := Nat.le_trans Zs6 (Keep.of_wr W19).1
  have K19_0 : Keep h0 h19 [p0] := K6_0.wr W19 (Or.inl (List.mem_of_getElem? (i := 0) rfl))
  have f20 : Exa Z h19 p0 "com/example/slackline/slackline/Precedence" := f7.wr W19
  have f21 : Fld Z h19 p0 "com/example/slackline/slackline/Precedence" "tasks" "[I" (.ref ta) := f8.other W19 (Or.inr (slot_ne (Or.inr (hw _ (List.mem_of_getElem? (i := 16) rfl))) (Or.inr (hw _ (List.mem_of_getElem? (i := 18) rfl))) (by decide) (t := (.array .int)) (t' := (.array (.array .int))) (by decide) (by decide)))
  have f22 : Fld Z h19 p0 "com/example/slackline/slackline/Precedence" "before" "[[I" (.ref be) := f9.same W19
  have f23 : Fld Z h19 p0 "com/example/slackline/slackline/Precedence" "taskCount" "I" (.int (0 : Int32)) := f10.other W19 (Or.inr (slot_ne (Or.inr (hw _ (List.mem_of_getElem? (i := 20) rfl))) (Or.inr (hw _ (List.mem_of_getElem? (i := 18) rfl))) (by decide) (t := .int) (t' := (.array (.array .int))) (by decide) (by decide)))
  have f24 : Fld Z h19 p0 "com/example/slackline/slackline/Precedence" "chain" "Z" (.int (0 : Int32)) := f11.other W19 (Or.inr (slot_ne (Or.inr (hw _ (List.mem_of_getElem? (i := 81) rfl))) (Or.inr (hw _ (List.mem_of_getElem? (i := 18) rfl))) (by decide) (t := .boolean) (t' := (.array (.array .int))) (by decide) (by decide)))
  have f25 : Old Z n0 h19 := f12.wr W19 g_p0
  have f26 : Arv Z h19 ta kt .int (Int32.ofNat n) (own_fam own_gi (.int 0) n n) (.int 0) := f13.other W19 (Ne.symm (by obtain ⟨c_, A_, -⟩ := f13; exact ne_arr f7 (hw _ (List.mem_of_getElem? (i := 8) rfl)) A_))
  have f27 : Arv Z h19 be kb (.array .int) (Int32.ofNat n) (own_fam (own_gr bf) .null n n) .null := f14.other W19 (Ne.symm (by obtain ⟨c_, A_, -⟩ := f14; exact ne_arr f7 (hw _ (List.mem_of_getElem? (i := 8) rfl)) A_))
  have f28 : own_Bef Z h19 bf n n1 := f15.wr W19 hbp
  have f29 : Exa Z h19 one "java/math/BigDecimal" := f16.wr W19
  have f30 : Fld Z h19 one "java/math/BigDecimal" "scale" "I" (.int (0 : Int32)) := f17.other W19 (Or.inl (ne_exa f16 f7 (by decide)))
  have f31 : Fld Z h19 one "java/math/BigDecimal" "intCompact" "J" (.long (1 : Int64)) := f18.other W19 (Or.inl (ne_exa f16 f7 (by decide)))
  refine own_go (fun _ k => st19 _ k) ?_
  show own_G _ _ _ (T19.setTop (mkF m 14 #[.val (.ref p0), .val (.ref ta), .val (.ref be), .unset, .unset, .unset, .unset, .unset] [])) _ _ _ _
  refine own_go (fun _ k => XS.iconst X19.here hx rfl (hb hby d2_14) k) ?_
  show own_G _ _ _ (T19.setTop (mkF m 15 #[.val (.ref p0), .val (.ref ta), .val (.ref be), .unset, .unset, .unset, .unset, .unset] [(.int (0 : Int32))])) _ _ _ _
  refine own_go (fun _ k => XS.istoreN X19.here hx rfl (hb hby d2_15) rfl (l' := #[.val (.ref p0), .val (.ref ta), .val (.ref be), .val (.int (0 : Int32)), .unset, .unset, .unset, .unset]) rfl k) ?_
  show own_G _ _ _ (T19.setTop (mkF m 16 #[.val (.ref p0), .val (.ref ta), .val (.ref be), .val (.int (0 : Int32)), .unset, .unset, .unset, .unset] [])) _ _ _ _
  refine own_go (fun _ k => XS.aloadN X19.here hx rfl (hb hby d2_16) rfl rfl k) ?_
  show own_G _ _ _ (T19.setTop (mkF m 17 #[.val (.ref p0), .val (.ref ta), .val (.ref be), .val (.int (0 : Int32)), .unset, .unset, .unset, .unset] [(.ref ta)])) _ _ _ _
  refine own_go (fun _ k => XS.astore X19.here hx rfl (hb hby d2_17) rfl rfl (l' := #[.val (.ref p0), .val (.ref ta), .val (.ref be), .val (.int (0 : Int32)), .val (.ref ta), .unset, .unset, .unset]) rfl k) ?_
  show own_G _ _ _ (T19.setTop (mkF m 19 #[.val (.ref p0), .val (.ref ta), .val (.ref be), .val (.int (0 : Int32)), .val (.ref ta), .unset, .unset, .unset] [])) _ _ _ _
  refine own_go (fun _ k => XS.aload X19.here hx rfl (hb hby d2_19) rfl rfl k) ?_
  show own_G _ _ _ (T19.setTop (mkF m 21 #[.val (.ref p0), .val (.ref ta), .val (.ref be), .val (.int (0 : Int32)), .val (.ref ta), .unset, .unset, .unset] [(.ref ta)])) _ _ _ _
  obtain ⟨cl32, Ar32, -, S32, Ng32, -, -⟩ := id f26
  refine own_go (fun _ k => X19.arraylength hx (by rw [e19]; exact Ar32.1) (State.isArrayOf_alike hZ.alike Ar32.2.1) (g := (mkF m 21 #[.val (.ref p0), .val (.ref ta), .val (.ref be), .val (.int (0 : Int32)), .val (.ref ta), .unset, .unset, .unset] [(.ref ta)])) rfl rfl (hb hby d2_21) _ k) ?_
  rw [len_of S32 Ng32]
  show own_G _ _ _ (T19.setTop (mkF m 22 #[.val (.ref p0), .val (.ref ta), .val (.ref be), .val (.int (0 : Int32)), .val (.ref ta), .unset, .unset, .unset] [(.int (Int32.ofNat n))])) _ _ _ _
  refine own_go (fun _ k => XS.istore X19.here hx rfl (hb hby d2_22) rfl (l' := #[.val (.ref p0), .val (.ref ta), .val (.ref be), .val (.int (0 : Int32)), .val (.ref ta), .val (.int (Int32.ofNat n)), .unset, .unset]) rfl k) ?_
  show own_G _ _ _ (T19.setTop (mkF m 24 #[.val (.ref p0), .val (.ref ta), .val (.ref be), .val (.int (0 : Int32)), .val (.ref ta), .val (.int (Int32.ofNat n)), .unset, .unset] [])) _ _ _ _
  refine own_go (fun _ k => XS.iconst X19.here hx rfl (hb hby d2_24) k) ?_
  show own_G _ _ _ (T19.setTop (mkF m 25 #[.val (.ref p0), .val (.ref ta), .val (.ref be), .val (.int (0 : Int32)), .val (.ref ta), .val (.int (Int32.ofNat n)), .unset, .unset] [(.int (0 : Int32))])) _ _ _ _
  refine own_go (fun _ k => XS.istore X19.here hx rfl (hb hby d2_25) rfl (l' := #[.val (.ref p0), .val (.ref ta), .val (.ref be), .val (.int (0 : Int32)), .val (.ref ta), .val (.int (Int32.ofNat n)), .val (.int (0 : Int32)), .unset]) rfl k) ?_
  show own_G _ _ _ (T19.setTop (mkF m 27 #[.val (.ref p0), .val (.ref ta), .val (.ref be), .val (.int (0 : Int32)), .val (.ref ta), .val (.int (Int32.ofNat n)), .val (.int (0 : Int32)), .unset] [])) _ _ _ _
  have loop : ∀ (f i : Nat) (hif : i + f = n) (T : State) (Lc : List Loc) (hp : Heap) (cz sz : Nat) (l7 : Slot) (ok7 : own_ok l7) (X : Stand p l e ({ frames := 10, cells := 33, slots := 173, locals := 161 } : Room) s m #[(.ref p0), (.ref ta), (.ref be)] below meth c T Lc cz sz) (eT : T.heap = hp) (Nn : Fr n0 Lc) (Zp : n0 ≤ hp.size) (Kp : Keep h0 hp [p0]) (hcz : cz + f * 0 + 33 ≤ 33) (hsz : sz + f * 0 + 173 ≤ 173) (J0 : Exa Z hp p0 "com/example/slackline/slackline/Precedence") (J1 : Fld Z hp p0 "com/example/slackline/slackline/Precedence" "tasks" "[I" (.ref ta)) (J2 : Fld Z hp p0 "com/example/slackline/slackline/Precedence" "before" "[[I" (.ref be)) (J3 : Fld Z hp p0 "com/example/slackline/slackline/Precedence" "taskCount" "I" (.int (0 : Int32))) (J4 : Fld Z hp p0 "com/example/slackline/slackline/Precedence" "chain" "Z" (.int (0 : Int32))) (J5 : Old Z n0 hp) (J6 : Arv Z hp ta kt .int (Int32.ofNat n) (own_fam own_gi (.int 0) n n) (.int 0)) (J7 : Arv Z hp be kb (.array .int) (Int32.ofNat n) (own_fam (own_gr bf) .null n n) .null) (J8 : own_Bef Z hp bf n n1) (J9 : Exa Z hp one "java/math/BigDecimal") (J10 : Fld Z hp one "java/math/BigDecimal" "scale" "I" (.int (0 : Int32))) (J11 : Fld Z hp one "java/math/BigDecimal" "intCompact" "J" (.long (1 : Int64))), own_G p.tables e below (T.setTop (mkF m 27 #[.val (.ref p0), .val (.ref ta), .val (.ref be), .val (.int (Int32.ofNat i)), .val (.ref ta), .val (.int (Int32.ofNat n)), .val (.int (Int32.ofNat i)), l7] [])) s ({ frames := 10, cells := 33, slots := 173, locals := 161 } : Room).cells ({ frames := 10, cells := 33, slots := 173, locals := 161 } : Room).slots (Q2 Z p0 ta be zt kz zz zero one kt kb bf n n1 h0 n0) := by
    intro f
    induction f with
    | zero =>
      intro i hif T Lc hp cz sz l7 ok7 X eT Nn Zp Kp hcz hsz J0 J1 J2 J3 J4 J5 J6 J7 J8 J9 J10 J11
      have hin : n = i := by omega
      subst hin
      refine own_go (fun _ k => XS.iload X.here hx rfl (hb hby d2_27) rfl k) ?_
      show own_G _ _ _ (T.setTop (mkF m 29 #[.val (.ref p0), .val (.ref ta), .val (.ref be), .val (.int (Int32.ofNat n)), .val (.ref ta), .val (.int (Int32.ofNat n)), .val (.int (Int32.ofNat n)), l7] [(.int (Int32.ofNat n))])) _ _ _ _
      refine own_go (fun _ k => XS.iload X.here hx rfl (hb hby d2_29) rfl k) ?_
      show own_G _ _ _ (T.setTop (mkF m 31 #[.val (.ref p0), .val (.ref ta), .val (.ref be), .val (.int (Int32.ofNat n)), .val (.ref ta), .val (.int (Int32.ofNat n)), .val (.int (Int32.ofNat n)), l7] [(.int (Int32.ofNat n)), (.int (Int32.ofNat n))])) _ _ _ _
      have hc36 : ¬ ((Int32.ofNat n) < (Int32.ofNat n)) := (fun q => absurd ((own_ltI n n (by omega) (by omega)).mp q) (Nat.lt_irrefl _))
      refine own_go (fun _ k => XS.icmpYes X.here hx rfl (pc0 := 31) (pc' := 56) rfl (hb hby d2_31) rfl (flt hc36).2.1 (by decide) (by decide) k) ?_
      show own_G _ _ _ (T.setTop (mkF m 56 #[.val (.ref p0), .val (.ref ta), .val (.ref be), .val (.int (Int32.ofNat n)), .val (.ref ta), .val (.int (Int32.ofNat n)), .val (.int (Int32.ofNat n)), l7] [])) _ _ _ _
      refine own_go (fun _ k => XS.aloadN X.here hx rfl (hb hby d2_56) rfl rfl k) ?_
      show own_G _ _ _ (T.setTop (mkF m 57 #[.val (.ref p0), .val (.ref ta), .val (.ref be), .val (.int (Int32.ofNat n)), .val (.ref ta), .val (.int (Int32.ofNat n)), .val (.int (Int32.ofNat n)), l7] [(.ref p0)])) _ _ _ _
      refine own_go (fun _ k => XS.iloadN X.here hx rfl (hb hby d2_57) rfl k) ?_
      show own_G _ _ _ (T.setTop (mkF m 58 #[.val (.ref p0), .val (.ref ta), .val (.ref be), .val (.int (Int32.ofNat n)), .val (.ref ta), .val (.int (Int32.ofNat n)), .val (.int (Int32.ofNat n)), l7] [(.int (Int32.ofNat n)), (.ref p0)])) _ _ _ _
      obtain ⟨T37, h37, X37, e37, W37, st37⟩ := putF X hx hZ hown (host := "") (Or.inl (hw _ (List.mem_of_getElem? (i := 19) rfl))) Via.refl eT J3 J0 (Or.inr ⟨(hw _ (List.mem_of_getElem? (i := 20) rfl)), rfl, hnm⟩) (hw _ (List.mem_of_getElem? (i := 8) rfl)) (ty := .int) (by decide) rfl rfl (g := (mkF m 58 #[.val (.ref p0), .val (.ref ta), .val (.ref be), .val (.int (Int32.ofNat n)), .val (.ref ta), .val (.int (Int32.ofNat n)), .val (.int (Int32.ofNat n)), l7] [(.int (Int32.ofNat n)), (.ref p0)])) rfl rfl (hb hby d2_58)
      have N37 := Fr.snoc X37 Nn g_p0
      have Zs37 : n0 ≤ h37.size := Nat.le_trans Zp (Keep.of_wr W37).1
      have K37_0 : Keep h0 h37 [p0] := Kp.wr W37 (Or.inl (List.mem_of_getElem? (i := 0) rfl))
      have f38 : Exa Z h37 p0 "com/example/slackline/slackline/Precedence" := J0.wr W37
      have f39 : Fld Z h37 p0 "com/example/slackline/slackline/Precedence" "tasks" "[I" (.ref ta) := J1.other W37 (Or.inr (slot_ne (Or.inr (hw _ (List.mem_of_getElem? (i := 16) rfl))) (Or.inr (hw _ (List.mem_of_getElem? (i := 20) rfl))) (by decide) (t := (.array .int)) (t' := .int) (by decide) (by decide)))
      have f40 : Fld Z h37 p0 "com/example/slackline/slackline/Precedence" "before" "[[I" (.ref be) := J2.other W37 (Or.inr (slot_ne (Or.inr (hw _ (List.mem_of_getElem? (i := 18) rfl))) (Or.inr (hw _ (List.mem_of_getElem? (i := 20) rfl))) (by decide) (t := (.array (.array .int))) (t' := .int) (by decide) (by decide)))
      have f41 : Fld Z h37 p0 "com/example/slackline/slackline/Precedence" "taskCount" "I" (.int (Int32.ofNat n)) := J3.same W37
      have f42 : Fld Z h37 p0 "com/example/slackline/slackline/Precedence" "chain" "Z" (.int (0 : Int32)) := J4.other W37 (Or.inr (slot_ne (Or.inr (hw _ (List.mem_of_getElem? (i := 81) rfl))) (Or.inr (hw _ (List.mem_of_getElem? (i := 20) rfl))) (by decide) (t := .boolean) (t' := .int) (by decide) (by decide)))
      have f43 : Old Z n0 h37 := J5.wr W37 g_p0
      have f44 : Arv Z h37 ta kt .int (Int32.ofNat n) (own_fam own_gi (.int 0) n n) (.int 0) := J6.other W37 (Ne.symm (by obtain ⟨c_, A_, -⟩ := J6; exact ne_arr J0 (hw _ (List.mem_of_getElem? (i := 8) rfl)) A_))
      have f45 : Arv Z h37 be kb (.array .int) (Int32.ofNat n) (own_fam (own_gr bf) .null n n) .null := J7.other W37 (Ne.symm (by obtain ⟨c_, A_, -⟩ := J7; exact ne_arr J0 (hw _ (List.mem_of_getElem? (i := 8) rfl)) A_))
      have f46 : own_Bef Z h37 bf n n1 := J8.wr W37 hbp
      have f47 : Exa Z h37 one "java/math/BigDecimal" := J9.wr W37
      have f48 : Fld Z h37 one "java/math/BigDecimal" "scale" "I" (.int (0 : Int32)) := J10.other W37 (Or.inl (ne_exa J9 J0 (by decide)))
      have f49 : Fld Z h37 one "java/math/BigDecimal" "intCompact" "J" (.long (1 : Int64)) := J11.other W37 (Or.inl (ne_exa J9 J0 (by decide)))
      refine own_go (fun _ k => st37 _ k) ?_
      show own_G _ _ _ (T37.setTop (mkF m 61 #[.val (.ref p0), .val (.ref ta), .val (.ref be), .val (.int (Int32.ofNat n)), .val (.ref ta), .val (.int (Int32.ofNat n)), .val (.int (Int32.ofNat n)), l7] [])) _ _ _ _
      refine own_go (fun _ k => XS.iloadN X37.here hx rfl (hb hby d2_61) rfl k) ?_
      show own_G _ _ _ (T37.setTop (mkF m 62 #[.val (.ref p0), .val (.ref ta), .val (.ref be), .val (.int (Int32.ofNat n)), .val (.ref ta), .val (.int (Int32.ofNat n)), .val (.int (Int32.ofNat n)), l7] [(.int (Int32.ofNat n))])) _ _ _ _
      obtain ⟨T50, X50, e50, st50⟩ := getS2 X37 hx hZ hown (host := "") (Or.inl (hw _ (List.mem_of_getElem? (i := 21) rfl))) Via.refl e37 (P_ZS_java_math_BigDecimal_ONE.ext f43.2) (g := (mkF m 62 #[.val (.ref p0), .val (.ref ta), .val (.ref be), .val (.int (Int32.ofNat n)), .val (.ref ta), .val (.int (Int32.ofNat n)), .val (.int (Int32.ofNat n)), l7] [(.int (Int32.ofNat n))])) rfl (hb hby d2_62)
      refine own_go (fun _ k => st50 _ k) ?_
      show own_G _ _ _ (T50.setTop (mkF m 65 #[.val (.ref p0), .val (.ref ta), .val (.ref be), .val (.int (Int32.ofNat n)), .val (.ref ta), .val (.int (Int32.ofNat n)), .val (.int (Int32.ofNat n)), l7] [(.ref one), (.int (Int32.ofNat n))])) _ _ _ _
      obtain ⟨_, _, ⟨T51, L51, k51, n51⟩, -, X51, ⟨Lc51, hQ51, l51, y51, z51⟩, st51⟩ := Jvm.LawKit.callS X50 hx (y := (⟨"java/util/Collections", "nCopies", "(ILjava/lang/Object;)Ljava/util/List;"⟩ : MethodName)) hown (mvT hZ (hw _ (List.mem_of_getElem? (i := 23) rfl))) (mvT hZ (hw _ (List.mem_of_getElem? (i := 24) rfl))) (mvT hZ (hw _ (List.mem_of_getElem? (i := 25) rfl))) (mvT hZ (hw _ (List.mem_of_getElem? (i := 26) rfl))) (by decide) (backOf (W := 0) (rm4 l Z a0 hw [] (Int32.ofNat n) one  h37 n0 Zs37 f43 P_ZS_java_util_Collections_CopiesList__assertionsDisabled (own_nn n (by omega))) hZ (hw _ (List.mem_of_getElem? (i := 26) rfl)) (hw _ (List.mem_of_getElem? (i := 25) rfl)) (by decide) (by decide)) (g := (mkF m 65 #[.val (.ref p0), .val (.ref ta), .val (.ref be), .val (.int (Int32.ofNat n)), .val (.ref ta), .val (.int (Int32.ofNat n)), .val (.int (Int32.ofNat n)), l7] [(.ref one), (.int (Int32.ofNat n))])) rfl (by rw [hml]; rfl) (argsL := [(.int (Int32.ofNat n)), (.ref one)]) (rest := []) (lenOf pd_15 rfl) rfl (by show 2 * 0 + _ ≤ _; exact Nat.le_of_eq rfl) (hb hby d2_65) (fun _ _ => ⟨rfl, e50, (by first | decide | omega | (dsimp only [Pt.cells, Pt.slots]; omega)), (by first | decide | omega | (dsimp only [Pt.cells, Pt.slots]; omega))⟩)
      dsimp only [Pt.U, Pt.locs, Pt.cells, Pt.slots] at X51 l51 y51 z51 st51 hQ51
      rw [l51] at X51
      subst y51 z51
      obtain ⟨b51, rfl, Nq51, Kq51, r51_0, r51_1, r51_2⟩ := hQ51
      have N51 := Fr.app N37 Nq51
      have f52 : Exa Z T51.heap p0 "com/example/slackline/slackline/Precedence" := f38.keep Kq51
      have f53 : Fld Z T51.heap p0 "com/example/slackline/slackline/Precedence" "tasks" "[I" (.ref ta) := f39.keep Kq51 nin0
      have f54 : Fld Z T51.heap p0 "com/example/slackline/slackline/Precedence" "before" "[[I" (.ref be) := f40.keep Kq51 nin0
      have f55 : Fld Z T51.heap p0 "com/example/slackline/slackline/Precedence" "taskCount" "I" (.int (Int32.ofNat n)) := f41.keep Kq51 nin0
      have f56 : Fld Z T51.heap p0 "com/example/slackline/slackline/Precedence" "chain" "Z" (.int (0 : Int32)) := f42.keep Kq51 nin0
      have f57 : Old Z n0 T51.heap := f43.keep Kq51 all0
      have f58 : Arv Z T51.heap ta kt .int (Int32.ofNat n) (own_fam own_gi (.int 0) n n) (.int 0) := f44.keep Kq51 nin0
      have f59 : Arv Z T51.heap be kb (.array .int) (Int32.ofNat n) (own_fam (own_gr bf) .null n n) .null := f45.keep Kq51 nin0
      have f60 : own_Bef Z T51.heap bf n n1 := f46.keep Kq51 (fun _ _ => nin0)
      have f61 : Exa Z T51.heap one "java/math/BigDecimal" := f47.keep Kq51
      have f62 : Fld Z T51.heap one "java/math/BigDecimal" "scale" "I" (.int (0 : Int32)) := f48.keep Kq51 nin0
      have f63 : Fld Z T51.heap one "java/math/BigDecimal" "intCompact" "J" (.long (1 : Int64)) := f49.keep Kq51 nin0
      have Zs51 : n0 ≤ T51.heap.size := Nat.le_trans Zs37 Kq51.1
      have K51_0 : Keep h0 T51.heap [p0] := K37_0.trans Kq51 all0
      refine own_go (fun _ k => st51 _ k) ?_
      show own_G _ _ _ (T51.setTop (mkF m 68 #[.val (.ref p0), .val (.ref ta), .val (.ref be), .val (.int (Int32.ofNat n)), .val (.ref ta), .val (.int (Int32.ofNat n)), .val (.int (Int32.ofNat n)), l7] [(.ref b51)])) _ _ _ _
      refine own_go (fun _ k => XS.astore X51.here hx rfl (hb hby d2_68) rfl rfl (l' := #[.val (.ref p0), .val (.ref ta), .val (.ref be), .val (.int (Int32.ofNat n)), .val (.ref b51), .val (.int (Int32.ofNat n)), .val (.int (Int32.ofNat n)), l7]) rfl k) ?_
      show own_G _ _ _ (T51.setTop (mkF m 70 #[.val (.ref p0), .val (.ref ta), .val (.ref be), .val (.int (Int32.ofNat n)), .val (.ref b51), .val (.int (Int32.ofNat n)), .val (.int (Int32.ofNat n)), l7] [])) _ _ _ _
      refine own_go (fun _ k => XS.aloadN X51.here hx rfl (hb hby d2_70) rfl rfl k) ?_
      show own_G _ _ _ (T51.setTop (mkF m 71 #[.val (.ref p0), .val (.ref ta), .val (.ref be), .val (.int (Int32.ofNat n)), .val (.ref b51), .val (.int (Int32.ofNat n)), .val (.int (Int32.ofNat n)), l7] [(.ref p0)])) _ _ _ _
      refine own_go (fun _ k => XS.aloadN X51.here hx rfl (hb hby d2_71) rfl rfl k) ?_
      show own_G _ _ _ (T51.setTop (mkF m 72 #[.val (.ref p0), .val (.ref ta), .val (.ref be), .val (.int (Int32.ofNat n)), .val (.ref b51), .val (.int (Int32.ofNat n)), .val (.int (Int32.ofNat n)), l7] [(.ref p0), (.ref p0)])) _ _ _ _
      refine own_go (fun _ k => XS.aload X51.here hx rfl (hb hby d2_72) rfl rfl k) ?_
      show own_G _ _ _ (T51.setTop (mkF m 74 #[.val (.ref p0), .val (.ref ta), .val (.ref be), .val (.int (Int32.ofNat n)), .val (.ref b51), .val (.int (Int32.ofNat n)), .val (.int (Int32.ofNat n)), l7] [(.ref b51), (.ref p0), (.ref p0)])) _ _ _ _
      obtain ⟨cq64, kq64, q64a, q64b, q64c⟩ := isOf hZ rfl f52
      obtain ⟨_, _, ⟨T64, L64, k64, n64⟩, -, X64, ⟨Lc64, hQ64, l64, y64, z64⟩, st64⟩ := X51.virtualBack hx (y := (⟨"com/example/slackline/slackline/Precedence", "length", "(Ljava/util/List;)Ljava/math/BigDecimal;"⟩ : MethodName)) (z := (⟨"com/example/slackline/slackline/Precedence", "length", "(Ljava/util/List;)Ljava/math/BigDecimal;"⟩ : MethodName)) hown (mvT hZ (hw _ (List.mem_of_getElem? (i := 54) rfl))) (mvT hZ (hw _ (List.mem_of_getElem? (i := 55) rfl))) (notFace_of_selects (args := #[]) (mvT hZ (hw _ (List.mem_of_getElem? (i := 57) rfl)))) (mvT hZ (hw _ (List.mem_of_getElem? (i := 57) rfl))) (mvT hZ (hw _ (List.mem_of_getElem? (i := 56) rfl))) (by decide) (backOf (W := 1) (rm8 l Z a0 hw [] p0 b51 zt kz zz zero one ta kt be kb bf n n1 T51.heap n0 Zs51 f52 f57 P_ZS_java_math_BigDecimal_ZERO_THROUGH_TEN VZ HZZ P_ZS_java_math_BigDecimal_ZERO H0 H1 f53 f54 f58 f59 f60 r51_0 r51_1 r51_2 hn15) hZ (hw _ (List.mem_of_getElem? (i := 58) rfl)) (hw _ (List.mem_of_getElem? (i := 2) rfl)) (by decide) (by decide)) q64a q64c (g := (mkF m 74 #[.val (.ref p0), .val (.ref ta), .val (.ref be), .val (.int (Int32.ofNat n)), .val (.ref b51), .val (.int (Int32.ofNat n)), .val (.int (Int32.ofNat n)), l7] [(.ref b51), (.ref p0), (.ref p0)])) rfl (by rw [hml]; rfl) (Steps.refl _) (argsL := [(.ref b51)]) (rest := [(.ref p0)]) (lenOf pd_16 rfl) rfl (by show 2 * 0 + _ ≤ _; exact Nat.le_of_eq rfl) (hb hby d2_74) (fun _ _ => ⟨rfl, rfl, (by first | decide | omega | (dsimp only [Pt.cells, Pt.slots]; omega)), (by first | decide | omega | (dsimp only [Pt.cells, Pt.slots]; omega))⟩)
      dsimp only [Pt.U, Pt.locs, Pt.cells, Pt.slots] at X64 l64 y64 z64 st64 hQ64
      rw [l64] at X64
      subst y64 z64
      obtain ⟨b64, rfl, Nq64, Kq64, r64_0, r64_1, r64_2⟩ := hQ64
      have N64 := Fr.app N51 Nq64
      have f65 : Exa Z T64.heap p0 "com/example/slackline/slackline/Precedence" := f52.keep Kq64
      have f66 : Fld Z T64.heap p0 "com/example/slackline/slackline/Precedence" "tasks" "[I" (.ref ta) := f53.keep Kq64 nin0
      have f67 : Fld Z T64.heap p0 "com/example/slackline/slackline/Precedence" "before" "[[I" (.ref be) := f54.keep Kq64 nin0
      have f68 : Fld Z T64.heap p0 "com/example/slackline/slackline/Precedence" "taskCount" "I" (.int (Int32.ofNat n)) := f55.keep Kq64 nin0
      have f69 : Fld Z T64.heap p0 "com/example/slackline/slackline/Precedence" "chain" "Z" (.int (0 : Int32)) := f56.keep Kq64 nin0
      have f70 : Old Z n0 T64.heap := f57.keep Kq64 all0
      have f71 : Arv Z T64.heap ta kt .int (Int32.ofNat n) (own_fam own_gi (.int 0) n n) (.int 0) := f58.keep Kq64 nin0
      have f72 : Arv Z T64.heap be kb (.array .int) (Int32.ofNat n) (own_fam (own_gr bf) .null n n) .null := f59.keep Kq64 nin0
      have f73 : own_Bef Z T64.heap bf n n1 := f60.keep Kq64 (fun _ _ => nin0)
      have f74 : Exa Z T64.heap one "java/math/BigDecimal" := f61.keep Kq64
      have f75 : Fld Z T64.heap one "java/math/BigDecimal" "scale" "I" (.int (0 : Int32)) := f62.keep Kq64 nin0
      have f76 : Fld Z T64.heap one "java/math/BigDecimal" "intCompact" "J" (.long (1 : Int64)) := f63.keep Kq64 nin0
      have f77 : Exa Z T64.heap b51 "java/util/Collections$CopiesList" := r51_0.keep Kq64
      have f78 : Fld Z T64.heap b51 "java/util/Collections$CopiesList" "n" "I" (.int (Int32.ofNat n)) := r51_1.keep Kq64 nin0
      have f79 : Fld Z T64.heap b51 "java/util/Collections$CopiesList" "element" "Ljava/lang/Object;" (.ref one) := r51_2.keep Kq64 nin0
      have Zs64 : n0 ≤ T64.heap.size := Nat.le_trans Zs51 Kq64.1
      have K64_0 : Keep h0 T64.heap [p0] := K51_0.trans Kq64 all0
      refine own_tr st64 ?_
      show own_G _ _ _ (T64.setTop (mkF m 77 #[.val (.ref p0), .val (.ref ta), .val (.ref be), .val (.int (Int32.ofNat n)), .val (.ref b51), .val (.int (Int32.ofNat n)), .val (.int (Int32.ofNat n)), l7] [(.ref b64), (.ref p0)])) _ _ _ _
      refine own_go (fun _ k => XS.iloadN X64.here hx rfl (hb hby d2_77) rfl k) ?_
      show own_G _ _ _ (T64.setTop (mkF m 78 #[.val (.ref p0), .val (.ref ta), .val (.ref be), .val (.int (Int32.ofNat n)), .val (.ref b51), .val (.int (Int32.ofNat n)), .val (.int (Int32.ofNat n)), l7] [(.int (Int32.ofNat n)), (.ref b64), (.ref p0)])) _ _ _ _
      refine own_go (fun _ k => XS.i2l X64.here hx rfl (hb hby d2_78) rfl k) ?_
      rw [own_i2l n (by omega)]
      show own_G _ _ _ (T64.setTop (mkF m 79 #[.val (.ref p0), .val (.ref ta), .val (.ref be), .val (.int (Int32.ofNat n)), .val (.ref b51), .val (.int (Int32.ofNat n)), .val (.int (Int32.ofNat n)), l7] [(.long (Int64.ofNat n)), (.ref b64), (.ref p0)])) _ _ _ _
      obtain ⟨_, _, ⟨T80, L80, k80, n80⟩, -, X80, ⟨Lc80, hQ80, l80, y80, z80⟩, st80⟩ := Jvm.LawKit.callS X64 hx (y := (⟨"java/math/BigDecimal", "valueOf", "(J)Ljava/math/BigDecimal;"⟩ : MethodName)) hown (mvT hZ (hw _ (List.mem_of_getElem? (i := 66) rfl))) (mvT hZ (hw _ (List.mem_of_getElem? (i := 67) rfl))) (mvT hZ (hw _ (List.mem_of_getElem? (i := 22) rfl))) (mvT hZ (hw _ (List.mem_of_getElem? (i := 68) rfl))) (by decide) (backOf (W := 2) (rm10 l Z a0 hw []  n zt kz zz T64.heap n0 Zs64 f70 P_ZS_java_math_BigDecimal_ZERO_THROUGH_TEN VZ HZZ (by omega)) hZ (hw _ (List.mem_of_getElem? (i := 68) rfl)) (hw _ (List.mem_of_getElem? (i := 22) rfl)) (by decide) (by decide)) (g := (mkF m 79 #[.val (.ref p0), .val (.ref ta), .val (.ref be), .val (.int (Int32.ofNat n)), .val (.ref b51), .val (.int (Int32.ofNat n)), .val (.int (Int32.ofNat n)), l7] [(.long (Int64.ofNat n)), (.ref b64), (.ref p0)])) rfl (by rw [hml]; rfl) (argsL := [(.long (Int64.ofNat n))]) (rest := [(.ref b64), (.ref p0)]) (lenOf pd_3 rfl) rfl (by show 2 * 0 + _ ≤ _; exact Nat.le_of_eq rfl) (hb hby d2_79) (fun _ _ => ⟨rfl, rfl, (by first | decide | omega | (dsimp only [Pt.cells, Pt.slots]; omega)), (by first | decide | omega | (dsimp only [Pt.cells, Pt.slots]; omega))⟩)
      dsimp only [Pt.U, Pt.locs, Pt.cells, Pt.slots] at X80 l80 y80 z80 st80 hQ80
      rw [l80] at X80
      subst y80 z80
      obtain ⟨b80, rfl, Nq80, Kq80, r80_0, r80_1, r80_2⟩ := hQ80
      have N80 := Fr.app N64 Nq80
      have f81 : Exa Z T80.heap p0 "com/example/slackline/slackline/Precedence" := f65.keep Kq80
      have f82 : Fld Z T80.heap p0 "com/example/slackline/slackline/Precedence" "tasks" "[I" (.ref ta) := f66.keep Kq80 nin0
      have f83 : Fld Z T80.heap p0 "com/example/slackline/slackline/Precedence" "before" "[[I" (.ref be) := f67.keep Kq80 nin0
      have f84 : Fld Z T80.heap p0 "com/example/slackline/slackline/Precedence" "taskCount" "I" (.int (Int32.ofNat n)) := f68.keep Kq80 nin0
      have f85 : Fld Z T80.heap p0 "com/example/slackline/slackline/Precedence" "chain" "Z" (.int (0 : Int32)) := f69.keep Kq80 nin0
      have f86 : Old Z n0 T80.heap := f70.keep Kq80 all0
      have f87 : Arv Z T80.heap ta kt .int (Int32.ofNat n) (own_fam own_gi (.int 0) n n) (.int 0) := f71.keep Kq80 nin0
      have f88 : Arv Z T80.heap be kb (.array .int) (Int32.ofNat n) (own_fam (own_gr bf) .null n n) .null := f72.keep Kq80 nin0
      have f89 : own_Bef Z T80.heap bf n n1 := f73.keep Kq80 (fun _ _ => nin0)
      have f90 : Exa Z T80.heap one "java/math/BigDecimal" := f74.keep Kq80
      have f91 : Fld Z T80.heap one "java/math/BigDecimal" "scale" "I" (.int (0 : Int32)) := f75.keep Kq80 nin0
      have f92 : Fld Z T80.heap one "java/math/BigDecimal" "intCompact" "J" (.long (1 : Int64)) := f76.keep Kq80 nin0
      have f93 : Exa Z T80.heap b51 "java/util/Collections$CopiesList" := f77.keep Kq80
      have f94 : Fld Z T80.heap b51 "java/util/Collections$CopiesList" "n" "I" (.int (Int32.ofNat n)) := f78.keep Kq80 nin0
      have f95 : Fld Z T80.heap b51 "java/util/Collections$CopiesList" "element" "Ljava/lang/Object;" (.ref one) := f79.keep Kq80 nin0
      have f96 : Exa Z T80.heap b64 "java/math/BigDecimal" := r64_0.keep Kq80
      have f97 : Fld Z T80.heap b64 "java/math/BigDecimal" "scale" "I" (.int (0 : Int32)) := r64_1.keep Kq80 nin0
      have f98 : Fld Z T80.heap b64 "java/math/BigDecimal" "intCompact" "J" (.long (Int64.ofNat n)) := r64_2.keep Kq80 nin0
      have Zs80 : n0 ≤ T80.heap.size := Nat.le_trans Zs64 Kq80.1
      have K80_0 : Keep h0 T80.heap [p0] := K64_0.trans Kq80 all0
      refine own_go (fun _ k => st80 _ k) ?_
      show own_G _ _ _ (T80.setTop (mkF m 82 #[.val (.ref p0), .val (.ref ta), .val (.ref be), .val (.int (Int32.ofNat n)), .val (.ref b51), .val (.int (Int32.ofNat n)), .val (.int (Int32.ofNat n)), l7] [(.ref b80), (.ref b64), (.ref p0)])) _ _ _ _
      obtain ⟨cq99, kq99, q99a, q99b, q99c⟩ := isOf hZ rfl f96
      obtain ⟨_, _, ⟨T99, L99, k99, n99⟩, -, X99, ⟨Lc99, hQ99, l99, y99, z99⟩, st99⟩ := X80.virtualBack hx (y := (⟨"java/math/BigDecimal", "compareTo", "(Ljava/math/BigDecimal;)I"⟩ : MethodName)) (z := (⟨"java/math/BigDecimal", "compareTo", "(Ljava/math/BigDecimal;)I"⟩ : MethodName)) hown (mvT hZ (hw _ (List.mem_of_getElem? (i := 70) rfl))) (mvT hZ (hw _ (List.mem_of_getElem? (i := 71) rfl))) (notFace_of_selects (args := #[]) (mvT hZ (hw _ (List.mem_of_getElem? (i := 73) rfl)))) (mvT hZ (hw _ (List.mem_of_getElem? (i := 73) rfl))) (mvT hZ (hw _ (List.mem_of_getElem? (i := 72) rfl))) (by decide) (backOf (W := 1) (rm11b l Z a0 hw [] b64 b80 n T80.heap n0 Zs80 f97 f98 r80_1 r80_2 (by omega)) hZ (hw _ (List.mem_of_getElem? (i := 74) rfl)) (hw _ (List.mem_of_getElem? (i := 22) rfl)) (by decide) (by decide)) q99a q99c (g := (mkF m 82 #[.val (.ref p0), .val (.ref ta), .val (.ref be), .val (.int (Int32.ofNat n)), .val (.ref b51), .val (.int (Int32.ofNat n)), .val (.int (Int32.ofNat n)), l7] [(.ref b80), (.ref b64), (.ref p0)])) rfl (by rw [hml]; rfl) (Steps.refl _) (argsL := [(.ref b80)]) (rest := [(.ref p0)]) (lenOf pd_8 rfl) rfl (by show 2 * 0 + _ ≤ _; exact Nat.le_of_eq rfl) (hb hby d2_82) (fun _ _ => ⟨rfl, rfl, (by first | decide | omega | (dsimp only [Pt.cells, Pt.slots]; omega)), (by first | decide | omega | (dsimp only [Pt.cells, Pt.slots]; omega))⟩)
      dsimp only [Pt.U, Pt.locs, Pt.cells, Pt.slots] at X99 l99 y99 z99 st99 hQ99
      rw [l99] at X99
      subst y99 z99
      obtain ⟨rfl, Nq99, eh99⟩ := hQ99
      have N99 := Fr.app N80 Nq99
      refine own_tr st99 ?_
      show own_G _ _ _ (T99.setTop (mkF m 85 #[.val (.ref p0), .val (.ref ta), .val (.ref be), .val (.int (Int32.ofNat n)), .val (.ref b51), .val (.int (Int32.ofNat n)), .val (.int (Int32.ofNat n)), l7] [(.int (0 : Int32)), (.ref p0)])) _ _ _ _
      have hc100 : (0 : Int32) = (0 : Int32) := (by decide)
      refine own_go (fun _ k => XS.ifNo X99.here hx rfl (hb hby d2_85) rfl ((if0 _ _).trans (teq hc100).2) k) ?_
      show own_G _ _ _ (T99.setTop (mkF m 88 #[.val (.ref p0), .val (.ref ta), .val (.ref be), .val (.int (Int32.ofNat n)), .val (.ref b51), .val (.int (Int32.ofNat n)), .val (.int (Int32.ofNat n)), l7] [(.ref p0)])) _ _ _ _
      refine own_go (fun _ k => XS.iconst X99.here hx rfl (hb hby d2_88) k) ?_
      show own_G _ _ _ (T99.setTop (mkF m 89 #[.val (.ref p0), .val (.ref ta), .val (.ref be), .val (.int (Int32.ofNat n)), .val (.ref b51), .val (.int (Int32.ofNat n)), .val (.int (Int32.ofNat n)), l7] [(.int (1 : Int32)), (.ref p0)])) _ _ _ _
      refine own_go (fun _ k => XS.goto X99.here hx rfl (pc0 := 89) (pc' := 93) rfl (hb hby d2_89) (by decide) (by decide) k) ?_
      show own_G _ _ _ (T99.setTop (mkF m 93 #[.val (.ref p0), .val (.ref ta), .val (.ref be), .val (.int (Int32.ofNat n)), .val (.ref b51), .val (.int (Int32.ofNat n)), .val (.int (Int32.ofNat n)), l7] [(.int (1 : Int32)), (.ref p0)])) _ _ _ _
      obtain ⟨T101, h101, X101, e101, W101, st101⟩ := putFN X99 hx hZ hown (hw _ (List.mem_of_getElem? (i := 80) rfl)) Via.refl eh99 f85 f81 (Or.inr ⟨(hw _ (List.mem_of_getElem? (i := 81) rfl)), rfl, hnm⟩) (hw _ (List.mem_of_getElem? (i := 8) rfl)) (ty := .boolean) (v' := (.int (1 : Int32))) (by decide) rfl rfl (g := (mkF m 93 #[.val (.ref p0), .val (.ref ta), .val (.ref be), .val (.int (Int32.ofNat n)), .val (.ref b51), .val (.int (Int32.ofNat n)), .val (.int (Int32.ofNat n)), l7] [(.int (1 : Int32)), (.ref p0)])) rfl rfl (hb hby d2_93)
      have N101 := Fr.snoc X101 N99 g_p0
      have Zs101 : n0 ≤ h101.size := Nat.le_trans Zs80 (Keep.of_wr W101).1
      have K101_0 : Keep h0 h101 [p0] := K80_0.wr W101 (Or.inl (List.mem_of_getElem? (i := 0) rfl))
      have f102 : Exa Z h101 p0 "com/example/slackline/slackline/Precedence" := f81.wr W101
      have f103 : Fld Z h101 p0 "com/example/slackline/slackline/Precedence" "tasks" "[I" (.ref ta) := f82.other W101 (Or.inr (slot_ne (Or.inr (hw _ (List.mem_of_getElem? (i := 16) rfl))) (Or.inr (hw _ (List.mem_of_getElem? (i := 81) rfl))) (by decide) (t := (.array .int)) (t' := .boolean) (by decide) (by decide)))
      have f104 : Fld Z h101 p0 "com/example/slackline/slackline/Precedence" "before" "[[I" (.ref be) := f83.other W101 (Or.inr (slot_ne (Or.inr (hw _ (List.mem_of_getElem? (i := 18) rfl))) (Or.inr (hw _ (List.mem_of_getElem? (i := 81) rfl))) (by decide) (t := (.array (.array .int))) (t' := .boolean) (by decide) (by decide)))
      have f105 : Fld Z h101 p0 "com/example/slackline/slackline/Precedence" "taskCount" "I" (.int (Int32.ofNat n)) := f84.other W101 (Or.inr (slot_ne (Or.inr (hw _ (List.mem_of_getElem? (i := 20) rfl))) (Or.inr (hw _ (List.mem_of_getElem? (i := 81) rfl))) (by decide) (t := .int) (t' := .boolean) (by decide) (by decide)))
      have f106 : Fld Z h101 p0 "com/example/slackline/slackline/Precedence" "chain" "Z" (.int (1 : Int32)) := f85.same W101
      have f107 : Old Z n0 h101 := f86.wr W101 g_p0
      have f108 : Arv Z h101 ta kt .int (Int32.ofNat n) (own_fam own_gi (.int 0) n n) (.int 0) := f87.other W101 (Ne.symm (by obtain ⟨c_, A_, -⟩ := f87; exact ne_arr f81 (hw _ (List.mem_of_getElem? (i := 8) rfl)) A_))
      have f109 : Arv Z h101 be kb (.array .int) (Int32.ofNat n) (own_fam (own_gr bf) .null n n) .null := f88.other W101 (Ne.symm (by obtain ⟨c_, A_, -⟩ := f88; exact ne_arr f81 (hw _ (List.mem_of_getElem? (i := 8) rfl)) A_))
      have f110 : own_Bef Z h101 bf n n1 := f89.wr W101 hbp
      have f111 : Exa Z h101 one "java/math/BigDecimal" := f90.wr W101
      have f112 : Fld Z h101 one "java/math/BigDecimal" "scale" "I" (.int (0 : Int32)) := f91.other W101 (Or.inl (ne_exa f90 f81 (by decide)))
      have f113 : Fld Z h101 one "java/math/BigDecimal" "intCompact" "J" (.long (1 : Int64)) := f92.other W101 (Or.inl (ne_exa f90 f81 (by decide)))
      have f114 : Exa Z h101 b51 "java/util/Collections$CopiesList" := f93.wr W101
      have f115 : Fld Z h101 b51 "java/util/Collections$CopiesList" "n" "I" (.int (Int32.ofNat n)) := f94.other W101 (Or.inl (ne_exa f93 f81 (by decide)))
      have f116 : Fld Z h101 b51 "java/util/Collections$CopiesList" "element" "Ljava/lang/Object;" (.ref one) := f95.other W101 (Or.inl (ne_exa f93 f81 (by decide)))
      have f117 : Exa Z h101 b64 "java/math/BigDecimal" := f96.wr W101
      have f118 : Fld Z h101 b64 "java/math/BigDecimal" "scale" "I" (.int (0 : Int32)) := f97.other W101 (Or.inl (ne_exa f96 f81 (by decide)))
      have f119 : Fld Z h101 b64 "java/math/BigDecimal" "intCompact" "J" (.long (Int64.ofNat n)) := f98.other W101 (Or.inl (ne_exa f96 f81 (by decide)))
      have f120 : Exa Z h101 b80 "java/math/BigDecimal" := r80_0.wr W101
      have f121 : Fld Z h101 b80 "java/math/BigDecimal" "scale" "I" (.int (0 : Int32)) := r80_1.other W101 (Or.inl (ne_exa r80_0 f81 (by decide)))
      have f122 : Fld Z h101 b80 "java/math/BigDecimal" "intCompact" "J" (.long (Int64.ofNat n)) := r80_2.other W101 (Or.inl (ne_exa r80_0 f81 (by decide)))
      refine own_go (fun _ k => st101 _ k) ?_
      show own_G _ _ _ (T101.setTop (mkF m 96 #[.val (.ref p0), .val (.ref ta), .val (.ref be), .val (.int (Int32.ofNat n)), .val (.ref b51), .val (.int (Int32.ofNat n)), .val (.int (Int32.ofNat n)), l7] [])) _ _ _ _
      exact own_endV X101 hx hlk Bd.returns (hb hby d2_96) (by first | decide | omega | (dsimp only [Pt.cells, Pt.slots]; omega)) (by first | decide | omega | (dsimp only [Pt.cells, Pt.slots]; omega)) (Q := (Q2 Z p0 ta be zt kz zz zero one kt kb bf n n1 h0 n0)) (by rw [e101]; exact ⟨rfl, N101, K101_0, f102, f103, f104, f105, f106⟩)
    | succ f ih =>
      intro i hif T Lc hp cz sz l7 ok7 X eT Nn Zp Kp hcz hsz J0 J1 J2 J3 J4 J5 J6 J7 J8 J9 J10 J11
      have hin : i < n := by omega
      refine own_go (fun _ k => XS.iload X.here hx rfl (hb hby d2_27) rfl k) ?_
      show own_G _ _ _ (T.setTop (mkF m 29 #[.val (.ref p0), .val (.ref ta), .val (.ref be), .val (.int (Int32.ofNat i)), .val (.ref ta), .val (.int (Int32.ofNat n)), .val (.int (Int32.ofNat i)), l7] [(.int (Int32.ofNat i))])) _ _ _ _
      refine own_go (fun _ k => XS.iload X.here hx rfl (hb hby d2_29) rfl k) ?_
      show own_G _ _ _ (T.setTop (mkF m 31 #[.val (.ref p0), .val (.ref ta), .val (.ref be), .val (.int (Int32.ofNat i)), .val (.ref ta), .val (.int (Int32.ofNat n)), .val (.int (Int32.ofNat i)), l7] [(.int (Int32.ofNat n)), (.int (Int32.ofNat i))])) _ _ _ _
      have hc33 : (Int32.ofNat i) < (Int32.ofNat n) := (own_ltI i n (by omega) (by omega)).mpr hin
      refine own_go (fun _ k => XS.icmpNo X.here hx rfl (hb hby d2_31) rfl (tlt hc33).2.1 k) ?_
      show own_G _ _ _ (T.setTop (mkF m 34 #[.val (.ref p0), .val (.ref ta), .val (.ref be), .val (.int (Int32.ofNat i)), .val (.ref ta), .val (.int (Int32.ofNat n)), .val (.int (Int32.ofNat i)), l7] [])) _ _ _ _
      refine own_go (fun _ k => XS.aload X.here hx rfl (hb hby d2_34) rfl rfl k) ?_
      show own_G _ _ _ (T.setTop (mkF m 36 #[.val (.ref p0), .val (.ref ta), .val (.ref be), .val (.int (Int32.ofNat i)), .val (.ref ta), .val (.int (Int32.ofNat n)), .val (.int (Int32.ofNat i)), l7] [(.ref ta)])) _ _ _ _
      refine own_go (fun _ k => XS.iload X.here hx rfl (hb hby d2_36) rfl k) ?_
      show own_G _ _ _ (T.setTop (mkF m 38 #[.val (.ref p0), .val (.ref ta), .val (.ref be), .val (.int (Int32.ofNat i)), .val (.ref ta), .val (.int (Int32.ofNat n)), .val (.int (Int32.ofNat i)), l7] [(.int (Int32.ofNat i)), (.ref ta)])) _ _ _ _
      obtain ⟨cl34, Ar34, q34, S34, Ng34, H34, G34⟩ := id J6
      have in34 : ¬ ((Int32.ofNat i) < 0 ∨ cl34.slots.size ≤ ((Int32.ofNat i)).toNatClampNeg) := inb_of S34 (own_inb (hin) (by omega))
      have at34 : cl34.slots[((Int32.ofNat i)).toNatClampNeg]? = some (.int (Int32.ofNat i)) := H34.at in34 (by rw [own_cl i (by omega)]; exact own_fam_get _ _ _ _ _ (hin) (hin))
      refine own_go (fun _ k => X.iaload hx (j := (Int32.ofNat i)) (v := (.int (Int32.ofNat i))) (by rw [eT]; exact Ar34.1) (State.isArrayOf_alike hZ.alike Ar34.2.1) Ar34.2.2 in34 at34 (g := (mkF m 38 #[.val (.ref p0), .val (.ref ta), .val (.ref be), .val (.int (Int32.ofNat i)), .val (.ref ta), .val (.int (Int32.ofNat n)), .val (.int (Int32.ofNat i)), l7] [(.int (Int32.ofNat i)), (.ref ta)])) rfl rfl (hb hby d2_38) _ k) ?_
      show own_G _ _ _ (T.setTop (mkF m 39 #[.val (.ref p0), .val (.ref ta), .val (.ref be), .val (.int (Int32.ofNat i)), .val (.ref ta), .val (.int (Int32.ofNat n)), .val (.int (Int32.ofNat i)), l7] [(.int (Int32.ofNat i))])) _ _ _ _
      refine own_go (fun _ k => XS.istore X.here hx rfl (hb hby d2_39) rfl (l' := #[.val (.ref p0), .val (.ref ta), .val (.ref be), .val (.int (Int32.ofNat i)), .val (.ref ta), .val (.int (Int32.ofNat n)), .val (.int (Int32.ofNat i)), .val (.int (Int32.ofNat i))]) (by rcases ok7 with h_ | ⟨z_, h_⟩ | ⟨a_, h_⟩ <;> rw [h_] <;> rfl) k) ?_
      show own_G _ _ _ (T.setTop (mkF m 41 #[.val (.ref p0), .val (.ref ta), .val (.ref be), .val (.int (Int32.ofNat i)), .val (.ref ta), .val (.int (Int32.ofNat n)), .val (.int (Int32.ofNat i)), .val (.int (Int32.ofNat i))] [])) _ _ _ _
      refine own_go (fun _ k => XS.iload X.here hx rfl (hb hby d2_41) rfl k) ?_
      show own_G _ _ _ (T.setTop (mkF m 43 #[.val (.ref p0), .val (.ref ta), .val (.ref be), .val (.int (Int32.ofNat i)), .val (.ref ta), .val (.int (Int32.ofNat n)), .val (.int (Int32.ofNat i)), .val (.int (Int32.ofNat i))] [(.int (Int32.ofNat i))])) _ _ _ _
      refine own_go (fun _ k => XS.iconst X.here hx rfl (hb hby d2_43) k) ?_
      show own_G _ _ _ (T.setTop (mkF m 44 #[.val (.ref p0), .val (.ref ta), .val (.ref be), .val (.int (Int32.ofNat i)), .val (.ref ta), .val (.int (Int32.ofNat n)), .val (.int (Int32.ofNat i)), .val (.int (Int32.ofNat i))] [(.int (-1 : Int32)), (.int (Int32.ofNat i))])) _ _ _ _
      have hc35 : ¬ ((Int32.ofNat i) = (-1 : Int32)) := own_m1 i (by omega)
      refine own_go (fun _ k => XS.icmpNo X.here hx rfl (hb hby d2_44) rfl (feq hc35).1 k) ?_
      show own_G _ _ _ (T.setTop (mkF m 47 #[.val (.ref p0), .val (.ref ta), .val (.ref be), .val (.int (Int32.ofNat i)), .val (.ref ta), .val (.int (Int32.ofNat n)), .val (.int (Int32.ofNat i)), .val (.int (Int32.ofNat i))] [])) _ _ _ _
      refine own_go (fun _ k => XS.iinc X.here hx rfl (hb hby d2_47) rfl (l' := #[.val (.ref p0), .val (.ref ta), .val (.ref be), .val (.int ((Int32.ofNat i) + (1 : Int32))), .val (.ref ta), .val (.int (Int32.ofNat n)), .val (.int (Int32.ofNat i)), .val (.int (Int32.ofNat i))]) rfl k) ?_
      rw [own_inc i]
      show own_G _ _ _ (T.setTop (mkF m 50 #[.val (.ref p0), .val (.ref ta), .val (.ref be), .val (.int (Int32.ofNat (i + 1))), .val (.ref ta), .val (.int (Int32.ofNat n)), .val (.int (Int32.ofNat i)), .val (.int (Int32.ofNat i))] [])) _ _ _ _
      refine own_go (fun _ k => XS.iinc X.here hx rfl (hb hby d2_50) rfl (l' := #[.val (.ref p0), .val (.ref ta), .val (.ref be), .val (.int (Int32.ofNat (i + 1))), .val (.ref ta), .val (.int (Int32.ofNat n)), .val (.int ((Int32.ofNat i) + (1 : Int32))), .val (.int (Int32.ofNat i))]) rfl k) ?_
      rw [own_inc i]
      show own_G _ _ _ (T.setTop (mkF m 53 #[.val (.ref p0), .val (.ref ta), .val (.ref be), .val (.int (Int32.ofNat (i + 1))), .val (.ref ta), .val (.int (Int32.ofNat n)), .val (.int (Int32.ofNat (i + 1))), .val (.int (Int32.ofNat i))] [])) _ _ _ _
      refine own_go (fun _ k => XS.goto X.here hx rfl (pc0 := 53) (pc' := 27) rfl (hb hby d2_53) (by decide) (by decide) k) ?_
      show own_G _ _ _ (T.setTop (mkF m 27 #[.val (.ref p0), .val (.ref ta), .val (.ref be), .val (.int (Int32.ofNat (i + 1))), .val (.ref ta), .val (.int (Int32.ofNat n)), .val (.int (Int32.ofNat (i + 1))), .val (.int (Int32.ofNat i))] [])) _ _ _ _
      exact ih (i + 1) (by omega) _ _ _ _ _ (.val (.int (Int32.ofNat i))) (Or.inr (Or.inl ⟨_, rfl⟩)) X eT Nn Zp Kp (by omega) (by omega) J0 J1 J2 J3 J4 J5 J6 J7 J8 J9 J10 J11
  exact loop n 0 (by omega) _ _ _ _ _ .unset (Or.inl rfl) X19 e19 N19 Zs19 K19_0 (by omega) (by omega) f20 f21 f22 f23 f24 f25 f26 f27 f28 f29 f30 f31
theorem d1_0 : decode prog_10_method_2_code 0 = .ok (.iload_n 0, 1) := by decide +kernel
theorem d1_1 : decode prog_10_method_2_code 1 = .ok (.newarray .int, 2) := by decide +kernel
theorem d1_3 : decode prog_10_method_2_code 3 = .ok (.astore_n 1, 1) := by decide +kernel
theorem d1_4 : decode prog_10_method_2_code 4 = .ok (.iload_n 0, 1) := by decide +kernel
theorem d1_5 : decode prog_10_method_2_code 5 = .ok (.anewarray 49, 3) := by decide +kernel
theorem d1_8 : decode prog_10_method_2_code 8 = .ok (.astore_n 2, 1) := by decide +kernel
theorem d1_9 : decode prog_10_method_2_code 9 = .ok (.iconst 0, 1) := by decide +kernel
theorem d1_10 : decode prog_10_method_2_code 10 = .ok (.istore_n 3, 1) := by decide +kernel
theorem d1_11 : decode prog_10_method_2_code 11 = .ok (.iload_n 3, 1) := by decide +kernel
theorem d1_12 : decode prog_10_method_2_code 12 = .ok (.iload_n 0, 1) := by decide +kernel
theorem d1_13 : decode prog_10_method_2_code 13 = .ok (.if_icmp .ge 35, 3) := by decide +kernel
theorem d1_16 : decode prog_10_method_2_code 16 = .ok (.aload_n 1, 1) := by decide +kernel
theorem d1_17 : decode prog_10_method_2_code 17 = .ok (.iload_n 3, 1) := by decide +kernel
theorem d1_18 : decode prog_10_method_2_code 18 = .ok (.iload_n 3, 1) := by decide +kernel
theorem d1_19 : decode prog_10_method_2_code 19 = .ok (.iastore, 1) := by decide +kernel
theorem d1_20 : decode prog_10_method_2_code 20 = .ok (.aload_n 2, 1) := by decide +kernel
theorem d1_21 : decode prog_10_method_2_code 21 = .ok (.iload_n 3, 1) := by decide +kernel
theorem d1_22 : decode prog_10_method_2_code 22 = .ok (.iload_n 3, 1) := by decide +kernel
theorem d1_23 : decode prog_10_method_2_code 23 = .ok (.ifCond .ne 9, 3) := by decide +kernel
theorem d1_26 : decode prog_10_method_2_code 26 = .ok (.iconst 0, 1) := by decide +kernel
theorem d1_27 : decode prog_10_method_2_code 27 = .ok (.newarray .int, 2) := by decide +kernel
theorem d1_29 : decode prog_10_method_2_code 29 = .ok (.goto 12, 3) := by decide +kernel
theorem d1_32 : decode prog_10_method_2_code 32 = .ok (.iconst 1, 1) := by decide +kernel
theorem d1_33 : decode prog_10_method_2_code 33 = .ok (.newarray .int, 2) := by decide +kernel
theorem d1_35 : decode prog_10_method_2_code 35 = .ok (.dup, 1) := by decide +kernel
theorem d1_36 : decode prog_10_method_2_code 36 = .ok (.iconst 0, 1) := by decide +kernel
theorem d1_37 : decode prog_10_method_2_code 37 = .ok (.iload_n 3, 1) := by decide +kernel
theorem d1_38 : decode prog_10_method_2_code 38 = .ok (.iconst 1, 1) := by decide +kernel
theorem d1_39 : decode prog_10_method_2_code 39 = .ok (.isub, 1) := by decide +kernel
theorem d1_40 : decode prog_10_method_2_code 40 = .ok (.iastore, 1) := by decide +kernel
theorem d1_41 : decode prog_10_method_2_code 41 = .ok (.aastore, 1) := by decide +kernel
theorem d1_42 : decode prog_10_method_2_code 42 = .ok (.iinc 3 1, 3) := by decide +kernel
theorem d1_45 : decode prog_10_method_2_code 45 = .ok (.goto (-34), 3) := by decide +kernel
theorem d1_48 : decode prog_10_method_2_code 48 = .ok (.new 8, 3) := by decide +kernel
theorem d1_51 : decode prog_10_method_2_code 51 = .ok (.dup, 1) := by decide +kernel
theorem d1_52 : decode prog_10_method_2_code 52 = .ok (.aload_n 1, 1) := by decide +kernel
theorem d1_53 : decode prog_10_method_2_code 53 = .ok (.aload_n 2, 1) := by decide +kernel
theorem d1_54 : decode prog_10_method_2_code 54 = .ok (.invokespecial 50, 3) := by decide +kernel
theorem d1_57 : decode prog_10_method_2_code 57 = .ok (.areturn, 1) := by decide +kernel
theorem pd_17 : parseMethodDescriptor "([I[[I)V" = some ⟨[(.array .int), (.array (.array .int))], none⟩ := by decide +kernel
theorem ef_1 (m : MethodId) (n : Nat) : entryFrame m #[(.int (Int32.ofNat n))] 4 = mkF m 0 #[.val (.int (Int32.ofNat n)), .unset, .unset, .unset] [] := by first | (simp [entryFrame, mkF, argsToLocals, Value.category]; done) | rfl
def Q1 (Z : State) (zt : Addr) (kz : ClassId) (zz : Nat → Addr) (zero : Addr) (one : Addr) (n : Nat) (h0 : Heap) (n0 : Nat) (v : Option Value) (h : Heap) (L : List Loc) : Prop := ∃ (b : Addr) (ta : Addr) (kt : ClassId) (be : Addr) (kb : ClassId) (bf : Nat → Addr) (n1 : Nat), v = some (.ref b) ∧ Fr n0 L ∧ Keep h0 h [] ∧ Exa Z h b "com/example/slackline/slackline/Precedence" ∧ Fld Z h b "com/example/slackline/slackline/Precedence" "tasks" "[I" (.ref ta) ∧ Fld Z h b "com/example/slackline/slackline/Precedence" "before" "[[I" (.ref be) ∧ Fld Z h b "com/example/slackline/slackline/Precedence" "taskCount" "I" (.int (Int32.ofNat n)) ∧ Fld Z h b "com/example/slackline/slackline/Precedence" "chain" "Z" (.int (1 : Int32)) ∧ Arv Z h ta kt .int (Int32.ofNat n) (own_fam own_gi (.int 0) n n) (.int 0) ∧ Arv Z h be kb (.array .int) (Int32.ofNat n) (own_fam (own_gr bf) .null n n) .null ∧ own_Bef Z h bf n n1
set_option maxRecDepth 65536 in
set_option maxHeartbeats 40000000 in
theorem rm1 (l : Launch) (Z : State) (a0 : Array Value) (hw : ∀ d ∈ tables_1, d.before a0 Z = true) (ws : List Jvm.Cond) (zt : Addr) (kz : ClassId) (zz : Nat → Addr) (zero : Addr) (one : Addr) (n : Nat) (h0 : Heap) (n0 : Nat) (Z0 : n0 ≤ h0.size) (P_Old : Old Z n0 h0) (P_ZS_java_math_BigDecimal_ZERO_THROUGH_TEN : Sta Z Z.heap "java/math/BigDecimal" "ZERO_THROUGH_TEN" "[Ljava/math/BigDecimal;" (.ref zt)) (VZ : Arv Z Z.heap zt kz (.object "java/math/BigDecimal") (11 : Int32) (own_fam (own_gr zz) .null 11 11) .null) (HZZ : own_BDs Z Z.heap zz 11) (P_ZS_java_math_BigDecimal_ZERO : Sta Z Z.heap "java/math/BigDecimal" "ZERO" "Ljava/math/BigDecimal;" (.ref zero)) (P_ZS_java_math_BigDecimal_ONE : Sta Z Z.heap "java/math/BigDecimal" "ONE" "Ljava/math/BigDecimal;" (.ref one)) (P_ZS_java_util_Collections_CopiesList__assertionsDisabled : Sta Z Z.heap "java/util/Collections$CopiesList" "$assertionsDisabled" "Z" (.int (1 : Int32))) (H0 : own_BD Z Z.heap zero (Int64.ofNat 0)) (H1 : own_BD Z Z.heap one (1 : Int64)) (hn15 : n ≤ 15) :
    MetFree l (⟨"com/example/slackline/slackline/Precedence", "chain", "(I)Lcom/example/slackline/slackline/Precedence;"⟩ : MethodName) (head1 (Jvm.Cond.code (⟨"com/example/slackline/slackline/Precedence", "chain", "(I)Lcom/example/slackline/slackline/Precedence;"⟩ : MethodName) prog_10_method_2_code 4 (some (.object "com/example/slackline/slackline/Precedence")) :: ws) ({ frames := 11, cells := 51, slots := 222, locals := 181 } : Room)) (fun a U => a = #[(.int (Int32.ofNat n))] ∧ Z.Warmed39 U.vm ∧ U.heap = h0) (fun _ _ _ _ _ => True) (fun _ U o U' => ∃ v L, o = .returned v ∧ (Q1 Z zt kz zz zero one n h0 n0) v U'.heap L ∧ FrameEnd U o U' L ({ frames := 11, cells := 51, slots := 222, locals := 181 } : Room).cells ({ frames := 11, cells := 51, slots := 222, locals := 181 } : Room).slots) := by
  refine MetFree.of_bodySF (plainFor_of_name pn_8) hisR ?_
  intro p e s m args below meth c s₁ Bd hml0 hP hK
  obtain ⟨rfl, hZ, hh⟩ := hP
  have hx := Bd.exec
  have hby := Bd.bytes
  have hml : c.maxLocals = 4 := hml0
  have hown : s.vm.findClass "com/example/slackline/slackline/Precedence" = some m.cls := findClass_of_methodNamed Bd.named
  have hnm := (name_of_methodNamed Bd.named Bd.method).1
  have hlk : meth.locks = false := BodyLoose.notSynchronized Bd
  have X0 : Stand p l e ({ frames := 11, cells := 51, slots := 222, locals := 181 } : Room) s m #[(.int (Int32.ofNat n))] below meth c s₁ [] 0 0 := Stand.of_body Bd
  have e0 : s₁.heap = h0 := by rw [← hh, Bd.state]; rfl
  have N0 := Fr.nil n0
  have K0 : Keep h0 h0 [] := Keep.refl h0 []
  show own_G p.tables e below (s₁.setTop (entryFrame m #[(.int (Int32.ofNat n))] 4)) s ({ frames := 11, cells := 51, slots := 222, locals := 181 } : Room).cells ({ frames := 11, cells := 51, slots := 222, locals := 181 } : Room).slots (Q1 Z zt kz zz zero one n h0 n0)
  refine own_go (fun _ k => castTop (ef_1 m n) k) ?_
  show own_G _ _ _ (s₁.setTop (mkF m 0 #[.val (.int (Int32.ofNat n)), .unset, .unset, .unset] [])) _ _ _ _
  refine own_go (fun _ k => XS.iloadN X0.here hx rfl (hb hby d1_0) rfl k) ?_
  show own_G _ _ _ (s₁.setTop (mkF m 1 #[.val (.int (Int32.ofNat n)), .unset, .unset, .unset] [(.int (Int32.ofNat n))])) _ _ _ _
  obtain ⟨T1, h1, k1, X1, e1, E1, A1, st1⟩ := newP X0 hx hZ (hw _ (List.mem_of_getElem? (i := 4) rfl)) e0 (g := (mkF m 1 #[.val (.int (Int32.ofNat n)), .unset, .unset, .unset] [(.int (Int32.ofNat n))])) rfl (hb hby d1_1) rfl (own_nn n (by omega)) (cap := 15) (by rw [own_cl n (by omega)]; exact hn15) (by decide) (by decide) (by decide)
  obtain ⟨b1, g1⟩ : ∃ z, z = h0.size := ⟨_, rfl⟩
  rw [← g1] at A1 st1
  have gg1 : n0 ≤ b1 := Nat.le_trans Z0 (Nat.le_of_eq g1.symm)
  have sz1_0 : h0.size ≤ b1 := Nat.le_trans K0.1 (Nat.le_of_eq g1.symm)
  have Zs1 : n0 ≤ h1.size := Nat.le_trans Z0 E1.1
  have K1_0 : Keep h0 h1 [] := K0.ext E1
  have f2 : Old Z n0 h1 := P_Old.ext E1
  have f3 : Arv Z h1 b1 k1 .int (Int32.ofNat n) [] (.int (0 : Int32)) := Arv.new A1 (own_nn n (by omega))
  refine own_go (fun _ k => st1 _ k) ?_
  show own_G _ _ _ (T1.setTop (mkF m 3 #[.val (.int (Int32.ofNat n)), .unset, .unset, .unset] [(.ref b1)])) _ _ _ _
  have f4 : Arv Z h1 b1 k1 .int (Int32.ofNat n) (own_fam own_gi (.int 0) n 0) (.int 0) := (f3).pad (fun i => own_fam_pad _ _ _ i)
  refine own_go (fun _ k => XS.astoreN X1.here hx rfl (hb hby d1_3) rfl rfl (l' := #[.val (.int (Int32.ofNat n)), .val (.ref b1), .unset, .unset]) rfl k) ?_
  show own_G _ _ _ (T1.setTop (mkF m 4 #[.val (.int (Int32.ofNat n)), .val (.ref b1), .unset, .unset] [])) _ _ _ _
  refine own_go (fun _ k => XS.iloadN X1.here hx rfl (hb hby d1_4) rfl k) ?_
  show own_G _ _ _ (T1.setTop (mkF m 5 #[.val (.int (Int32.ofNat n)), .val (.ref b1), .unset, .unset] [(.int (Int32.ofNat n))])) _ _ _ _
  obtain ⟨T5, h5, k5, X5, e5, E5, A5, -, O5, st5⟩ := newRA (ty := .int) (C := "[I") (ad := "[[I") X1 hx hZ hown rfl (hw _ (List.mem_of_getElem? (i := 5) rfl)) (hw _ (List.mem_of_getElem? (i := 6) rfl)) e1 (g := (mkF m 5 #[.val (.int (Int32.ofNat n)), .val (.ref b1), .unset, .unset] [(.int (Int32.ofNat n))])) rfl (hb hby d1_5) rfl (own_nn n (by omega)) (cap := 15) (by rw [own_cl n (by omega)]; exact hn15) (by decide) (hc := by decide) (hl := by decide) (had := rfl)
  obtain ⟨b5, g5⟩ : ∃ z, z = h1.size := ⟨_, rfl⟩
  rw [← g5] at A5 st5
  have ne6 : b1 ≠ b5 := Nat.ne_of_lt (Nat.lt_of_lt_of_le f4.lt (Nat.le_of_eq g5.symm))
  have gg5 : n0 ≤ b5 := Nat.le_trans Zs1 (Nat.le_of_eq g5.symm)
  have sz5_0 : h0.size ≤ b5 := Nat.le_trans K1_0.1 (Nat.le_of_eq g5.symm)
  have Zs5 : n0 ≤ h5.size := Nat.le_trans Zs1 E5.1
  have K5_0 : Keep h0 h5 [] := K1_0.ext E5
  have f7 : Old Z n0 h5 := f2.ext E5
  have f8 : Arv Z h5 b1 k1 .int (Int32.ofNat n) (own_fam own_gi (.int 0) n 0) (.int 0) := f4.ext E5
  have f9 : Arv Z h5 b5 k5 (.array .int) (Int32.ofNat n) (own_fam (own_gr (fun _ => b5)) .null n 0) .null := (Arv.new A5 (own_nn n (by omega))).pad (fun i => own_fam_pad _ _ _ i)
  obtain ⟨n1, hn1⟩ : ∃ z, z = h5.size := ⟨_, rfl⟩
  have sm_a : b1 < n1 := by rw [hn1]; exact f8.lt
  have sm_b : b5 < n1 := by rw [hn1]; exact f9.lt
  have f10 : own_Bef Z h5 (fun _ => b5) 0 n1 := (fun j hj => absurd hj (Nat.not_lt_zero j))
  have f11 : own_Le n1 h5 := Nat.le_of_eq hn1
  refine own_go (fun _ k => st5 _ k) ?_
  show own_G _ _ _ (T5.setTop (mkF m 8 #[.val (.int (Int32.ofNat n)), .val (.ref b1), .unset, .unset] [(.ref b5)])) _ _ _ _
  refine own_go (fun _ k => XS.astoreN X5.here hx rfl (hb hby d1_8) rfl rfl (l' := #[.val (.int (Int32.ofNat n)), .val (.ref b1), .val (.ref b5), .unset]) rfl k) ?_
  show own_G _ _ _ (T5.setTop (mkF m 9 #[.val (.int (Int32.ofNat n)), .val (.ref b1), .val (.ref b5), .unset] [])) _ _ _ _
  refine own_go (fun _ k => XS.iconst X5.here hx rfl (hb hby d1_9) k) ?_
  show own_G _ _ _ (T5.setTop (mkF m 10 #[.val (.int (Int32.ofNat n)), .val (.ref b1), .val (.ref b5), .unset] [(.int (0 : Int32))])) _ _ _ _
  refine own_go (fun _ k => XS.istoreN X5.here hx rfl (hb hby d1_10) rfl (l' := #[.val (.int (Int32.ofNat n)), .val (.ref b1), .val (.ref b5), .val (.int (0 : Int32))]) rfl k) ?_
  show own_G _ _ _ (T5.setTop (mkF m 11 #[.val (.int (Int32.ofNat n)), .val (.ref b1), .val (.ref b5), .val (.int (0 : Int32))] [])) _ _ _ _
  have loop : ∀ (f i : Nat) (hif : i + f = n) (T : State) (Lc : List Loc) (hp : Heap) (cz sz : Nat) (bf : Nat → Addr) (X : Stand p l e ({ frames := 11, cells := 51, slots := 222, locals := 181 } : Room) s m #[(.int (Int32.ofNat n))] below meth c T Lc cz sz) (eT : T.heap = hp) (Nn : Fr n0 Lc) (Zp : n0 ≤ hp.size) (Kp : Keep h0 hp []) (hcz : cz + f * 1 + 34 ≤ 51) (hsz : sz + f * 1 + 177 ≤ 222) (J0 : Old Z n0 hp) (J1 : Arv Z hp b1 k1 .int (Int32.ofNat n) (own_fam own_gi (.int 0) n i) (.int 0)) (J2 : Arv Z hp b5 k5 (.array .int) (Int32.ofNat n) (own_fam (own_gr bf) .null n i) .null) (J3 : own_Bef Z hp bf i n1) (J4 : own_Le n1 hp), own_G p.tables e below (T.setTop (mkF m 11 #[.val (.int (Int32.ofNat n)), .val (.ref b1), .val (.ref b5), .val (.int (Int32.ofNat i))] [])) s ({ frames := 11, cells := 51, slots := 222, locals := 181 } : Room).cells ({ frames := 11, cells := 51, slots := 222, locals := 181 } : Room).slots (Q1 Z zt kz zz zero one n h0 n0) := by
    intro f
    induction f with
    | zero =>
      intro i hif T Lc hp cz sz bf X eT Nn Zp Kp hcz hsz J0 J1 J2 J3 J4
      have hin : n = i := by omega
      subst hin
      refine own_go (fun _ k => XS.iloadN X.here hx rfl (hb hby d1_11) rfl k) ?_
      show own_G _ _ _ (T.setTop (mkF m 12 #[.val (.int (Int32.ofNat n)), .val (.ref b1), .val (.ref b5), .val (.int (Int32.ofNat n))] [(.int (Int32.ofNat n))])) _ _ _ _
      refine own_go (fun _ k => XS.iloadN X.here hx rfl (hb hby d1_12) rfl k) ?_
      show own_G _ _ _ (T.setTop (mkF m 13 #[.val (.int (Int32.ofNat n)), .val (.ref b1), .val (.ref b5), .val (.int (Int32.ofNat n))] [(.int (Int32.ofNat n)), (.int (Int32.ofNat n))])) _ _ _ _
      have hc70 : ¬ ((Int32.ofNat n) < (Int32.ofNat n)) := (fun q => absurd ((own_ltI n n (by omega) (by omega)).mp q) (Nat.lt_irrefl _))
      refine own_go (fun _ k => XS.icmpYes X.here hx rfl (pc0 := 13) (pc' := 48) rfl (hb hby d1_13) rfl (flt hc70).2.1 (by decide) (by decide) k) ?_
      show own_G _ _ _ (T.setTop (mkF m 48 #[.val (.int (Int32.ofNat n)), .val (.ref b1), .val (.ref b5), .val (.int (Int32.ofNat n))] [])) _ _ _ _
      obtain ⟨T71, h71, X71, e71, E71, A71, D71, -, st71⟩ := newO X hx hZ hown (hw _ (List.mem_of_getElem? (i := 7) rfl)) (hw _ (List.mem_of_getElem? (i := 8) rfl)) (hw _ (List.mem_of_getElem? (i := 2) rfl)) eT (g := (mkF m 48 #[.val (.int (Int32.ofNat n)), .val (.ref b1), .val (.ref b5), .val (.int (Int32.ofNat n))] [])) rfl (hb hby d1_48) (by first | decide | omega | (dsimp only [Pt.cells, Pt.slots]; omega)) (by first | decide | omega | (dsimp only [Pt.cells, Pt.slots]; omega))
      obtain ⟨b71, g71⟩ : ∃ z, z = hp.size := ⟨_, rfl⟩
      rw [← g71] at A71 D71 st71
      have ne72 : b1 ≠ b71 := Nat.ne_of_lt (Nat.lt_of_lt_of_le J1.lt (Nat.le_of_eq g71.symm))
      have ne73 : b5 ≠ b71 := Nat.ne_of_lt (Nat.lt_of_lt_of_le J2.lt (Nat.le_of_eq g71.symm))
      have gn74 := J3.fresh (x := b71) (Nat.le_of_eq g71.symm)
      have gn75 := J4.fresh (x := b71) (Nat.le_of_eq g71.symm)
      have gg71 : n0 ≤ b71 := Nat.le_trans Zp (Nat.le_of_eq g71.symm)
      have sz71_0 : h0.size ≤ b71 := Nat.le_trans Kp.1 (Nat.le_of_eq g71.symm)
      have Zs71 : n0 ≤ h71.size := Nat.le_trans Zp E71.1
      have K71_0 : Keep h0 h71 [] := Kp.ext E71
      have f76 : Old Z n0 h71 := J0.ext E71
      have f77 : Arv Z h71 b1 k1 .int (Int32.ofNat n) (own_fam own_gi (.int 0) n n) (.int 0) := J1.ext E71
      have f78 : Arv Z h71 b5 k5 (.array .int) (Int32.ofNat n) (own_fam (own_gr bf) .null n n) .null := J2.ext E71
      have f79 : own_Bef Z h71 bf n n1 := J3.ext E71
      have f80 : own_Le n1 h71 := J4.ext E71
      have f81 : Exa Z h71 b71 "com/example/slackline/slackline/Precedence" := A71
      have f82 : Fld Z h71 b71 "com/example/slackline/slackline/Precedence" "tasks" "[I" .null := D71 (Or.inr (hw _ (List.mem_of_getElem? (i := 16) rfl))) (ty := (.array .int)) (by decide)
      have f83 : Fld Z h71 b71 "com/example/slackline/slackline/Precedence" "before" "[[I" .null := D71 (Or.inr (hw _ (List.mem_of_getElem? (i := 18) rfl))) (ty := (.array (.array .int))) (by decide)
      have f84 : Fld Z h71 b71 "com/example/slackline/slackline/Precedence" "taskCount" "I" (.int (0 : Int32)) := D71 (Or.inr (hw _ (List.mem_of_getElem? (i := 20) rfl))) (ty := .int) (by decide)
      have f85 : Fld Z h71 b71 "com/example/slackline/slackline/Precedence" "chain" "Z" (.int (0 : Int32)) := D71 (Or.inr (hw _ (List.mem_of_getElem? (i := 81) rfl))) (ty := .boolean) (by decide)
      refine own_go (fun _ k => st71 _ k) ?_
      show own_G _ _ _ (T71.setTop (mkF m 51 #[.val (.int (Int32.ofNat n)), .val (.ref b1), .val (.ref b5), .val (.int (Int32.ofNat n))] [(.ref b71)])) _ _ _ _
      refine own_go (fun _ k => XS.dup X71.here hx rfl (hb hby d1_51) rfl rfl k) ?_
      show own_G _ _ _ (T71.setTop (mkF m 52 #[.val (.int (Int32.ofNat n)), .val (.ref b1), .val (.ref b5), .val (.int (Int32.ofNat n))] [(.ref b71), (.ref b71)])) _ _ _ _
      refine own_go (fun _ k => XS.aloadN X71.here hx rfl (hb hby d1_52) rfl rfl k) ?_
      show own_G _ _ _ (T71.setTop (mkF m 53 #[.val (.int (Int32.ofNat n)), .val (.ref b1), .val (.ref b5), .val (.int (Int32.ofNat n))] [(.ref b1), (.ref b71), (.ref b71)])) _ _ _ _
      refine own_go (fun _ k => XS.aloadN X71.here hx rfl (hb hby d1_53) rfl rfl k) ?_
      show own_G _ _ _ (T71.setTop (mkF m 54 #[.val (.int (Int32.ofNat n)), .val (.ref b1), .val (.ref b5), .val (.int (Int32.ofNat n))] [(.ref b5), (.ref b1), (.ref b71), (.ref b71)])) _ _ _ _
      obtain ⟨_, _, ⟨T86, L86, k86, n86⟩, -, X86, ⟨Lc86, hQ86, l86, y86, z86⟩, st86⟩ := X71.specialBack hx (y := (⟨"com/example/slackline/slackline/Precedence", "<init>", "([I[[I)V"⟩ : MethodName)) rfl hown (mvT hZ (hw _ (List.mem_of_getElem? (i := 9) rfl))) (mvT hZ (hw _ (List.mem_of_getElem? (i := 10) rfl))) (mvT hZ (hw _ (List.mem_of_getElem? (i := 11) rfl))) (by decide) (backOf (W := 1) (rm2 l Z a0 hw [] b71 b1 b5 zt kz zz zero one k1 k5 bf n n1 h71 n0 Zs71 f81 f82 f83 f84 f85 gg71 f76 P_ZS_java_math_BigDecimal_ZERO_THROUGH_TEN VZ HZZ P_ZS_java_math_BigDecimal_ZERO P_ZS_java_math_BigDecimal_ONE P_ZS_java_util_Collections_CopiesList__assertionsDisabled H0 H1 f77 f78 f79 hn15 gn74) hZ (hw _ (List.mem_of_getElem? (i := 11) rfl)) (hw _ (List.mem_of_getElem? (i := 2) rfl)) (by decide) (by decide)) (g := (mkF m 54 #[.val (.int (Int32.ofNat n)), .val (.ref b1), .val (.ref b5), .val (.int (Int32.ofNat n))] [(.ref b5), (.ref b1), (.ref b71), (.ref b71)])) rfl (by rw [hml]; rfl) (Steps.refl _) (a := b71) (argsL := [(.ref b1), (.ref b5)]) (rest := [(.ref b71)]) (lenOf pd_17 rfl) rfl (by show 2 * 0 + _ ≤ _; exact Nat.le_of_eq rfl) (hb hby d1_54) (fun _ _ => ⟨rfl, e71, (by first | decide | omega | (dsimp only [Pt.cells, Pt.slots]; omega)), (by first | decide | omega | (dsimp only [Pt.cells, Pt.slots]; omega))⟩)
      dsimp only [Pt.U, Pt.locs, Pt.cells, Pt.slots] at X86 l86 y86 z86 st86 hQ86
      rw [l86] at X86
      subst y86 z86
      obtain ⟨rfl, Nq86, Kq86, r86_0, r86_1, r86_2, r86_3, r86_4⟩ := hQ86
      have N86 := Fr.app Nn Nq86
      have f87 : Old Z n0 T86.heap := f76.keep Kq86 (allS gg71 all0)
      have f88 : Arv Z T86.heap b1 k1 .int (Int32.ofNat n) (own_fam own_gi (.int 0) n n) (.int 0) := f77.keep Kq86 (ninS ne72 nin0)
      have f89 : Arv Z T86.heap b5 k5 (.array .int) (Int32.ofNat n) (own_fam (own_gr bf) .null n n) .null := f78.keep Kq86 (ninS ne73 nin0)
      have f90 : own_Bef Z T86.heap bf n n1 := f79.keep Kq86 (fun j hj => ninS (gn74 j hj) nin0)
      have f91 : own_Le n1 T86.heap := f80.keep Kq86 (fun _ _ => trivial)
      have f92 : Exa Z T86.heap b71 "com/example/slackline/slackline/Precedence" := f81.keep Kq86
      have Zs86 : n0 ≤ T86.heap.size := Nat.le_trans Zs71 Kq86.1
      have K86_0 : Keep h0 T86.heap [] := K71_0.trans Kq86 (allS (Or.inr sz71_0) all0)
      refine own_tr st86 ?_
      show own_G _ _ _ (T86.setTop (mkF m 57 #[.val (.int (Int32.ofNat n)), .val (.ref b1), .val (.ref b5), .val (.int (Int32.ofNat n))] [(.ref b71)])) _ _ _ _
      exact own_endR X86 hx hlk Bd.returns rfl rfl rfl (hb hby d1_57) (by first | decide | omega | (dsimp only [Pt.cells, Pt.slots]; omega)) (by first | decide | omega | (dsimp only [Pt.cells, Pt.slots]; omega)) (Q := (Q1 Z zt kz zz zero one n h0 n0)) ⟨b71, b1, k1, b5, k5, bf, n1, rfl, N86, K86_0, r86_0, r86_1, r86_2, r86_3, r86_4, f88, f89, f90⟩
    | succ f ih =>
      intro i hif T Lc hp cz sz bf X eT Nn Zp Kp hcz hsz J0 J1 J2 J3 J4
      have hin : i < n := by omega
      refine own_go (fun _ k => XS.iloadN X.here hx rfl (hb hby d1_11) rfl k) ?_
      show own_G _ _ _ (T.setTop (mkF m 12 #[.val (.int (Int32.ofNat n)), .val (.ref b1), .val (.ref b5), .val (.int (Int32.ofNat i))] [(.int (Int32.ofNat i))])) _ _ _ _
      refine own_go (fun _ k => XS.iloadN X.here hx rfl (hb hby d1_12) rfl k) ?_
      show own_G _ _ _ (T.setTop (mkF m 13 #[.val (.int (Int32.ofNat n)), .val (.ref b1), .val (.ref b5), .val (.int (Int32.ofNat i))] [(.int (Int32.ofNat n)), (.int (Int32.ofNat i))])) _ _ _ _
      have hc12 : (Int32.ofNat i) < (Int32.ofNat n) := (own_ltI i n (by omega) (by omega)).mpr hin
      refine own_go (fun _ k => XS.icmpNo X.here hx rfl (hb hby d1_13) rfl (tlt hc12).2.1 k) ?_
      show own_G _ _ _ (T.setTop (mkF m 16 #[.val (.int (Int32.ofNat n)), .val (.ref b1), .val (.ref b5), .val (.int (Int32.ofNat i))] [])) _ _ _ _
      refine own_go (fun _ k => XS.aloadN X.here hx rfl (hb hby d1_16) rfl rfl k) ?_
      show own_G _ _ _ (T.setTop (mkF m 17 #[.val (.int (Int32.ofNat n)), .val (.ref b1), .val (.ref b5), .val (.int (Int32.ofNat i))] [(.ref b1)])) _ _ _ _
      refine own_go (fun _ k => XS.iloadN X.here hx rfl (hb hby d1_17) rfl k) ?_
      show own_G _ _ _ (T.setTop (mkF m 18 #[.val (.int (Int32.ofNat n)), .val (.ref b1), .val (.ref b5), .val (.int (Int32.ofNat i))] [(.int (Int32.ofNat i)), (.ref b1)])) _ _ _ _
      refine own_go (fun _ k => XS.iloadN X.here hx rfl (hb hby d1_18) rfl k) ?_
      show own_G _ _ _ (T.setTop (mkF m 19 #[.val (.int (Int32.ofNat n)), .val (.ref b1), .val (.ref b5), .val (.int (Int32.ofNat i))] [(.int (Int32.ofNat i)), (.int (Int32.ofNat i)), (.ref b1)])) _ _ _ _
      obtain ⟨cl13, Ar13, q13, S13, Ng13, H13, G13⟩ := id J1
      have in13 : ¬ ((Int32.ofNat i) < 0 ∨ cl13.slots.size ≤ ((Int32.ofNat i)).toNatClampNeg) := inb_of S13 (own_inb hin (by omega))
      obtain ⟨T13, h13, X13, e13, W13, st13⟩ := stI X hx hZ eT Ar13 (j := (Int32.ofNat i)) in13 (g := (mkF m 19 #[.val (.int (Int32.ofNat n)), .val (.ref b1), .val (.ref b5), .val (.int (Int32.ofNat i))] [(.int (Int32.ofNat i)), (.int (Int32.ofNat i)), (.ref b1)])) rfl rfl (hb hby d1_19)
      have N13 := Fr.snoc X13 Nn gg1
      have Zs13 : n0 ≤ h13.size := Nat.le_trans Zp (Keep.of_wr W13).1
      have K13_0 : Keep h0 h13 [] := Kp.wr W13 (Or.inr sz1_0)
      have f14 : Old Z n0 h13 := J0.wr W13 gg1
      have f15 : Arv Z h13 b5 k5 (.array .int) (Int32.ofNat n) (own_fam (own_gr bf) .null n i) .null := J2.other W13 (Ne.symm ne6)
      have f16 : own_Bef Z h13 bf i n1 := J3.wr W13 (J3.ne sm_a)
      have f17 : own_Le n1 h13 := J4.wr W13 trivial
      have f18 : Arv Z h13 b1 k1 .int (Int32.ofNat n) (own_fam own_gi (.int 0) n (i + 1)) (.int 0) := (by have q := Arv.set Ar13 q13 S13 Ng13 H13 G13 rfl W13 i (own_cl i (by omega)) (by rw [own_fam_len]; exact hin); rw [own_gi_set] at q; exact q)
      refine own_go (fun _ k => st13 _ k) ?_
      show own_G _ _ _ (T13.setTop (mkF m 20 #[.val (.int (Int32.ofNat n)), .val (.ref b1), .val (.ref b5), .val (.int (Int32.ofNat i))] [])) _ _ _ _
      refine own_go (fun _ k => XS.aloadN X13.here hx rfl (hb hby d1_20) rfl rfl k) ?_
      show own_G _ _ _ (T13.setTop (mkF m 21 #[.val (.int (Int32.ofNat n)), .val (.ref b1), .val (.ref b5), .val (.int (Int32.ofNat i))] [(.ref b5)])) _ _ _ _
      refine own_go (fun _ k => XS.iloadN X13.here hx rfl (hb hby d1_21) rfl k) ?_
      show own_G _ _ _ (T13.setTop (mkF m 22 #[.val (.int (Int32.ofNat n)), .val (.ref b1), .val (.ref b5), .val (.int (Int32.ofNat i))] [(.int (Int32.ofNat i)), (.ref b5)])) _ _ _ _
      refine own_go (fun _ k => XS.iloadN X13.here hx rfl (hb hby d1_22) rfl k) ?_
      show own_G _ _ _ (T13.setTop (mkF m 23 #[.val (.int (Int32.ofNat n)), .val (.ref b1), .val (.ref b5), .val (.int (Int32.ofNat i))] [(.int (Int32.ofNat i)), (.int (Int32.ofNat i)), (.ref b5)])) _ _ _ _
      by_cases hc19 : (Int32.ofNat i) = (0 : Int32)
      · refine own_go (fun _ k => XS.ifNo X13.here hx rfl (hb hby d1_23) rfl ((if0 _ _).trans (teq hc19).2) k) ?_
        show own_G _ _ _ (T13.setTop (mkF m 26 #[.val (.int (Int32.ofNat n)), .val (.ref b1), .val (.ref b5), .val (.int (Int32.ofNat i))] [(.int (Int32.ofNat i)), (.ref b5)])) _ _ _ _
        refine own_go (fun _ k => XS.iconst X13.here hx rfl (hb hby d1_26) k) ?_
        show own_G _ _ _ (T13.setTop (mkF m 27 #[.val (.int (Int32.ofNat n)), .val (.ref b1), .val (.ref b5), .val (.int (Int32.ofNat i))] [(.int (0 : Int32)), (.int (Int32.ofNat i)), (.ref b5)])) _ _ _ _
        obtain ⟨T20, h20, k20, X20, e20, E20, A20, D20, st20⟩ := newPE (ad := "[I") (had := rfl) X13 hx hZ (hw _ (List.mem_of_getElem? (i := 4) rfl)) e13 (g := (mkF m 27 #[.val (.int (Int32.ofNat n)), .val (.ref b1), .val (.ref b5), .val (.int (Int32.ofNat i))] [(.int (0 : Int32)), (.int (Int32.ofNat i)), (.ref b5)])) rfl (hb hby d1_27) rfl (by decide) (cap := 0) (by decide) (by decide) (by first | decide | omega | (dsimp only [Pt.cells, Pt.slots]; omega)) (by first | decide | omega | (dsimp only [Pt.cells, Pt.slots]; omega))
        obtain ⟨b20, g20⟩ : ∃ z, z = h13.size := ⟨_, rfl⟩
        rw [← g20] at A20 D20 st20
        have ne21 : b5 ≠ b20 := Nat.ne_of_lt (Nat.lt_of_lt_of_le f15.lt (Nat.le_of_eq g20.symm))
        have gn22 := f16.fresh (x := b20) (Nat.le_of_eq g20.symm)
        have gn23 := f17.fresh (x := b20) (Nat.le_of_eq g20.symm)
        have ne24 : b1 ≠ b20 := Nat.ne_of_lt (Nat.lt_of_lt_of_le f18.lt (Nat.le_of_eq g20.symm))
        have gg20 : n0 ≤ b20 := Nat.le_trans Zs13 (Nat.le_of_eq g20.symm)
        have sz20_0 : h0.size ≤ b20 := Nat.le_trans K13_0.1 (Nat.le_of_eq g20.symm)
        have Zs20 : n0 ≤ h20.size := Nat.le_trans Zs13 E20.1
        have K20_0 : Keep h0 h20 [] := K13_0.ext E20
        have f25 : Old Z n0 h20 := f14.ext E20
        have f26 : Arv Z h20 b5 k5 (.array .int) (Int32.ofNat n) (own_fam (own_gr bf) .null n i) .null := f15.ext E20
        have f27 : own_Bef Z h20 bf i n1 := f16.ext E20
        have f28 : own_Le n1 h20 := f17.ext E20
        have f29 : Arv Z h20 b1 k1 .int (Int32.ofNat n) (own_fam own_gi (.int 0) n (i + 1)) (.int 0) := f18.ext E20
        have f30 : Arv Z h20 b20 k20 .int (0 : Int32) [] (.int (0 : Int32)) := Arv.new A20 (by decide)
        have f31 : Exa Z h20 b20 "[I" := D20
        refine own_go (fun _ k => st20 _ k) ?_
        show own_G _ _ _ (T20.setTop (mkF m 29 #[.val (.int (Int32.ofNat n)), .val (.ref b1), .val (.ref b5), .val (.int (Int32.ofNat i))] [(.ref b20), (.int (Int32.ofNat i)), (.ref b5)])) _ _ _ _
        refine own_go (fun _ k => XS.goto X20.here hx rfl (pc0 := 29) (pc' := 41) rfl (hb hby d1_29) (by decide) (by decide) k) ?_
        show own_G _ _ _ (T20.setTop (mkF m 41 #[.val (.int (Int32.ofNat n)), .val (.ref b1), .val (.ref b5), .val (.int (Int32.ofNat i))] [(.ref b20), (.int (Int32.ofNat i)), (.ref b5)])) _ _ _ _
        obtain ⟨cl32, Ar32, q32, S32, Ng32, H32, G32⟩ := id f26
        have in32 : ¬ ((Int32.ofNat i) < 0 ∨ cl32.slots.size ≤ ((Int32.ofNat i)).toNatClampNeg) := inb_of S32 (own_inb hin (by omega))
        obtain ⟨T32, h32, X32, e32, W32, st32⟩ := stR X20 hx hZ e20 Ar32 (j := (Int32.ofNat i)) in32 rfl (Sto.ofVA Ar32 q32 O5 (Ins.self f31)) (g := (mkF m 41 #[.val (.int (Int32.ofNat n)), .val (.ref b1), .val (.ref b5), .val (.int (Int32.ofNat i))] [(.ref b20), (.int (Int32.ofNat i)), (.ref b5)])) rfl rfl (hb hby d1_41)
        have N32 := Fr.snoc X32 N13 gg5
        have Zs32 : n0 ≤ h32.size := Nat.le_trans Zs20 (Keep.of_wr W32).1
        have K32_0 : Keep h0 h32 [] := K20_0.wr W32 (Or.inr sz5_0)
        have f33 : Old Z n0 h32 := f25.wr W32 gg5
        have f34 : own_Bef Z h32 bf i n1 := f27.wr W32 (f27.ne sm_b)
        have f35 : own_Le n1 h32 := f28.wr W32 trivial
        have f36 : Arv Z h32 b1 k1 .int (Int32.ofNat n) (own_fam own_gi (.int 0) n (i + 1)) (.int 0) := f29.other W32 ne6
        have f37 : Arv Z h32 b20 k20 .int (0 : Int32) [] (.int (0 : Int32)) := f30.other W32 (Ne.symm ne21)
        have f38 : Exa Z h32 b20 "[I" := f31.wr W32
        have f39 : Arv Z h32 b5 k5 (.array .int) (Int32.ofNat n) (own_fam (own_gr (fun j => if j = i then b20 else bf j)) .null n (i + 1)) .null := (by have q := Arv.set Ar32 q32 S32 Ng32 H32 G32 rfl W32 i (own_cl i (by omega)) (by rw [own_fam_len]; exact hin); rw [own_gr_set] at q; exact q)
        refine own_go (fun _ k => st32 _ k) ?_
        show own_G _ _ _ (T32.setTop (mkF m 42 #[.val (.int (Int32.ofNat n)), .val (.ref b1), .val (.ref b5), .val (.int (Int32.ofNat i))] [])) _ _ _ _
        have f40 : own_Bef Z h32 (fun j => if j = i then b20 else bf j) (i + 1) n1 := own_Bef.snoc f34 gn23 (own_mk0 ((own_z i (by omega)).mp hc19) f37)
        refine own_go (fun _ k => XS.iinc X32.here hx rfl (hb hby d1_42) rfl (l' := #[.val (.int (Int32.ofNat n)), .val (.ref b1), .val (.ref b5), .val (.int ((Int32.ofNat i) + (1 : Int32)))]) rfl k) ?_
        rw [own_inc i]
        show own_G _ _ _ (T32.setTop (mkF m 45 #[.val (.int (Int32.ofNat n)), .val (.ref b1), .val (.ref b5), .val (.int (Int32.ofNat (i + 1)))] [])) _ _ _ _
        refine own_go (fun _ k => XS.goto X32.here hx rfl (pc0 := 45) (pc' := 11) rfl (hb hby d1_45) (by decide) (by decide) k) ?_
        show own_G _ _ _ (T32.setTop (mkF m 11 #[.val (.int (Int32.ofNat n)), .val (.ref b1), .val (.ref b5), .val (.int (Int32.ofNat (i + 1)))] [])) _ _ _ _
        exact ih (i + 1) (by omega) _ _ _ _ _ (fun j => if j = i then b20 else bf j) X32 e32 N32 Zs32 K32_0 (by omega) (by omega) f33 f36 f39 f40 f35
      · refine own_go (fun _ k => XS.ifYes X13.here hx rfl (pc0 := 23) (pc' := 32) rfl (hb hby d1_23) rfl ((if0 _ _).trans (feq hc19).2) (by decide) (by decide) k) ?_
        show own_G _ _ _ (T13.setTop (mkF m 32 #[.val (.int (Int32.ofNat n)), .val (.ref b1), .val (.ref b5), .val (.int (Int32.ofNat i))] [(.int (Int32.ofNat i)), (.ref b5)])) _ _ _ _
        refine own_go (fun _ k => XS.iconst X13.here hx rfl (hb hby d1_32) k) ?_
        show own_G _ _ _ (T13.setTop (mkF m 33 #[.val (.int (Int32.ofNat n)), .val (.ref b1), .val (.ref b5), .val (.int (Int32.ofNat i))] [(.int (1 : Int32)), (.int (Int32.ofNat i)), (.ref b5)])) _ _ _ _
        obtain ⟨T41, h41, k41, X41, e41, E41, A41, D41, st41⟩ := newPE (ad := "[I") (had := rfl) X13 hx hZ (hw _ (List.mem_of_getElem? (i := 4) rfl)) e13 (g := (mkF m 33 #[.val (.int (Int32.ofNat n)), .val (.ref b1), .val (.ref b5), .val (.int (Int32.ofNat i))] [(.int (1 : Int32)), (.int (Int32.ofNat i)), (.ref b5)])) rfl (hb hby d1_33) rfl (by decide) (cap := 1) (by decide) (by decide) (by first | decide | omega | (dsimp only [Pt.cells, Pt.slots]; omega)) (by first | decide | omega | (dsimp only [Pt.cells, Pt.slots]; omega))
        obtain ⟨b41, g41⟩ : ∃ z, z = h13.size := ⟨_, rfl⟩
        rw [← g41] at A41 D41 st41
        have ne42 : b5 ≠ b41 := Nat.ne_of_lt (Nat.lt_of_lt_of_le f15.lt (Nat.le_of_eq g41.symm))
        have gn43 := f16.fresh (x := b41) (Nat.le_of_eq g41.symm)
        have gn44 := f17.fresh (x := b41) (Nat.le_of_eq g41.symm)
        have ne45 : b1 ≠ b41 := Nat.ne_of_lt (Nat.lt_of_lt_of_le f18.lt (Nat.le_of_eq g41.symm))
        have gg41 : n0 ≤ b41 := Nat.le_trans Zs13 (Nat.le_of_eq g41.symm)
        have sz41_0 : h0.size ≤ b41 := Nat.le_trans K13_0.1 (Nat.le_of_eq g41.symm)
        have Zs41 : n0 ≤ h41.size := Nat.le_trans Zs13 E41.1
        have K41_0 : Keep h0 h41 [] := K13_0.ext E41
        have f46 : Old Z n0 h41 := f14.ext E41
        have f47 : Arv Z h41 b5 k5 (.array .int) (Int32.ofNat n) (own_fam (own_gr bf) .null n i) .null := f15.ext E41
        have f48 : own_Bef Z h41 bf i n1 := f16.ext E41
        have f49 : own_Le n1 h41 := f17.ext E41
        have f50 : Arv Z h41 b1 k1 .int (Int32.ofNat n) (own_fam own_gi (.int 0) n (i + 1)) (.int 0) := f18.ext E41
        have f51 : Arv Z h41 b41 k41 .int (1 : Int32) [(.int (0 : Int32))] (.int (0 : Int32)) := (Arv.new A41 (by decide)).pad (pad_rep [] (.int (0 : Int32)) 1)
        have f52 : Exa Z h41 b41 "[I" := D41
        refine own_go (fun _ k => st41 _ k) ?_
        show own_G _ _ _ (T41.setTop (mkF m 35 #[.val (.int (Int32.ofNat n)), .val (.ref b1), .val (.ref b5), .val (.int (Int32.ofNat i))] [(.ref b41), (.int (Int32.ofNat i)), (.ref b5)])) _ _ _ _
        refine own_go (fun _ k => XS.dup X41.here hx rfl (hb hby d1_35) rfl rfl k) ?_
        show own_G _ _ _ (T41.setTop (mkF m 36 #[.val (.int (Int32.ofNat n)), .val (.ref b1), .val (.ref b5), .val (.int (Int32.ofNat i))] [(.ref b41), (.ref b41), (.int (Int32.ofNat i)), (.ref b5)])) _ _ _ _
        refine own_go (fun _ k => XS.iconst X41.here hx rfl (hb hby d1_36) k) ?_
        show own_G _ _ _ (T41.setTop (mkF m 37 #[.val (.int (Int32.ofNat n)), .val (.ref b1), .val (.ref b5), .val (.int (Int32.ofNat i))] [(.int (0 : Int32)), (.ref b41), (.ref b41), (.int (Int32.ofNat i)), (.ref b5)])) _ _ _ _
        refine own_go (fun _ k => XS.iloadN X41.here hx rfl (hb hby d1_37) rfl k) ?_
        show own_G _ _ _ (T41.setTop (mkF m 38 #[.val (.int (Int32.ofNat n)), .val (.ref b1), .val (.ref b5), .val (.int (Int32.ofNat i))] [(.int (Int32.ofNat i)), (.int (0 : Int32)), (.ref b41), (.ref b41), (.int (Int32.ofNat i)), (.ref b5)])) _ _ _ _
        refine own_go (fun _ k => XS.iconst X41.here hx rfl (hb hby d1_38) k) ?_
        show own_G _ _ _ (T41.setTop (mkF m 39 #[.val (.int (Int32.ofNat n)), .val (.ref b1), .val (.ref b5), .val (.int (Int32.ofNat i))] [(.int (1 : Int32)), (.int (Int32.ofNat i)), (.int (0 : Int32)), (.ref b41), (.ref b41), (.int (Int32.ofNat i)), (.ref b5)])) _ _ _ _
        refine own_go (fun _ k => XS.isub X41.here hx rfl (hb hby d1_39) rfl k) ?_
        show own_G _ _ _ (T41.setTop (mkF m 40 #[.val (.int (Int32.ofNat n)), .val (.ref b1), .val (.ref b5), .val (.int (Int32.ofNat i))] [(.int ((Int32.ofNat i) - (1 : Int32))), (.int (0 : Int32)), (.ref b41), (.ref b41), (.int (Int32.ofNat i)), (.ref b5)])) _ _ _ _
        obtain ⟨cl53, Ar53, q53, S53, Ng53, H53, G53⟩ := id f51
        have in53 : ¬ ((0 : Int32) < 0 ∨ cl53.slots.size ≤ ((0 : Int32)).toNatClampNeg) := inb_of S53 ⟨by decide, by decide⟩
        obtain ⟨T53, h53, X53, e53, W53, st53⟩ := stI X41 hx hZ e41 Ar53 (j := (0 : Int32)) in53 (g := (mkF m 40 #[.val (.int (Int32.ofNat n)), .val (.ref b1), .val (.ref b5), .val (.int (Int32.ofNat i))] [(.int ((Int32.ofNat i) - (1 : Int32))), (.int (0 : Int32)), (.ref b41), (.ref b41), (.int (Int32.ofNat i)), (.ref b5)])) rfl rfl (hb hby d1_40)
        have N53 := Fr.snoc X53 N13 gg41
        have Zs53 : n0 ≤ h53.size := Nat.le_trans Zs41 (Keep.of_wr W53).1
        have K53_0 : Keep h0 h53 [] := K41_0.wr W53 (Or.inr sz41_0)
        have f54 : Old Z n0 h53 := f46.wr W53 gg41
        have f55 : Arv Z h53 b5 k5 (.array .int) (Int32.ofNat n) (own_fam (own_gr bf) .null n i) .null := f47.other W53 ne42
        have f56 : own_Bef Z h53 bf i n1 := f48.wr W53 gn43
        have f57 : own_Le n1 h53 := f49.wr W53 trivial
        have f58 : Arv Z h53 b1 k1 .int (Int32.ofNat n) (own_fam own_gi (.int 0) n (i + 1)) (.int 0) := f50.other W53 ne45
        have f59 : Exa Z h53 b41 "[I" := f52.wr W53
        have f60 : Arv Z h53 b41 k41 .int (1 : Int32) [(.int ((Int32.ofNat i) - (1 : Int32)))] (.int (0 : Int32)) := Arv.set Ar53 q53 S53 Ng53 H53 G53 rfl W53 0 rfl (Nat.le_of_ble_eq_true rfl)
        refine own_go (fun _ k => st53 _ k) ?_
        show own_G _ _ _ (T53.setTop (mkF m 41 #[.val (.int (Int32.ofNat n)), .val (.ref b1), .val (.ref b5), .val (.int (Int32.ofNat i))] [(.ref b41), (.int (Int32.ofNat i)), (.ref b5)])) _ _ _ _
        obtain ⟨cl61, Ar61, q61, S61, Ng61, H61, G61⟩ := id f55
        have in61 : ¬ ((Int32.ofNat i) < 0 ∨ cl61.slots.size ≤ ((Int32.ofNat i)).toNatClampNeg) := inb_of S61 (own_inb hin (by omega))
        obtain ⟨T61, h61, X61, e61, W61, st61⟩ := stR X53 hx hZ e53 Ar61 (j := (Int32.ofNat i)) in61 rfl (Sto.ofVA Ar61 q61 O5 (Ins.self f59)) (g := (mkF m 41 #[.val (.int (Int32.ofNat n)), .val (.ref b1), .val (.ref b5), .val (.int (Int32.ofNat i))] [(.ref b41), (.int (Int32.ofNat i)), (.ref b5)])) rfl rfl (hb hby d1_41)
        have N61 := Fr.snoc X61 N53 gg5
        have Zs61 : n0 ≤ h61.size := Nat.le_trans Zs53 (Keep.of_wr W61).1
        have K61_0 : Keep h0 h61 [] := K53_0.wr W61 (Or.inr sz5_0)
        have f62 : Old Z n0 h61 := f54.wr W61 gg5
        have f63 : own_Bef Z h61 bf i n1 := f56.wr W61 (f56.ne sm_b)
        have f64 : own_Le n1 h61 := f57.wr W61 trivial
        have f65 : Arv Z h61 b1 k1 .int (Int32.ofNat n) (own_fam own_gi (.int 0) n (i + 1)) (.int 0) := f58.other W61 ne6
        have f66 : Exa Z h61 b41 "[I" := f59.wr W61
        have f67 : Arv Z h61 b41 k41 .int (1 : Int32) [(.int ((Int32.ofNat i) - (1 : Int32)))] (.int (0 : Int32)) := f60.other W61 (Ne.symm ne42)
        have f68 : Arv Z h61 b5 k5 (.array .int) (Int32.ofNat n) (own_fam (own_gr (fun j => if j = i then b41 else bf j)) .null n (i + 1)) .null := (by have q := Arv.set Ar61 q61 S61 Ng61 H61 G61 rfl W61 i (own_cl i (by omega)) (by rw [own_fam_len]; exact hin); rw [own_gr_set] at q; exact q)
        refine own_go (fun _ k => st61 _ k) ?_
        show own_G _ _ _ (T61.setTop (mkF m 42 #[.val (.int (Int32.ofNat n)), .val (.ref b1), .val (.ref b5), .val (.int (Int32.ofNat i))] [])) _ _ _ _
        have f69 : own_Bef Z h61 (fun j => if j = i then b41 else bf j) (i + 1) n1 := own_Bef.snoc f63 gn44 (own_mk1 (fun q => hc19 ((own_z i (by omega)).mpr q)) f67)
        refine own_go (fun _ k => XS.iinc X61.here hx rfl (hb hby d1_42) rfl (l' := #[.val (.int (Int32.ofNat n)), .val (.ref b1), .val (.ref b5), .val (.int ((Int32.ofNat i) + (1 : Int32)))]) rfl k) ?_
        rw [own_inc i]
        show own_G _ _ _ (T61.setTop (mkF m 45 #[.val (.int (Int32.ofNat n)), .val (.ref b1), .val (.ref b5), .val (.int (Int32.ofNat (i + 1)))] [])) _ _ _ _
        refine own_go (fun _ k => XS.goto X61.here hx rfl (pc0 := 45) (pc' := 11) rfl (hb hby d1_45) (by decide) (by decide) k) ?_
        show own_G _ _ _ (T61.setTop (mkF m 11 #[.val (.int (Int32.ofNat n)), .val (.ref b1), .val (.ref b5), .val (.int (Int32.ofNat (i + 1)))] [])) _ _ _ _
        exact ih (i + 1) (by omega) _ _ _ _ _ (fun j => if j = i then b41 else bf j) X61 e61 N61 Zs61 K61_0 (by omega) (by omega) f62 f65 f68 f69 f64
  exact loop n 0 (by omega) _ _ _ _ _ _ X5 e5 N0 Zs5 K5_0 (by omega) (by omega) f7 f8 f9 f10 f11
theorem d12_0 : decode prog_10_method_3_code 0 = .ok (.aload_n 0, 1) := by decide +kernel
theorem d12_1 : decode prog_10_method_3_code 1 = .ok (.getfield 17, 3) := by decide +kernel
theorem d12_4 : decode prog_10_method_3_code 4 = .ok (.ireturn, 1) := by decide +kernel
theorem ef_12 (m : MethodId) (p0 : Addr) : entryFrame m #[(.ref p0)] 1 = mkF m 0 #[.val (.ref p0)] [] := by first | (simp [entryFrame, mkF, argsToLocals, Value.category]; done) | rfl
def Q12 (Z : State) (p0 : Addr) (q : Int32) (h0 : Heap) (n0 : Nat) (v : Option Value) (h : Heap) (L : List Loc) : Prop := v = some (.int q) ∧ Fr n0 L ∧ h = h0
set_option maxRecDepth 65536 in
set_option maxHeartbeats 40000000 in
theorem rm12 (l : Launch) (Z : State) (a0 : Array Value) (hw : ∀ d ∈ tables_1, d.before a0 Z = true) (ws : List Jvm.Cond) (p0 : Addr) (q : Int32) (h0 : Heap) (n0 : Nat) (Z0 : n0 ≤ h0.size) (P_F_p0_taskCount : Fld Z h0 p0 "com/example/slackline/slackline/Precedence" "taskCount" "I" (.int q)) :
    MetFree l (⟨"com/example/slackline/slackline/Precedence", "getTaskCount", "()I"⟩ : MethodName) (head1 (Jvm.Cond.code (⟨"com/example/slackline/slackline/Precedence", "getTaskCount", "()I"⟩ : MethodName) prog_10_method_3_code 1 (some .int) :: ws) ({ frames := 0, cells := 0, slots := 0, locals := 0 } : Room)) (fun a U => a = #[(.ref p0)] ∧ Z.Warmed39 U.vm ∧ U.heap = h0) (fun _ _ _ _ _ => True) (fun _ U o U' => ∃ v L, o = .returned v ∧ (Q12 Z p0 q h0 n0) v U'.heap L ∧ FrameEnd U o U' L ({ frames := 0, cells := 0, slots := 0, locals := 0 } : Room).cells ({ frames := 0, cells := 0, slots := 0, locals := 0 } : Room).slots) := by
  refine MetFree.of_bodySF (plainFor_of_name pn_8) hisR ?_
  intro p e s m args below meth c s₁ Bd hml0 hP hK
  obtain ⟨rfl, hZ, hh⟩ := hP
  have hx := Bd.exec
  have hby := Bd.bytes
  have hml : c.maxLocals = 1 := hml0
  have hown : s.vm.findClass "com/example/slackline/slackline/Precedence" = some m.cls := findClass_of_methodNamed Bd.named
  have hnm := (name_of_methodNamed Bd.named Bd.method).1
  have hlk : meth.locks = false := BodyLoose.notSynchronized Bd
  have X0 : Stand p l e ({ frames := 0, cells := 0, slots := 0, locals := 0 } : Room) s m #[(.ref p0)] below meth c s₁ [] 0 0 := Stand.of_body Bd
  have e0 : s₁.heap = h0 := by rw [← hh, Bd.state]; rfl
  have N0 := Fr.nil n0
  show own_G p.tables e below (s₁.setTop (entryFrame m #[(.ref p0)] 1)) s ({ frames := 0, cells := 0, slots := 0, locals := 0 } : Room).cells ({ frames := 0, cells := 0, slots := 0, locals := 0 } : Room).slots (Q12 Z p0 q h0 n0)
  refine own_go (fun _ k => castTop (ef_12 m p0) k) ?_
  show own_G _ _ _ (s₁.setTop (mkF m 0 #[.val (.ref p0)] [])) _ _ _ _
  refine own_go (fun _ k => XS.aloadN X0.here hx rfl (hb hby d12_0) rfl rfl k) ?_
  show own_G _ _ _ (s₁.setTop (mkF m 1 #[.val (.ref p0)] [(.ref p0)])) _ _ _ _
  obtain ⟨T1, X1, e1, st1⟩ := getF X0 hx hZ hown (host := "") (Or.inl (hw _ (List.mem_of_getElem? (i := 19) rfl))) Via.refl e0 P_F_p0_taskCount (g := (mkF m 1 #[.val (.ref p0)] [(.ref p0)])) rfl rfl (hb hby d12_1)
  refine own_go (fun _ k => st1 _ k) ?_
  show own_G _ _ _ (T1.setTop (mkF m 4 #[.val (.ref p0)] [(.int q)])) _ _ _ _
  exact own_endI X1 hx hlk Bd.returns (hb hby d12_4) (by decide) (by decide) (Q := (Q12 Z p0 q h0 n0)) (by rw [e1]; exact ⟨rfl, N0, rfl⟩)
theorem d13_0 : decode prog_10_method_5_code 0 = .ok (.aload_n 0, 1) := by decide +kernel
theorem d13_1 : decode prog_10_method_5_code 1 = .ok (.getfield 45, 3) := by decide +kernel
theorem d13_4 : decode prog_10_method_5_code 4 = .ok (.ireturn, 1) := by decide +kernel
theorem ef_13 (m : MethodId) (p0 : Addr) : entryFrame m #[(.ref p0)] 1 = mkF m 0 #[.val (.ref p0)] [] := by first | (simp [entryFrame, mkF, argsToLocals, Value.category]; done) | rfl
def Q13 (Z : State) (p0 : Addr) (h0 : Heap) (n0 : Nat) (v : Option Value) (h : Heap) (L : List Loc) : Prop := v = some (.int (1 : Int32)) ∧ Fr n0 L ∧ h = h0
set_option maxRecDepth 65536 in
set_option maxHeartbeats 40000000 in
theorem rm13 (l : Launch) (Z : State) (a0 : Array Value) (hw : ∀ d ∈ tables_1, d.before a0 Z = true) (ws : List Jvm.Cond) (p0 : Addr) (h0 : Heap) (n0 : Nat) (Z0 : n0 ≤ h0.size) (P_F_p0_chain : Fld Z h0 p0 "com/example/slackline/slackline/Precedence" "chain" "Z" (.int (1 : Int32))) :
    MetFree l (⟨"com/example/slackline/slackline/Precedence", "isChain", "()Z"⟩ : MethodName) (head1 (Jvm.Cond.code (⟨"com/example/slackline/slackline/Precedence", "isChain", "()Z"⟩ : MethodName) prog_10_method_5_code 1 (some .boolean) :: ws) ({ frames := 0, cells := 0, slots := 0, locals := 0 } : Room)) (fun a U => a = #[(.ref p0)] ∧ Z.Warmed39 U.vm ∧ U.heap = h0) (fun _ _ _ _ _ => True) (fun _ U o U' => ∃ v L, o = .returned v ∧ (Q13 Z p0 h0 n0) v U'.heap L ∧ FrameEnd U o U' L ({ frames := 0, cells := 0, slots := 0, locals := 0 } : Room).cells ({ frames := 0, cells := 0, slots := 0, locals := 0 } : Room).slots) := by
  refine MetFree.of_bodySF (plainFor_of_name pn_8) hisR ?_
  intro p e s m args below meth c s₁ Bd hml0 hP hK
  obtain ⟨rfl, hZ, hh⟩ := hP
  have hx := Bd.exec
  have hby := Bd.bytes
  have hml : c.maxLocals = 1 := hml0
  have hown : s.vm.findClass "com/example/slackline/slackline/Precedence" = some m.cls := findClass_of_methodNamed Bd.named
  have hnm := (name_of_methodNamed Bd.named Bd.method).1
  have hlk : meth.locks = false := BodyLoose.notSynchronized Bd
  have X0 : Stand p l e ({ frames := 0, cells := 0, slots := 0, locals := 0 } : Room) s m #[(.ref p0)] below meth c s₁ [] 0 0 := Stand.of_body Bd
  have e0 : s₁.heap = h0 := by rw [← hh, Bd.state]; rfl
  have N0 := Fr.nil n0
  show own_G p.tables e below (s₁.setTop (entryFrame m #[(.ref p0)] 1)) s ({ frames := 0, cells := 0, slots := 0, locals := 0 } : Room).cells ({ frames := 0, cells := 0, slots := 0, locals := 0 } : Room).slots (Q13 Z p0 h0 n0)
  refine own_go (fun _ k => castTop (ef_13 m p0) k) ?_
  show own_G _ _ _ (s₁.setTop (mkF m 0 #[.val (.ref p0)] [])) _ _ _ _
  refine own_go (fun _ k => XS.aloadN X0.here hx rfl (hb hby d13_0) rfl rfl k) ?_
  show own_G _ _ _ (s₁.setTop (mkF m 1 #[.val (.ref p0)] [(.ref p0)])) _ _ _ _
  obtain ⟨T1, X1, e1, st1⟩ := getF X0 hx hZ hown (host := "") (Or.inl (hw _ (List.mem_of_getElem? (i := 80) rfl))) Via.refl e0 P_F_p0_chain (g := (mkF m 1 #[.val (.ref p0)] [(.ref p0)])) rfl rfl (hb hby d13_1)
  refine own_go (fun _ k => st1 _ k) ?_
  show own_G _ _ _ (T1.setTop (mkF m 4 #[.val (.ref p0)] [(.int (1 : Int32))])) _ _ _ _
  exact own_endN X1 hx hlk (t := .boolean) Bd.returns (by simp) (hb hby d13_4) (by decide) (by decide) (Q := (Q13 Z p0 h0 n0)) (by rw [e1]; exact ⟨rfl, N0, rfl⟩)
theorem d27_0 : decode prog_10_method_7_code 0 = .ok (.aload_n 0, 1) := by decide +kernel
theorem d27_1 : decode prog_10_method_7_code 1 = .ok (.getfield 7, 3) := by decide +kernel
theorem d27_4 : decode prog_10_method_7_code 4 = .ok (.iload_n 1, 1) := by decide +kernel
theorem d27_5 : decode prog_10_method_7_code 5 = .ok (.iaload, 1) := by decide +kernel
theorem d27_6 : decode prog_10_method_7_code 6 = .ok (.ireturn, 1) := by decide +kernel
theorem ef_27 (m : MethodId) (p0 : Addr) (j : Nat) : entryFrame m #[(.ref p0), (.int (Int32.ofNat j))] 2 = mkF m 0 #[.val (.ref p0), .val (.int (Int32.ofNat j))] [] := by first | (simp [entryFrame, mkF, argsToLocals, Value.category]; done) | rfl
def Q27 (Z : State) (p0 : Addr) (j : Nat) (n : Nat) (ta : Addr) (kt : ClassId) (h0 : Heap) (n0 : Nat) (v : Option Value) (h : Heap) (L : List Loc) : Prop := v = some (.int (Int32.ofNat j)) ∧ Fr n0 L ∧ h = h0
set_option maxRecDepth 65536 in
set_option maxHeartbeats 40000000 in
theorem rm27 (l : Launch) (Z : State) (a0 : Array Value) (hw : ∀ d ∈ tables_1, d.before a0 Z = true) (ws : List Jvm.Cond) (p0 : Addr) (j : Nat) (n : Nat) (ta : Addr) (kt : ClassId) (h0 : Heap) (n0 : Nat) (Z0 : n0 ≤ h0.size) (P_F_p0_tasks : Fld Z h0 p0 "com/example/slackline/slackline/Precedence" "tasks" "[I" (.ref ta)) (P_V_ta : Arv Z h0 ta kt .int (Int32.ofNat n) (own_fam own_gi (.int 0) n n) (.int 0)) (hjn : j < n) (hn15 : n ≤ 15) :
    MetFree l (⟨"com/example/slackline/slackline/Precedence", "taskAt", "(I)I"⟩ : MethodName) (head1 (Jvm.Cond.code (⟨"com/example/slackline/slackline/Precedence", "taskAt", "(I)I"⟩ : MethodName) prog_10_method_7_code 2 (some .int) :: ws) ({ frames := 0, cells := 0, slots := 0, locals := 0 } : Room)) (fun a U => a = #[(.ref p0), (.int (Int32.ofNat j))] ∧ Z.Warmed39 U.vm ∧ U.heap = h0) (fun _ _ _ _ _ => True) (fun _ U o U' => ∃ v L, o = .returned v ∧ (Q27 Z p0 j n ta kt h0 n0) v U'.heap L ∧ FrameEnd U o U' L ({ frames := 0, cells := 0, slots := 0, locals := 0 } : Room).cells ({ frames := 0, cells := 0, slots := 0, locals := 0 } : Room).slots) := by
  refine MetFree.of_bodySF (plainFor_of_name pn_8) hisR ?_
  intro p e s m args below meth c s₁ Bd hml0 hP hK
  obtain ⟨rfl, hZ, hh⟩ := hP
  have hx := Bd.exec
  have hby := Bd.bytes
  have hml : c.maxLocals = 2 := hml0
  have hown : s.vm.findClass "com/example/slackline/slackline/Precedence" = some m.cls := findClass_of_methodNamed Bd.named
  have hnm := (name_of_methodNamed Bd.named Bd.method).1
  have hlk : meth.locks = false := BodyLoose.notSynchronized Bd
  have X0 : Stand p l e ({ frames := 0, cells := 0, slots := 0, locals := 0 } : Room) s m #[(.ref p0), (.int (Int32.ofNat j))] below meth c s₁ [] 0 0 := Stand.of_body Bd
  have e0 : s₁.heap = h0 := by rw [← hh, Bd.state]; rfl
  have N0 := Fr.nil n0
  show own_G p.tables e below (s₁.setTop (entryFrame m #[(.ref p0), (.int (Int32.ofNat j))] 2)) s ({ frames := 0, cells := 0, slots := 0, locals := 0 } : Room).cells ({ frames := 0, cells := 0, slots := 0, locals := 0 } : Room).slots (Q27 Z p0 j n ta kt h0 n0)
  refine own_go (fun _ k => castTop (ef_27 m p0 j) k) ?_
  show own_G _ _ _ (s₁.setTop (mkF m 0 #[.val (.ref p0), .val (.int (Int32.ofNat j))] [])) _ _ _ _
  refine own_go (fun _ k => XS.aloadN X0.here hx rfl (hb hby d27_0) rfl rfl k) ?_
  show own_G _ _ _ (s₁.setTop (mkF m 1 #[.val (.ref p0), .val (.int (Int32.ofNat j))] [(.ref p0)])) _ _ _ _
  obtain ⟨T1, X1, e1, st1⟩ := getF X0 hx hZ hown (host := "") (Or.inl (hw _ (List.mem_of_getElem? (i := 15) rfl))) Via.refl e0 P_F_p0_tasks (g := (mkF m 1 #[.val (.ref p0), .val (.int (Int32.ofNat j))] [(.ref p0)])) rfl rfl (hb hby d27_1)
  refine own_go (fun _ k => st1 _ k) ?_
  show own_G _ _ _ (T1.setTop (mkF m 4 #[.val (.ref p0), .val (.int (Int32.ofNat j))] [(.ref ta)])) _ _ _ _
  refine own_go (fun _ k => XS.iloadN X1.here hx rfl (hb hby d27_4) rfl k) ?_
  show own_G _ _ _ (T1.setTop (mkF m 5 #[.val (.ref p0), .val (.int (Int32.ofNat j))] [(.int (Int32.ofNat j)), (.ref ta)])) _ _ _ _
  obtain ⟨cl2, Ar2, q2, S2, Ng2, H2, G2⟩ := id P_V_ta
  have in2 : ¬ ((Int32.ofNat j) < 0 ∨ cl2.slots.size ≤ ((Int32.ofNat j)).toNatClampNeg) := inb_of S2 (own_inb (hjn) (by omega))
  have at2 : cl2.slots[((Int32.ofNat j)).toNatClampNeg]? = some (.int (Int32.ofNat j)) := H2.at in2 (by rw [own_cl j (by omega)]; exact own_fam_get _ _ _ _ _ (hjn) (hjn))
  refine own_go (fun _ k => X1.iaload hx (j := (Int32.ofNat j)) (v := (.int (Int32.ofNat j))) (by rw [e1]; exact Ar2.1) (State.isArrayOf_alike hZ.alike Ar2.2.1) Ar2.2.2 in2 at2 (g := (mkF m 5 #[.val (.ref p0), .val (.int (Int32.ofNat j))] [(.int (Int32.ofNat j)), (.ref ta)])) rfl rfl (hb hby d27_5) _ k) ?_
  show own_G _ _ _ (T1.setTop (mkF m 6 #[.val (.ref p0), .val (.int (Int32.ofNat j))] [(.int (Int32.ofNat j))])) _ _ _ _
  exact own_endI X1 hx hlk Bd.returns (hb hby d27_6) (by decide) (by decide) (Q := (Q27 Z p0 j n ta kt h0 n0)) (by rw [e1]; exact ⟨rfl, N0, rfl⟩)
theorem d28_0 : decode prog_10_method_8_code 0 = .ok (.aload_n 0, 1) := by decide +kernel
theorem d28_1 : decode prog_10_method_8_code 1 = .ok (.getfield 13, 3) := by decide +kernel
theorem d28_4 : decode prog_10_method_8_code 4 = .ok (.iload_n 1, 1) := by decide +kernel
theorem d28_5 : decode prog_10_method_8_code 5 = .ok (.aaload, 1) := by decide +kernel
theorem d28_6 : decode prog_10_method_8_code 6 = .ok (.areturn, 1) := by decide +kernel
theorem ef_28 (m : MethodId) (p0 : Addr) (j : Nat) : entryFrame m #[(.ref p0), (.int (Int32.ofNat j))] 2 = mkF m 0 #[.val (.ref p0), .val (.int (Int32.ofNat j))] [] := by first | (simp [entryFrame, mkF, argsToLocals, Value.category]; done) | rfl
def Q28 (Z : State) (p0 : Addr) (j : Nat) (n : Nat) (be : Addr) (kb : ClassId) (bf : Nat → Addr) (h0 : Heap) (n0 : Nat) (v : Option Value) (h : Heap) (L : List Loc) : Prop := v = some (.ref (bf j)) ∧ Fr n0 L ∧ h = h0
set_option maxRecDepth 65536 in
set_option maxHeartbeats 40000000 in
theorem rm28 (l : Launch) (Z : State) (a0 : Array Value) (hw : ∀ d ∈ tables_1, d.before a0 Z = true) (ws : List Jvm.Cond) (p0 : Addr) (j : Nat) (n : Nat) (be : Addr) (kb : ClassId) (bf : Nat → Addr) (h0 : Heap) (n0 : Nat) (Z0 : n0 ≤ h0.size) (P_F_p0_before : Fld Z h0 p0 "com/example/slackline/slackline/Precedence" "before" "[[I" (.ref be)) (P_V_be : Arv Z h0 be kb (.array .int) (Int32.ofNat n) (own_fam (own_gr bf) .null n n) .null) (hjn : j < n) (hn15 : n ≤ 15) :
    MetFree l (⟨"com/example/slackline/slackline/Precedence", "before", "(I)[I"⟩ : MethodName) (head1 (Jvm.Cond.code (⟨"com/example/slackline/slackline/Precedence", "before", "(I)[I"⟩ : MethodName) prog_10_method_8_code 2 (some (.array .int)) :: ws) ({ frames := 0, cells := 0, slots := 0, locals := 0 } : Room)) (fun a U => a = #[(.ref p0), (.int (Int32.ofNat j))] ∧ Z.Warmed39 U.vm ∧ U.heap = h0) (fun _ _ _ _ _ => True) (fun _ U o U' => ∃ v L, o = .returned v ∧ (Q28 Z p0 j n be kb bf h0 n0) v U'.heap L ∧ FrameEnd U o U' L ({ frames := 0, cells := 0, slots := 0, locals := 0 } : Room).cells ({ frames := 0, cells := 0, slots := 0, locals := 0 } : Room).slots) := by
  refine MetFree.of_bodySF (plainFor_of_name pn_8) hisR ?_
  intro p e s m args below meth c s₁ Bd hml0 hP hK
  obtain ⟨rfl, hZ, hh⟩ := hP
  have hx := Bd.exec
  have hby := Bd.bytes
  have hml : c.maxLocals = 2 := hml0
  have hown : s.vm.findClass "com/example/slackline/slackline/Precedence" = some m.cls := findClass_of_methodNamed Bd.named
  have hnm := (name_of_methodNamed Bd.named Bd.method).1
  have hlk : meth.locks = false := BodyLoose.notSynchronized Bd
  have X0 : Stand p l e ({ frames := 0, cells := 0, slots := 0, locals := 0 } : Room) s m #[(.ref p0), (.int (Int32.ofNat j))] below meth c s₁ [] 0 0 := Stand.of_body Bd
  have e0 : s₁.heap = h0 := by rw [← hh, Bd.state]; rfl
  have N0 := Fr.nil n0
  show own_G p.tables e below (s₁.setTop (entryFrame m #[(.ref p0), (.int (Int32.ofNat j))] 2)) s ({ frames := 0, cells := 0, slots := 0, locals := 0 } : Room).cells ({ frames := 0, cells := 0, slots := 0, locals := 0 } : Room).slots (Q28 Z p0 j n be kb bf h0 n0)
  refine own_go (fun _ k => castTop (ef_28 m p0 j) k) ?_
  show own_G _ _ _ (s₁.setTop (mkF m 0 #[.val (.ref p0), .val (.int (Int32.ofNat j))] [])) _ _ _ _
  refine own_go (fun _ k => XS.aloadN X0.here hx rfl (hb hby d28_0) rfl rfl k) ?_
  show own_G _ _ _ (s₁.setTop (mkF m 1 #[.val (.ref p0), .val (.int (Int32.ofNat j))] [(.ref p0)])) _ _ _ _
  obtain ⟨T1, X1, e1, st1⟩ := getF X0 hx hZ hown (host := "") (Or.inl (hw _ (List.mem_of_getElem? (i := 17) rfl))) Via.refl e0 P_F_p0_before (g := (mkF m 1 #[.val (.ref p0), .val (.int (Int32.ofNat j))] [(.ref p0)])) rfl rfl (hb hby d28_1)
  refine own_go (fun _ k => st1 _ k) ?_
  show own_G _ _ _ (T1.setTop (mkF m 4 #[.val (.ref p0), .val (.int (Int32.ofNat j))] [(.ref be)])) _ _ _ _
  refine own_go (fun _ k => XS.iloadN X1.here hx rfl (hb hby d28_4) rfl k) ?_
  show own_G _ _ _ (T1.setTop (mkF m 5 #[.val (.ref p0), .val (.int (Int32.ofNat j))] [(.int (Int32.ofNat j)), (.ref be)])) _ _ _ _
  obtain ⟨cl2, Ar2, q2, S2, Ng2, H2, G2⟩ := id P_V_be
  have in2 : ¬ ((Int32.ofNat j) < 0 ∨ cl2.slots.size ≤ ((Int32.ofNat j)).toNatClampNeg) := inb_of S2 (own_inb (hjn) (by omega))
  have at2 : cl2.slots[((Int32.ofNat j)).toNatClampNeg]? = some (.ref (bf j)) := H2.at in2 (by rw [own_cl j (by omega)]; exact own_fam_get _ _ _ _ _ (hjn) (hjn))
  refine own_go (fun _ k => X1.aaload hx (j := (Int32.ofNat j)) (v := (.ref (bf j))) (by rw [e1]; exact Ar2.1) (State.isArrayOf_alike hZ.alike Ar2.2.1) rfl Ar2.2.2 in2 at2 (g := (mkF m 5 #[.val (.ref p0), .val (.int (Int32.ofNat j))] [(.int (Int32.ofNat j)), (.ref be)])) rfl rfl (hb hby d28_5) _ k) ?_
  show own_G _ _ _ (T1.setTop (mkF m 6 #[.val (.ref p0), .val (.int (Int32.ofNat j))] [(.ref (bf j))])) _ _ _ _
  exact own_endR X1 hx hlk Bd.returns rfl rfl rfl (hb hby d28_6) (by decide) (by decide) (Q := (Q28 Z p0 j n be kb bf h0 n0)) (by rw [e1]; exact ⟨rfl, N0, rfl⟩)
theorem d14_0 : decode prog_10_method_9_code 0 = .ok (.aload_n 0, 1) := by decide +kernel
theorem d14_1 : decode prog_10_method_9_code 1 = .ok (.getfield 7, 3) := by decide +kernel
theorem d14_4 : decode prog_10_method_9_code 4 = .ok (.arraylength, 1) := by decide +kernel
theorem d14_5 : decode prog_10_method_9_code 5 = .ok (.newarray .int, 2) := by decide +kernel
theorem d14_7 : decode prog_10_method_9_code 7 = .ok (.astore_n 1, 1) := by decide +kernel
theorem d14_8 : decode prog_10_method_9_code 8 = .ok (.iconst 0, 1) := by decide +kernel
theorem d14_9 : decode prog_10_method_9_code 9 = .ok (.istore_n 2, 1) := by decide +kernel
theorem d14_10 : decode prog_10_method_9_code 10 = .ok (.iload_n 2, 1) := by decide +kernel
theorem d14_11 : decode prog_10_method_9_code 11 = .ok (.aload_n 1, 1) := by decide +kernel
theorem d14_12 : decode prog_10_method_9_code 12 = .ok (.arraylength, 1) := by decide +kernel
theorem d14_13 : decode prog_10_method_9_code 13 = .ok (.if_icmp .ge 13, 3) := by decide +kernel
theorem d14_16 : decode prog_10_method_9_code 16 = .ok (.aload_n 1, 1) := by decide +kernel
theorem d14_17 : decode prog_10_method_9_code 17 = .ok (.iload_n 2, 1) := by decide +kernel
theorem d14_18 : decode prog_10_method_9_code 18 = .ok (.iload_n 2, 1) := by decide +kernel
theorem d14_19 : decode prog_10_method_9_code 19 = .ok (.iastore, 1) := by decide +kernel
theorem d14_20 : decode prog_10_method_9_code 20 = .ok (.iinc 2 1, 3) := by decide +kernel
theorem d14_23 : decode prog_10_method_9_code 23 = .ok (.goto (-13), 3) := by decide +kernel
theorem d14_26 : decode prog_10_method_9_code 26 = .ok (.aload_n 1, 1) := by decide +kernel
theorem d14_27 : decode prog_10_method_9_code 27 = .ok (.areturn, 1) := by decide +kernel
theorem ef_14 (m : MethodId) (p0 : Addr) : entryFrame m #[(.ref p0)] 3 = mkF m 0 #[.val (.ref p0), .unset, .unset] [] := by first | (simp [entryFrame, mkF, argsToLocals, Value.category]; done) | rfl
def Q14 (Z : State) (p0 : Addr) (n : Nat) (ta : Addr) (kt : ClassId) (h0 : Heap) (n0 : Nat) (v : Option Value) (h : Heap) (L : List Loc) : Prop := ∃ (b : Addr) (kq : ClassId), v = some (.ref b) ∧ Fr n0 L ∧ Keep h0 h [] ∧ Arv Z h b kq .int (Int32.ofNat n) (own_fam own_gi (.int 0) n n) (.int 0)
set_option maxRecDepth 65536 in
set_option maxHeartbeats 40000000 in
theorem rm14 (l : Launch) (Z : State) (a0 : Array Value) (hw : ∀ d ∈ tables_1, d.before a0 Z = true) (ws : List Jvm.Cond) (p0 : Addr) (n : Nat) (ta : Addr) (kt : ClassId) (h0 : Heap) (n0 : Nat) (Z0 : n0 ≤ h0.size) (P_E_p0 : Exa Z h0 p0 "com/example/slackline/slackline/Precedence") (P_F_p0_tasks : Fld Z h0 p0 "com/example/slackline/slackline/Precedence" "tasks" "[I" (.ref ta)) (P_V_ta : Arv Z h0 ta kt .int (Int32.ofNat n) (own_fam own_gi (.int 0) n n) (.int 0)) (hn15 : n ≤ 15) :
    MetFree l (⟨"com/example/slackline/slackline/Precedence", "nodes", "()[I"⟩ : MethodName) (head1 (Jvm.Cond.code (⟨"com/example/slackline/slackline/Precedence", "nodes", "()[I"⟩ : MethodName) prog_10_method_9_code 3 (some (.array .int)) :: ws) ({ frames := 0, cells := 1, slots := 15, locals := 0 } : Room)) (fun a U => a = #[(.ref p0)] ∧ Z.Warmed39 U.vm ∧ U.heap = h0) (fun _ _ _ _ _ => True) (fun _ U o U' => ∃ v L, o = .returned v ∧ (Q14 Z p0 n ta kt h0 n0) v U'.heap L ∧ FrameEnd U o U' L ({ frames := 0, cells := 1, slots := 15, locals := 0 } : Room).cells ({ frames := 0, cells := 1, slots := 15, locals := 0 } : Room).slots) := by
  refine MetFree.of_bodySF (plainFor_of_name pn_8) hisR ?_
  intro p e s m args below meth c s₁ Bd hml0 hP hK
  obtain ⟨rfl, hZ, hh⟩ := hP
  have hx := Bd.exec
  have hby := Bd.bytes
  have hml : c.maxLocals = 3 := hml0
  have hown : s.vm.findClass "com/example/slackline/slackline/Precedence" = some m.cls := findClass_of_methodNamed Bd.named
  have hnm := (name_of_methodNamed Bd.named Bd.method).1
  have hlk : meth.locks = false := BodyLoose.notSynchronized Bd
  have X0 : Stand p l e ({ frames := 0, cells := 1, slots := 15, locals := 0 } : Room) s m #[(.ref p0)] below meth c s₁ [] 0 0 := Stand.of_body Bd
  have e0 : s₁.heap = h0 := by rw [← hh, Bd.state]; rfl
  have N0 := Fr.nil n0
  have K0 : Keep h0 h0 [] := Keep.refl h0 []
  show own_G p.tables e below (s₁.setTop (entryFrame m #[(.ref p0)] 3)) s ({ frames := 0, cells := 1, slots := 15, locals := 0 } : Room).cells ({ frames := 0, cells := 1, slots := 15, locals := 0 } : Room).slots (Q14 Z p0 n ta kt h0 n0)
  refine own_go (fun _ k => castTop (ef_14 m p0) k) ?_
  show own_G _ _ _ (s₁.setTop (mkF m 0 #[.val (.ref p0), .unset, .unset] [])) _ _ _ _
  refine own_go (fun _ k => XS.aloadN X0.here hx rfl (hb hby d14_0) rfl rfl k) ?_
  show own_G _ _ _ (s₁.setTop (mkF m 1 #[.val (.ref p0), .unset, .unset] [(.ref p0)])) _ _ _ _
  obtain ⟨T1, X1, e1, st1⟩ := getF X0 hx hZ hown (host := "") (Or.inl (hw _ (List.mem_of_getElem? (i := 15) rfl))) Via.refl e0 P_F_p0_tasks (g := (mkF m 1 #[.val (.ref p0), .unset, .unset] [(.ref p0)])) rfl rfl (hb hby d14_1)
  refine own_go (fun _ k => st1 _ k) ?_
  show own_G _ _ _ (T1.setTop (mkF m 4 #[.val (.ref p0), .unset, .unset] [(.ref ta)])) _ _ _ _
  obtain ⟨cl2, Ar2, -, S2, Ng2, -, -⟩ := id P_V_ta
  refine own_go (fun _ k => X1.arraylength hx (by rw [e1]; exact Ar2.1) (State.isArrayOf_alike hZ.alike Ar2.2.1) (g := (mkF m 4 #[.val (.ref p0), .unset, .unset] [(.ref ta)])) rfl rfl (hb hby d14_4) _ k) ?_
  rw [len_of S2 Ng2]
  show own_G _ _ _ (T1.setTop (mkF m 5 #[.val (.ref p0), .unset, .unset] [(.int (Int32.ofNat n))])) _ _ _ _
  obtain ⟨T3, h3, k3, X3, e3, E3, A3, st3⟩ := newP X1 hx hZ (hw _ (List.mem_of_getElem? (i := 4) rfl)) e1 (g := (mkF m 5 #[.val (.ref p0), .unset, .unset] [(.int (Int32.ofNat n))])) rfl (hb hby d14_5) rfl (own_nn n (by omega)) (cap := 15) (by rw [own_cl n (by omega)]; exact hn15) (by decide) (by decide) (by decide)
  obtain ⟨b3, g3⟩ : ∃ z, z = h0.size := ⟨_, rfl⟩
  rw [← g3] at A3 st3
  have ne4 : p0 ≠ b3 := Nat.ne_of_lt (Nat.lt_of_lt_of_le P_E_p0.lt (Nat.le_of_eq g3.symm))
  have ne5 : ta ≠ b3 := Nat.ne_of_lt (Nat.lt_of_lt_of_le P_V_ta.lt (Nat.le_of_eq g3.symm))
  have gg3 : n0 ≤ b3 := Nat.le_trans Z0 (Nat.le_of_eq g3.symm)
  have sz3_0 : h0.size ≤ b3 := Nat.le_trans K0.1 (Nat.le_of_eq g3.symm)
  have Zs3 : n0 ≤ h3.size := Nat.le_trans Z0 E3.1
  have K3_0 : Keep h0 h3 [] := K0.ext E3
  have f6 : Exa Z h3 p0 "com/example/slackline/slackline/Precedence" := P_E_p0.ext E3
  have f7 : Fld Z h3 p0 "com/example/slackline/slackline/Precedence" "tasks" "[I" (.ref ta) := P_F_p0_tasks.ext E3
  have f8 : Arv Z h3 ta kt .int (Int32.ofNat n) (own_fam own_gi (.int 0) n n) (.int 0) := P_V_ta.ext E3
  have f9 : Arv Z h3 b3 k3 .int (Int32.ofNat n) [] (.int (0 : Int32)) := Arv.new A3 (own_nn n (by omega))
  refine own_go (fun _ k => st3 _ k) ?_
  show own_G _ _ _ (T3.setTop (mkF m 7 #[.val (.ref p0), .unset, .unset] [(.ref b3)])) _ _ _ _
  have f10 : Arv Z h3 b3 k3 .int (Int32.ofNat n) (own_fam own_gi (.int 0) n 0) (.int 0) := (f9).pad (fun i => own_fam_pad _ _ _ i)
  refine own_go (fun _ k => XS.astoreN X3.here hx rfl (hb hby d14_7) rfl rfl (l' := #[.val (.ref p0), .val (.ref b3), .unset]) rfl k) ?_
  show own_G _ _ _ (T3.setTop (mkF m 8 #[.val (.ref p0), .val (.ref b3), .unset] [])) _ _ _ _
  refine own_go (fun _ k => XS.iconst X3.here hx rfl (hb hby d14_8) k) ?_
  show own_G _ _ _ (T3.setTop (mkF m 9 #[.val (.ref p0), .val (.ref b3), .unset] [(.int (0 : Int32))])) _ _ _ _
  refine own_go (fun _ k => XS.istoreN X3.here hx rfl (hb hby d14_9) rfl (l' := #[.val (.ref p0), .val (.ref b3), .val (.int (0 : Int32))]) rfl k) ?_
  show own_G _ _ _ (T3.setTop (mkF m 10 #[.val (.ref p0), .val (.ref b3), .val (.int (0 : Int32))] [])) _ _ _ _
  have loop : ∀ (f i : Nat) (hif : i + f = n) (T : State) (Lc : List Loc) (hp : Heap) (cz sz : Nat) (X : Stand p l e ({ frames := 0, cells := 1, slots := 15, locals := 0 } : Room) s m #[(.ref p0)] below meth c T Lc cz sz) (eT : T.heap = hp) (Nn : Fr n0 Lc) (Zp : n0 ≤ hp.size) (Kp : Keep h0 hp []) (hcz : cz + f * 0 + 0 ≤ 1) (hsz : sz + f * 0 + 0 ≤ 15) (J0 : Exa Z hp p0 "com/example/slackline/slackline/Precedence") (J1 : Fld Z hp p0 "com/example/slackline/slackline/Precedence" "tasks" "[I" (.ref ta)) (J2 : Arv Z hp ta kt .int (Int32.ofNat n) (own_fam own_gi (.int 0) n n) (.int 0)) (J3 : Arv Z hp b3 k3 .int (Int32.ofNat n) (own_fam own_gi (.int 0) n i) (.int 0)), own_G p.tables e below (T.setTop (mkF m 10 #[.val (.ref p0), .val (.ref b3), .val (.int (Int32.ofNat i))] [])) s ({ frames := 0, cells := 1, slots := 15, locals := 0 } : Room).cells ({ frames := 0, cells := 1, slots := 15, locals := 0 } : Room).slots (Q14 Z p0 n ta kt h0 n0) := by
    intro f
    induction f with
    | zero =>
      intro i hif T Lc hp cz sz X eT Nn Zp Kp hcz hsz J0 J1 J2 J3
      have hin : n = i := by omega
      subst hin
      refine own_go (fun _ k => XS.iloadN X.here hx rfl (hb hby d14_10) rfl k) ?_
      show own_G _ _ _ (T.setTop (mkF m 11 #[.val (.ref p0), .val (.ref b3), .val (.int (Int32.ofNat n))] [(.int (Int32.ofNat n))])) _ _ _ _
      refine own_go (fun _ k => XS.aloadN X.here hx rfl (hb hby d14_11) rfl rfl k) ?_
      show own_G _ _ _ (T.setTop (mkF m 12 #[.val (.ref p0), .val (.ref b3), .val (.int (Int32.ofNat n))] [(.ref b3), (.int (Int32.ofNat n))])) _ _ _ _
      obtain ⟨cl18, Ar18, -, S18, Ng18, -, -⟩ := id J3
      refine own_go (fun _ k => X.arraylength hx (by rw [eT]; exact Ar18.1) (State.isArrayOf_alike hZ.alike Ar18.2.1) (g := (mkF m 12 #[.val (.ref p0), .val (.ref b3), .val (.int (Int32.ofNat n))] [(.ref b3), (.int (Int32.ofNat n))])) rfl rfl (hb hby d14_12) _ k) ?_
      rw [len_of S18 Ng18]
      show own_G _ _ _ (T.setTop (mkF m 13 #[.val (.ref p0), .val (.ref b3), .val (.int (Int32.ofNat n))] [(.int (Int32.ofNat n)), (.int (Int32.ofNat n))])) _ _ _ _
      have hc19 : ¬ ((Int32.ofNat n) < (Int32.ofNat n)) := (fun q => absurd ((own_ltI n n (by omega) (by omega)).mp q) (Nat.lt_irrefl _))
      refine own_go (fun _ k => XS.icmpYes X.here hx rfl (pc0 := 13) (pc' := 26) rfl (hb hby d14_13) rfl (flt hc19).2.1 (by decide) (by decide) k) ?_
      show own_G _ _ _ (T.setTop (mkF m 26 #[.val (.ref p0), .val (.ref b3), .val (.int (Int32.ofNat n))] [])) _ _ _ _
      refine own_go (fun _ k => XS.aloadN X.here hx rfl (hb hby d14_26) rfl rfl k) ?_
      show own_G _ _ _ (T.setTop (mkF m 27 #[.val (.ref p0), .val (.ref b3), .val (.int (Int32.ofNat n))] [(.ref b3)])) _ _ _ _
      exact own_endR X hx hlk Bd.returns rfl rfl rfl (hb hby d14_27) (by first | decide | omega | (dsimp only [Pt.cells, Pt.slots]; omega)) (by first | decide | omega | (dsimp only [Pt.cells, Pt.slots]; omega)) (Q := (Q14 Z p0 n ta kt h0 n0)) (by rw [eT]; exact ⟨b3, k3, rfl, Nn, Kp, J3⟩)
    | succ f ih =>
      intro i hif T Lc hp cz sz X eT Nn Zp Kp hcz hsz J0 J1 J2 J3
      have hin : i < n := by omega
      refine own_go (fun _ k => XS.iloadN X.here hx rfl (hb hby d14_10) rfl k) ?_
      show own_G _ _ _ (T.setTop (mkF m 11 #[.val (.ref p0), .val (.ref b3), .val (.int (Int32.ofNat i))] [(.int (Int32.ofNat i))])) _ _ _ _
      refine own_go (fun _ k => XS.aloadN X.here hx rfl (hb hby d14_11) rfl rfl k) ?_
      show own_G _ _ _ (T.setTop (mkF m 12 #[.val (.ref p0), .val (.ref b3), .val (.int (Int32.ofNat i))] [(.ref b3), (.int (Int32.ofNat i))])) _ _ _ _
      obtain ⟨cl11, Ar11, -, S11, Ng11, -, -⟩ := id J3
      refine own_go (fun _ k => X.arraylength hx (by rw [eT]; exact Ar11.1) (State.isArrayOf_alike hZ.alike Ar11.2.1) (g := (mkF m 12 #[.val (.ref p0), .val (.ref b3), .val (.int (Int32.ofNat i))] [(.ref b3), (.int (Int32.ofNat i))])) rfl rfl (hb hby d14_12) _ k) ?_
      rw [len_of S11 Ng11]
      show own_G _ _ _ (T.setTop (mkF m 13 #[.val (.ref p0), .val (.ref b3), .val (.int (Int32.ofNat i))] [(.int (Int32.ofNat n)), (.int (Int32.ofNat i))])) _ _ _ _
      have hc12 : (Int32.ofNat i) < (Int32.ofNat n) := (own_ltI i n (by omega) (by omega)).mpr hin
      refine own_go (fun _ k => XS.icmpNo X.here hx rfl (hb hby d14_13) rfl (tlt hc12).2.1 k) ?_
      show own_G _ _ _ (T.setTop (mkF m 16 #[.val (.ref p0), .val (.ref b3), .val (.int (Int32.ofNat i))] [])) _ _ _ _
      refine own_go (fun _ k => XS.aloadN X.here hx rfl (hb hby d14_16) rfl rfl k) ?_
      show own_G _ _ _ (T.setTop (mkF m 17 #[.val (.ref p0), .val (.ref b3), .val (.int (Int32.ofNat i))] [(.ref b3)])) _ _ _ _
      refine own_go (fun _ k => XS.iloadN X.here hx rfl (hb hby d14_17) rfl k) ?_
      show own_G _ _ _ (T.setTop (mkF m 18 #[.val (.ref p0), .val (.ref b3), .val (.int (Int32.ofNat i))] [(.int (Int32.ofNat i)), (.ref b3)])) _ _ _ _
      refine own_go (fun _ k => XS.iloadN X.here hx rfl (hb hby d14_18) rfl k) ?_
      show own_G _ _ _ (T.setTop (mkF m 19 #[.val (.ref p0), .val (.ref b3), .val (.int (Int32.ofNat i))] [(.int (Int32.ofNat i)), (.int (Int32.ofNat i)), (.ref b3)])) _ _ _ _
      obtain ⟨cl13, Ar13, q13, S13, Ng13, H13, G13⟩ := id J3
      have in13 : ¬ ((Int32.ofNat i) < 0 ∨ cl13.slots.size ≤ ((Int32.ofNat i)).toNatClampNeg) := inb_of S13 (own_inb hin (by omega))
      obtain ⟨T13, h13, X13, e13, W13, st13⟩ := stI X hx hZ eT Ar13 (j := (Int32.ofNat i)) in13 (g := (mkF m 19 #[.val (.ref p0), .val (.ref b3), .val (.int (Int32.ofNat i))] [(.int (Int32.ofNat i)), (.int (Int32.ofNat i)), (.ref b3)])) rfl rfl (hb hby d14_19)
      have N13 := Fr.snoc X13 Nn gg3
      have Zs13 : n0 ≤ h13.size := Nat.le_trans Zp (Keep.of_wr W13).1
      have K13_0 : Keep h0 h13 [] := Kp.wr W13 (Or.inr sz3_0)
      have f14 : Exa Z h13 p0 "com/example/slackline/slackline/Precedence" := J0.wr W13
      have f15 : Fld Z h13 p0 "com/example/slackline/slackline/Precedence" "tasks" "[I" (.ref ta) := J1.other W13 (Or.inl ne4)
      have f16 : Arv Z h13 ta kt .int (Int32.ofNat n) (own_fam own_gi (.int 0) n n) (.int 0) := J2.other W13 ne5
      have f17 : Arv Z h13 b3 k3 .int (Int32.ofNat n) (own_fam own_gi (.int 0) n (i + 1)) (.int 0) := (by have q := Arv.set Ar13 q13 S13 Ng13 H13 G13 rfl W13 i (own_cl i (by omega)) (by rw [own_fam_len]; exact hin); rw [own_gi_set] at q; exact q)
      refine own_go (fun _ k => st13 _ k) ?_
      show own_G _ _ _ (T13.setTop (mkF m 20 #[.val (.ref p0), .val (.ref b3), .val (.int (Int32.ofNat i))] [])) _ _ _ _
      refine own_go (fun _ k => XS.iinc X13.here hx rfl (hb hby d14_20) rfl (l' := #[.val (.ref p0), .val (.ref b3), .val (.int ((Int32.ofNat i) + (1 : Int32)))]) rfl k) ?_
      rw [own_inc i]
      show own_G _ _ _ (T13.setTop (mkF m 23 #[.val (.ref p0), .val (.ref b3), .val (.int (Int32.ofNat (i + 1)))] [])) _ _ _ _
      refine own_go (fun _ k => XS.goto X13.here hx rfl (pc0 := 23) (pc' := 10) rfl (hb hby d14_23) (by decide) (by decide) k) ?_
      show own_G _ _ _ (T13.setTop (mkF m 10 #[.val (.ref p0), .val (.ref b3), .val (.int (Int32.ofNat (i + 1)))] [])) _ _ _ _
      exact ih (i + 1) (by omega) _ _ _ _ _  X13 e13 N13 Zs13 K13_0 (by omega) (by omega) f14 f15 f16 f17
  exact loop n 0 (by omega) _ _ _ _ _  X3 e3 N0 Zs3 K3_0 (by omega) (by omega) f6 f7 f8 f10
theorem pd_18 : parseMethodDescriptor "(I)Lcom/example/slackline/slackline/Precedence;" = some ⟨[.int], some (.object "com/example/slackline/slackline/Precedence")⟩ := by decide +kernel
theorem pd_19 : parseMethodDescriptor "()I" = some ⟨[], some .int⟩ := by decide +kernel
theorem pd_20 : parseMethodDescriptor "()Z" = some ⟨[], some .boolean⟩ := by decide +kernel
theorem pd_21 : parseMethodDescriptor "()[I" = some ⟨[], some (.array .int)⟩ := by decide +kernel
theorem pd_22 : parseMethodDescriptor "(I)I" = some ⟨[.int], some .int⟩ := by decide +kernel
theorem pd_23 : parseMethodDescriptor "(I)[I" = some ⟨[.int], some (.array .int)⟩ := by decide +kernel
theorem pn_9 : plainName "com/example/slackline/slackline/PrecedenceChainPinLaw" = true := by first | (simp [plainName, overriddenIn]; done) | decide +kernel
theorem ef_0 (m : MethodId) (p0 : Int32) (p1 : Int32) : entryFrame m #[(.int p0), (.int p1)] maxLocals = mkF m 0 #[.val (.int p0), .val (.int p1), .unset, .unset, .unset, .unset] [] := by first | (simp [entryFrame, mkF, argsToLocals, Value.category, maxLocals]; done) | rfl
def Q0 (Z : State) (p0 : Int32) (p1 : Int32) (zt : Addr) (kz : ClassId) (zz : Nat → Addr) (zero : Addr) (one : Addr) (h0 : Heap) (n0 : Nat) (v : Option Value) (h : Heap) (L : List Loc) : Prop := v = some (.int (1 : Int32)) ∧ Fr n0 L ∧ Keep h0 h []
set_option maxRecDepth 65536 in
set_option maxHeartbeats 40000000 in
theorem rm0 (l : Launch) (Z : State) (a0 : Array Value) (hw : ∀ d ∈ tables_1, d.before a0 Z = true) (ws : List Jvm.Cond) (p0 : Int32) (p1 : Int32) (zt : Addr) (kz : ClassId) (zz : Nat → Addr) (zero : Addr) (one : Addr) (h0 : Heap) (n0 : Nat) (Z0 : n0 ≤ h0.size) (P_Old : Old Z n0 h0) (P_ZS_java_math_BigDecimal_ZERO_THROUGH_TEN : Sta Z Z.heap "java/math/BigDecimal" "ZERO_THROUGH_TEN" "[Ljava/math/BigDecimal;" (.ref zt)) (VZ : Arv Z Z.heap zt kz (.object "java/math/BigDecimal") (11 : Int32) (own_fam (own_gr zz) .null 11 11) .null) (HZZ : own_BDs Z Z.heap zz 11) (P_ZS_java_math_BigDecimal_ZERO : Sta Z Z.heap "java/math/BigDecimal" "ZERO" "Ljava/math/BigDecimal;" (.ref zero)) (P_ZS_java_math_BigDecimal_ONE : Sta Z Z.heap "java/math/BigDecimal" "ONE" "Ljava/math/BigDecimal;" (.ref one)) (P_ZS_java_util_Collections_CopiesList__assertionsDisabled : Sta Z Z.heap "java/util/Collections$CopiesList" "$assertionsDisabled" "Z" (.int (1 : Int32))) (H0 : own_BD Z Z.heap zero (Int64.ofNat 0)) (H1 : own_BD Z Z.heap one (1 : Int64)) :
    MetFree l x (head1 (Jvm.Cond.code x code maxLocals ret :: ws) room_1) (fun a U => a = #[(.int p0), (.int p1)] ∧ Z.Warmed39 U.vm ∧ U.heap = h0) (fun _ _ _ _ _ => True) (fun _ U o U' => ∃ v L, o = .returned v ∧ (Q0 Z p0 p1 zt kz zz zero one h0 n0) v U'.heap L ∧ FrameEnd U o U' L room_1.cells room_1.slots) := by
  refine MetFree.of_bodySF (plainFor_of_name pn_9) hisR ?_
  intro p e s m args below meth c s₁ Bd hml0 hP hK
  obtain ⟨rfl, hZ, hh⟩ := hP
  have hx := Bd.exec
  have hby := Bd.bytes
  have hml : c.maxLocals = 6 := hml0
  have hown : s.vm.findClass "com/example/slackline/slackline/PrecedenceChainPinLaw" = some m.cls := findClass_of_methodNamed Bd.named
  have hnm := (name_of_methodNamed Bd.named Bd.method).1
  have hlk : meth.locks = false := BodyLoose.notSynchronized Bd
  have X0 : Stand p l e room_1 s m #[(.int p0), (.int p1)] below meth c s₁ [] 0 0 := Stand.of_body Bd
  have e0 : s₁.heap = h0 := by rw [← hh, Bd.state]; rfl
  have N0 := Fr.nil n0
  have K0 : Keep h0 h0 [] := Keep.refl h0 []
  show own_G p.tables e below (s₁.setTop (entryFrame m #[(.int p0), (.int p1)] maxLocals)) s room_1.cells room_1.slots (Q0 Z p0 p1 zt kz zz zero one h0 n0)
  refine own_go (fun _ k => castTop (ef_0 m p0 p1) k) ?_
  show own_G _ _ _ (s₁.setTop (mkF m 0 #[.val (.int p0), .val (.int p1), .unset, .unset, .unset, .unset] [])) _ _ _ _
  refine own_go (fun _ k => XS.iloadN X0.here hx rfl (hb hby at_0) rfl k) ?_
  show own_G _ _ _ (s₁.setTop (mkF m 1 #[.val (.int p0), .val (.int p1), .unset, .unset, .unset, .unset] [(.int p0)])) _ _ _ _
  refine own_go (fun _ k => XS.bipush X0.here hx rfl (hb hby at_1) k) ?_
  show own_G _ _ _ (s₁.setTop (mkF m 3 #[.val (.int p0), .val (.int p1), .unset, .unset, .unset, .unset] [(.int (15 : Int32)), (.int p0)])) _ _ _ _
  refine own_go (fun _ k => XS.iand X0.here hx rfl (hb hby at_3) rfl k) ?_
  show own_G _ _ _ (s₁.setTop (mkF m 4 #[.val (.int p0), .val (.int p1), .unset, .unset, .unset, .unset] [(.int (p0 &&& (15 : Int32)))])) _ _ _ _
  obtain ⟨n, hn15, hn⟩ := own_n15 p0
  · rw [hn]
    show own_G _ _ _ (s₁.setTop (mkF m 4 #[.val (.int p0), .val (.int p1), .unset, .unset, .unset, .unset] [(.int (Int32.ofNat n))])) _ _ _ _
    refine own_go (fun _ k => XS.istoreN X0.here hx rfl (hb hby at_4) rfl (l' := #[.val (.int p0), .val (.int p1), .val (.int (Int32.ofNat n)), .unset, .unset, .unset]) rfl k) ?_
    show own_G _ _ _ (s₁.setTop (mkF m 5 #[.val (.int p0), .val (.int p1), .val (.int (Int32.ofNat n)), .unset, .unset, .unset] [])) _ _ _ _
    refine own_go (fun _ k => XS.iloadN X0.here hx rfl (hb hby at_5) rfl k) ?_
    show own_G _ _ _ (s₁.setTop (mkF m 6 #[.val (.int p0), .val (.int p1), .val (.int (Int32.ofNat n)), .unset, .unset, .unset] [(.int (Int32.ofNat n))])) _ _ _ _
    obtain ⟨_, _, ⟨T1, L1, k1, n1⟩, -, X1, ⟨Lc1, hQ1, l1, y1, z1⟩, st1⟩ := Jvm.LawKit.callS X0 hx (y := (⟨"com/example/slackline/slackline/Precedence", "chain", "(I)Lcom/example/slackline/slackline/Precedence;"⟩ : MethodName)) hown (mvT hZ (hw _ (List.mem_of_getElem? (i := 0) rfl))) (mvT hZ (hw _ (List.mem_of_getElem? (i := 1) rfl))) (mvT hZ (hw _ (List.mem_of_getElem? (i := 2) rfl))) (mvT hZ (hw _ (List.mem_of_getElem? (i := 3) rfl))) (by decide) (backOf (W := 0) (rm1 l Z a0 hw []  zt kz zz zero one n h0 n0 Z0 P_Old P_ZS_java_math_BigDecimal_ZERO_THROUGH_TEN VZ HZZ P_ZS_java_math_BigDecimal_ZERO P_ZS_java_math_BigDecimal_ONE P_ZS_java_util_Collections_CopiesList__assertionsDisabled H0 H1 hn15) hZ (hw _ (List.mem_of_getElem? (i := 3) rfl)) (hw _ (List.mem_of_getElem? (i := 2) rfl)) (by decide) (by decide)) (g := (mkF m 6 #[.val (.int p0), .val (.int p1), .val (.int (Int32.ofNat n)), .unset, .unset, .unset] [(.int (Int32.ofNat n))])) rfl (by rw [hml]; rfl) (argsL := [(.int (Int32.ofNat n))]) (rest := []) (lenOf pd_18 rfl) rfl (by show 2 * 0 + _ ≤ _; exact Nat.le_of_eq rfl) (hb hby at_6) (fun _ _ => ⟨rfl, e0, (by decide : 0 + 51 ≤ _), (by decide : 0 + 222 ≤ _)⟩)
    dsimp only [Pt.U, Pt.locs, Pt.cells, Pt.slots] at X1 l1 y1 z1 st1 hQ1
    rw [l1] at X1
    subst y1 z1
    obtain ⟨b1, ta1, kt1, be1, kb1, bf1, n11, rfl, Nq1, Kq1, r1_0, r1_1, r1_2, r1_3, r1_4, r1_5, r1_6, r1_7⟩ := hQ1
    have N1 := Fr.app N0 Nq1
    have f2 : Old Z n0 T1.heap := P_Old.keep Kq1 all0
    have Zs1 : n0 ≤ T1.heap.size := Nat.le_trans Z0 Kq1.1
    have K1_0 : Keep h0 T1.heap [] := K0.trans Kq1 all0
    refine own_go (fun _ k => st1 _ k) ?_
    show own_G _ _ _ (T1.setTop (mkF m 9 #[.val (.int p0), .val (.int p1), .val (.int (Int32.ofNat n)), .unset, .unset, .unset] [(.ref b1)])) _ _ _ _
    refine own_go (fun _ k => XS.astoreN X1.here hx rfl (hb hby at_9) rfl rfl (l' := #[.val (.int p0), .val (.int p1), .val (.int (Int32.ofNat n)), .val (.ref b1), .unset, .unset]) rfl k) ?_
    show own_G _ _ _ (T1.setTop (mkF m 10 #[.val (.int p0), .val (.int p1), .val (.int (Int32.ofNat n)), .val (.ref b1), .unset, .unset] [])) _ _ _ _
    refine own_go (fun _ k => XS.aloadN X1.here hx rfl (hb hby at_10) rfl rfl k) ?_
    show own_G _ _ _ (T1.setTop (mkF m 11 #[.val (.int p0), .val (.int p1), .val (.int (Int32.ofNat n)), .val (.ref b1), .unset, .unset] [(.ref b1)])) _ _ _ _
    obtain ⟨cq3, kq3, q3a, q3b, q3c⟩ := isOf hZ rfl r1_0
    obtain ⟨_, _, ⟨T3, L3, k3, n3⟩, -, X3, ⟨Lc3, hQ3, l3, y3, z3⟩, st3⟩ := X1.virtualBack hx (y := (⟨"com/example/slackline/slackline/Precedence", "getTaskCount", "()I"⟩ : MethodName)) (z := (⟨"com/example/slackline/slackline/Precedence", "getTaskCount", "()I"⟩ : MethodName)) hown (mvT hZ (hw _ (List.mem_of_getElem? (i := 82) rfl))) (mvT hZ (hw _ (List.mem_of_getElem? (i := 83) rfl))) (notFace_of_selects (args := #[]) (mvT hZ (hw _ (List.mem_of_getElem? (i := 85) rfl)))) (mvT hZ (hw _ (List.mem_of_getElem? (i := 85) rfl))) (mvT hZ (hw _ (List.mem_of_getElem? (i := 84) rfl))) (by decide) (backOf (W := 0) (rm12 l Z a0 hw [] b1 (Int32.ofNat n) T1.heap n0 Zs1 r1_3) hZ (hw _ (List.mem_of_getElem? (i := 86) rfl)) (hw _ (List.mem_of_getElem? (i := 2) rfl)) (by decide) (by decide)) q3a q3c (g := (mkF m 11 #[.val (.int p0), .val (.int p1), .val (.int (Int32.ofNat n)), .val (.ref b1), .unset, .unset] [(.ref b1)])) rfl (by rw [hml]; rfl) (Steps.refl _) (argsL := []) (rest := []) (lenOf pd_19 rfl) rfl (by show 2 * 0 + _ ≤ _; exact Nat.le_of_eq rfl) (hb hby at_11) (fun _ _ => ⟨rfl, rfl, (by decide : 51 + 0 ≤ _), (by decide : 222 + 0 ≤ _)⟩)
    dsimp only [Pt.U, Pt.locs, Pt.cells, Pt.slots] at X3 l3 y3 z3 st3 hQ3
    rw [l3] at X3
    subst y3 z3
    obtain ⟨rfl, Nq3, eh3⟩ := hQ3
    have N3 := Fr.app N1 Nq3
    refine own_tr st3 ?_
    show own_G _ _ _ (T3.setTop (mkF m 14 #[.val (.int p0), .val (.int p1), .val (.int (Int32.ofNat n)), .val (.ref b1), .unset, .unset] [(.int (Int32.ofNat n))])) _ _ _ _
    refine own_go (fun _ k => XS.iloadN X3.here hx rfl (hb hby at_14) rfl k) ?_
    show own_G _ _ _ (T3.setTop (mkF m 15 #[.val (.int p0), .val (.int p1), .val (.int (Int32.ofNat n)), .val (.ref b1), .unset, .unset] [(.int (Int32.ofNat n)), (.int (Int32.ofNat n))])) _ _ _ _
    have hc4 : (Int32.ofNat n) = (Int32.ofNat n) := rfl
    refine own_go (fun _ k => XS.icmpYes X3.here hx rfl (pc0 := 15) (pc' := 20) rfl (hb hby at_15) rfl (teq hc4).1 (by decide) (by decide) k) ?_
    show own_G _ _ _ (T3.setTop (mkF m 20 #[.val (.int p0), .val (.int p1), .val (.int (Int32.ofNat n)), .val (.ref b1), .unset, .unset] [])) _ _ _ _
    refine own_go (fun _ k => XS.aloadN X3.here hx rfl (hb hby at_20) rfl rfl k) ?_
    show own_G _ _ _ (T3.setTop (mkF m 21 #[.val (.int p0), .val (.int p1), .val (.int (Int32.ofNat n)), .val (.ref b1), .unset, .unset] [(.ref b1)])) _ _ _ _
    obtain ⟨cq5, kq5, q5a, q5b, q5c⟩ := isOf hZ eh3 r1_0
    obtain ⟨_, _, ⟨T5, L5, k5, n5⟩, -, X5, ⟨Lc5, hQ5, l5, y5, z5⟩, st5⟩ := X3.virtualBack hx (y := (⟨"com/example/slackline/slackline/Precedence", "isChain", "()Z"⟩ : MethodName)) (z := (⟨"com/example/slackline/slackline/Precedence", "isChain", "()Z"⟩ : MethodName)) hown (mvT hZ (hw _ (List.mem_of_getElem? (i := 87) rfl))) (mvT hZ (hw _ (List.mem_of_getElem? (i := 88) rfl))) (notFace_of_selects (args := #[]) (mvT hZ (hw _ (List.mem_of_getElem? (i := 90) rfl)))) (mvT hZ (hw _ (List.mem_of_getElem? (i := 90) rfl))) (mvT hZ (hw _ (List.mem_of_getElem? (i := 89) rfl))) (by decide) (backOf (W := 0) (rm13 l Z a0 hw [] b1  T1.heap n0 Zs1 r1_4) hZ (hw _ (List.mem_of_getElem? (i := 91) rfl)) (hw _ (List.mem_of_getElem? (i := 2) rfl)) (by decide) (by decide)) q5a q5c (g := (mkF m 21 #[.val (.int p0), .val (.int p1), .val (.int (Int32.ofNat n)), .val (.ref b1), .unset, .unset] [(.ref b1)])) rfl (by rw [hml]; rfl) (Steps.refl _) (argsL := []) (rest := []) (lenOf pd_20 rfl) rfl (by show 2 * 0 + _ ≤ _; exact Nat.le_of_eq rfl) (hb hby at_21) (fun _ _ => ⟨rfl, eh3, (by decide : 51 + 0 ≤ _), (by decide : 222 + 0 ≤ _)⟩)
    dsimp only [Pt.U, Pt.locs, Pt.cells, Pt.slots] at X5 l5 y5 z5 st5 hQ5
    rw [l5] at X5
    subst y5 z5
    obtain ⟨rfl, Nq5, eh5⟩ := hQ5
    have N5 := Fr.app N3 Nq5
    refine own_tr st5 ?_
    show own_G _ _ _ (T5.setTop (mkF m 24 #[.val (.int p0), .val (.int p1), .val (.int (Int32.ofNat n)), .val (.ref b1), .unset, .unset] [(.int (1 : Int32))])) _ _ _ _
    have hc6 : ¬ ((1 : Int32) = (0 : Int32)) := (by decide)
    refine own_go (fun _ k => XS.ifYes X5.here hx rfl (pc0 := 24) (pc' := 29) rfl (hb hby at_24) rfl ((if0 _ _).trans (feq hc6).2) (by decide) (by decide) k) ?_
    show own_G _ _ _ (T5.setTop (mkF m 29 #[.val (.int p0), .val (.int p1), .val (.int (Int32.ofNat n)), .val (.ref b1), .unset, .unset] [])) _ _ _ _
    refine own_go (fun _ k => XS.aloadN X5.here hx rfl (hb hby at_29) rfl rfl k) ?_
    show own_G _ _ _ (T5.setTop (mkF m 30 #[.val (.int p0), .val (.int p1), .val (.int (Int32.ofNat n)), .val (.ref b1), .unset, .unset] [(.ref b1)])) _ _ _ _
    obtain ⟨cq7, kq7, q7a, q7b, q7c⟩ := isOf hZ eh5 r1_0
    obtain ⟨_, _, ⟨T7, L7, k7, n7⟩, -, X7, ⟨Lc7, hQ7, l7, y7, z7⟩, st7⟩ := X5.virtualBack hx (y := (⟨"com/example/slackline/slackline/Precedence", "nodes", "()[I"⟩ : MethodName)) (z := (⟨"com/example/slackline/slackline/Precedence", "nodes", "()[I"⟩ : MethodName)) hown (mvT hZ (hw _ (List.mem_of_getElem? (i := 92) rfl))) (mvT hZ (hw _ (List.mem_of_getElem? (i := 93) rfl))) (notFace_of_selects (args := #[]) (mvT hZ (hw _ (List.mem_of_getElem? (i := 95) rfl)))) (mvT hZ (hw _ (List.mem_of_getElem? (i := 95) rfl))) (mvT hZ (hw _ (List.mem_of_getElem? (i := 94) rfl))) (by decide) (backOf (W := 0) (rm14 l Z a0 hw [] b1 n ta1 kt1 T1.heap n0 Zs1 r1_0 r1_1 r1_5 hn15) hZ (hw _ (List.mem_of_getElem? (i := 96) rfl)) (hw _ (List.mem_of_getElem? (i := 2) rfl)) (by decide) (by decide)) q7a q7c (g := (mkF m 30 #[.val (.int p0), .val (.int p1), .val (.int (Int32.ofNat n)), .val (.ref b1), .unset, .unset] [(.ref b1)])) rfl (by rw [hml]; rfl) (Steps.refl _) (argsL := []) (rest := []) (lenOf pd_21 rfl) rfl (by show 2 * 0 + _ ≤ _; exact Nat.le_of_eq rfl) (hb hby at_30) (fun _ _ => ⟨rfl, eh5, (by decide : 51 + 1 ≤ _), (by decide : 222 + 15 ≤ _)⟩)
    dsimp only [Pt.U, Pt.locs, Pt.cells, Pt.slots] at X7 l7 y7 z7 st7 hQ7
    rw [l7] at X7
    subst y7 z7
    obtain ⟨b7, kq7, rfl, Nq7, Kq7, r7_0⟩ := hQ7
    have N7 := Fr.app N5 Nq7
    have f8 : Old Z n0 T7.heap := f2.keep Kq7 all0
    have f9 : Exa Z T7.heap b1 "com/example/slackline/slackline/Precedence" := r1_0.keep Kq7
    have f10 : Fld Z T7.heap b1 "com/example/slackline/slackline/Precedence" "tasks" "[I" (.ref ta1) := r1_1.keep Kq7 nin0
    have f11 : Fld Z T7.heap b1 "com/example/slackline/slackline/Precedence" "before" "[[I" (.ref be1) := r1_2.keep Kq7 nin0
    have f12 : Fld Z T7.heap b1 "com/example/slackline/slackline/Precedence" "taskCount" "I" (.int (Int32.ofNat n)) := r1_3.keep Kq7 nin0
    have f13 : Fld Z T7.heap b1 "com/example/slackline/slackline/Precedence" "chain" "Z" (.int (1 : Int32)) := r1_4.keep Kq7 nin0
    have f14 : Arv Z T7.heap ta1 kt1 .int (Int32.ofNat n) (own_fam own_gi (.int 0) n n) (.int 0) := r1_5.keep Kq7 nin0
    have f15 : Arv Z T7.heap be1 kb1 (.array .int) (Int32.ofNat n) (own_fam (own_gr bf1) .null n n) .null := r1_6.keep Kq7 nin0
    have f16 : own_Bef Z T7.heap bf1 n n11 := r1_7.keep Kq7 (fun _ _ => nin0)
    have Zs7 : n0 ≤ T7.heap.size := Nat.le_trans Zs1 Kq7.1
    have K7_0 : Keep h0 T7.heap [] := K1_0.trans Kq7 all0
    refine own_tr st7 ?_
    show own_G _ _ _ (T7.setTop (mkF m 33 #[.val (.int p0), .val (.int p1), .val (.int (Int32.ofNat n)), .val (.ref b1), .unset, .unset] [(.ref b7)])) _ _ _ _
    obtain ⟨cl17, Ar17, -, S17, Ng17, -, -⟩ := id r7_0
    refine own_go (fun _ k => X7.arraylength hx (by exact Ar17.1) (State.isArrayOf_alike hZ.alike Ar17.2.1) (g := (mkF m 33 #[.val (.int p0), .val (.int p1), .val (.int (Int32.ofNat n)), .val (.ref b1), .unset, .unset] [(.ref b7)])) rfl rfl (hb hby at_33) _ k) ?_
    rw [len_of S17 Ng17]
    show own_G _ _ _ (T7.setTop (mkF m 34 #[.val (.int p0), .val (.int p1), .val (.int (Int32.ofNat n)), .val (.ref b1), .unset, .unset] [(.int (Int32.ofNat n))])) _ _ _ _
    refine own_go (fun _ k => XS.iloadN X7.here hx rfl (hb hby at_34) rfl k) ?_
    show own_G _ _ _ (T7.setTop (mkF m 35 #[.val (.int p0), .val (.int p1), .val (.int (Int32.ofNat n)), .val (.ref b1), .unset, .unset] [(.int (Int32.ofNat n)), (.int (Int32.ofNat n))])) _ _ _ _
    have hc18 : (Int32.ofNat n) = (Int32.ofNat n) := rfl
    refine own_go (fun _ k => XS.icmpYes X7.here hx rfl (pc0 := 35) (pc' := 40) rfl (hb hby at_35) rfl (teq hc18).1 (by decide) (by decide) k) ?_
    show own_G _ _ _ (T7.setTop (mkF m 40 #[.val (.int p0), .val (.int p1), .val (.int (Int32.ofNat n)), .val (.ref b1), .unset, .unset] [])) _ _ _ _
    refine own_go (fun _ k => XS.iloadN X7.here hx rfl (hb hby at_40) rfl k) ?_
    show own_G _ _ _ (T7.setTop (mkF m 41 #[.val (.int p0), .val (.int p1), .val (.int (Int32.ofNat n)), .val (.ref b1), .unset, .unset] [(.int (Int32.ofNat n))])) _ _ _ _
    by_cases hc19 : (Int32.ofNat n) = (0 : Int32)
    · refine own_go (fun _ k => XS.ifNo X7.here hx rfl (hb hby at_41) rfl ((if0 _ _).trans (teq hc19).2) k) ?_
      show own_G _ _ _ (T7.setTop (mkF m 44 #[.val (.int p0), .val (.int p1), .val (.int (Int32.ofNat n)), .val (.ref b1), .unset, .unset] [])) _ _ _ _
      refine own_go (fun _ k => XS.iconst X7.here hx rfl (hb hby at_44) k) ?_
      show own_G _ _ _ (T7.setTop (mkF m 45 #[.val (.int p0), .val (.int p1), .val (.int (Int32.ofNat n)), .val (.ref b1), .unset, .unset] [(.int (1 : Int32))])) _ _ _ _
      exact own_endN X7 hx hlk (t := .boolean) Bd.returns (by simp) (hb hby at_45) (by decide) (by decide) (Q := (Q0 Z p0 p1 zt kz zz zero one h0 n0)) ⟨rfl, N7, K7_0⟩
    · refine own_go (fun _ k => XS.ifYes X7.here hx rfl (pc0 := 41) (pc' := 46) rfl (hb hby at_41) rfl ((if0 _ _).trans (feq hc19).2) (by decide) (by decide) k) ?_
      show own_G _ _ _ (T7.setTop (mkF m 46 #[.val (.int p0), .val (.int p1), .val (.int (Int32.ofNat n)), .val (.ref b1), .unset, .unset] [])) _ _ _ _
      refine own_go (fun _ k => XS.iloadN X7.here hx rfl (hb hby at_46) rfl k) ?_
      show own_G _ _ _ (T7.setTop (mkF m 47 #[.val (.int p0), .val (.int p1), .val (.int (Int32.ofNat n)), .val (.ref b1), .unset, .unset] [(.int p1)])) _ _ _ _
      refine own_go (fun _ k => X7.ldcInt hx hown (mvT hZ (hw _ (List.mem_of_getElem? (i := 160) rfl))) (g := (mkF m 47 #[.val (.int p0), .val (.int p1), .val (.int (Int32.ofNat n)), .val (.ref b1), .unset, .unset] [(.int p1)])) rfl (hb hby at_47) _ k) ?_
      show own_G _ _ _ (T7.setTop (mkF m 49 #[.val (.int p0), .val (.int p1), .val (.int (Int32.ofNat n)), .val (.ref b1), .unset, .unset] [(.int (2147483647 : Int32)), (.int p1)])) _ _ _ _
      refine own_go (fun _ k => XS.iand X7.here hx rfl (hb hby at_49) rfl k) ?_
      show own_G _ _ _ (T7.setTop (mkF m 50 #[.val (.int p0), .val (.int p1), .val (.int (Int32.ofNat n)), .val (.ref b1), .unset, .unset] [(.int (p1 &&& (2147483647 : Int32)))])) _ _ _ _
      refine own_go (fun _ k => XS.iloadN X7.here hx rfl (hb hby at_50) rfl k) ?_
      show own_G _ _ _ (T7.setTop (mkF m 51 #[.val (.int p0), .val (.int p1), .val (.int (Int32.ofNat n)), .val (.ref b1), .unset, .unset] [(.int (Int32.ofNat n)), (.int (p1 &&& (2147483647 : Int32)))])) _ _ _ _
      have hnz : (Int32.ofNat n) ≠ 0 := hc19
      · have hpos : 0 < n := Nat.pos_of_ne_zero (fun q => hnz ((own_z n (by omega)).mpr q))
        refine own_go (fun _ k => iremM X7 hx rfl (hb hby at_51) rfl hnz k) ?_
        show own_G _ _ _ (T7.setTop (mkF m 52 #[.val (.int p0), .val (.int p1), .val (.int (Int32.ofNat n)), .val (.ref b1), .unset, .unset] [(.int ((p1 &&& (2147483647 : Int32)) % (Int32.ofNat n)))])) _ _ _ _
        obtain ⟨j, hjn, hj⟩ := own_rem p1 n hpos hn15
        · rw [hj]
          show own_G _ _ _ (T7.setTop (mkF m 52 #[.val (.int p0), .val (.int p1), .val (.int (Int32.ofNat n)), .val (.ref b1), .unset, .unset] [(.int (Int32.ofNat j))])) _ _ _ _
          refine own_go (fun _ k => XS.istore X7.here hx rfl (hb hby at_52) rfl (l' := #[.val (.int p0), .val (.int p1), .val (.int (Int32.ofNat n)), .val (.ref b1), .val (.int (Int32.ofNat j)), .unset]) rfl k) ?_
          show own_G _ _ _ (T7.setTop (mkF m 54 #[.val (.int p0), .val (.int p1), .val (.int (Int32.ofNat n)), .val (.ref b1), .val (.int (Int32.ofNat j)), .unset] [])) _ _ _ _
          refine own_go (fun _ k => XS.aloadN X7.here hx rfl (hb hby at_54) rfl rfl k) ?_
          show own_G _ _ _ (T7.setTop (mkF m 55 #[.val (.int p0), .val (.int p1), .val (.int (Int32.ofNat n)), .val (.ref b1), .val (.int (Int32.ofNat j)), .unset] [(.ref b1)])) _ _ _ _
          refine own_go (fun _ k => XS.iload X7.here hx rfl (hb hby at_55) rfl k) ?_
          show own_G _ _ _ (T7.setTop (mkF m 57 #[.val (.int p0), .val (.int p1), .val (.int (Int32.ofNat n)), .val (.ref b1), .val (.int (Int32.ofNat j)), .unset] [(.int (Int32.ofNat j)), (.ref b1)])) _ _ _ _
          obtain ⟨cq20, kq20, q20a, q20b, q20c⟩ := isOf hZ rfl f9
          obtain ⟨_, _, ⟨T20, L20, k20, n20⟩, -, X20, ⟨Lc20, hQ20, l20, y20, z20⟩, st20⟩ := X7.virtualBack hx (y := (⟨"com/example/slackline/slackline/Precedence", "taskAt", "(I)I"⟩ : MethodName)) (z := (⟨"com/example/slackline/slackline/Precedence", "taskAt", "(I)I"⟩ : MethodName)) hown (mvT hZ (hw _ (List.mem_of_getElem? (i := 161) rfl))) (mvT hZ (hw _ (List.mem_of_getElem? (i := 162) rfl))) (notFace_of_selects (args := #[]) (mvT hZ (hw _ (List.mem_of_getElem? (i := 164) rfl)))) (mvT hZ (hw _ (List.mem_of_getElem? (i := 164) rfl))) (mvT hZ (hw _ (List.mem_of_getElem? (i := 163) rfl))) (by decide) (backOf (W := 0) (rm27 l Z a0 hw [] b1 j n ta1 kt1 T7.heap n0 Zs7 f10 f14 hjn hn15) hZ (hw _ (List.mem_of_getElem? (i := 165) rfl)) (hw _ (List.mem_of_getElem? (i := 2) rfl)) (by decide) (by decide)) q20a q20c (g := (mkF m 57 #[.val (.int p0), .val (.int p1), .val (.int (Int32.ofNat n)), .val (.ref b1), .val (.int (Int32.ofNat j)), .unset] [(.int (Int32.ofNat j)), (.ref b1)])) rfl (by rw [hml]; rfl) (Steps.refl _) (argsL := [(.int (Int32.ofNat j))]) (rest := []) (lenOf pd_22 rfl) rfl (by show 2 * 0 + _ ≤ _; exact Nat.le_of_eq rfl) (hb hby at_57) (fun _ _ => ⟨rfl, rfl, (by decide : 52 + 0 ≤ _), (by decide : 237 + 0 ≤ _)⟩)
          dsimp only [Pt.U, Pt.locs, Pt.cells, Pt.slots] at X20 l20 y20 z20 st20 hQ20
          rw [l20] at X20
          subst y20 z20
          obtain ⟨rfl, Nq20, eh20⟩ := hQ20
          have N20 := Fr.app N7 Nq20
          refine own_tr st20 ?_
          show own_G _ _ _ (T20.setTop (mkF m 60 #[.val (.int p0), .val (.int p1), .val (.int (Int32.ofNat n)), .val (.ref b1), .val (.int (Int32.ofNat j)), .unset] [(.int (Int32.ofNat j))])) _ _ _ _
          refine own_go (fun _ k => XS.iload X20.here hx rfl (hb hby at_60) rfl k) ?_
          show own_G _ _ _ (T20.setTop (mkF m 62 #[.val (.int p0), .val (.int p1), .val (.int (Int32.ofNat n)), .val (.ref b1), .val (.int (Int32.ofNat j)), .unset] [(.int (Int32.ofNat j)), (.int (Int32.ofNat j))])) _ _ _ _
          have hc21 : (Int32.ofNat j) = (Int32.ofNat j) := rfl
          refine own_go (fun _ k => XS.icmpYes X20.here hx rfl (pc0 := 62) (pc' := 67) rfl (hb hby at_62) rfl (teq hc21).1 (by decide) (by decide) k) ?_
          show own_G _ _ _ (T20.setTop (mkF m 67 #[.val (.int p0), .val (.int p1), .val (.int (Int32.ofNat n)), .val (.ref b1), .val (.int (Int32.ofNat j)), .unset] [])) _ _ _ _
          refine own_go (fun _ k => XS.aloadN X20.here hx rfl (hb hby at_67) rfl rfl k) ?_
          show own_G _ _ _ (T20.setTop (mkF m 68 #[.val (.int p0), .val (.int p1), .val (.int (Int32.ofNat n)), .val (.ref b1), .val (.int (Int32.ofNat j)), .unset] [(.ref b1)])) _ _ _ _
          refine own_go (fun _ k => XS.iload X20.here hx rfl (hb hby at_68) rfl k) ?_
          show own_G _ _ _ (T20.setTop (mkF m 70 #[.val (.int p0), .val (.int p1), .val (.int (Int32.ofNat n)), .val (.ref b1), .val (.int (Int32.ofNat j)), .unset] [(.int (Int32.ofNat j)), (.ref b1)])) _ _ _ _
          obtain ⟨cq22, kq22, q22a, q22b, q22c⟩ := isOf hZ eh20 f9
          obtain ⟨_, _, ⟨T22, L22, k22, n22⟩, -, X22, ⟨Lc22, hQ22, l22, y22, z22⟩, st22⟩ := X20.virtualBack hx (y := (⟨"com/example/slackline/slackline/Precedence", "before", "(I)[I"⟩ : MethodName)) (z := (⟨"com/example/slackline/slackline/Precedence", "before", "(I)[I"⟩ : MethodName)) hown (mvT hZ (hw _ (List.mem_of_getElem? (i := 166) rfl))) (mvT hZ (hw _ (List.mem_of_getElem? (i := 167) rfl))) (notFace_of_selects (args := #[]) (mvT hZ (hw _ (List.mem_of_getElem? (i := 169) rfl)))) (mvT hZ (hw _ (List.mem_of_getElem? (i := 169) rfl))) (mvT hZ (hw _ (List.mem_of_getElem? (i := 168) rfl))) (by decide) (backOf (W := 0) (rm28 l Z a0 hw [] b1 j n be1 kb1 bf1 T7.heap n0 Zs7 f11 f15 hjn hn15) hZ (hw _ (List.mem_of_getElem? (i := 170) rfl)) (hw _ (List.mem_of_getElem? (i := 2) rfl)) (by decide) (by decide)) q22a q22c (g := (mkF m 70 #[.val (.int p0), .val (.int p1), .val (.int (Int32.ofNat n)), .val (.ref b1), .val (.int (Int32.ofNat j)), .unset] [(.int (Int32.ofNat j)), (.ref b1)])) rfl (by rw [hml]; rfl) (Steps.refl _) (argsL := [(.int (Int32.ofNat j))]) (rest := []) (lenOf pd_23 rfl) rfl (by show 2 * 0 + _ ≤ _; exact Nat.le_of_eq rfl) (hb hby at_70) (fun _ _ => ⟨rfl, eh20, (by decide : 52 + 0 ≤ _), (by decide : 237 + 0 ≤ _)⟩)
          dsimp only [Pt.U, Pt.locs, Pt.cells, Pt.slots] at X22 l22 y22 z22 st22 hQ22
          rw [l22] at X22
          subst y22 z22
          obtain ⟨rfl, Nq22, eh22⟩ := hQ22
          have N22 := Fr.app N20 Nq22
          refine own_tr st22 ?_
          show own_G _ _ _ (T22.setTop (mkF m 73 #[.val (.int p0), .val (.int p1), .val (.int (Int32.ofNat n)), .val (.ref b1), .val (.int (Int32.ofNat j)), .unset] [(.ref (bf1 j))])) _ _ _ _
          refine own_go (fun _ k => XS.astore X22.here hx rfl (hb hby at_73) rfl rfl (l' := #[.val (.int p0), .val (.int p1), .val (.int (Int32.ofNat n)), .val (.ref b1), .val (.int (Int32.ofNat j)), .val (.ref (bf1 j))]) rfl k) ?_
          show own_G _ _ _ (T22.setTop (mkF m 75 #[.val (.int p0), .val (.int p1), .val (.int (Int32.ofNat n)), .val (.ref b1), .val (.int (Int32.ofNat j)), .val (.ref (bf1 j))] [])) _ _ _ _
          rcases Nat.eq_zero_or_pos j with hj0 | hj0
          · obtain ⟨kv, Vb⟩ := own_Bef.at0 f16 hjn hj0
            show own_G _ _ _ (T22.setTop (mkF m 75 #[.val (.int p0), .val (.int p1), .val (.int (Int32.ofNat n)), .val (.ref b1), .val (.int (Int32.ofNat j)), .val (.ref (bf1 j))] [])) _ _ _ _
            refine own_go (fun _ k => XS.iload X22.here hx rfl (hb hby at_75) rfl k) ?_
            show own_G _ _ _ (T22.setTop (mkF m 77 #[.val (.int p0), .val (.int p1), .val (.int (Int32.ofNat n)), .val (.ref b1), .val (.int (Int32.ofNat j)), .val (.ref (bf1 j))] [(.int (Int32.ofNat j))])) _ _ _ _
            have hc23 : (Int32.ofNat j) = (0 : Int32) := ((own_z j (by omega)).mpr hj0)
            refine own_go (fun _ k => XS.ifNo X22.here hx rfl (hb hby at_77) rfl ((if0 _ _).trans (teq hc23).2) k) ?_
            show own_G _ _ _ (T22.setTop (mkF m 80 #[.val (.int p0), .val (.int p1), .val (.int (Int32.ofNat n)), .val (.ref b1), .val (.int (Int32.ofNat j)), .val (.ref (bf1 j))] [])) _ _ _ _
            refine own_go (fun _ k => XS.aload X22.here hx rfl (hb hby at_80) rfl rfl k) ?_
            show own_G _ _ _ (T22.setTop (mkF m 82 #[.val (.int p0), .val (.int p1), .val (.int (Int32.ofNat n)), .val (.ref b1), .val (.int (Int32.ofNat j)), .val (.ref (bf1 j))] [(.ref (bf1 j))])) _ _ _ _
            obtain ⟨cl24, Ar24, -, S24, Ng24, -, -⟩ := id Vb
            refine own_go (fun _ k => X22.arraylength hx (by rw [eh22]; exact Ar24.1) (State.isArrayOf_alike hZ.alike Ar24.2.1) (g := (mkF m 82 #[.val (.int p0), .val (.int p1), .val (.int (Int32.ofNat n)), .val (.ref b1), .val (.int (Int32.ofNat j)), .val (.ref (bf1 j))] [(.ref (bf1 j))])) rfl rfl (hb hby at_82) _ k) ?_
            rw [len_of S24 Ng24]
            show own_G _ _ _ (T22.setTop (mkF m 83 #[.val (.int p0), .val (.int p1), .val (.int (Int32.ofNat n)), .val (.ref b1), .val (.int (Int32.ofNat j)), .val (.ref (bf1 j))] [(.int (0 : Int32))])) _ _ _ _
            have hc25 : (0 : Int32) = (0 : Int32) := (by decide)
            refine own_go (fun _ k => XS.ifNo X22.here hx rfl (hb hby at_83) rfl ((if0 _ _).trans (teq hc25).2) k) ?_
            show own_G _ _ _ (T22.setTop (mkF m 86 #[.val (.int p0), .val (.int p1), .val (.int (Int32.ofNat n)), .val (.ref b1), .val (.int (Int32.ofNat j)), .val (.ref (bf1 j))] [])) _ _ _ _
            refine own_go (fun _ k => XS.iconst X22.here hx rfl (hb hby at_86) k) ?_
            show own_G _ _ _ (T22.setTop (mkF m 87 #[.val (.int p0), .val (.int p1), .val (.int (Int32.ofNat n)), .val (.ref b1), .val (.int (Int32.ofNat j)), .val (.ref (bf1 j))] [(.int (1 : Int32))])) _ _ _ _
            refine own_go (fun _ k => XS.goto X22.here hx rfl (pc0 := 87) (pc' := 91) rfl (hb hby at_87) (by decide) (by decide) k) ?_
            show own_G _ _ _ (T22.setTop (mkF m 91 #[.val (.int p0), .val (.int p1), .val (.int (Int32.ofNat n)), .val (.ref b1), .val (.int (Int32.ofNat j)), .val (.ref (bf1 j))] [(.int (1 : Int32))])) _ _ _ _
            exact own_endN X22 hx hlk (t := .boolean) Bd.returns (by simp) (hb hby at_91) (by decide) (by decide) (Q := (Q0 Z p0 p1 zt kz zz zero one h0 n0)) (by rw [eh22]; exact ⟨rfl, N22, K7_0⟩)
          · obtain ⟨kv, Vb⟩ := own_Bef.at1 f16 hjn (by omega) (by omega)
            show own_G _ _ _ (T22.setTop (mkF m 75 #[.val (.int p0), .val (.int p1), .val (.int (Int32.ofNat n)), .val (.ref b1), .val (.int (Int32.ofNat j)), .val (.ref (bf1 j))] [])) _ _ _ _
            refine own_go (fun _ k => XS.iload X22.here hx rfl (hb hby at_75) rfl k) ?_
            show own_G _ _ _ (T22.setTop (mkF m 77 #[.val (.int p0), .val (.int p1), .val (.int (Int32.ofNat n)), .val (.ref b1), .val (.int (Int32.ofNat j)), .val (.ref (bf1 j))] [(.int (Int32.ofNat j))])) _ _ _ _
            have hc26 : ¬ ((Int32.ofNat j) = (0 : Int32)) := (fun q => absurd ((own_z j (by omega)).mp q) (by omega))
            refine own_go (fun _ k => XS.ifYes X22.here hx rfl (pc0 := 77) (pc' := 92) rfl (hb hby at_77) rfl ((if0 _ _).trans (feq hc26).2) (by decide) (by decide) k) ?_
            show own_G _ _ _ (T22.setTop (mkF m 92 #[.val (.int p0), .val (.int p1), .val (.int (Int32.ofNat n)), .val (.ref b1), .val (.int (Int32.ofNat j)), .val (.ref (bf1 j))] [])) _ _ _ _
            refine own_go (fun _ k => XS.aload X22.here hx rfl (hb hby at_92) rfl rfl k) ?_
            show own_G _ _ _ (T22.setTop (mkF m 94 #[.val (.int p0), .val (.int p1), .val (.int (Int32.ofNat n)), .val (.ref b1), .val (.int (Int32.ofNat j)), .val (.ref (bf1 j))] [(.ref (bf1 j))])) _ _ _ _
            obtain ⟨cl27, Ar27, -, S27, Ng27, -, -⟩ := id Vb
            refine own_go (fun _ k => X22.arraylength hx (by rw [eh22]; exact Ar27.1) (State.isArrayOf_alike hZ.alike Ar27.2.1) (g := (mkF m 94 #[.val (.int p0), .val (.int p1), .val (.int (Int32.ofNat n)), .val (.ref b1), .val (.int (Int32.ofNat j)), .val (.ref (bf1 j))] [(.ref (bf1 j))])) rfl rfl (hb hby at_94) _ k) ?_
            rw [len_of S27 Ng27]
            show own_G _ _ _ (T22.setTop (mkF m 95 #[.val (.int p0), .val (.int p1), .val (.int (Int32.ofNat n)), .val (.ref b1), .val (.int (Int32.ofNat j)), .val (.ref (bf1 j))] [(.int (1 : Int32))])) _ _ _ _
            refine own_go (fun _ k => XS.iconst X22.here hx rfl (hb hby at_95) k) ?_
            show own_G _ _ _ (T22.setTop (mkF m 96 #[.val (.int p0), .val (.int p1), .val (.int (Int32.ofNat n)), .val (.ref b1), .val (.int (Int32.ofNat j)), .val (.ref (bf1 j))] [(.int (1 : Int32)), (.int (1 : Int32))])) _ _ _ _
            have hc28 : (1 : Int32) = (1 : Int32) := (by decide)
            refine own_go (fun _ k => XS.icmpNo X22.here hx rfl (hb hby at_96) rfl (teq hc28).2 k) ?_
            show own_G _ _ _ (T22.setTop (mkF m 99 #[.val (.int p0), .val (.int p1), .val (.int (Int32.ofNat n)), .val (.ref b1), .val (.int (Int32.ofNat j)), .val (.ref (bf1 j))] [])) _ _ _ _
            refine own_go (fun _ k => XS.aload X22.here hx rfl (hb hby at_99) rfl rfl k) ?_
            show own_G _ _ _ (T22.setTop (mkF m 101 #[.val (.int p0), .val (.int p1), .val (.int (Int32.ofNat n)), .val (.ref b1), .val (.int (Int32.ofNat j)), .val (.ref (bf1 j))] [(.ref (bf1 j))])) _ _ _ _
            refine own_go (fun _ k => XS.iconst X22.here hx rfl (hb hby at_101) k) ?_
            show own_G _ _ _ (T22.setTop (mkF m 102 #[.val (.int p0), .val (.int p1), .val (.int (Int32.ofNat n)), .val (.ref b1), .val (.int (Int32.ofNat j)), .val (.ref (bf1 j))] [(.int (0 : Int32)), (.ref (bf1 j))])) _ _ _ _
            obtain ⟨cl29, Ar29, q29, S29, Ng29, H29, G29⟩ := id Vb
            have in29 : ¬ ((0 : Int32) < 0 ∨ cl29.slots.size ≤ ((0 : Int32)).toNatClampNeg) := inb_of S29 ⟨by decide, by decide⟩
            have at29 : cl29.slots[((0 : Int32)).toNatClampNeg]? = some (.int (Int32.ofNat (j - 1))) := H29.at in29 rfl
            refine own_go (fun _ k => X22.iaload hx (j := (0 : Int32)) (v := (.int (Int32.ofNat (j - 1)))) (by rw [eh22]; exact Ar29.1) (State.isArrayOf_alike hZ.alike Ar29.2.1) Ar29.2.2 in29 at29 (g := (mkF m 102 #[.val (.int p0), .val (.int p1), .val (.int (Int32.ofNat n)), .val (.ref b1), .val (.int (Int32.ofNat j)), .val (.ref (bf1 j))] [(.int (0 : Int32)), (.ref (bf1 j))])) rfl rfl (hb hby at_102) _ k) ?_
            show own_G _ _ _ (T22.setTop (mkF m 103 #[.val (.int p0), .val (.int p1), .val (.int (Int32.ofNat n)), .val (.ref b1), .val (.int (Int32.ofNat j)), .val (.ref (bf1 j))] [(.int (Int32.ofNat (j - 1)))])) _ _ _ _
            refine own_go (fun _ k => XS.iload X22.here hx rfl (hb hby at_103) rfl k) ?_
            show own_G _ _ _ (T22.setTop (mkF m 105 #[.val (.int p0), .val (.int p1), .val (.int (Int32.ofNat n)), .val (.ref b1), .val (.int (Int32.ofNat j)), .val (.ref (bf1 j))] [(.int (Int32.ofNat j)), (.int (Int32.ofNat (j - 1)))])) _ _ _ _
            refine own_go (fun _ k => XS.iconst X22.here hx rfl (hb hby at_105) k) ?_
            show own_G _ _ _ (T22.setTop (mkF m 106 #[.val (.int p0), .val (.int p1), .val (.int (Int32.ofNat n)), .val (.ref b1), .val (.int (Int32.ofNat j)), .val (.ref (bf1 j))] [(.int (1 : Int32)), (.int (Int32.ofNat j)), (.int (Int32.ofNat (j - 1)))])) _ _ _ _
            refine own_go (fun _ k => XS.isub X22.here hx rfl (hb hby at_106) rfl k) ?_
            show own_G _ _ _ (T22.setTop (mkF m 107 #[.val (.int p0), .val (.int p1), .val (.int (Int32.ofNat n)), .val (.ref b1), .val (.int (Int32.ofNat j)), .val (.ref (bf1 j))] [(.int ((Int32.ofNat j) - (1 : Int32))), (.int (Int32.ofNat (j - 1)))])) _ _ _ _
            have hc30 : (Int32.ofNat (j - 1)) = ((Int32.ofNat j) - (1 : Int32)) := (own_dec j (by omega) (by omega)).symm
            refine own_go (fun _ k => XS.icmpNo X22.here hx rfl (hb hby at_107) rfl (teq hc30).2 k) ?_
            show own_G _ _ _ (T22.setTop (mkF m 110 #[.val (.int p0), .val (.int p1), .val (.int (Int32.ofNat n)), .val (.ref b1), .val (.int (Int32.ofNat j)), .val (.ref (bf1 j))] [])) _ _ _ _
            refine own_go (fun _ k => XS.iconst X22.here hx rfl (hb hby at_110) k) ?_
            show own_G _ _ _ (T22.setTop (mkF m 111 #[.val (.int p0), .val (.int p1), .val (.int (Int32.ofNat n)), .val (.ref b1), .val (.int (Int32.ofNat j)), .val (.ref (bf1 j))] [(.int (1 : Int32))])) _ _ _ _
            refine own_go (fun _ k => XS.goto X22.here hx rfl (pc0 := 111) (pc' := 115) rfl (hb hby at_111) (by decide) (by decide) k) ?_
            show own_G _ _ _ (T22.setTop (mkF m 115 #[.val (.int p0), .val (.int p1), .val (.int (Int32.ofNat n)), .val (.ref b1), .val (.int (Int32.ofNat j)), .val (.ref (bf1 j))] [(.int (1 : Int32))])) _ _ _ _
            exact own_endN X22 hx hlk (t := .boolean) Bd.returns (by simp) (hb hby at_115) (by decide) (by decide) (Q := (Q0 Z p0 p1 zt kz zz zero one h0 n0)) (by rw [eh22]; exact ⟨rfl, N22, K7_0⟩)
set_option maxRecDepth 65536 in
set_option maxHeartbeats 40000000 in
theorem comes_1 {Post : Tables → Env → Array Value → State → Outcome → State → Prop} (hpost : ∀ tb e args s v u, (limb_1_1.after args s (.returned v) u = true ∧ limb_1_2.after args s (.returned v) u = true ∧ True) → FrameEnd s (.returned v) u (Jvm.fieldLocs frame_1_writes args s ++ Jvm.arrayLocs frame_1_arrays args s ++ Jvm.staticLocs frame_1_statics s) 72 384 → Post tb e args s (.returned v) u) :
    ArmFor flags0 classFile x code maxLocals ret World_1 tables_1 room_1 Calls_1 rest_1 Pre_1 Post := by
  intro l hfl _ _ p e ha hc hk s m args below hf hA hF happ hP
  obtain ⟨hcalls, hrest, hpre⟩ := hP
  obtain ⟨-, -, -, hnamed, -, -, -, hat⟩ := (Spec.applies_iff hf).mp happ
  obtain ⟨hg, hn⟩ := and_e (Cond.before_iff.mp (show (Jvm.Cond.and given_1 narrow_1).before args s = true from hpre))
  obtain ⟨g0, hg1⟩ := and_e hg
  obtain ⟨a0, r0⟩ := and_e hg1
  obtain ⟨w0, w1, rfl⟩ : ∃ w0 w1 : Value, args = #[w0, w1] := by
    have hs : args.size = 2 := by simpa [Cond.value, given_1] using g0
    obtain ⟨L⟩ := args
    match L, hs with
    | [w0, w1], _ => exact ⟨w0, w1, rfl⟩
  have hw := fun d (hd : d ∈ tables_1) => atoms_spec (ws := Jvm.Cond.code x code maxLocals ret :: tables_1) hat d (List.mem_cons_of_mem _ hd)
  have hfit : Fit s := fun {y c} hc i hi => by
    obtain ⟨ha, rfl⟩ := Array.getElem?_eq_some_iff.mp hc
    have q := List.all_eq_true.mp ((Array.all_eq_true_iff_forall_mem.mp hF) _ (Array.getElem_mem ha)) i (List.mem_range.mpr hi)
    simpa [Array.getElem?_eq_getElem hi] using q
  obtain ⟨i0, ei0⟩ := is_v a0
  obtain rfl : w0 = (.int i0) := Option.some.inj ei0
  obtain ⟨i1, ei1⟩ := is_v r0
  obtain rfl : w1 = (.int i1) := Option.some.inj ei1
  obtain ⟨hsets, hown0⟩ := atoms_of _ (rest_1_c_eq ▸ (show rest_1_c.before _ s = true from hrest))
  obtain ⟨one, eone⟩ := exa_v (Cond.before_iff.mp (hsets _ (List.mem_of_getElem? (i := 4) rfl)))
  have B1 := own_bds eone (Cond.before_iff.mp (hsets _ (List.mem_of_getElem? (i := 4) rfl))) (Cond.before_iff.mp (hsets _ (List.mem_of_getElem? (i := 5) rfl))) (Cond.before_iff.mp (hsets _ (List.mem_of_getElem? (i := 6) rfl)))
  have SO := Sta.start eone (Or.inl (hsets _ (List.mem_of_getElem? (i := 1) rfl)))
  have ead := eqv_i (F := .int 1) (Term.int_eval 1) (Cond.before_iff.mp (hsets _ (List.mem_of_getElem? (i := 16) rfl)))
  have SA := Sta.start ead (Or.inl (hsets _ (List.mem_of_getElem? (i := 15) rfl)))
  obtain ⟨zero, ezero⟩ := exa_v (Cond.before_iff.mp (hsets _ (List.mem_of_getElem? (i := 21) rfl)))
  have B0 := own_bds ezero (Cond.before_iff.mp (hsets _ (List.mem_of_getElem? (i := 21) rfl))) (Cond.before_iff.mp (hsets _ (List.mem_of_getElem? (i := 22) rfl))) (Cond.before_iff.mp (hsets _ (List.mem_of_getElem? (i := 23) rfl)))
  have SZ := Sta.start ezero (Or.inl (hsets _ (List.mem_of_getElem? (i := 18) rfl)))
  obtain ⟨zt, ezt⟩ := arr_v (Cond.before_iff.mp (hsets _ (List.mem_of_getElem? (i := 48) rfl)))
  obtain ⟨cz, AZ⟩ := Arr.start ezt (Cond.before_iff.mp (hsets _ (List.mem_of_getElem? (i := 48) rfl)))
  obtain ⟨lq, le⟩ := own_len ezt AZ (Cond.before_iff.mp (hsets _ (List.mem_of_getElem? (i := 50) rfl)))
  have ST := Sta.start ezt (Or.inl (hsets _ (List.mem_of_getElem? (i := 31) rfl)))
  obtain ⟨z0, ez0⟩ := exa_v (Cond.before_iff.mp (hsets _ (List.mem_of_getElem? (i := 52) rfl)))
  have D0 := own_bds ez0 (Cond.before_iff.mp (hsets _ (List.mem_of_getElem? (i := 52) rfl))) (Cond.before_iff.mp (hsets _ (List.mem_of_getElem? (i := 53) rfl))) (Cond.before_iff.mp (hsets _ (List.mem_of_getElem? (i := 54) rfl)))
  have L0 := own_elr ezt AZ ez0
  obtain ⟨z1, ez1⟩ := exa_v (Cond.before_iff.mp (hsets _ (List.mem_of_getElem? (i := 62) rfl)))
  have D1 := own_bds ez1 (Cond.before_iff.mp (hsets _ (List.mem_of_getElem? (i := 62) rfl))) (Cond.before_iff.mp (hsets _ (List.mem_of_getElem? (i := 63) rfl))) (Cond.before_iff.mp (hsets _ (List.mem_of_getElem? (i := 64) rfl)))
  have L1 := own_elr ezt AZ ez1
  obtain ⟨z2, ez2⟩ := exa_v (Cond.before_iff.mp (hsets _ (List.mem_of_getElem? (i := 72) rfl)))
  have D2 := own_bds ez2 (Cond.before_iff.mp (hsets _ (List.mem_of_getElem? (i := 72) rfl))) (Cond.before_iff.mp (hsets _ (List.mem_of_getElem? (i := 73) rfl))) (Cond.before_iff.mp (hsets _ (List.mem_of_getElem? (i := 74) rfl)))
  have L2 := own_elr ezt AZ ez2
  obtain ⟨z3, ez3⟩ := exa_v (Cond.before_iff.mp (hsets _ (List.mem_of_getElem? (i := 81) rfl)))
  have D3 := own_bds ez3 (Cond.before_iff.mp (hsets _ (List.mem_of_getElem? (i := 81) rfl))) (Cond.before_iff.mp (hsets _ (List.mem_of_getElem? (i := 82) rfl))) (Cond.before_iff.mp (hsets _ (List.mem_of_getElem? (i := 83) rfl)))
  have L3 := own_elr ezt AZ ez3
  obtain ⟨z4, ez4⟩ := exa_v (Cond.before_iff.mp (hsets _ (List.mem_of_getElem? (i := 89) rfl)))
  have D4 := own_bds ez4 (Cond.before_iff.mp (hsets _ (List.mem_of_getElem? (i := 89) rfl))) (Cond.before_iff.mp (hsets _ (List.mem_of_getElem? (i := 90) rfl))) (Cond.before_iff.mp (hsets _ (List.mem_of_getElem? (i := 91) rfl)))
  have L4 := own_elr ezt AZ ez4
  obtain ⟨z5, ez5⟩ := exa_v (Cond.before_iff.mp (hsets _ (List.mem_of_getElem? (i := 97) rfl)))
  have D5 := own_bds ez5 (Cond.before_iff.mp (hsets _ (List.mem_of_getElem? (i := 97) rfl))) (Cond.before_iff.mp (hsets _ (List.mem_of_getElem? (i := 98) rfl))) (Cond.before_iff.mp (hsets _ (List.mem_of_getElem? (i := 99) rfl)))
  have L5 := own_elr ezt AZ ez5
  obtain ⟨z6, ez6⟩ := exa_v (Cond.before_iff.mp (hsets _ (List.mem_of_getElem? (i := 105) rfl)))
  have D6 := own_bds ez6 (Cond.before_iff.mp (hsets _ (List.mem_of_getElem? (i := 105) rfl))) (Cond.before_iff.mp (hsets _ (List.mem_of_getElem? (i := 106) rfl))) (Cond.before_iff.mp (hsets _ (List.mem_of_getElem? (i := 107) rfl)))
  have L6 := own_elr ezt AZ ez6
  obtain ⟨z7, ez7⟩ := exa_v (Cond.before_iff.mp (hsets _ (List.mem_of_getElem? (i := 113) rfl)))
  have D7 := own_bds ez7 (Cond.before_iff.mp (hsets _ (List.mem_of_getElem? (i := 113) rfl))) (Cond.before_iff.mp (hsets _ (List.mem_of_getElem? (i := 114) rfl))) (Cond.before_iff.mp (hsets _ (List.mem_of_getElem? (i := 115) rfl)))
  have L7 := own_elr ezt AZ ez7
  obtain ⟨z8, ez8⟩ := exa_v (Cond.before_iff.mp (hsets _ (List.mem_of_getElem? (i := 121) rfl)))
  have D8 := own_bds ez8 (Cond.before_iff.mp (hsets _ (List.mem_of_getElem? (i := 121) rfl))) (Cond.before_iff.mp (hsets _ (List.mem_of_getElem? (i := 122) rfl))) (Cond.before_iff.mp (hsets _ (List.mem_of_getElem? (i := 123) rfl)))
  have L8 := own_elr ezt AZ ez8
  obtain ⟨z9, ez9⟩ := exa_v (Cond.before_iff.mp (hsets _ (List.mem_of_getElem? (i := 129) rfl)))
  have D9 := own_bds ez9 (Cond.before_iff.mp (hsets _ (List.mem_of_getElem? (i := 129) rfl))) (Cond.before_iff.mp (hsets _ (List.mem_of_getElem? (i := 130) rfl))) (Cond.before_iff.mp (hsets _ (List.mem_of_getElem? (i := 131) rfl)))
  have L9 := own_elr ezt AZ ez9
  obtain ⟨z10, ez10⟩ := exa_v (Cond.before_iff.mp (hsets _ (List.mem_of_getElem? (i := 138) rfl)))
  have D10 := own_bds ez10 (Cond.before_iff.mp (hsets _ (List.mem_of_getElem? (i := 138) rfl))) (Cond.before_iff.mp (hsets _ (List.mem_of_getElem? (i := 139) rfl))) (Cond.before_iff.mp (hsets _ (List.mem_of_getElem? (i := 140) rfl)))
  have L10 := own_elr ezt AZ ez10
  have VZ := own_zv (Arv.start (vs := [.ref z0, .ref z1, .ref z2, .ref z3, .ref z4, .ref z5, .ref z6, .ref z7, .ref z8, .ref z9, .ref z10]) (dv := .null) hfit AZ lq le (by decide) rfl ⟨L0, L1, L2, L3, L4, L5, L6, L7, L8, L9, L10, trivial⟩)
  have HB := own_zb D0 D1 D2 D3 D4 D5 D6 D7 D8 D9 D10
  obtain ⟨n, o, h1, h2, h3, _, L, rfl, ⟨rfl, N, -⟩, hq⟩ := rm0 l s _ hw tables_1 i0 i1 zt cz.cls _ zero one s.heap s.heap.size (Nat.le_refl _) (Old.start s) ST VZ HB SZ SO SA B0 B1 p e ha hc hk s m _ below hf ((Spec.applies_iff_loose hf).mp happ).1 ⟨rfl, State.Warmed39.refl s, rfl⟩ trivial
  refine ⟨n, _, h1, h2, h3, hpost _ _ _ _ _ _ ⟨Cond.after_iff.mpr rfl, Cond.after_iff.mpr (eq_i res_at (Term.int_eval (1)) (rfl)), trivial⟩ ⟨hq.1, hq.2.1, (hq.2.2.sift fun y hy => Or.inr (N y hy)).mono (by decide) (by decide)⟩⟩
theorem main_1_1 : Claimed_1_1 := comes_1 fun _ _ _ _ _ _ h hF => ⟨h.1, hF⟩
theorem main_1_2 : Claimed_1_2 := comes_1 fun _ _ _ _ _ _ h hF => ⟨h.2.1, hF⟩
end Jvm.Pilot.@@N@@
namespace Jvm.Pilot.@@N@@
open Jvm Jvm.ClassFile Sem Op Lib Jvm.Free Jvm.Stand Jvm.Pilot.@@N@@.Jvm.D
/-! MADE BY PROGRAM (witnessworld.py) out of the Statement's table words and the real class files: 26 classes; the members and pool entries that the words name. The judged class is class 1, her method 1. -/
namespace start1
open Jvm.ClassFile
def u (s : String) : CpInfo := .utf8 (stringToUtf16 s)
/-- a pool by its gaps: so many unusable entries, then the entry; so many at the end -/
def gap : Nat → List CpInfo → List CpInfo
  | 0, r => r
  | n + 1, r => .unusable :: gap n r
def poolList (es : List (Nat × CpInfo)) (last : Nat) : List CpInfo := es.foldr (fun e r => gap e.1 (e.2 :: r)) (gap last [])
def pool (es : List (Nat × CpInfo)) (last : Nat) : Array CpInfo := ⟨poolList es last⟩
def fileOf (pool : Array CpInfo) (this : Nat) (attrs : Array Attribute := #[]) (ms : Array MethodInfo := #[]) (fl : Nat := 33) (sup : Nat := 0) (ifs : Array Nat := #[]) (fds : Array FieldInfo := #[]) : ClassFile where
  minorVersion := 0
  majorVersion := 65
  constantPool := pool
  accessFlags := fl
  thisClass := this
  superClass := sup
  interfaces := ifs
  fields := fds
  methods := ms
  attributes := attrs
def plain (name : String) (sup : Option ClassId) : Class where
  name := name
  kind := .ordinary
  loader := none
  accessFlags := 33
  super := sup
  interfaces := #[]
  cf := none
  fields := #[]
  methods := #[]
  instanceTypes := #[]
  staticTypes := #[]
  resolved := #[]
  callSites := []
  init := .initialized
  statics := none
  mirror := none

def pool0 : Array CpInfo := pool [(5, u "<init>"), (0, u "()V"), (1, .class_ 10), (1, u "java/lang/Object")] 113

def k0c0 : Code := { maxStack := 0, maxLocals := 1, code := object_method_1_code, exceptionTable := #[], attributes := #[] }
def k0m0 : Method := { name := "<init>", desc := "()V", sig := { parameters := [], returnType := none }, accessFlags := 1, code := some k0c0 }
/-- java/lang/Object -/
def k0 : Class := { plain "java/lang/Object" none with
  accessFlags := 33
  interfaces := #[]
  cf := some (fileOf pool0 8 #[] #[{ accessFlags := 1, nameIndex := 5, descriptorIndex := 6, attributes := #[] }] 33 0 #[] #[])
  fields := #[]
  methods := #[k0m0]
  instanceTypes := #[]
  staticTypes := #[]
  resolved := Array.replicate 124 none
  statics := none }

def pool1 : Array CpInfo := pool [(2, .class_ 4), (1, u "java/lang/Object"), (0, u "<init>"), (0, u "()V"), (0, .methodref 8 9), (0, .class_ 10), (0, .nameAndType 11 12), (0, u "com/example/slackline/slackline/Precedence"), (0, u "chain"), (0, u "(I)Lcom/example/slackline/slackline/Precedence;"), (0, .methodref 8 14), (0, .nameAndType 15 16), (0, u "getTaskCount"), (0, u "()I"), (0, .methodref 8 18), (0, .nameAndType 19 20), (0, u "isChain"), (0, u "()Z"), (0, .methodref 8 22), (0, .nameAndType 23 24), (0, u "nodes"), (0, u "()[I"), (0, .integer 2147483647), (0, .methodref 8 27), (0, .nameAndType 28 29), (0, u "taskAt"), (0, u "(I)I"), (0, .methodref 8 31), (0, .nameAndType 32 33), (0, u "before"), (0, u "(I)[I"), (0, .class_ 35), (0, u "com/example/slackline/slackline/PrecedenceChainPinLaw"), (2, u "law"), (0, u "(II)Z")] 5

def k1m0 : Method := { name := "<init>", desc := "()V", sig := { parameters := [], returnType := none }, accessFlags := 1, code := none }
def k1c1 : Code := { maxStack := 3, maxLocals := 6, code := code, exceptionTable := #[], attributes := #[] }
def k1m1 : Method := { name := "law", desc := "(II)Z", sig := { parameters := [.int, .int], returnType := some .boolean }, accessFlags := 9, code := some k1c1 }
/-- com/example/slackline/slackline/PrecedenceChainPinLaw -/
def k1 : Class := { plain "com/example/slackline/slackline/PrecedenceChainPinLaw" (some 0) with
  accessFlags := 49
  interfaces := #[]
  cf := some (fileOf pool1 34 #[] #[{ accessFlags := 1, nameIndex := 5, descriptorIndex := 6, attributes := #[] }, { accessFlags := 9, nameIndex := 38, descriptorIndex := 39, attributes := #[] }] 49 2 #[] #[])
  fields := #[]
  methods := #[k1m0, k1m1]
  instanceTypes := #[]
  staticTypes := #[]
  resolved := Array.replicate 45 none
  statics := none }

def pool2 : Array CpInfo := pool [(1, .methodref 2 3), (0, .class_ 4), (0, .nameAndType 5 6), (0, u "java/lang/Object"), (0, u "<init>"), (0, u "()V"), (0, .fieldref 8 9), (0, .class_ 10), (0, .nameAndType 11 12), (0, u "com/example/slackline/slackline/Precedence"), (0, u "tasks"), (0, u "[I"), (0, .fieldref 8 14), (0, .nameAndType 15 16), (0, u "before"), (0, u "[[I"), (0, .fieldref 8 18), (0, .nameAndType 19 20), (0, u "taskCount"), (0, u "I"), (0, .fieldref 22 23), (0, .class_ 24), (0, .nameAndType 25 26), (0, u "java/math/BigDecimal"), (0, u "ONE"), (0, u "Ljava/math/BigDecimal;"), (0, .methodref 28 29), (0, .class_ 30), (0, .nameAndType 31 32), (0, u "java/util/Collections"), (0, u "nCopies"), (0, u "(ILjava/lang/Object;)Ljava/util/List;"), (0, .methodref 8 34), (0, .nameAndType 35 36), (0, u "length"), (0, u "(Ljava/util/List;)Ljava/math/BigDecimal;"), (0, .methodref 22 38), (0, .nameAndType 39 40), (0, u "valueOf"), (0, u "(J)Ljava/math/BigDecimal;"), (0, .methodref 22 42), (0, .nameAndType 43 44), (0, u "compareTo"), (0, u "(Ljava/math/BigDecimal;)I"), (0, .fieldref 8 46), (0, .nameAndType 47 48), (0, u "chain"), (0, u "Z"), (0, .class_ 12), (0, .methodref 8 51), (0, .nameAndType 5 52), (0, u "([I[[I)V"), (35, .class_ 90), (1, u "java/util/List"), (0, u "add"), (6, .methodref 8 99), (0, .nameAndType 100 101), (0, u "starts"), (0, u "(Ljava/util/List;)[Ljava/math/BigDecimal;"), (0, .fieldref 22 103), (0, .nameAndType 104 26), (0, u "ZERO"), (0, .methodref 8 106), (0, .nameAndType 107 108), (0, u "time"), (0, u "(ILjava/util/List;)Ljava/math/BigDecimal;"), (0, .methodref 22 110), (0, .nameAndType 91 111), (0, u "(Ljava/math/BigDecimal;)Ljava/math/BigDecimal;"), (0, .methodref 22 113), (0, .nameAndType 114 111), (0, u "max"), (4, .interfaceMethodref 88 120), (0, .nameAndType 121 122), (0, u "get"), (0, u "(I)Ljava/lang/Object;"), (0, u "JUNCTION"), (5, u "(I)Lcom/example/slackline/slackline/Precedence;"), (0, u "getTaskCount"), (0, u "()I"), (2, u "isChain"), (0, u "()Z"), (4, u "taskAt"), (0, u "(I)I"), (0, u "(I)[I"), (0, u "nodes"), (0, u "()[I")] 26

def k2c0 : Code := { maxStack := 4, maxLocals := 8, code := prog_10_method_1_code, exceptionTable := #[], attributes := #[] }
def k2m0 : Method := { name := "<init>", desc := "([I[[I)V", sig := { parameters := [(.array .int), (.array (.array .int))], returnType := none }, accessFlags := 0, code := some k2c0 }
def k2c1 : Code := { maxStack := 7, maxLocals := 4, code := prog_10_method_2_code, exceptionTable := #[], attributes := #[] }
def k2m1 : Method := { name := "chain", desc := "(I)Lcom/example/slackline/slackline/Precedence;", sig := { parameters := [.int], returnType := some (.object "com/example/slackline/slackline/Precedence") }, accessFlags := 9, code := some k2c1 }
def k2c2 : Code := { maxStack := 1, maxLocals := 1, code := prog_10_method_3_code, exceptionTable := #[], attributes := #[] }
def k2m2 : Method := { name := "getTaskCount", desc := "()I", sig := { parameters := [], returnType := some .int }, accessFlags := 1, code := some k2c2 }
def k2c3 : Code := { maxStack := 1, maxLocals := 1, code := prog_10_method_5_code, exceptionTable := #[], attributes := #[] }
def k2m3 : Method := { name := "isChain", desc := "()Z", sig := { parameters := [], returnType := some .boolean }, accessFlags := 1, code := some k2c3 }
def k2c4 : Code := { maxStack := 2, maxLocals := 2, code := prog_10_method_7_code, exceptionTable := #[], attributes := #[] }
def k2m4 : Method := { name := "taskAt", desc := "(I)I", sig := { parameters := [.int], returnType := some .int }, accessFlags := 0, code := some k2c4 }
def k2c5 : Code := { maxStack := 2, maxLocals := 2, code := prog_10_method_8_code, exceptionTable := #[], attributes := #[] }
def k2m5 : Method := { name := "before", desc := "(I)[I", sig := { parameters := [.int], returnType := some (.array .int) }, accessFlags := 0, code := some k2c5 }
def k2c6 : Code := { maxStack := 3, maxLocals := 3, code := prog_10_method_9_code, exceptionTable := #[], attributes := #[] }
def k2m6 : Method := { name := "nodes", desc := "()[I", sig := { parameters := [], returnType := some (.array .int) }, accessFlags := 0, code := some k2c6 }
def k2c7 : Code := { maxStack := 5, maxLocals := 5, code := prog_10_method_12_code, exceptionTable := #[], attributes := #[] }
def k2m7 : Method := { name := "length", desc := "(Ljava/util/List;)Ljava/math/BigDecimal;", sig := { parameters := [(.object "java/util/List")], returnType := some (.object "java/math/BigDecimal") }, accessFlags := 0, code := some k2c7 }
def k2c8 : Code := { maxStack := 5, maxLocals := 9, code := prog_10_method_15_code, exceptionTable := #[], attributes := #[] }
def k2m8 : Method := { name := "starts", desc := "(Ljava/util/List;)[Ljava/math/BigDecimal;", sig := { parameters := [(.object "java/util/List")], returnType := some (.array (.object "java/math/BigDecimal")) }, accessFlags := 2, code := some k2c8 }
def k2c9 : Code := { maxStack := 3, maxLocals := 3, code := prog_10_method_16_code, exceptionTable := #[], attributes := #[] }
def k2m9 : Method := { name := "time", desc := "(ILjava/util/List;)Ljava/math/BigDecimal;", sig := { parameters := [.int, (.object "java/util/List")], returnType := some (.object "java/math/BigDecimal") }, accessFlags := 2, code := some k2c9 }
/-- com/example/slackline/slackline/Precedence -/
def k2 : Class := { plain "com/example/slackline/slackline/Precedence" (some 0) with
  accessFlags := 49
  interfaces := #[]
  cf := some (fileOf pool2 8 #[] #[{ accessFlags := 0, nameIndex := 5, descriptorIndex := 52, attributes := #[] }, { accessFlags := 9, nameIndex := 47, descriptorIndex := 129, attributes := #[] }, { accessFlags := 1, nameIndex := 130, descriptorIndex := 131, attributes := #[] }, { accessFlags := 1, nameIndex := 134, descriptorIndex := 135, attributes := #[] }, { accessFlags := 0, nameIndex := 140, descriptorIndex := 141, attributes := #[] }, { accessFlags := 0, nameIndex := 15, descriptorIndex := 142, attributes := #[] }, { accessFlags := 0, nameIndex := 143, descriptorIndex := 144, attributes := #[] }, { accessFlags := 0, nameIndex := 35, descriptorIndex := 36, attributes := #[] }, { accessFlags := 2, nameIndex := 100, descriptorIndex := 101, attributes := #[] }, { accessFlags := 2, nameIndex := 107, descriptorIndex := 108, attributes := #[] }] 49 2 #[] #[{ accessFlags := 24, nameIndex := 123, descriptorIndex := 20, attributes := #[] }, { accessFlags := 18, nameIndex := 11, descriptorIndex := 12, attributes := #[] }, { accessFlags := 18, nameIndex := 15, descriptorIndex := 16, attributes := #[] }, { accessFlags := 18, nameIndex := 19, descriptorIndex := 20, attributes := #[] }, { accessFlags := 18, nameIndex := 47, descriptorIndex := 48, attributes := #[] }])
  fields := #[{ name := "JUNCTION", type := .int, accessFlags := 24, slot := 0, constantValue := 0 }, { name := "tasks", type := (.array .int), accessFlags := 18, slot := 0, constantValue := 0 }, { name := "before", type := (.array (.array .int)), accessFlags := 18, slot := 1, constantValue := 0 }, { name := "taskCount", type := .int, accessFlags := 18, slot := 2, constantValue := 0 }, { name := "chain", type := .boolean, accessFlags := 18, slot := 3, constantValue := 0 }]
  methods := #[k2m0, k2m1, k2m2, k2m3, k2m4, k2m5, k2m6, k2m7, k2m8, k2m9]
  instanceTypes := #[(.array .int), (.array (.array .int)), .int, .boolean]
  staticTypes := #[.int]
  resolved := Array.replicate 171 none
  statics := none }

def pool3 : Array CpInfo := pool [(1, .class_ 2), (0, u "java/io/Serializable"), (0, .class_ 4), (0, u "java/lang/Object")] 2

/-- java/io/Serializable -/
def k3 : Class := { plain "java/io/Serializable" (some 0) with
  accessFlags := 1537
  interfaces := #[]
  cf := some (fileOf pool3 1 #[] #[] 1537 3 #[] #[])
  fields := #[]
  methods := #[]
  instanceTypes := #[]
  staticTypes := #[]
  resolved := Array.replicate 7 none
  statics := none }

def pool4 : Array CpInfo := pool [(1, .methodref 2 3), (0, .class_ 4), (0, .nameAndType 5 6), (0, u "java/lang/Object"), (0, u "<init>"), (0, u "()V"), (1, .class_ 10), (1, u "java/lang/Number"), (2, .class_ 14), (0, u "java/io/Serializable"), (0, u "serialVersionUID"), (0, u "J")] 20

def k4c0 : Code := { maxStack := 1, maxLocals := 1, code := jdk_18_method_1_code, exceptionTable := #[], attributes := #[] }
def k4m0 : Method := { name := "<init>", desc := "()V", sig := { parameters := [], returnType := none }, accessFlags := 1, code := some k4c0 }
/-- java/lang/Number -/
def k4 : Class := { plain "java/lang/Number" (some 0) with
  accessFlags := 1057
  interfaces := #[3]
  cf := some (fileOf pool4 8 #[] #[{ accessFlags := 1, nameIndex := 5, descriptorIndex := 6, attributes := #[] }] 1057 2 #[13] #[{ accessFlags := 26, nameIndex := 15, descriptorIndex := 16, attributes := #[] }])
  fields := #[{ name := "serialVersionUID", type := .long, accessFlags := 26, slot := 0, constantValue := 0 }]
  methods := #[k4m0]
  instanceTypes := #[]
  staticTypes := #[.long]
  resolved := Array.replicate 37 none
  statics := none }

def pool5 : Array CpInfo := pool [(1, .class_ 2), (0, u "java/lang/Comparable"), (0, .class_ 4), (0, u "java/lang/Object")] 7

/-- java/lang/Comparable -/
def k5 : Class := { plain "java/lang/Comparable" (some 0) with
  accessFlags := 1537
  interfaces := #[]
  cf := some (fileOf pool5 1 #[] #[] 1537 3 #[] #[])
  fields := #[]
  methods := #[]
  instanceTypes := #[]
  staticTypes := #[]
  resolved := Array.replicate 12 none
  statics := none }

def pool6 : Array CpInfo := pool [(3, .class_ 4), (0, u "java/math/BigDecimal"), (6, .methodref 12 13), (0, .class_ 14), (0, .nameAndType 15 16), (0, u "java/lang/Number"), (0, u "<init>"), (0, u "()V"), (0, .fieldref 3 18), (0, .nameAndType 19 20), (0, u "scale"), (0, u "I"), (0, .fieldref 3 22), (0, .nameAndType 23 20), (0, u "precision"), (0, .fieldref 3 25), (0, .nameAndType 26 27), (0, u "intCompact"), (0, u "J"), (0, .fieldref 3 29), (0, .nameAndType 30 31), (0, u "intVal"), (0, u "Ljava/math/BigInteger;"), (65, u "LONG_TEN_POWERS_TABLE"), (0, u "[J"), (26, .long 9223372036854775808), (61, u "ZERO"), (2, u "INFLATED_BIGINT"), (4, u "valueOf"), (10, u "TWO"), (29, .methodref 3 237), (0, .nameAndType 195 238), (0, u "(J)Ljava/math/BigDecimal;"), (4, .methodref 3 244), (0, .nameAndType 15 245), (0, u "(Ljava/math/BigInteger;JII)V"), (0, .fieldref 3 247), (0, .nameAndType 248 249), (0, u "ZERO_THROUGH_TEN"), (0, u "[Ljava/math/BigDecimal;"), (2, u "ZERO_SCALED_BY"), (4, .methodref 3 258), (0, .nameAndType 259 260), (0, u "add"), (0, u "(JIJI)Ljava/math/BigDecimal;"), (8, u "(Ljava/math/BigDecimal;)Ljava/math/BigDecimal;"), (9, u "max"), (33, u "$assertionsDisabled"), (0, u "Z"), (7, u "(JJ)J"), (5, .methodref 3 329), (0, .nameAndType 195 330), (0, u "(JI)Ljava/math/BigDecimal;"), (13, u "(JJI)Ljava/math/BigDecimal;"), (94, u "(Ljava/math/BigDecimal;)I"), (38, u "ONE_TENTH"), (0, u "Ljava/math/BigDecimal;"), (0, .methodref 3 481), (0, .nameAndType 482 439), (0, u "compareTo"), (2, u "TEN"), (14, .class_ 502), (1, u "java/math/BigDecimal$1"), (15, u "ONE_HALF"), (16, u "ONE"), (107, u "stringCache"), (0, u "Ljava/lang/String;"), (52, .class_ 699), (1, u "java/math/BigDecimal$LongOverflow"), (8, u "FLOAT_10_POW"), (0, u "[F"), (39, u "DOUBLE_10_POW"), (0, u "[D"), (19, .class_ 772), (1, u "java/math/BigDecimal$StringBuilderHelper"), (35, u "BIG_TEN_POWERS_TABLE_MAX"), (2, u "BIG_TEN_POWERS_TABLE"), (0, u "[Ljava/math/BigInteger;"), (14, u "THRESHOLDS_TABLE"), (23, .class_ 853), (1, u "java/math/BigDecimal$UnsafeHolder"), (142, .methodref 3 997), (0, .nameAndType 259 322), (2, .methodref 3 1001), (0, .nameAndType 259 344), (66, u "LONGLONG_TEN_POWERS_TABLE"), (0, u "[[J"), (112, u "BIG_TEN_POWERS_TABLE_INITLEN"), (113, .class_ 1297), (0, u "java/lang/Comparable"), (0, u "L"), (0, u "D"), (1, u "P_F"), (1, u "Q_MIN_F"), (1, u "Q_MAX_F"), (1, u "P_D"), (1, u "Q_MIN_D"), (1, u "Q_MAX_D"), (1, u "INFLATED"), (0, u "MAX_COMPACT_DIGITS"), (1, u "serialVersionUID"), (2, u "HALF_LONG_MAX_VALUE"), (0, u "HALF_LONG_MIN_VALUE"), (0, u "ROUND_UP"), (6, u "ROUND_DOWN"), (1, u "ROUND_CEILING"), (1, u "ROUND_FLOOR"), (1, u "ROUND_HALF_UP"), (1, u "ROUND_HALF_DOWN"), (1, u "ROUND_HALF_EVEN"), (1, u "ROUND_UNNECESSARY"), (1, u "DIV_NUM_BASE")] 294

def k6c0 : Code := { maxStack := 3, maxLocals := 6, code := jdk_17_method_1_code, exceptionTable := #[], attributes := #[] }
def k6m0 : Method := { name := "<init>", desc := "(Ljava/math/BigInteger;JII)V", sig := { parameters := [(.object "java/math/BigInteger"), .long, .int, .int], returnType := none }, accessFlags := 0, code := some k6c0 }
def k6c1 : Code := { maxStack := 7, maxLocals := 3, code := jdk_17_method_20_code, exceptionTable := #[], attributes := #[] }
def k6m1 : Method := { name := "valueOf", desc := "(JI)Ljava/math/BigDecimal;", sig := { parameters := [.long, .int], returnType := some (.object "java/math/BigDecimal") }, accessFlags := 9, code := some k6c1 }
def k6c2 : Code := { maxStack := 7, maxLocals := 2, code := jdk_17_method_21_code, exceptionTable := #[], attributes := #[] }
def k6m2 : Method := { name := "valueOf", desc := "(J)Ljava/math/BigDecimal;", sig := { parameters := [.long], returnType := some (.object "java/math/BigDecimal") }, accessFlags := 9, code := some k6c2 }
def k6c3 : Code := { maxStack := 6, maxLocals := 2, code := jdk_17_method_26_code, exceptionTable := #[], attributes := #[] }
def k6m3 : Method := { name := "add", desc := "(Ljava/math/BigDecimal;)Ljava/math/BigDecimal;", sig := { parameters := [(.object "java/math/BigDecimal")], returnType := some (.object "java/math/BigDecimal") }, accessFlags := 1, code := some k6c3 }
def k6c4 : Code := { maxStack := 4, maxLocals := 6, code := jdk_17_method_70_code, exceptionTable := #[], attributes := #[] }
def k6m4 : Method := { name := "compareTo", desc := "(Ljava/math/BigDecimal;)I", sig := { parameters := [(.object "java/math/BigDecimal")], returnType := some .int }, accessFlags := 1, code := some k6c4 }
def k6c5 : Code := { maxStack := 2, maxLocals := 2, code := jdk_17_method_74_code, exceptionTable := #[], attributes := #[] }
def k6m5 : Method := { name := "max", desc := "(Ljava/math/BigDecimal;)Ljava/math/BigDecimal;", sig := { parameters := [(.object "java/math/BigDecimal")], returnType := some (.object "java/math/BigDecimal") }, accessFlags := 1, code := some k6c5 }
def k6c6 : Code := { maxStack := 6, maxLocals := 6, code := jdk_17_method_132_code, exceptionTable := #[], attributes := #[] }
def k6m6 : Method := { name := "add", desc := "(JJ)J", sig := { parameters := [.long, .long], returnType := some .long }, accessFlags := 10, code := some k6c6 }
def k6c7 : Code := { maxStack := 5, maxLocals := 7, code := jdk_17_method_133_code, exceptionTable := #[], attributes := #[] }
def k6m7 : Method := { name := "add", desc := "(JJI)Ljava/math/BigDecimal;", sig := { parameters := [.long, .long, .int], returnType := some (.object "java/math/BigDecimal") }, accessFlags := 10, code := some k6c7 }
def k6c8 : Code := { maxStack := 7, maxLocals := 12, code := jdk_17_method_134_code, exceptionTable := #[], attributes := #[] }
def k6m8 : Method := { name := "add", desc := "(JIJI)Ljava/math/BigDecimal;", sig := { parameters := [.long, .int, .long, .int], returnType := some (.object "java/math/BigDecimal") }, accessFlags := 10, code := some k6c8 }
/-- java/math/BigDecimal -/
def k6 : Class := { plain "java/math/BigDecimal" (some 4) with
  accessFlags := 33
  interfaces := #[5]
  cf := some (fileOf pool6 3 #[.nestMembers #[500, 851, 770, 697]] #[{ accessFlags := 0, nameIndex := 15, descriptorIndex := 245, attributes := #[] }, { accessFlags := 9, nameIndex := 195, descriptorIndex := 330, attributes := #[] }, { accessFlags := 9, nameIndex := 195, descriptorIndex := 238, attributes := #[] }, { accessFlags := 1, nameIndex := 259, descriptorIndex := 269, attributes := #[] }, { accessFlags := 1, nameIndex := 482, descriptorIndex := 439, attributes := #[] }, { accessFlags := 1, nameIndex := 279, descriptorIndex := 269, attributes := #[] }, { accessFlags := 10, nameIndex := 259, descriptorIndex := 322, attributes := #[] }, { accessFlags := 10, nameIndex := 259, descriptorIndex := 344, attributes := #[] }, { accessFlags := 10, nameIndex := 259, descriptorIndex := 260, attributes := #[] }] 33 12 #[1296] #[{ accessFlags := 26, nameIndex := 1298, descriptorIndex := 1299, attributes := #[] }, { accessFlags := 26, nameIndex := 1301, descriptorIndex := 20, attributes := #[] }, { accessFlags := 26, nameIndex := 1303, descriptorIndex := 20, attributes := #[] }, { accessFlags := 26, nameIndex := 1305, descriptorIndex := 20, attributes := #[] }, { accessFlags := 26, nameIndex := 1307, descriptorIndex := 20, attributes := #[] }, { accessFlags := 26, nameIndex := 1309, descriptorIndex := 20, attributes := #[] }, { accessFlags := 26, nameIndex := 1311, descriptorIndex := 20, attributes := #[] }, { accessFlags := 18, nameIndex := 30, descriptorIndex := 31, attributes := #[] }, { accessFlags := 18, nameIndex := 19, descriptorIndex := 20, attributes := #[] }, { accessFlags := 130, nameIndex := 23, descriptorIndex := 20, attributes := #[] }, { accessFlags := 130, nameIndex := 643, descriptorIndex := 644, attributes := #[] }, { accessFlags := 24, nameIndex := 1313, descriptorIndex := 27, attributes := #[] }, { accessFlags := 26, nameIndex := 190, descriptorIndex := 31, attributes := #[] }, { accessFlags := 146, nameIndex := 26, descriptorIndex := 27, attributes := #[] }, { accessFlags := 26, nameIndex := 1314, descriptorIndex := 20, attributes := #[] }, { accessFlags := 26, nameIndex := 1316, descriptorIndex := 27, attributes := #[] }, { accessFlags := 26, nameIndex := 248, descriptorIndex := 249, attributes := #[] }, { accessFlags := 26, nameIndex := 252, descriptorIndex := 249, attributes := #[] }, { accessFlags := 26, nameIndex := 1319, descriptorIndex := 27, attributes := #[] }, { accessFlags := 26, nameIndex := 1320, descriptorIndex := 27, attributes := #[] }, { accessFlags := 25, nameIndex := 187, descriptorIndex := 479, attributes := #[] }, { accessFlags := 25, nameIndex := 535, descriptorIndex := 479, attributes := #[] }, { accessFlags := 25, nameIndex := 206, descriptorIndex := 479, attributes := #[] }, { accessFlags := 25, nameIndex := 485, descriptorIndex := 479, attributes := #[] }, { accessFlags := 26, nameIndex := 478, descriptorIndex := 479, attributes := #[] }, { accessFlags := 26, nameIndex := 518, descriptorIndex := 479, attributes := #[] }, { accessFlags := 25, nameIndex := 1321, descriptorIndex := 20, attributes := #[] }, { accessFlags := 25, nameIndex := 1328, descriptorIndex := 20, attributes := #[] }, { accessFlags := 25, nameIndex := 1330, descriptorIndex := 20, attributes := #[] }, { accessFlags := 25, nameIndex := 1332, descriptorIndex := 20, attributes := #[] }, { accessFlags := 25, nameIndex := 1334, descriptorIndex := 20, attributes := #[] }, { accessFlags := 25, nameIndex := 1336, descriptorIndex := 20, attributes := #[] }, { accessFlags := 25, nameIndex := 1338, descriptorIndex := 20, attributes := #[] }, { accessFlags := 25, nameIndex := 1340, descriptorIndex := 20, attributes := #[] }, { accessFlags := 26, nameIndex := 749, descriptorIndex := 750, attributes := #[] }, { accessFlags := 26, nameIndex := 708, descriptorIndex := 709, attributes := #[] }, { accessFlags := 26, nameIndex := 97, descriptorIndex := 98, attributes := #[] }, { accessFlags := 74, nameIndex := 811, descriptorIndex := 812, attributes := #[] }, { accessFlags := 26, nameIndex := 1182, descriptorIndex := 20, attributes := #[] }, { accessFlags := 26, nameIndex := 808, descriptorIndex := 20, attributes := #[] }, { accessFlags := 26, nameIndex := 827, descriptorIndex := 98, attributes := #[] }, { accessFlags := 26, nameIndex := 1342, descriptorIndex := 27, attributes := #[] }, { accessFlags := 26, nameIndex := 1068, descriptorIndex := 1069, attributes := #[] }, { accessFlags := 4120, nameIndex := 313, descriptorIndex := 314, attributes := #[] }])
  fields := #[{ name := "L", type := .double, accessFlags := 26, slot := 0, constantValue := 0 }, { name := "P_F", type := .int, accessFlags := 26, slot := 1, constantValue := 0 }, { name := "Q_MIN_F", type := .int, accessFlags := 26, slot := 2, constantValue := 0 }, { name := "Q_MAX_F", type := .int, accessFlags := 26, slot := 3, constantValue := 0 }, { name := "P_D", type := .int, accessFlags := 26, slot := 4, constantValue := 0 }, { name := "Q_MIN_D", type := .int, accessFlags := 26, slot := 5, constantValue := 0 }, { name := "Q_MAX_D", type := .int, accessFlags := 26, slot := 6, constantValue := 0 }, { name := "intVal", type := (.object "java/math/BigInteger"), accessFlags := 18, slot := 0, constantValue := 0 }, { name := "scale", type := .int, accessFlags := 18, slot := 1, constantValue := 0 }, { name := "precision", type := .int, accessFlags := 130, slot := 2, constantValue := 0 }, { name := "stringCache", type := (.object "java/lang/String"), accessFlags := 130, slot := 3, constantValue := 0 }, { name := "INFLATED", type := .long, accessFlags := 24, slot := 7, constantValue := 0 }, { name := "INFLATED_BIGINT", type := (.object "java/math/BigInteger"), accessFlags := 26, slot := 8, constantValue := 0 }, { name := "intCompact", type := .long, accessFlags := 146, slot := 4, constantValue := 0 }, { name := "MAX_COMPACT_DIGITS", type := .int, accessFlags := 26, slot := 9, constantValue := 0 }, { name := "serialVersionUID", type := .long, accessFlags := 26, slot := 10, constantValue := 0 }, { name := "ZERO_THROUGH_TEN", type := (.array (.object "java/math/BigDecimal")), accessFlags := 26, slot := 11, constantValue := 0 }, { name := "ZERO_SCALED_BY", type := (.array (.object "java/math/BigDecimal")), accessFlags := 26, slot := 12, constantValue := 0 }, { name := "HALF_LONG_MAX_VALUE", type := .long, accessFlags := 26, slot := 13, constantValue := 0 }, { name := "HALF_LONG_MIN_VALUE", type := .long, accessFlags := 26, slot := 14, constantValue := 0 }, { name := "ZERO", type := (.object "java/math/BigDecimal"), accessFlags := 25, slot := 15, constantValue := 0 }, { name := "ONE", type := (.object "java/math/BigDecimal"), accessFlags := 25, slot := 16, constantValue := 0 }, { name := "TWO", type := (.object "java/math/BigDecimal"), accessFlags := 25, slot := 17, constantValue := 0 }, { name := "TEN", type := (.object "java/math/BigDecimal"), accessFlags := 25, slot := 18, constantValue := 0 }, { name := "ONE_TENTH", type := (.object "java/math/BigDecimal"), accessFlags := 26, slot := 19, constantValue := 0 }, { name := "ONE_HALF", type := (.object "java/math/BigDecimal"), accessFlags := 26, slot := 20, constantValue := 0 }, { name := "ROUND_UP", type := .int, accessFlags := 25, slot := 21, constantValue := 0 }, { name := "ROUND_DOWN", type := .int, accessFlags := 25, slot := 22, constantValue := 0 }, { name := "ROUND_CEILING", type := .int, accessFlags := 25, slot := 23, constantValue := 0 }, { name := "ROUND_FLOOR", type := .int, accessFlags := 25, slot := 24, constantValue := 0 }, { name := "ROUND_HALF_UP", type := .int, accessFlags := 25, slot := 25, constantValue := 0 }, { name := "ROUND_HALF_DOWN", type := .int, accessFlags := 25, slot := 26, constantValue := 0 }, { name := "ROUND_HALF_EVEN", type := .int, accessFlags := 25, slot := 27, constantValue := 0 }, { name := "ROUND_UNNECESSARY", type := .int, accessFlags := 25, slot := 28, constantValue := 0 }, { name := "DOUBLE_10_POW", type := (.array .double), accessFlags := 26, slot := 29, constantValue := 0 }, { name := "FLOAT_10_POW", type := (.array .float), accessFlags := 26, slot := 30, constantValue := 0 }, { name := "LONG_TEN_POWERS_TABLE", type := (.array .long), accessFlags := 26, slot := 31, constantValue := 0 }, { name := "BIG_TEN_POWERS_TABLE", type := (.array (.object "java/math/BigInteger")), accessFlags := 74, slot := 32, constantValue := 0 }, { name := "BIG_TEN_POWERS_TABLE_INITLEN", type := .int, accessFlags := 26, slot := 33, constantValue := 0 }, { name := "BIG_TEN_POWERS_TABLE_MAX", type := .int, accessFlags := 26, slot := 34, constantValue := 0 }, { name := "THRESHOLDS_TABLE", type := (.array .long), accessFlags := 26, slot := 35, constantValue := 0 }, { name := "DIV_NUM_BASE", type := .long, accessFlags := 26, slot := 36, constantValue := 0 }, { name := "LONGLONG_TEN_POWERS_TABLE", type := (.array (.array .long)), accessFlags := 26, slot := 37, constantValue := 0 }, { name := "$assertionsDisabled", type := .boolean, accessFlags := 4120, slot := 38, constantValue := 0 }]
  methods := #[k6m0, k6m1, k6m2, k6m3, k6m4, k6m5, k6m6, k6m7, k6m8]
  instanceTypes := #[(.object "java/math/BigInteger"), .int, .int, (.object "java/lang/String"), .long]
  staticTypes := #[.double, .int, .int, .int, .int, .int, .int, .long, (.object "java/math/BigInteger"), .int, .long, (.array (.object "java/math/BigDecimal")), (.array (.object "java/math/BigDecimal")), .long, .long, (.object "java/math/BigDecimal"), (.object "java/math/BigDecimal"), (.object "java/math/BigDecimal"), (.object "java/math/BigDecimal"), (.object "java/math/BigDecimal"), (.object "java/math/BigDecimal"), .int, .int, .int, .int, .int, .int, .int, .int, (.array .double), (.array .float), (.array .long), (.array (.object "java/math/BigInteger")), .int, .int, (.array .long), .long, (.array (.array .long)), .boolean]
  resolved := Array.replicate 1637 none
  statics := some 0 }

def pool7 : Array CpInfo := pool [(2, .class_ 4), (1, u "java/lang/Object"), (0, u "<init>"), (0, u "()V"), (12, .class_ 20), (0, u "java/util/Collections"), (63, u "r"), (0, u "Ljava/util/Random;"), (80, .class_ 167), (0, u "java/util/Collections$UnmodifiableCollection"), (6, .class_ 175), (0, u "java/util/Collections$UnmodifiableSequencedCollection"), (6, .class_ 183), (0, u "java/util/Collections$UnmodifiableSet"), (6, .class_ 191), (0, u "java/util/Collections$UnmodifiableSequencedSet"), (6, .class_ 199), (0, u "java/util/Collections$UnmodifiableSortedSet"), (6, .class_ 207), (0, u "java/util/Collections$UnmodifiableNavigableSet"), (4, .class_ 213), (0, u "java/util/Collections$UnmodifiableList"), (1, .class_ 216), (0, u "java/util/Collections$UnmodifiableRandomAccessList"), (6, .class_ 224), (0, u "java/util/Collections$UnmodifiableMap"), (6, .class_ 232), (0, u "java/util/Collections$UnmodifiableSequencedMap"), (4, .class_ 238), (0, u "java/util/Collections$UnmodifiableSortedMap"), (6, .class_ 246), (0, u "java/util/Collections$UnmodifiableNavigableMap"), (3, .class_ 251), (0, u "java/util/Collections$SynchronizedCollection"), (4, .class_ 257), (0, u "java/util/Collections$SynchronizedSet"), (4, .class_ 263), (0, u "java/util/Collections$SynchronizedSortedSet"), (1, .class_ 266), (0, u "java/util/Collections$SynchronizedNavigableSet"), (1, .class_ 269), (0, u "java/util/Collections$SynchronizedRandomAccessList"), (1, .class_ 272), (0, u "java/util/Collections$SynchronizedList"), (5, .class_ 279), (0, u "java/util/Collections$SynchronizedMap"), (1, .class_ 282), (0, u "java/util/Collections$SynchronizedSortedMap"), (1, .class_ 285), (0, u "java/util/Collections$SynchronizedNavigableMap"), (1, .class_ 288), (0, u "java/util/Collections$CheckedCollection"), (11, .class_ 301), (0, u "java/util/Collections$CheckedQueue"), (3, .class_ 306), (0, u "java/util/Collections$CheckedSet"), (3, .class_ 311), (0, u "java/util/Collections$CheckedSortedSet"), (3, .class_ 316), (0, u "java/util/Collections$CheckedNavigableSet"), (3, .class_ 321), (0, u "java/util/Collections$CheckedRandomAccessList"), (3, .class_ 326), (0, u "java/util/Collections$CheckedList"), (1, .class_ 329), (0, u "java/util/Collections$CheckedMap"), (3, .class_ 334), (0, u "java/util/Collections$CheckedSortedMap"), (3, .class_ 339), (0, u "java/util/Collections$CheckedNavigableMap"), (4, .class_ 346), (1, u "java/util/Collections$EmptyIterator"), (3, .class_ 352), (1, u "java/util/Collections$EmptyListIterator"), (2, .class_ 357), (1, u "java/util/Collections$EmptyEnumeration"), (4, u "EMPTY_SET"), (0, u "Ljava/util/Set;"), (6, u "EMPTY_LIST"), (0, u "Ljava/util/List;"), (2, u "EMPTY_MAP"), (0, u "Ljava/util/Map;"), (4, .class_ 381), (0, u "java/util/Collections$SingletonSet"), (2, .class_ 385), (0, u "java/util/Collections$1"), (1, .class_ 388), (0, u "java/util/Collections$2"), (1, .class_ 391), (0, u "java/util/Collections$SingletonList"), (1, .class_ 394), (0, u "java/util/Collections$SingletonMap"), (22, .class_ 418), (0, u "java/util/Collections$CopiesList"), (0, .methodref 417 420), (0, .nameAndType 5 421), (0, u "(ILjava/lang/Object;)V"), (1, .class_ 425), (1, u "java/util/Collections$ReverseComparator"), (8, .class_ 435), (0, u "java/util/Collections$ReverseComparator2"), (6, .class_ 443), (0, u "java/util/Collections$3"), (25, .class_ 470), (0, u "java/util/Collections$SetFromMap"), (2, .class_ 474), (0, u "java/util/Collections$SequencedSetFromMap"), (3, .class_ 479), (0, u "java/util/Collections$AsLIFOQueue"), (11, .class_ 492), (0, u "java/util/Collections$EmptySet"), (1, .class_ 495), (0, u "java/util/Collections$EmptyList"), (1, .class_ 498), (0, u "java/util/Collections$EmptyMap"), (1, u "BINARYSEARCH_THRESHOLD"), (0, u "I"), (2, u "REVERSE_THRESHOLD"), (1, u "SHUFFLE_THRESHOLD"), (1, u "FILL_THRESHOLD"), (1, u "ROTATE_THRESHOLD"), (1, u "COPY_THRESHOLD"), (1, u "REPLACEALL_THRESHOLD"), (1, u "INDEXOFSUBLIST_THRESHOLD"), (273, u "nCopies"), (0, u "(ILjava/lang/Object;)Ljava/util/List;"), (58, .class_ 851), (0, u "java/util/Collections$CheckedMap$CheckedEntrySet"), (0, .class_ 853), (0, u "java/util/Collections$CheckedMap$CheckedEntrySet$CheckedEntry"), (0, .class_ 855), (0, u "java/util/Collections$CheckedMap$CheckedEntrySet$1"), (0, .class_ 857), (0, u "java/util/Collections$CheckedList$1"), (0, .class_ 859), (0, u "java/util/Collections$CheckedCollection$1"), (0, .class_ 861), (0, u "java/util/Collections$UnmodifiableNavigableMap$EmptyNavigableMap"), (0, .class_ 863), (0, u "java/util/Collections$UnmodifiableMap$UnmodifiableEntrySet"), (0, .class_ 865), (0, u "java/util/Collections$UnmodifiableMap$UnmodifiableEntrySet$UnmodifiableEntry"), (0, .class_ 867), (0, u "java/util/Collections$UnmodifiableMap$UnmodifiableEntrySet$UnmodifiableEntrySetSpliterator"), (0, .class_ 869), (0, u "java/util/Collections$UnmodifiableMap$UnmodifiableEntrySet$1"), (0, .class_ 871), (0, u "java/util/Collections$UnmodifiableList$1"), (0, .class_ 873), (0, u "java/util/Collections$UnmodifiableNavigableSet$EmptyNavigableSet"), (0, .class_ 875), (0, u "java/util/Collections$UnmodifiableCollection$1")] 57

def k7m0 : Method := { name := "<init>", desc := "()V", sig := { parameters := [], returnType := none }, accessFlags := 2, code := none }
def k7c1 : Code := { maxStack := 4, maxLocals := 2, code := jdk_79_method_76_code, exceptionTable := #[], attributes := #[] }
def k7m1 : Method := { name := "nCopies", desc := "(ILjava/lang/Object;)Ljava/util/List;", sig := { parameters := [.int, (.object "java/lang/Object")], returnType := some (.object "java/util/List") }, accessFlags := 9, code := some k7c1 }
/-- java/util/Collections -/
def k7 : Class := { plain "java/util/Collections" (some 0) with
  accessFlags := 33
  interfaces := #[]
  cf := some (fileOf pool7 19 #[.nestMembers #[478, 473, 469, 434, 423, 417, 393, 390, 380, 497, 494, 491, 355, 350, 344, 338, 333, 328, 850, 852, 854, 320, 325, 856, 315, 310, 305, 300, 287, 858, 284, 281, 278, 268, 271, 265, 262, 256, 250, 245, 860, 237, 231, 223, 862, 864, 866, 868, 215, 212, 870, 206, 872, 198, 190, 182, 174, 166, 874, 442, 387, 384]] #[{ accessFlags := 2, nameIndex := 5, descriptorIndex := 6, attributes := #[] }, { accessFlags := 9, nameIndex := 790, descriptorIndex := 791, attributes := #[] }] 33 2 #[] #[{ accessFlags := 26, nameIndex := 500, descriptorIndex := 501, attributes := #[] }, { accessFlags := 26, nameIndex := 504, descriptorIndex := 501, attributes := #[] }, { accessFlags := 26, nameIndex := 506, descriptorIndex := 501, attributes := #[] }, { accessFlags := 26, nameIndex := 508, descriptorIndex := 501, attributes := #[] }, { accessFlags := 26, nameIndex := 510, descriptorIndex := 501, attributes := #[] }, { accessFlags := 26, nameIndex := 512, descriptorIndex := 501, attributes := #[] }, { accessFlags := 26, nameIndex := 514, descriptorIndex := 501, attributes := #[] }, { accessFlags := 26, nameIndex := 516, descriptorIndex := 501, attributes := #[] }, { accessFlags := 10, nameIndex := 84, descriptorIndex := 85, attributes := #[] }, { accessFlags := 25, nameIndex := 362, descriptorIndex := 363, attributes := #[] }, { accessFlags := 25, nameIndex := 370, descriptorIndex := 371, attributes := #[] }, { accessFlags := 25, nameIndex := 374, descriptorIndex := 375, attributes := #[] }])
  fields := #[{ name := "BINARYSEARCH_THRESHOLD", type := .int, accessFlags := 26, slot := 0, constantValue := 0 }, { name := "REVERSE_THRESHOLD", type := .int, accessFlags := 26, slot := 1, constantValue := 0 }, { name := "SHUFFLE_THRESHOLD", type := .int, accessFlags := 26, slot := 2, constantValue := 0 }, { name := "FILL_THRESHOLD", type := .int, accessFlags := 26, slot := 3, constantValue := 0 }, { name := "ROTATE_THRESHOLD", type := .int, accessFlags := 26, slot := 4, constantValue := 0 }, { name := "COPY_THRESHOLD", type := .int, accessFlags := 26, slot := 5, constantValue := 0 }, { name := "REPLACEALL_THRESHOLD", type := .int, accessFlags := 26, slot := 6, constantValue := 0 }, { name := "INDEXOFSUBLIST_THRESHOLD", type := .int, accessFlags := 26, slot := 7, constantValue := 0 }, { name := "r", type := (.object "java/util/Random"), accessFlags := 10, slot := 8, constantValue := 0 }, { name := "EMPTY_SET", type := (.object "java/util/Set"), accessFlags := 25, slot := 9, constantValue := 0 }, { name := "EMPTY_LIST", type := (.object "java/util/List"), accessFlags := 25, slot := 10, constantValue := 0 }, { name := "EMPTY_MAP", type := (.object "java/util/Map"), accessFlags := 25, slot := 11, constantValue := 0 }]
  methods := #[k7m0, k7m1]
  instanceTypes := #[]
  staticTypes := #[.int, .int, .int, .int, .int, .int, .int, .int, (.object "java/util/Random"), (.object "java/util/Set"), (.object "java/util/List"), (.object "java/util/Map")]
  resolved := Array.replicate 933 none
  statics := none }

def pool8 : Array CpInfo := pool [(8, .class_ 10), (1, u "java/lang/Iterable"), (24, .class_ 36), (0, u "java/lang/Object")] 25

/-- java/lang/Iterable -/
def k8 : Class := { plain "java/lang/Iterable" (some 0) with
  accessFlags := 1537
  interfaces := #[]
  cf := some (fileOf pool8 8 #[] #[] 1537 35 #[] #[])
  fields := #[]
  methods := #[]
  instanceTypes := #[]
  staticTypes := #[]
  resolved := Array.replicate 62 none
  statics := none }

def pool9 : Array CpInfo := pool [(10, .class_ 12), (1, u "java/util/Collection"), (47, .class_ 61), (0, u "java/lang/Object"), (0, .class_ 63), (0, u "java/lang/Iterable")] 51

/-- java/util/Collection -/
def k9 : Class := { plain "java/util/Collection" (some 0) with
  accessFlags := 1537
  interfaces := #[8]
  cf := some (fileOf pool9 10 #[] #[] 1537 60 #[62] #[])
  fields := #[]
  methods := #[]
  instanceTypes := #[]
  staticTypes := #[]
  resolved := Array.replicate 115 none
  statics := none }

def pool10 : Array CpInfo := pool [(1, .methodref 2 3), (0, .class_ 4), (0, .nameAndType 5 6), (0, u "java/lang/Object"), (0, u "<init>"), (0, u "()V"), (1, .class_ 10), (1, u "java/util/AbstractCollection"), (66, .class_ 78), (0, u "java/util/Collection")] 81

def k10c0 : Code := { maxStack := 1, maxLocals := 1, code := jdk_22_method_1_code, exceptionTable := #[], attributes := #[] }
def k10m0 : Method := { name := "<init>", desc := "()V", sig := { parameters := [], returnType := none }, accessFlags := 4, code := some k10c0 }
/-- java/util/AbstractCollection -/
def k10 : Class := { plain "java/util/AbstractCollection" (some 0) with
  accessFlags := 1057
  interfaces := #[9]
  cf := some (fileOf pool10 8 #[] #[{ accessFlags := 4, nameIndex := 5, descriptorIndex := 6, attributes := #[] }] 1057 2 #[77] #[])
  fields := #[]
  methods := #[k10m0]
  instanceTypes := #[]
  staticTypes := #[]
  resolved := Array.replicate 160 none
  statics := none }

def pool11 : Array CpInfo := pool [(8, .class_ 10), (1, u "java/util/SequencedCollection"), (15, .class_ 27), (0, u "java/lang/Object"), (0, .class_ 29), (0, u "java/util/Collection")] 27

/-- java/util/SequencedCollection -/
def k11 : Class := { plain "java/util/SequencedCollection" (some 0) with
  accessFlags := 1537
  interfaces := #[9]
  cf := some (fileOf pool11 8 #[] #[] 1537 26 #[28] #[])
  fields := #[]
  methods := #[]
  instanceTypes := #[]
  staticTypes := #[]
  resolved := Array.replicate 57 none
  statics := none }

def pool12 : Array CpInfo := pool [(8, .class_ 10), (1, u "java/util/List"), (64, u "get"), (0, u "(I)Ljava/lang/Object;"), (26, .class_ 104), (0, u "java/lang/Object"), (15, .class_ 121), (0, u "java/util/SequencedCollection")] 129

def k12m0 : Method := { name := "get", desc := "(I)Ljava/lang/Object;", sig := { parameters := [.int], returnType := some (.object "java/lang/Object") }, accessFlags := 1025, code := none }
/-- java/util/List -/
def k12 : Class := { plain "java/util/List" (some 0) with
  accessFlags := 1537
  interfaces := #[11]
  cf := some (fileOf pool12 8 #[] #[{ accessFlags := 1025, nameIndex := 75, descriptorIndex := 76, attributes := #[] }] 1537 103 #[120] #[])
  fields := #[]
  methods := #[k12m0]
  instanceTypes := #[]
  staticTypes := #[]
  resolved := Array.replicate 251 none
  statics := none }

def pool13 : Array CpInfo := pool [(1, .methodref 2 3), (0, .class_ 4), (0, .nameAndType 5 6), (0, u "java/util/AbstractCollection"), (0, u "<init>"), (0, u "()V"), (0, .fieldref 8 9), (0, .class_ 10), (0, .nameAndType 11 12), (0, u "java/util/AbstractList"), (0, u "modCount"), (0, u "I"), (64, .class_ 78), (0, u "java/util/AbstractList$Itr"), (3, .class_ 83), (0, u "java/util/AbstractList$ListItr"), (9, .class_ 94), (0, u "java/util/AbstractList$RandomAccessSubList"), (3, .class_ 99), (0, u "java/util/AbstractList$SubList"), (33, .class_ 134), (0, u "java/util/List"), (73, .class_ 209), (0, u "java/util/AbstractList$SubList$1"), (0, .class_ 211), (0, u "java/util/AbstractList$RandomAccessSpliterator")] 6

def k13c0 : Code := { maxStack := 2, maxLocals := 1, code := jdk_39_method_1_code, exceptionTable := #[], attributes := #[] }
def k13m0 : Method := { name := "<init>", desc := "()V", sig := { parameters := [], returnType := none }, accessFlags := 4, code := some k13c0 }
/-- java/util/AbstractList -/
def k13 : Class := { plain "java/util/AbstractList" (some 10) with
  accessFlags := 1057
  interfaces := #[12]
  cf := some (fileOf pool13 8 #[.nestMembers #[93, 98, 208, 210, 82, 77]] #[{ accessFlags := 4, nameIndex := 5, descriptorIndex := 6, attributes := #[] }] 1057 2 #[133] #[{ accessFlags := 132, nameIndex := 11, descriptorIndex := 12, attributes := #[] }])
  fields := #[{ name := "modCount", type := .int, accessFlags := 132, slot := 0, constantValue := 0 }]
  methods := #[k13m0]
  instanceTypes := #[.int]
  staticTypes := #[]
  resolved := Array.replicate 218 none
  statics := none }

def pool14 : Array CpInfo := pool [(1, .class_ 2), (0, u "java/util/RandomAccess"), (0, .class_ 4), (0, u "java/lang/Object")] 2

/-- java/util/RandomAccess -/
def k14 : Class := { plain "java/util/RandomAccess" (some 0) with
  accessFlags := 1537
  interfaces := #[]
  cf := some (fileOf pool14 1 #[] #[] 1537 3 #[] #[])
  fields := #[]
  methods := #[]
  instanceTypes := #[]
  staticTypes := #[]
  resolved := Array.replicate 7 none
  statics := none }

def pool15 : Array CpInfo := pool [(1, .methodref 2 3), (0, .class_ 4), (0, .nameAndType 5 6), (0, u "java/util/AbstractList"), (0, u "<init>"), (0, u "()V"), (0, .fieldref 8 9), (0, .class_ 10), (0, .nameAndType 11 12), (0, u "java/util/Collections$CopiesList"), (0, u "$assertionsDisabled"), (0, u "Z"), (3, .fieldref 8 17), (0, .nameAndType 18 19), (0, u "n"), (0, u "I"), (0, .fieldref 8 21), (0, .nameAndType 22 23), (0, u "element"), (0, u "Ljava/lang/Object;"), (1, .class_ 27), (1, u "java/util/Collections"), (6, .methodref 35 36), (0, .class_ 37), (0, .nameAndType 38 39), (0, u "java/util/Objects"), (0, u "checkIndex"), (0, u "(II)I"), (69, u "(ILjava/lang/Object;)V"), (78, .class_ 189), (0, u "java/util/RandomAccess"), (0, .class_ 191), (0, u "java/io/Serializable"), (0, u "serialVersionUID"), (0, u "J"), (21, u "get"), (0, u "(I)Ljava/lang/Object;")] 69

def k15c0 : Code := { maxStack := 2, maxLocals := 3, code := jdk_2479_method_1_code, exceptionTable := #[], attributes := #[] }
def k15m0 : Method := { name := "<init>", desc := "(ILjava/lang/Object;)V", sig := { parameters := [.int, (.object "java/lang/Object")], returnType := none }, accessFlags := 0, code := some k15c0 }
def k15c1 : Code := { maxStack := 2, maxLocals := 2, code := jdk_2479_method_6_code, exceptionTable := #[], attributes := #[] }
def k15m1 : Method := { name := "get", desc := "(I)Ljava/lang/Object;", sig := { parameters := [.int], returnType := some (.object "java/lang/Object") }, accessFlags := 1, code := some k15c1 }
/-- java/util/Collections$CopiesList -/
def k15 : Class := { plain "java/util/Collections$CopiesList" (some 13) with
  accessFlags := 32
  interfaces := #[14, 3]
  cf := some (fileOf pool15 8 #[.nestHost 25] #[{ accessFlags := 0, nameIndex := 5, descriptorIndex := 109, attributes := #[] }, { accessFlags := 1, nameIndex := 215, descriptorIndex := 216, attributes := #[] }] 32 2 #[188, 190] #[{ accessFlags := 26, nameIndex := 192, descriptorIndex := 193, attributes := #[] }, { accessFlags := 16, nameIndex := 18, descriptorIndex := 19, attributes := #[] }, { accessFlags := 16, nameIndex := 22, descriptorIndex := 23, attributes := #[] }, { accessFlags := 4120, nameIndex := 11, descriptorIndex := 12, attributes := #[] }])
  fields := #[{ name := "serialVersionUID", type := .long, accessFlags := 26, slot := 0, constantValue := 0 }, { name := "n", type := .int, accessFlags := 16, slot := 1, constantValue := 0 }, { name := "element", type := (.object "java/lang/Object"), accessFlags := 16, slot := 2, constantValue := 0 }, { name := "$assertionsDisabled", type := .boolean, accessFlags := 4120, slot := 1, constantValue := 0 }]
  methods := #[k15m0, k15m1]
  instanceTypes := #[.int, .int, (.object "java/lang/Object")]
  staticTypes := #[.long, .boolean]
  resolved := Array.replicate 286 none
  statics := some 1 }

def pool16 : Array CpInfo := pool [(2, .class_ 4), (1, u "java/lang/Object"), (0, u "<init>"), (0, u "()V"), (35, .class_ 44), (1, u "java/util/Objects"), (60, .methodref 106 107), (0, .class_ 108), (0, .nameAndType 109 110), (0, u "jdk/internal/util/Preconditions"), (0, u "checkIndex"), (0, u "(IILjava/util/function/BiFunction;)I"), (60, u "(II)I")] 12

def k16m0 : Method := { name := "<init>", desc := "()V", sig := { parameters := [], returnType := none }, accessFlags := 2, code := none }
def k16c1 : Code := { maxStack := 3, maxLocals := 2, code := jdk_31_method_17_code, exceptionTable := #[], attributes := #[] }
def k16m1 : Method := { name := "checkIndex", desc := "(II)I", sig := { parameters := [.int, .int], returnType := some .int }, accessFlags := 9, code := some k16c1 }
/-- java/util/Objects -/
def k16 : Class := { plain "java/util/Objects" (some 0) with
  accessFlags := 49
  interfaces := #[]
  cf := some (fileOf pool16 42 #[] #[{ accessFlags := 2, nameIndex := 5, descriptorIndex := 6, attributes := #[] }, { accessFlags := 9, nameIndex := 109, descriptorIndex := 171, attributes := #[] }] 49 2 #[] #[])
  fields := #[]
  methods := #[k16m0, k16m1]
  instanceTypes := #[]
  staticTypes := #[]
  resolved := Array.replicate 184 none
  statics := none }

def pool17 : Array CpInfo := pool [(2, .class_ 4), (1, u "java/lang/Object"), (0, u "<init>"), (0, u "()V"), (17, .class_ 26), (1, u "jdk/internal/util/Preconditions"), (6, u "checkIndex"), (21, .class_ 56), (0, u "jdk/internal/util/Preconditions$4"), (57, .class_ 115), (0, u "jdk/internal/util/Preconditions$1"), (7, u "SIOOBE_FORMATTER"), (0, u "Ljava/util/function/BiFunction;"), (0, .class_ 126), (0, u "jdk/internal/util/Preconditions$2"), (3, u "AIOOBE_FORMATTER"), (0, .class_ 132), (0, u "jdk/internal/util/Preconditions$3"), (3, u "IOOBE_FORMATTER"), (41, u "(IILjava/util/function/BiFunction;)I")] 15

def k17m0 : Method := { name := "<init>", desc := "()V", sig := { parameters := [], returnType := none }, accessFlags := 1, code := none }
def k17c1 : Code := { maxStack := 3, maxLocals := 3, code := jdk_41_method_11_code, exceptionTable := #[], attributes := #[] }
def k17m1 : Method := { name := "checkIndex", desc := "(IILjava/util/function/BiFunction;)I", sig := { parameters := [.int, .int, (.object "java/util/function/BiFunction")], returnType := some .int }, accessFlags := 9, code := some k17c1 }
/-- jdk/internal/util/Preconditions -/
def k17 : Class := { plain "jdk/internal/util/Preconditions" (some 0) with
  accessFlags := 33
  interfaces := #[]
  cf := some (fileOf pool17 24 #[.nestMembers #[55, 131, 125, 114]] #[{ accessFlags := 1, nameIndex := 5, descriptorIndex := 6, attributes := #[] }, { accessFlags := 9, nameIndex := 33, descriptorIndex := 178, attributes := #[] }] 33 2 #[] #[{ accessFlags := 25, nameIndex := 123, descriptorIndex := 124, attributes := #[] }, { accessFlags := 25, nameIndex := 130, descriptorIndex := 124, attributes := #[] }, { accessFlags := 25, nameIndex := 136, descriptorIndex := 124, attributes := #[] }])
  fields := #[{ name := "SIOOBE_FORMATTER", type := (.object "java/util/function/BiFunction"), accessFlags := 25, slot := 0, constantValue := 0 }, { name := "AIOOBE_FORMATTER", type := (.object "java/util/function/BiFunction"), accessFlags := 25, slot := 1, constantValue := 0 }, { name := "IOOBE_FORMATTER", type := (.object "java/util/function/BiFunction"), accessFlags := 25, slot := 2, constantValue := 0 }]
  methods := #[k17m0, k17m1]
  instanceTypes := #[]
  staticTypes := #[(.object "java/util/function/BiFunction"), (.object "java/util/function/BiFunction"), (.object "java/util/function/BiFunction")]
  resolved := Array.replicate 194 none
  statics := none }

def pool18 : Array CpInfo := pool [(4, .class_ 6), (1, u "java/lang/Number"), (16, .class_ 25), (1, u "java/math/BigInteger"), (0, u "ZERO"), (0, u "Ljava/math/BigInteger;"), (2, u "mag"), (0, u "[I"), (2, u "signum"), (0, u "I"), (59, u "bitsPerDigit"), (0, u "[J"), (9, u "digitsPerInt"), (12, u "intRadix"), (60, u "SMALL_PRIME_PRODUCT"), (79, u "ONE"), (6, u "TWO"), (43, u "$assertionsDisabled"), (0, u "Z"), (36, u "posConst"), (0, u "[Ljava/math/BigInteger;"), (4, u "negConst"), (116, .class_ 474), (1, u "java/math/BigInteger$RecursiveOp"), (106, u "NEGATIVE_ONE"), (91, u "bnExpModThreshTable"), (72, u "lowestSetBitPlusTwo"), (2, u "bitLengthPlusOne"), (2, u "bitCountPlusOne"), (6, u "LOG_TWO"), (0, u "D"), (2, u "logCache"), (0, u "[D"), (13, u "NUM_ZEROS"), (2, u "ZEROS"), (0, u "Ljava/lang/String;"), (9, u "longRadix"), (5, u "digitsPerLong"), (22, u "powerCache"), (0, u "[[Ljava/math/BigInteger;"), (45, u "firstNonzeroIntNumPlusTwo"), (38, .class_ 909), (1, u "java/math/BigInteger$UnsafeHolder"), (141, u "TEN"), (106, u "serialPersistentFields"), (0, u "[Ljava/io/ObjectStreamField;"), (0, .class_ 1161), (0, u "java/lang/Comparable"), (0, u "LONG_MASK"), (0, u "J"), (1, u "MAX_MAG_LENGTH"), (0, u "PRIME_SEARCH_BIT_LENGTH_LIMIT"), (1, u "KARATSUBA_THRESHOLD"), (1, u "TOOM_COOK_THRESHOLD"), (1, u "KARATSUBA_SQUARE_THRESHOLD"), (1, u "TOOM_COOK_SQUARE_THRESHOLD"), (1, u "BURNIKEL_ZIEGLER_THRESHOLD"), (0, u "BURNIKEL_ZIEGLER_OFFSET"), (1, u "SCHOENHAGE_BASE_CONVERSION_THRESHOLD"), (1, u "MULTIPLY_SQUARE_THRESHOLD"), (0, u "MONTGOMERY_INTRINSIC_THRESHOLD"), (1, u "SMALL_PRIME_THRESHOLD"), (1, u "DEFAULT_PRIME_CERTAINTY"), (1, u "MAX_CONSTANT"), (3, u "serialVersionUID"), (338, .class_ 1532), (0, u "java/math/BigInteger$RecursiveOp$RecursiveSquare"), (0, .class_ 1534), (0, u "java/math/BigInteger$RecursiveOp$RecursiveMultiply")] 7

/-- java/math/BigInteger -/
def k18 : Class := { plain "java/math/BigInteger" (some 4) with
  accessFlags := 33
  interfaces := #[5]
  cf := some (fileOf pool18 23 #[.nestMembers #[907, 472, 1531, 1533]] #[] 33 4 #[1160] #[{ accessFlags := 16, nameIndex := 34, descriptorIndex := 35, attributes := #[] }, { accessFlags := 16, nameIndex := 30, descriptorIndex := 31, attributes := #[] }, { accessFlags := 2, nameIndex := 752, descriptorIndex := 35, attributes := #[] }, { accessFlags := 2, nameIndex := 749, descriptorIndex := 35, attributes := #[] }, { accessFlags := 2, nameIndex := 746, descriptorIndex := 35, attributes := #[] }, { accessFlags := 2, nameIndex := 868, descriptorIndex := 35, attributes := #[] }, { accessFlags := 24, nameIndex := 1162, descriptorIndex := 1163, attributes := #[] }, { accessFlags := 26, nameIndex := 1165, descriptorIndex := 35, attributes := #[] }, { accessFlags := 26, nameIndex := 1166, descriptorIndex := 35, attributes := #[] }, { accessFlags := 26, nameIndex := 1168, descriptorIndex := 35, attributes := #[] }, { accessFlags := 26, nameIndex := 1170, descriptorIndex := 35, attributes := #[] }, { accessFlags := 26, nameIndex := 1172, descriptorIndex := 35, attributes := #[] }, { accessFlags := 26, nameIndex := 1174, descriptorIndex := 35, attributes := #[] }, { accessFlags := 24, nameIndex := 1176, descriptorIndex := 35, attributes := #[] }, { accessFlags := 24, nameIndex := 1177, descriptorIndex := 35, attributes := #[] }, { accessFlags := 26, nameIndex := 1179, descriptorIndex := 35, attributes := #[] }, { accessFlags := 26, nameIndex := 1181, descriptorIndex := 35, attributes := #[] }, { accessFlags := 26, nameIndex := 1182, descriptorIndex := 35, attributes := #[] }, { accessFlags := 10, nameIndex := 95, descriptorIndex := 96, attributes := #[] }, { accessFlags := 26, nameIndex := 1184, descriptorIndex := 35, attributes := #[] }, { accessFlags := 26, nameIndex := 1186, descriptorIndex := 35, attributes := #[] }, { accessFlags := 26, nameIndex := 180, descriptorIndex := 27, attributes := #[] }, { accessFlags := 26, nameIndex := 1188, descriptorIndex := 35, attributes := #[] }, { accessFlags := 26, nameIndex := 349, descriptorIndex := 350, attributes := #[] }, { accessFlags := 26, nameIndex := 355, descriptorIndex := 350, attributes := #[] }, { accessFlags := 74, nameIndex := 821, descriptorIndex := 822, attributes := #[] }, { accessFlags := 26, nameIndex := 763, descriptorIndex := 764, attributes := #[] }, { accessFlags := 26, nameIndex := 759, descriptorIndex := 760, attributes := #[] }, { accessFlags := 25, nameIndex := 26, descriptorIndex := 27, attributes := #[] }, { accessFlags := 25, nameIndex := 260, descriptorIndex := 27, attributes := #[] }, { accessFlags := 25, nameIndex := 267, descriptorIndex := 27, attributes := #[] }, { accessFlags := 26, nameIndex := 581, descriptorIndex := 27, attributes := #[] }, { accessFlags := 25, nameIndex := 1051, descriptorIndex := 27, attributes := #[] }, { accessFlags := 8, nameIndex := 673, descriptorIndex := 31, attributes := #[] }, { accessFlags := 10, nameIndex := 778, descriptorIndex := 35, attributes := #[] }, { accessFlags := 26, nameIndex := 781, descriptorIndex := 782, attributes := #[] }, { accessFlags := 10, nameIndex := 798, descriptorIndex := 31, attributes := #[] }, { accessFlags := 10, nameIndex := 792, descriptorIndex := 350, attributes := #[] }, { accessFlags := 10, nameIndex := 106, descriptorIndex := 31, attributes := #[] }, { accessFlags := 10, nameIndex := 119, descriptorIndex := 31, attributes := #[] }, { accessFlags := 26, nameIndex := 1192, descriptorIndex := 1163, attributes := #[] }, { accessFlags := 26, nameIndex := 1158, descriptorIndex := 1159, attributes := #[] }, { accessFlags := 4120, nameIndex := 311, descriptorIndex := 312, attributes := #[] }])
  fields := #[{ name := "signum", type := .int, accessFlags := 16, slot := 0, constantValue := 0 }, { name := "mag", type := (.array .int), accessFlags := 16, slot := 1, constantValue := 0 }, { name := "bitCountPlusOne", type := .int, accessFlags := 2, slot := 2, constantValue := 0 }, { name := "bitLengthPlusOne", type := .int, accessFlags := 2, slot := 3, constantValue := 0 }, { name := "lowestSetBitPlusTwo", type := .int, accessFlags := 2, slot := 4, constantValue := 0 }, { name := "firstNonzeroIntNumPlusTwo", type := .int, accessFlags := 2, slot := 5, constantValue := 0 }, { name := "LONG_MASK", type := .long, accessFlags := 24, slot := 0, constantValue := 0 }, { name := "MAX_MAG_LENGTH", type := .int, accessFlags := 26, slot := 1, constantValue := 0 }, { name := "PRIME_SEARCH_BIT_LENGTH_LIMIT", type := .int, accessFlags := 26, slot := 2, constantValue := 0 }, { name := "KARATSUBA_THRESHOLD", type := .int, accessFlags := 26, slot := 3, constantValue := 0 }, { name := "TOOM_COOK_THRESHOLD", type := .int, accessFlags := 26, slot := 4, constantValue := 0 }, { name := "KARATSUBA_SQUARE_THRESHOLD", type := .int, accessFlags := 26, slot := 5, constantValue := 0 }, { name := "TOOM_COOK_SQUARE_THRESHOLD", type := .int, accessFlags := 26, slot := 6, constantValue := 0 }, { name := "BURNIKEL_ZIEGLER_THRESHOLD", type := .int, accessFlags := 24, slot := 7, constantValue := 0 }, { name := "BURNIKEL_ZIEGLER_OFFSET", type := .int, accessFlags := 24, slot := 8, constantValue := 0 }, { name := "SCHOENHAGE_BASE_CONVERSION_THRESHOLD", type := .int, accessFlags := 26, slot := 9, constantValue := 0 }, { name := "MULTIPLY_SQUARE_THRESHOLD", type := .int, accessFlags := 26, slot := 10, constantValue := 0 }, { name := "MONTGOMERY_INTRINSIC_THRESHOLD", type := .int, accessFlags := 26, slot := 11, constantValue := 0 }, { name := "bitsPerDigit", type := (.array .long), accessFlags := 10, slot := 12, constantValue := 0 }, { name := "SMALL_PRIME_THRESHOLD", type := .int, accessFlags := 26, slot := 13, constantValue := 0 }, { name := "DEFAULT_PRIME_CERTAINTY", type := .int, accessFlags := 26, slot := 14, constantValue := 0 }, { name := "SMALL_PRIME_PRODUCT", type := (.object "java/math/BigInteger"), accessFlags := 26, slot := 15, constantValue := 0 }, { name := "MAX_CONSTANT", type := .int, accessFlags := 26, slot := 16, constantValue := 0 }, { name := "posConst", type := (.array (.object "java/math/BigInteger")), accessFlags := 26, slot := 17, constantValue := 0 }, { name := "negConst", type := (.array (.object "java/math/BigInteger")), accessFlags := 26, slot := 18, constantValue := 0 }, { name := "powerCache", type := (.array (.array (.object "java/math/BigInteger"))), accessFlags := 74, slot := 19, constantValue := 0 }, { name := "logCache", type := (.array .double), accessFlags := 26, slot := 20, constantValue := 0 }, { name := "LOG_TWO", type := .double, accessFlags := 26, slot := 21, constantValue := 0 }, { name := "ZERO", type := (.object "java/math/BigInteger"), accessFlags := 25, slot := 22, constantValue := 0 }, { name := "ONE", type := (.object "java/math/BigInteger"), accessFlags := 25, slot := 23, constantValue := 0 }, { name := "TWO", type := (.object "java/math/BigInteger"), accessFlags := 25, slot := 24, constantValue := 0 }, { name := "NEGATIVE_ONE", type := (.object "java/math/BigInteger"), accessFlags := 26, slot := 25, constantValue := 0 }, { name := "TEN", type := (.object "java/math/BigInteger"), accessFlags := 25, slot := 26, constantValue := 0 }, { name := "bnExpModThreshTable", type := (.array .int), accessFlags := 8, slot := 27, constantValue := 0 }, { name := "NUM_ZEROS", type := .int, accessFlags := 10, slot := 28, constantValue := 0 }, { name := "ZEROS", type := (.object "java/lang/String"), accessFlags := 26, slot := 29, constantValue := 0 }, { name := "digitsPerLong", type := (.array .int), accessFlags := 10, slot := 30, constantValue := 0 }, { name := "longRadix", type := (.array (.object "java/math/BigInteger")), accessFlags := 10, slot := 31, constantValue := 0 }, { name := "digitsPerInt", type := (.array .int), accessFlags := 10, slot := 32, constantValue := 0 }, { name := "intRadix", type := (.array .int), accessFlags := 10, slot := 33, constantValue := 0 }, { name := "serialVersionUID", type := .long, accessFlags := 26, slot := 34, constantValue := 0 }, { name := "serialPersistentFields", type := (.array (.object "java/io/ObjectStreamField")), accessFlags := 26, slot := 35, constantValue := 0 }, { name := "$assertionsDisabled", type := .boolean, accessFlags := 4120, slot := 36, constantValue := 0 }]
  methods := #[]
  instanceTypes := #[.int, (.array .int), .int, .int, .int, .int]
  staticTypes := #[.long, .int, .int, .int, .int, .int, .int, .int, .int, .int, .int, .int, (.array .long), .int, .int, (.object "java/math/BigInteger"), .int, (.array (.object "java/math/BigInteger")), (.array (.object "java/math/BigInteger")), (.array (.array (.object "java/math/BigInteger"))), (.array .double), .double, (.object "java/math/BigInteger"), (.object "java/math/BigInteger"), (.object "java/math/BigInteger"), (.object "java/math/BigInteger"), (.object "java/math/BigInteger"), (.array .int), .int, (.object "java/lang/String"), (.array .int), (.array (.object "java/math/BigInteger")), (.array .int), (.array .int), .long, (.array (.object "java/io/ObjectStreamField")), .boolean]
  resolved := Array.replicate 1542 none
  statics := some 2 }

def pool19 : Array CpInfo := pool [(1, u "java/lang/Cloneable"), (0, .class_ 1), (0, u "java/lang/Object"), (0, .class_ 3)] 3

/-- java/lang/Cloneable -/
def k19 : Class := { plain "java/lang/Cloneable" (some 0) with
  accessFlags := 1537
  interfaces := #[]
  cf := some (fileOf pool19 2 #[] #[] 1537 4 #[] #[])
  fields := #[]
  methods := #[]
  instanceTypes := #[]
  staticTypes := #[]
  resolved := Array.replicate 8 none
  statics := none }

/-- the primitive byte -/
def k20 : Class := { plain "byte" none with kind := .primitive 'B', accessFlags := 0x411 }
/-- [B -/
def k21 : Class := { plain "[B" (some 0) with kind := .array 20 .byte, interfaces := #[19, 3], accessFlags := 1041 }

/-- the primitive int -/
def k22 : Class := { plain "int" none with kind := .primitive 'I', accessFlags := 0x411 }
/-- [I -/
def k23 : Class := { plain "[I" (some 0) with kind := .array 22 .int, interfaces := #[19, 3], accessFlags := 1041 }

/-- [L[I; -/
def k24 : Class := { plain "[[I" (some 0) with kind := .array 23 (.array .int), interfaces := #[19, 3], accessFlags := 1041 }

/-- [Ljava/math/BigDecimal; -/
def k25 : Class := { plain "[Ljava/math/BigDecimal;" (some 0) with kind := .array 6 (.object "java/math/BigDecimal"), interfaces := #[19, 3], accessFlags := 1041 }

def heap : Heap := #[{ cls := 6, slots := #[.double 0, .int 0, .int 0, .int 0, .int 0, .int 0, .int 0, .long 0, .null, .int 0, .long 0, .ref 3, .null, .long 0, .long 0, .ref 5, .ref 6, .ref 7, .ref 15, .null, .null, .int 0, .int 0, .int 0, .int 0, .int 0, .int 0, .int 0, .int 0, .null, .null, .null, .null, .int 0, .int 0, .null, .long 0, .null, .int 0], vm := .statics 6 },
  { cls := 15, slots := #[.long 0, .int 1], vm := .statics 15 },
  { cls := 18, slots := #[.long 0, .int 0, .int 0, .int 0, .int 0, .int 0, .int 0, .int 0, .int 0, .int 0, .int 0, .int 0, .null, .int 0, .int 0, .null, .int 0, .null, .null, .null, .null, .double 0, .ref 16, .ref 17, .ref 18, .null, .ref 26, .null, .int 0, .null, .null, .null, .null, .null, .long 0, .null, .int 0], vm := .statics 18 },
  { cls := 25, slots := #[.ref 5, .ref 6, .ref 7, .ref 8, .ref 9, .ref 10, .ref 11, .ref 12, .ref 13, .ref 14, .ref 15], vm := .none },
  { cls := 24, slots := #[], vm := .none },
  { cls := 6, slots := #[.ref 16, .int 0, .int 0, .null, .long 0], vm := .none },
  { cls := 6, slots := #[.ref 17, .int 0, .int 0, .null, .long 1], vm := .none },
  { cls := 6, slots := #[.ref 18, .int 0, .int 0, .null, .long 2], vm := .none },
  { cls := 6, slots := #[.ref 19, .int 0, .int 0, .null, .long 3], vm := .none },
  { cls := 6, slots := #[.ref 20, .int 0, .int 0, .null, .long 4], vm := .none },
  { cls := 6, slots := #[.ref 21, .int 0, .int 0, .null, .long 5], vm := .none },
  { cls := 6, slots := #[.ref 22, .int 0, .int 0, .null, .long 6], vm := .none },
  { cls := 6, slots := #[.ref 23, .int 0, .int 0, .null, .long 7], vm := .none },
  { cls := 6, slots := #[.ref 24, .int 0, .int 0, .null, .long 8], vm := .none },
  { cls := 6, slots := #[.ref 25, .int 0, .int 0, .null, .long 9], vm := .none },
  { cls := 6, slots := #[.ref 26, .int 0, .int 0, .null, .long 10], vm := .none },
  { cls := 18, slots := #[.int 0, .ref 27, .int 0, .int 0, .int 0, .int 0], vm := .none },
  { cls := 18, slots := #[.int 1, .ref 28, .int 0, .int 0, .int 0, .int 0], vm := .none },
  { cls := 18, slots := #[.int 1, .ref 29, .int 0, .int 0, .int 0, .int 0], vm := .none },
  { cls := 18, slots := #[.int 1, .ref 30, .int 0, .int 0, .int 0, .int 0], vm := .none },
  { cls := 18, slots := #[.int 1, .ref 31, .int 0, .int 0, .int 0, .int 0], vm := .none },
  { cls := 18, slots := #[.int 1, .ref 32, .int 0, .int 0, .int 0, .int 0], vm := .none },
  { cls := 18, slots := #[.int 1, .ref 33, .int 0, .int 0, .int 0, .int 0], vm := .none },
  { cls := 18, slots := #[.int 1, .ref 34, .int 0, .int 0, .int 0, .int 0], vm := .none },
  { cls := 18, slots := #[.int 1, .ref 35, .int 0, .int 0, .int 0, .int 0], vm := .none },
  { cls := 18, slots := #[.int 1, .ref 36, .int 0, .int 0, .int 0, .int 0], vm := .none },
  { cls := 18, slots := #[.int 1, .ref 37, .int 0, .int 0, .int 0, .int 0], vm := .none },
  { cls := 23, slots := #[], vm := .none },
  { cls := 23, slots := #[.int 1], vm := .none },
  { cls := 23, slots := #[.int 2], vm := .none },
  { cls := 23, slots := #[.int 3], vm := .none },
  { cls := 23, slots := #[.int 4], vm := .none },
  { cls := 23, slots := #[.int 5], vm := .none },
  { cls := 23, slots := #[.int 6], vm := .none },
  { cls := 23, slots := #[.int 7], vm := .none },
  { cls := 23, slots := #[.int 8], vm := .none },
  { cls := 23, slots := #[.int 9], vm := .none },
  { cls := 23, slots := #[.int 10], vm := .none }]
def classes : Array Class := #[k0, k1, k2, k3, k4, k5, k6, k7, k8, k9, k10, k11, k12, k13, k14, k15, k16, k17, k18, k19, k20, k21, k22, k23, k24, k25]
def interned : List (Array UInt16 × Addr) := []
def slotsUsed : Nat := 220
def theMethod : MethodId := ⟨1, 1⟩
def args0 : Array Value := #[.int 5, .int 3]
def aboutOver (below : List Frame) : State where
  vm := { classes := classes, interned := interned.toArray }
  heap := heap
  slotsUsed := slotsUsed
  threads := #[{ frames := .invoking theMethod args0 :: below }]
def below0 : List Frame := [.native { method := ⟨0, 0⟩, args := #[] }]
def about1 : State := aboutOver below0
def p0 : Program := .bare "" "" ""
def e0 : Env := launch0.env 0 0 0
theorem w_frames : about1.frames = Frame.invoking theMethod args0 :: below0 := rfl
set_option maxRecDepth 65536 in
theorem w_args : argsFit about1.vm theMethod args0 = true := by decide +kernel
set_option maxRecDepth 65536 in
theorem w_heap : heapFits about1 = true := by decide +kernel
set_option maxRecDepth 65536 in
theorem w_runnable : about1.curStatus? = some .runnable := by decide +kernel
set_option maxRecDepth 65536 in
theorem w_alone : about1.alone = true := by decide +kernel
set_option maxRecDepth 65536 in
theorem w_named : about1.methodNamed? x = some theMethod := by decide +kernel
set_option maxRecDepth 65536 in
theorem w_hears : about1.hears theMethod below0 = true := by decide +kernel
set_option maxRecDepth 65536 in
theorem w_ripe : about1.ripe theMethod args0 below0 = true := by decide +kernel
theorem w_running : about1.status = .running := rfl
set_option maxRecDepth 65536 in
theorem w_room : about1.hasRoom e0.platform room_1 = true :=
  launch0.hasRoom_least _ room_1 (by decide +kernel) (by decide +kernel) (by decide +kernel) (by decide +kernel) (by decide +kernel) (by decide +kernel)
theorem allAtoms_all (ts : List Jvm.Cond) (a : Array Jvm.Value) (st : Jvm.State) : (allAtoms ts).before a st = ts.all (fun c => c.before a st) := by
  induction ts with
  | nil => rfl
  | cons c t ih =>
    show (Jvm.Cond.and c (allAtoms t)).before a st = _
    rw [Jvm.Cond.before_and, ih, List.all_cons]
def words1 : List Jvm.Cond := Jvm.Cond.code x code maxLocals ret :: tables_1
/-- a 'code' word, met by the world's own term for the bytes: nothing is compared byte by byte -/
theorem code_word {y : MethodName} {bytes : ByteArray} {mx : Nat} {rt : Option FieldType} {a : Array Value} {s : State} {m : MethodId} {meth : Method} {c : Code} (h1 : s.methodNamed? y = some m) (h2 : s.vm.method? m = some meth) (h3 : meth.code = some c) (h4 : c.code = bytes)
    (h5 : (c.maxLocals == mx && c.exceptionTable.isEmpty && decide (c.maxStack ≤ mostOperands) && decide (meth.sig.returnType = rt) && !meth.locks && decide (parseMethodDescriptor y.desc = some meth.sig)) = true) : (Jvm.Cond.code y bytes mx rt).before a s = true := by
  simp only [Bool.and_eq_true, beq_iff_eq, Bool.not_eq_true', decide_eq_true_eq] at h5
  obtain ⟨⟨⟨⟨⟨g1, g2⟩, g3⟩, g4⟩, g5⟩, g6⟩ := h5
  simp [Cond.before, Cond.holds, Cond.value, h1, h2, h3, h4, g1, g2, g3, g4, g5, g6]
def isCode : Jvm.Cond → Bool
  | .code _ _ _ _ => true
  | _ => false
theorem all_split {L : List Jvm.Cond} {P : Jvm.Cond → Bool} (h1 : L.all (fun c => isCode c || P c) = true) (h2 : ∀ c ∈ L.filter isCode, P c = true) : L.all P = true := by
  refine List.all_eq_true.mpr fun c hc => ?_
  have h := List.all_eq_true.mp h1 c hc
  rcases Bool.eq_false_or_eq_true (isCode c) with hi | hi
  · exact h2 c (List.mem_filter.mpr ⟨hc, hi⟩)
  · simpa [hi] using h
set_option maxRecDepth 65536 in
theorem w_c0 : (Jvm.Cond.code x code maxLocals ret).before args0 about1 = true := code_word (m := ⟨1, 1⟩) (meth := k1m1) (c := k1c1) (by decide +kernel) rfl rfl rfl (by decide +kernel)
set_option maxRecDepth 65536 in
theorem w_c1 : (Jvm.Cond.code ({ cls := "com/example/slackline/slackline/Precedence", name := "chain", desc := "(I)Lcom/example/slackline/slackline/Precedence;" } : Jvm.MethodName) prog_10_method_2_code (4 : Nat) (Option.some (Jvm.ClassFile.FieldType.object "com/example/slackline/slackline/Precedence"))).before args0 about1 = true := code_word (m := ⟨2, 1⟩) (meth := k2m1) (c := k2c1) (by decide +kernel) rfl rfl rfl (by decide +kernel)
set_option maxRecDepth 65536 in
theorem w_c2 : (Jvm.Cond.code ({ cls := "com/example/slackline/slackline/Precedence", name := "<init>", desc := "([I[[I)V" } : Jvm.MethodName) prog_10_method_1_code (8 : Nat) (Option.none : Option Jvm.ClassFile.FieldType)).before args0 about1 = true := code_word (m := ⟨2, 0⟩) (meth := k2m0) (c := k2c0) (by decide +kernel) rfl rfl rfl (by decide +kernel)
set_option maxRecDepth 65536 in
theorem w_c3 : (Jvm.Cond.code ({ cls := "java/lang/Object", name := "<init>", desc := "()V" } : Jvm.MethodName) object_method_1_code (1 : Nat) (Option.none : Option Jvm.ClassFile.FieldType)).before args0 about1 = true := code_word (m := ⟨0, 0⟩) (meth := k0m0) (c := k0c0) (by decide +kernel) rfl rfl rfl (by decide +kernel)
set_option maxRecDepth 65536 in
theorem w_c4 : (Jvm.Cond.code ({ cls := "java/util/Collections", name := "nCopies", desc := "(ILjava/lang/Object;)Ljava/util/List;" } : Jvm.MethodName) jdk_79_method_76_code (2 : Nat) (Option.some (Jvm.ClassFile.FieldType.object "java/util/List"))).before args0 about1 = true := code_word (m := ⟨7, 1⟩) (meth := k7m1) (c := k7c1) (by decide +kernel) rfl rfl rfl (by decide +kernel)
set_option maxRecDepth 65536 in
theorem w_c5 : (Jvm.Cond.code ({ cls := "java/util/Collections$CopiesList", name := "<init>", desc := "(ILjava/lang/Object;)V" } : Jvm.MethodName) jdk_2479_method_1_code (3 : Nat) (Option.none : Option Jvm.ClassFile.FieldType)).before args0 about1 = true := code_word (m := ⟨15, 0⟩) (meth := k15m0) (c := k15c0) (by decide +kernel) rfl rfl rfl (by decide +kernel)
set_option maxRecDepth 65536 in
theorem w_c6 : (Jvm.Cond.code ({ cls := "java/util/AbstractList", name := "<init>", desc := "()V" } : Jvm.MethodName) jdk_39_method_1_code (1 : Nat) (Option.none : Option Jvm.ClassFile.FieldType)).before args0 about1 = true := code_word (m := ⟨13, 0⟩) (meth := k13m0) (c := k13c0) (by decide +kernel) rfl rfl rfl (by decide +kernel)
set_option maxRecDepth 65536 in
theorem w_c7 : (Jvm.Cond.code ({ cls := "java/util/AbstractCollection", name := "<init>", desc := "()V" } : Jvm.MethodName) jdk_22_method_1_code (1 : Nat) (Option.none : Option Jvm.ClassFile.FieldType)).before args0 about1 = true := code_word (m := ⟨10, 0⟩) (meth := k10m0) (c := k10c0) (by decide +kernel) rfl rfl rfl (by decide +kernel)
set_option maxRecDepth 65536 in
theorem w_c8 : (Jvm.Cond.code ({ cls := "com/example/slackline/slackline/Precedence", name := "length", desc := "(Ljava/util/List;)Ljava/math/BigDecimal;" } : Jvm.MethodName) prog_10_method_12_code (5 : Nat) (Option.some (Jvm.ClassFile.FieldType.object "java/math/BigDecimal"))).before args0 about1 = true := code_word (m := ⟨2, 7⟩) (meth := k2m7) (c := k2c7) (by decide +kernel) rfl rfl rfl (by decide +kernel)
set_option maxRecDepth 65536 in
theorem w_c9 : (Jvm.Cond.code ({ cls := "com/example/slackline/slackline/Precedence", name := "starts", desc := "(Ljava/util/List;)[Ljava/math/BigDecimal;" } : Jvm.MethodName) prog_10_method_15_code (9 : Nat) (Option.some (Jvm.ClassFile.FieldType.array (Jvm.ClassFile.FieldType.object "java/math/BigDecimal")))).before args0 about1 = true := code_word (m := ⟨2, 8⟩) (meth := k2m8) (c := k2c8) (by decide +kernel) rfl rfl rfl (by decide +kernel)
set_option maxRecDepth 65536 in
theorem w_c10 : (Jvm.Cond.code ({ cls := "java/math/BigDecimal", name := "valueOf", desc := "(J)Ljava/math/BigDecimal;" } : Jvm.MethodName) jdk_17_method_21_code (2 : Nat) (Option.some (Jvm.ClassFile.FieldType.object "java/math/BigDecimal"))).before args0 about1 = true := code_word (m := ⟨6, 2⟩) (meth := k6m2) (c := k6c2) (by decide +kernel) rfl rfl rfl (by decide +kernel)
set_option maxRecDepth 65536 in
theorem w_c11 : (Jvm.Cond.code ({ cls := "java/math/BigDecimal", name := "compareTo", desc := "(Ljava/math/BigDecimal;)I" } : Jvm.MethodName) jdk_17_method_70_code (6 : Nat) (Option.some Jvm.ClassFile.FieldType.int)).before args0 about1 = true := code_word (m := ⟨6, 4⟩) (meth := k6m4) (c := k6c4) (by decide +kernel) rfl rfl rfl (by decide +kernel)
set_option maxRecDepth 65536 in
theorem w_c12 : (Jvm.Cond.code ({ cls := "com/example/slackline/slackline/Precedence", name := "getTaskCount", desc := "()I" } : Jvm.MethodName) prog_10_method_3_code (1 : Nat) (Option.some Jvm.ClassFile.FieldType.int)).before args0 about1 = true := code_word (m := ⟨2, 2⟩) (meth := k2m2) (c := k2c2) (by decide +kernel) rfl rfl rfl (by decide +kernel)
set_option maxRecDepth 65536 in
theorem w_c13 : (Jvm.Cond.code ({ cls := "com/example/slackline/slackline/Precedence", name := "isChain", desc := "()Z" } : Jvm.MethodName) prog_10_method_5_code (1 : Nat) (Option.some Jvm.ClassFile.FieldType.boolean)).before args0 about1 = true := code_word (m := ⟨2, 3⟩) (meth := k2m3) (c := k2c3) (by decide +kernel) rfl rfl rfl (by decide +kernel)
set_option maxRecDepth 65536 in
theorem w_c14 : (Jvm.Cond.code ({ cls := "com/example/slackline/slackline/Precedence", name := "nodes", desc := "()[I" } : Jvm.MethodName) prog_10_method_9_code (3 : Nat) (Option.some (Jvm.ClassFile.FieldType.array Jvm.ClassFile.FieldType.int))).before args0 about1 = true := code_word (m := ⟨2, 6⟩) (meth := k2m6) (c := k2c6) (by decide +kernel) rfl rfl rfl (by decide +kernel)
set_option maxRecDepth 65536 in
theorem w_c15 : (Jvm.Cond.code ({ cls := "com/example/slackline/slackline/Precedence", name := "time", desc := "(ILjava/util/List;)Ljava/math/BigDecimal;" } : Jvm.MethodName) prog_10_method_16_code (3 : Nat) (Option.some (Jvm.ClassFile.FieldType.object "java/math/BigDecimal"))).before args0 about1 = true := code_word (m := ⟨2, 9⟩) (meth := k2m9) (c := k2c9) (by decide +kernel) rfl rfl rfl (by decide +kernel)
set_option maxRecDepth 65536 in
theorem w_c16 : (Jvm.Cond.code ({ cls := "java/util/Collections$CopiesList", name := "get", desc := "(I)Ljava/lang/Object;" } : Jvm.MethodName) jdk_2479_method_6_code (2 : Nat) (Option.some (Jvm.ClassFile.FieldType.object "java/lang/Object"))).before args0 about1 = true := code_word (m := ⟨15, 1⟩) (meth := k15m1) (c := k15c1) (by decide +kernel) rfl rfl rfl (by decide +kernel)
set_option maxRecDepth 65536 in
theorem w_c17 : (Jvm.Cond.code ({ cls := "java/util/Objects", name := "checkIndex", desc := "(II)I" } : Jvm.MethodName) jdk_31_method_17_code (2 : Nat) (Option.some Jvm.ClassFile.FieldType.int)).before args0 about1 = true := code_word (m := ⟨16, 1⟩) (meth := k16m1) (c := k16c1) (by decide +kernel) rfl rfl rfl (by decide +kernel)
set_option maxRecDepth 65536 in
theorem w_c18 : (Jvm.Cond.code ({ cls := "jdk/internal/util/Preconditions", name := "checkIndex", desc := "(IILjava/util/function/BiFunction;)I" } : Jvm.MethodName) jdk_41_method_11_code (3 : Nat) (Option.some Jvm.ClassFile.FieldType.int)).before args0 about1 = true := code_word (m := ⟨17, 1⟩) (meth := k17m1) (c := k17c1) (by decide +kernel) rfl rfl rfl (by decide +kernel)
set_option maxRecDepth 65536 in
theorem w_c19 : (Jvm.Cond.code ({ cls := "java/math/BigDecimal", name := "add", desc := "(Ljava/math/BigDecimal;)Ljava/math/BigDecimal;" } : Jvm.MethodName) jdk_17_method_26_code (2 : Nat) (Option.some (Jvm.ClassFile.FieldType.object "java/math/BigDecimal"))).before args0 about1 = true := code_word (m := ⟨6, 3⟩) (meth := k6m3) (c := k6c3) (by decide +kernel) rfl rfl rfl (by decide +kernel)
set_option maxRecDepth 65536 in
theorem w_c20 : (Jvm.Cond.code ({ cls := "java/math/BigDecimal", name := "add", desc := "(JIJI)Ljava/math/BigDecimal;" } : Jvm.MethodName) jdk_17_method_134_code (12 : Nat) (Option.some (Jvm.ClassFile.FieldType.object "java/math/BigDecimal"))).before args0 about1 = true := code_word (m := ⟨6, 8⟩) (meth := k6m8) (c := k6c8) (by decide +kernel) rfl rfl rfl (by decide +kernel)
set_option maxRecDepth 65536 in
theorem w_c21 : (Jvm.Cond.code ({ cls := "java/math/BigDecimal", name := "add", desc := "(JJI)Ljava/math/BigDecimal;" } : Jvm.MethodName) jdk_17_method_133_code (7 : Nat) (Option.some (Jvm.ClassFile.FieldType.object "java/math/BigDecimal"))).before args0 about1 = true := code_word (m := ⟨6, 7⟩) (meth := k6m7) (c := k6c7) (by decide +kernel) rfl rfl rfl (by decide +kernel)
set_option maxRecDepth 65536 in
theorem w_c22 : (Jvm.Cond.code ({ cls := "java/math/BigDecimal", name := "add", desc := "(JJ)J" } : Jvm.MethodName) jdk_17_method_132_code (6 : Nat) (Option.some Jvm.ClassFile.FieldType.long)).before args0 about1 = true := code_word (m := ⟨6, 6⟩) (meth := k6m6) (c := k6c6) (by decide +kernel) rfl rfl rfl (by decide +kernel)
set_option maxRecDepth 65536 in
theorem w_c23 : (Jvm.Cond.code ({ cls := "java/math/BigDecimal", name := "valueOf", desc := "(JI)Ljava/math/BigDecimal;" } : Jvm.MethodName) jdk_17_method_20_code (3 : Nat) (Option.some (Jvm.ClassFile.FieldType.object "java/math/BigDecimal"))).before args0 about1 = true := code_word (m := ⟨6, 1⟩) (meth := k6m1) (c := k6c1) (by decide +kernel) rfl rfl rfl (by decide +kernel)
set_option maxRecDepth 65536 in
theorem w_c24 : (Jvm.Cond.code ({ cls := "java/math/BigDecimal", name := "max", desc := "(Ljava/math/BigDecimal;)Ljava/math/BigDecimal;" } : Jvm.MethodName) jdk_17_method_74_code (2 : Nat) (Option.some (Jvm.ClassFile.FieldType.object "java/math/BigDecimal"))).before args0 about1 = true := code_word (m := ⟨6, 5⟩) (meth := k6m5) (c := k6c5) (by decide +kernel) rfl rfl rfl (by decide +kernel)
set_option maxRecDepth 65536 in
theorem w_c25 : (Jvm.Cond.code ({ cls := "java/math/BigDecimal", name := "<init>", desc := "(Ljava/math/BigInteger;JII)V" } : Jvm.MethodName) jdk_17_method_1_code (6 : Nat) (Option.none : Option Jvm.ClassFile.FieldType)).before args0 about1 = true := code_word (m := ⟨6, 0⟩) (meth := k6m0) (c := k6c0) (by decide +kernel) rfl rfl rfl (by decide +kernel)
set_option maxRecDepth 65536 in
theorem w_c26 : (Jvm.Cond.code ({ cls := "java/lang/Number", name := "<init>", desc := "()V" } : Jvm.MethodName) jdk_18_method_1_code (1 : Nat) (Option.none : Option Jvm.ClassFile.FieldType)).before args0 about1 = true := code_word (m := ⟨4, 0⟩) (meth := k4m0) (c := k4c0) (by decide +kernel) rfl rfl rfl (by decide +kernel)
set_option maxRecDepth 65536 in
theorem w_c27 : (Jvm.Cond.code ({ cls := "com/example/slackline/slackline/Precedence", name := "taskAt", desc := "(I)I" } : Jvm.MethodName) prog_10_method_7_code (2 : Nat) (Option.some Jvm.ClassFile.FieldType.int)).before args0 about1 = true := code_word (m := ⟨2, 4⟩) (meth := k2m4) (c := k2c4) (by decide +kernel) rfl rfl rfl (by decide +kernel)
set_option maxRecDepth 65536 in
theorem w_c28 : (Jvm.Cond.code ({ cls := "com/example/slackline/slackline/Precedence", name := "before", desc := "(I)[I" } : Jvm.MethodName) prog_10_method_8_code (2 : Nat) (Option.some (Jvm.ClassFile.FieldType.array Jvm.ClassFile.FieldType.int))).before args0 about1 = true := code_word (m := ⟨2, 5⟩) (meth := k2m5) (c := k2c5) (by decide +kernel) rfl rfl rfl (by decide +kernel)
def codes1 : List Jvm.Cond := [Jvm.Cond.code x code maxLocals ret, Jvm.Cond.code ({ cls := "com/example/slackline/slackline/Precedence", name := "chain", desc := "(I)Lcom/example/slackline/slackline/Precedence;" } : Jvm.MethodName) prog_10_method_2_code (4 : Nat) (Option.some (Jvm.ClassFile.FieldType.object "com/example/slackline/slackline/Precedence")), Jvm.Cond.code ({ cls := "com/example/slackline/slackline/Precedence", name := "<init>", desc := "([I[[I)V" } : Jvm.MethodName) prog_10_method_1_code (8 : Nat) (Option.none : Option Jvm.ClassFile.FieldType), Jvm.Cond.code ({ cls := "java/lang/Object", name := "<init>", desc := "()V" } : Jvm.MethodName) object_method_1_code (1 : Nat) (Option.none : Option Jvm.ClassFile.FieldType), Jvm.Cond.code ({ cls := "java/util/Collections", name := "nCopies", desc := "(ILjava/lang/Object;)Ljava/util/List;" } : Jvm.MethodName) jdk_79_method_76_code (2 : Nat) (Option.some (Jvm.ClassFile.FieldType.object "java/util/List")), Jvm.Cond.code ({ cls := "java/util/Collections$CopiesList", name := "<init>", desc := "(ILjava/lang/Object;)V" } : Jvm.MethodName) jdk_2479_method_1_code (3 : Nat) (Option.none : Option Jvm.ClassFile.FieldType), Jvm.Cond.code ({ cls := "java/util/AbstractList", name := "<init>", desc := "()V" } : Jvm.MethodName) jdk_39_method_1_code (1 : Nat) (Option.none : Option Jvm.ClassFile.FieldType), Jvm.Cond.code ({ cls := "java/util/AbstractCollection", name := "<init>", desc := "()V" } : Jvm.MethodName) jdk_22_method_1_code (1 : Nat) (Option.none : Option Jvm.ClassFile.FieldType), Jvm.Cond.code ({ cls := "com/example/slackline/slackline/Precedence", name := "length", desc := "(Ljava/util/List;)Ljava/math/BigDecimal;" } : Jvm.MethodName) prog_10_method_12_code (5 : Nat) (Option.some (Jvm.ClassFile.FieldType.object "java/math/BigDecimal")), Jvm.Cond.code ({ cls := "com/example/slackline/slackline/Precedence", name := "starts", desc := "(Ljava/util/List;)[Ljava/math/BigDecimal;" } : Jvm.MethodName) prog_10_method_15_code (9 : Nat) (Option.some (Jvm.ClassFile.FieldType.array (Jvm.ClassFile.FieldType.object "java/math/BigDecimal"))), Jvm.Cond.code ({ cls := "java/math/BigDecimal", name := "valueOf", desc := "(J)Ljava/math/BigDecimal;" } : Jvm.MethodName) jdk_17_method_21_code (2 : Nat) (Option.some (Jvm.ClassFile.FieldType.object "java/math/BigDecimal")), Jvm.Cond.code ({ cls := "java/math/BigDecimal", name := "compareTo", desc := "(Ljava/math/BigDecimal;)I" } : Jvm.MethodName) jdk_17_method_70_code (6 : Nat) (Option.some Jvm.ClassFile.FieldType.int), Jvm.Cond.code ({ cls := "com/example/slackline/slackline/Precedence", name := "getTaskCount", desc := "()I" } : Jvm.MethodName) prog_10_method_3_code (1 : Nat) (Option.some Jvm.ClassFile.FieldType.int), Jvm.Cond.code ({ cls := "com/example/slackline/slackline/Precedence", name := "isChain", desc := "()Z" } : Jvm.MethodName) prog_10_method_5_code (1 : Nat) (Option.some Jvm.ClassFile.FieldType.boolean), Jvm.Cond.code ({ cls := "com/example/slackline/slackline/Precedence", name := "nodes", desc := "()[I" } : Jvm.MethodName) prog_10_method_9_code (3 : Nat) (Option.some (Jvm.ClassFile.FieldType.array Jvm.ClassFile.FieldType.int)), Jvm.Cond.code ({ cls := "com/example/slackline/slackline/Precedence", name := "time", desc := "(ILjava/util/List;)Ljava/math/BigDecimal;" } : Jvm.MethodName) prog_10_method_16_code (3 : Nat) (Option.some (Jvm.ClassFile.FieldType.object "java/math/BigDecimal")), Jvm.Cond.code ({ cls := "java/util/Collections$CopiesList", name := "get", desc := "(I)Ljava/lang/Object;" } : Jvm.MethodName) jdk_2479_method_6_code (2 : Nat) (Option.some (Jvm.ClassFile.FieldType.object "java/lang/Object")), Jvm.Cond.code ({ cls := "java/util/Objects", name := "checkIndex", desc := "(II)I" } : Jvm.MethodName) jdk_31_method_17_code (2 : Nat) (Option.some Jvm.ClassFile.FieldType.int), Jvm.Cond.code ({ cls := "jdk/internal/util/Preconditions", name := "checkIndex", desc := "(IILjava/util/function/BiFunction;)I" } : Jvm.MethodName) jdk_41_method_11_code (3 : Nat) (Option.some Jvm.ClassFile.FieldType.int), Jvm.Cond.code ({ cls := "java/math/BigDecimal", name := "add", desc := "(Ljava/math/BigDecimal;)Ljava/math/BigDecimal;" } : Jvm.MethodName) jdk_17_method_26_code (2 : Nat) (Option.some (Jvm.ClassFile.FieldType.object "java/math/BigDecimal")), Jvm.Cond.code ({ cls := "java/math/BigDecimal", name := "add", desc := "(JIJI)Ljava/math/BigDecimal;" } : Jvm.MethodName) jdk_17_method_134_code (12 : Nat) (Option.some (Jvm.ClassFile.FieldType.object "java/math/BigDecimal")), Jvm.Cond.code ({ cls := "java/math/BigDecimal", name := "add", desc := "(JJI)Ljava/math/BigDecimal;" } : Jvm.MethodName) jdk_17_method_133_code (7 : Nat) (Option.some (Jvm.ClassFile.FieldType.object "java/math/BigDecimal")), Jvm.Cond.code ({ cls := "java/math/BigDecimal", name := "add", desc := "(JJ)J" } : Jvm.MethodName) jdk_17_method_132_code (6 : Nat) (Option.some Jvm.ClassFile.FieldType.long), Jvm.Cond.code ({ cls := "java/math/BigDecimal", name := "valueOf", desc := "(JI)Ljava/math/BigDecimal;" } : Jvm.MethodName) jdk_17_method_20_code (3 : Nat) (Option.some (Jvm.ClassFile.FieldType.object "java/math/BigDecimal")), Jvm.Cond.code ({ cls := "java/math/BigDecimal", name := "max", desc := "(Ljava/math/BigDecimal;)Ljava/math/BigDecimal;" } : Jvm.MethodName) jdk_17_method_74_code (2 : Nat) (Option.some (Jvm.ClassFile.FieldType.object "java/math/BigDecimal")), Jvm.Cond.code ({ cls := "java/math/BigDecimal", name := "<init>", desc := "(Ljava/math/BigInteger;JII)V" } : Jvm.MethodName) jdk_17_method_1_code (6 : Nat) (Option.none : Option Jvm.ClassFile.FieldType), Jvm.Cond.code ({ cls := "java/lang/Number", name := "<init>", desc := "()V" } : Jvm.MethodName) jdk_18_method_1_code (1 : Nat) (Option.none : Option Jvm.ClassFile.FieldType), Jvm.Cond.code ({ cls := "com/example/slackline/slackline/Precedence", name := "taskAt", desc := "(I)I" } : Jvm.MethodName) prog_10_method_7_code (2 : Nat) (Option.some Jvm.ClassFile.FieldType.int), Jvm.Cond.code ({ cls := "com/example/slackline/slackline/Precedence", name := "before", desc := "(I)[I" } : Jvm.MethodName) prog_10_method_8_code (2 : Nat) (Option.some (Jvm.ClassFile.FieldType.array Jvm.ClassFile.FieldType.int))]
set_option maxRecDepth 65536 in
theorem codes_eq : words1.filter isCode = codes1 := rfl
theorem w_codes : ∀ c ∈ words1.filter isCode, c.before args0 about1 = true := by
  rw [codes_eq]
  intro c hc
  simp only [codes1, List.mem_cons, List.not_mem_nil, or_false] at hc
  rcases hc with rfl | rfl | rfl | rfl | rfl | rfl | rfl | rfl | rfl | rfl | rfl | rfl | rfl | rfl | rfl | rfl | rfl | rfl | rfl | rfl | rfl | rfl | rfl | rfl | rfl | rfl | rfl | rfl | rfl
  · exact w_c0
  · exact w_c1
  · exact w_c2
  · exact w_c3
  · exact w_c4
  · exact w_c5
  · exact w_c6
  · exact w_c7
  · exact w_c8
  · exact w_c9
  · exact w_c10
  · exact w_c11
  · exact w_c12
  · exact w_c13
  · exact w_c14
  · exact w_c15
  · exact w_c16
  · exact w_c17
  · exact w_c18
  · exact w_c19
  · exact w_c20
  · exact w_c21
  · exact w_c22
  · exact w_c23
  · exact w_c24
  · exact w_c25
  · exact w_c26
  · exact w_c27
  · exact w_c28
set_option maxRecDepth 65536 in
theorem w_t1 : (words1.take 24).all (fun c => isCode c || c.before args0 about1) = true := by decide +kernel
set_option maxRecDepth 65536 in
theorem w_t2 : ((words1.drop 24).take 24).all (fun c => isCode c || c.before args0 about1) = true := by decide +kernel
set_option maxRecDepth 65536 in
theorem w_t3 : (((words1.drop 24).drop 24).take 24).all (fun c => isCode c || c.before args0 about1) = true := by decide +kernel
set_option maxRecDepth 65536 in
theorem w_t4 : ((((words1.drop 24).drop 24).drop 24).take 24).all (fun c => isCode c || c.before args0 about1) = true := by decide +kernel
set_option maxRecDepth 65536 in
theorem w_t5 : (((((words1.drop 24).drop 24).drop 24).drop 24).take 24).all (fun c => isCode c || c.before args0 about1) = true := by decide +kernel
set_option maxRecDepth 65536 in
theorem w_t6 : ((((((words1.drop 24).drop 24).drop 24).drop 24).drop 24).take 24).all (fun c => isCode c || c.before args0 about1) = true := by decide +kernel
set_option maxRecDepth 65536 in
theorem w_t7 : (((((((words1.drop 24).drop 24).drop 24).drop 24).drop 24).drop 24).take 24).all (fun c => isCode c || c.before args0 about1) = true := by decide +kernel
set_option maxRecDepth 65536 in
theorem w_t8 : (((((((words1.drop 24).drop 24).drop 24).drop 24).drop 24).drop 24).drop 24).all (fun c => isCode c || c.before args0 about1) = true := by decide +kernel
theorem w_tables : (allAtoms (Jvm.Cond.code x code maxLocals ret :: tables_1)).before args0 about1 = true := by
  rw [allAtoms_all]
  show words1.all (fun c => c.before args0 about1) = true
  refine all_split ?_ w_codes
  rw [← List.take_append_drop 24 words1, List.all_append, w_t1, ← List.take_append_drop 24 (words1.drop 24), List.all_append, w_t2, ← List.take_append_drop 24 ((words1.drop 24).drop 24), List.all_append, w_t3, ← List.take_append_drop 24 (((words1.drop 24).drop 24).drop 24), List.all_append, w_t4, ← List.take_append_drop 24 ((((words1.drop 24).drop 24).drop 24).drop 24), List.all_append, w_t5, ← List.take_append_drop 24 (((((words1.drop 24).drop 24).drop 24).drop 24).drop 24), List.all_append, w_t6, ← List.take_append_drop 24 ((((((words1.drop 24).drop 24).drop 24).drop 24).drop 24).drop 24), List.all_append, w_t7, w_t8]
  rfl
set_option maxRecDepth 65536 in
theorem w_rest : rest_1_c.before args0 about1 = true := by decide +kernel
set_option maxRecDepth 65536 in
theorem w_case : (Jvm.Cond.and given_1 narrow_1).before args0 about1 = true := by decide +kernel
theorem w_applies : (headSpec (Jvm.Cond.code x code maxLocals ret :: tables_1) room_1).applies x e0.platform about1 = true :=
  (Spec.applies_iff w_frames).mpr ⟨w_running, w_runnable, w_alone, w_named, w_hears, w_ripe, w_room, w_tables⟩
theorem atStart : AtStart classFile x code maxLocals ret World_1 tables_1 room_1 Calls_1 rest_1 Pre_1 launch0 p0 e0 about1 theMethod args0 below0 :=
  ⟨lists_1, trivial, launch0.admits_env _ _ _, launch0.least_env, fairChoices_fair.cas, fairChoices_fair.clock, w_frames, w_args, w_heap, w_applies, trivial, w_rest, w_case⟩
end start1
theorem witness_1 : WitnessClaimed_1 := ⟨start1.p0, start1.e0, start1.about1, start1.theMethod, start1.args0, start1.below0, start1.atStart⟩
end Jvm.Pilot.@@N@@
