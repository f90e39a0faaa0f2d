import JvmDerived
import JvmDerived.Pilot.@@N@@Statement
import JvmDerived.Pilot.@@N@@Code
set_option linter.unusedVariables false
set_option linter.unusedSimpArgs false
@@BLOCK:NumsL.lean.txt@@
/- laws to paste: Road.wide_lo, Road.wide_hi, pair_says, shr1, shr0, lo8_mask, chr8_lo8, lo8_inj, Road.low_at (cut by pick.py; bodies as the Statement names them) -/
namespace Jvm.Pilot.@@N@@
namespace StrChars
open Jvm Sem ClassFile Op Lib Jvm.Stand Jvm.Free.XT Jvm.Free.ALB Jvm.Free.JM Jvm.Free
open Jvm.Lib.Cold (StaticIs)
/-- the byte that i2b leaves of a char -/
def lo8 (x : Int32) : Int32 := x.toInt8.toInt32
/-- the byte, read back as charAt reads it, is the char -/
theorem lo8_mask {x : Int32} (h0 : ¬ x < 0) (h1 : ¬ 255 < x) : lo8 x &&& 255 = x := by
 have t : ∀ k : Fin 256, lo8 (Int32.ofNat k.val) &&& 255 = Int32.ofNat k.val := by decide +kernel
 rw [Int32.lt_iff_toInt_lt] at h0 h1
 have e0 : (0 : Int32).toInt = 0 := rfl
 have e1 : (255 : Int32).toInt = 255 := rfl
 obtain ⟨k, hk⟩ : ∃ k : Nat, x.toInt = k := ⟨x.toInt.toNat, by omega⟩
 have hx : x = Int32.ofNat k := Int32.toInt_inj.mp (by rw [hk, Int32.toInt_ofNat_small (by omega)])
 rw [hx]
 exact t ⟨k, by omega⟩
end StrChars
namespace StrChars
open Jvm Sem ClassFile Op Lib Jvm.Stand Jvm.Free.XT Jvm.Free.ALB Jvm.Free.JM Jvm.Free
open Jvm.Lib.Cold (StaticIs)
def hi8 (x : Int32) : Int32 := lo8 (x >>> ((8 : Int32) &&& 31))
/-- what StringUTF16.getChar makes of two bytes -/
def pairCh (u v : Int32) : Int32 := (((u &&& 255) <<< ((0 : Int32) &&& 31)) ||| ((v &&& 255) <<< ((8 : Int32) &&& 31))).toUInt32.toUInt16.toUInt32.toInt32
theorem shr0 (c : Int32) : c >>> ((0 : Int32) &&& 31) = c := by
 have e : ((0 : Int32) &&& 31) = 0 := by decide
 rw [e]
 apply Int32.toBitVec_inj.mp
 rw [Int32.toBitVec_shiftRight]
 have e1 : ((0 : Int32).toBitVec.smod 32) = 0#32 := by decide
 rw [e1, BitVec.sshiftRight_eq']
 exact BitVec.sshiftRight_zero
theorem lo8_and (x : Int32) : (lo8 x &&& 255).toBitVec.toNat = x.toBitVec.toNat % 256 := by
 have h : (lo8 x).toBitVec = (x.toBitVec.signExtend 8).signExtend 32 := by rw [lo8, Int8.toBitVec_toInt32, Int32.toBitVec_toInt8]
 rw [Int32.toBitVec_and, BitVec.toNat_and, h]
 have e : ((x.toBitVec.signExtend 8).signExtend 32).toNat % 256 = x.toBitVec.toNat % 256 := by
   rw [BitVec.toNat_signExtend]
   have hlt := x.toBitVec.isLt
   simp only [BitVec.toNat_setWidth, BitVec.toNat_signExtend]
   split <;> split <;> omega
 rw [← e]
 exact Nat.and_two_pow_sub_one_eq_mod _ 8
theorem pair_says {c : Int32} (h0 : ¬ c < 0) (h1 : ¬ 65535 < c) : pairCh (lo8 c) (hi8 c) = c := by
 rw [Int32.lt_iff_toInt_lt] at h0 h1
 have e0 : (0 : Int32).toInt = 0 := rfl
 have e1 : (65535 : Int32).toInt = 65535 := rfl
 have hc : c.toInt = c.toBitVec.toNat := by
   have := c.toBitVec.isLt
   have e : c.toInt = c.toBitVec.toInt := rfl
   rw [e] at h0 h1
   rw [e]
   rw [BitVec.toInt_eq_toNat_cond] at h0 h1 ⊢
   split at h0 <;> split <;> omega
 have hn : c.toBitVec.toNat < 65536 := by omega
 have a1 := lo8_and c
 have a2 : (hi8 c &&& 255).toBitVec.toNat = c.toBitVec.toNat / 256 := by
   rw [hi8, lo8_and]
   have e : ((8 : Int32) &&& 31) = 8 := by decide
   rw [e, Int32.toBitVec_shiftRight]
   have e2 : ((8 : Int32).toBitVec.smod 32) = 8#32 := by decide
   rw [e2, BitVec.sshiftRight_eq', BitVec.toNat_sshiftRight_of_msb_false (by rw [BitVec.msb_eq_false_iff_two_mul_lt]; omega)]
   show c.toBitVec.toNat >>> 8 % 256 = _
   rw [Nat.shiftRight_eq_div_pow]
   omega
 unfold pairCh
 apply Int32.toBitVec_inj.mp
 apply BitVec.eq_of_toNat_eq
 have f0 : ((0 : Int32) &&& 31) = 0 := by decide
 have f8 : ((8 : Int32) &&& 31) = 8 := by decide
 rw [f0, f8]
 have g : (((lo8 c &&& 255) <<< (0 : Int32)) ||| ((hi8 c &&& 255) <<< (8 : Int32))).toBitVec.toNat = c.toBitVec.toNat := by
   rw [Int32.toBitVec_or, Int32.toBitVec_shiftLeft, Int32.toBitVec_shiftLeft]
   have s0 : ((0 : Int32).toBitVec.smod 32) = 0#32 := by decide
   have s8 : ((8 : Int32).toBitVec.smod 32) = 8#32 := by decide
   rw [s0, s8, BitVec.toNat_or]
   simp only [BitVec.shiftLeft_eq', BitVec.toNat_shiftLeft, a1, a2]
   show (c.toBitVec.toNat % 256) <<< 0 % 2 ^ 32 ||| (c.toBitVec.toNat / 256) <<< 8 % 2 ^ 32 = _
   rw [Nat.shiftLeft_zero, Nat.mod_eq_of_lt (show c.toBitVec.toNat % 256 < 2 ^ 32 by omega), Nat.mod_eq_of_lt (show (c.toBitVec.toNat / 256) <<< 8 < 2 ^ 32 by rw [Nat.shiftLeft_eq]; omega), Nat.or_comm, ← Nat.shiftLeft_add_eq_or_of_lt (by omega), Nat.shiftLeft_eq]
   omega
 show BitVec.toNat (((((lo8 c &&& 255) <<< (0 : Int32)) ||| ((hi8 c &&& 255) <<< (8 : Int32))).toBitVec.setWidth 16).setWidth 32) = _
 rw [BitVec.toNat_setWidth, BitVec.toNat_setWidth, g]
 omega
end StrChars
namespace StrChars
open Jvm Sem ClassFile Op Lib Jvm.Stand Jvm.Free.XT Jvm.Free.ALB Jvm.Free.JM Jvm.Free
open Jvm.Lib.Cold (StaticIs)
theorem shr1 {n : Nat} (h : 2 * n < 2 ^ 31) : Int32.ofNat (2 * n) >>> ((1 : Int32) &&& 31) = Int32.ofNat n := by
 have e : ((1 : Int32) &&& 31) = 1 := by decide
 rw [e]
 apply Int32.toBitVec_inj.mp
 rw [Int32.toBitVec_shiftRight]
 have e1 : ((1 : Int32).toBitVec.smod 32) = 1#32 := by decide
 have hm : (BitVec.ofNat 32 (2 * n)).toNat = 2 * n := by rw [BitVec.toNat_ofNat, Nat.mod_eq_of_lt (by omega)]
 rw [e1, BitVec.sshiftRight_eq']
 apply BitVec.eq_of_toNat_eq
 show ((BitVec.ofNat 32 (2 * n)).sshiftRight 1).toNat = (BitVec.ofNat 32 n).toNat
 rw [BitVec.toNat_sshiftRight_of_msb_false (by rw [BitVec.msb_eq_false_iff_two_mul_lt, hm]; omega), hm, BitVec.toNat_ofNat, Nat.shiftRight_eq_div_pow]
 omega
/-- charAt's cast of a byte read back -/
def chr8 (u : Int32) : Int32 := (u &&& 255).toUInt32.toUInt16.toUInt32.toInt32
theorem chr8_lo8 {c : Int32} (h0 : ¬ c < 0) (h1 : ¬ 255 < c) : chr8 (lo8 c) = c := by
 have t : ∀ k : Fin 256, (Int32.ofNat k.val).toUInt32.toUInt16.toUInt32.toInt32 = Int32.ofNat k.val := by decide +kernel
 unfold chr8
 rw [lo8_mask h0 h1]
 rw [Int32.lt_iff_toInt_lt] at h0 h1
 have e0 : (0 : Int32).toInt = 0 := rfl
 have e1 : (255 : Int32).toInt = 255 := rfl
 obtain ⟨k, hk⟩ : ∃ k : Nat, c.toInt = k := ⟨c.toInt.toNat, by omega⟩
 have hx : c = Int32.ofNat k := Int32.toInt_inj.mp (by rw [hk, Int32.toInt_ofNat_small (by omega)])
 rw [hx]
 exact t ⟨k, by omega⟩
end StrChars
namespace StrChars.Road
open Jvm Sem ClassFile Op Lib Jvm.Stand Jvm.Free Jvm.Free.XT
open Jvm.Lib.Cold (StaticIs)
/-- the bytes of the chars cs, low before high -/
def wideBytes : List Int32 → List Value
 | [] => []
 | c :: cs => .int (lo8 c) :: .int (hi8 c) :: wideBytes cs
theorem wide_lo (d : Value) : ∀ (cs : List Int32) (j : Nat), j < cs.length → (wideBytes cs).getD (2 * j) d = .int (lo8 (cs.getD j 0))
 | [], j, h => absurd h (Nat.not_lt_zero j)
 | c :: cs, 0, _ => rfl
 | c :: cs, j + 1, h => by
   have q := wide_lo d cs j (by simpa using h)
   rw [show 2 * (j + 1) = 2 * j + 1 + 1 from by omega]
   simpa [wideBytes] using q
theorem wide_hi (d : Value) : ∀ (cs : List Int32) (j : Nat), j < cs.length → (wideBytes cs).getD (2 * j + 1) d = .int (hi8 (cs.getD j 0))
 | [], j, h => absurd h (Nat.not_lt_zero j)
 | c :: cs, 0, _ => rfl
 | c :: cs, j + 1, h => by
   have q := wide_hi d cs j (by simpa using h)
   rw [show 2 * (j + 1) + 1 = 2 * j + 1 + 1 + 1 from by omega]
   simpa [wideBytes] using q
theorem low_at (d : Value) (cs : List Int32) (j : Nat) (h : j < cs.length) : (cs.map fun c => Value.int (lo8 c)).getD j d = .int (lo8 (cs.getD j 0)) := by
 simp [List.getD_eq_getElem?_getD, h]
end StrChars.Road
namespace StrChars
open Jvm Sem ClassFile Op Lib Jvm.Stand Jvm.Free.XT Jvm.Free.ALB Jvm.Free.JM Jvm.Free
open Jvm.Lib.Cold (StaticIs)
theorem lo8_inj {x y : Int32} (h0 : ¬ x < 0) (h1 : ¬ 255 < x) (k0 : ¬ y < 0) (k1 : ¬ 255 < y) (h : lo8 x = lo8 y) : x = y := by
 rw [← lo8_mask h0 h1, ← lo8_mask k0 k1, h]
end StrChars
end Jvm.Pilot.@@N@@
namespace Jvm.Pilot.@@N@@
open Jvm Jvm.ClassFile Sem Op Lib Jvm.Free Jvm.Stand Jvm.LawKit Jvm.RoadKit Bundle Jvm.Pilot.@@N@@.Jvm.D
/-! general: a run that comes to its end with what Q says -/
def own_G (tb : Tables) (e : Env) (below : List Frame) (S : State) (s : State) (C N : Nat) (Q : Option Value → Heap → List Loc → Prop) : Prop :=
 ∃ t o, Steps tb e below S t ∧ t.status = .running ∧ Ended t below o ∧ ∃ v L, o = .returned v ∧ Q v t.heap L ∧ FrameEnd s o t L C N
def own_P (n0 : Nat) (h0 : Heap) (w : Option Value) (v : Option Value) (h : Heap) (L : List Loc) : Prop := v = w ∧ Fr n0 L ∧ h = h0
section Own
variable {tb : Tables} {p : Program} {l : Launch} {e : Env} {R : Room} {s : State} {m : MethodId} {args : Array Value} {below : List Frame} {meth : Method} {c : Code} {T S S' : State} {locs : List Loc} {cells slots C N n0 : Nat} {h0 : Heap} {Q : Option Value → Heap → List Loc → Prop}
theorem own_go (h : ∀ t, Steps tb e below S' t → Steps tb e below S t) (k : own_G tb e below S' s C N Q) : own_G tb e below S s C N Q := by
 obtain ⟨t, o, a, b⟩ := k
 exact ⟨t, o, h t a, b⟩
theorem own_tr (h : Steps tb e below S S') (k : own_G tb e below S' s C N Q) : own_G tb e below S s C N Q := by
 obtain ⟨t, o, a, b⟩ := k
 exact ⟨t, o, h.trans a, b⟩
theorem own_itI {P : Prop} [Decidable P] {A B : Int32} (h : P) (k : own_G tb e below S s C N (own_P n0 h0 (some (.int A)))) : own_G tb e below S s C N (own_P n0 h0 (some (.int (if P then A else B)))) := by rw [if_pos h]; exact k
theorem own_ifI {P : Prop} [Decidable P] {A B : Int32} (h : ¬ P) (k : own_G tb e below S s C N (own_P n0 h0 (some (.int B)))) : own_G tb e below S s C N (own_P n0 h0 (some (.int (if P then A else B)))) := by rw [if_neg h]; exact k
theorem own_itJ {P : Prop} [Decidable P] {A B : Int64} (h : P) (k : own_G tb e below S s C N (own_P n0 h0 (some (.long A)))) : own_G tb e below S s C N (own_P n0 h0 (some (.long (if P then A else B)))) := by rw [if_pos h]; exact k
theorem own_ifJ {P : Prop} [Decidable P] {A B : Int64} (h : ¬ P) (k : own_G tb e below S s C N (own_P n0 h0 (some (.long B)))) : own_G tb e below S s C N (own_P n0 h0 (some (.long (if P then A else B)))) := by rw [if_neg h]; exact k
theorem own_endO {w : Value} {t : FieldType} {i : Instr} (X : Stand p l e R s m args below meth c T locs cells slots) (hx : p.tables.exec = Jvm.exec) (hlk : meth.locks = false) {pc : Nat} {Ls : Array Slot} {rest : List Value} (hret : meth.sig.returnType = some t) (hn : narrow t w = w)
   (hi : (i = .ireturn ∧ (t = .int ∨ t = .boolean ∨ t = .byte ∨ t = .char ∨ t = .short) ∧ ∃ z, w = .int z) ∨ (i = .lreturn ∧ t = .long ∧ ∃ z, w = .long z) ∨ (i = .dreturn ∧ t = .double ∧ ∃ z, w = .double z) ∨ (i = .freturn ∧ t = .float ∧ ∃ z, w = .float z) ∨ (i = .areturn ∧ t.isReference = true ∧ w.isRef = true))
   (hd : decode c.code pc = .ok (i, 1)) (hC : cells ≤ C) (hN : slots ≤ N) (hQ : Q (some w) T.heap locs) : own_G p.tables e below (T.setTop (mkF m pc Ls (w :: rest))) s C N Q := by
 obtain ⟨fs, hr, hrun, hended, hW, hsame⟩ := X.leave (v := some w) (fun h => by rw [hret] at h; cases h) hlk
 exact ⟨_, _, retOut X hx hret hn hi hd hr, hrun, hended, _, _, rfl, hQ, ⟨_, rfl⟩, hW, hsame.mono hC hN⟩
theorem own_endI {z : Int32} (X : Stand p l e R s m args below meth c T locs cells slots) (hx : p.tables.exec = Jvm.exec) (hlk : meth.locks = false) {pc : Nat} {Ls : Array Slot} {rest : List Value} (hret : meth.sig.returnType = some .int)
   (hd : decode c.code pc = .ok (.ireturn, 1)) (hC : cells ≤ C) (hN : slots ≤ N) (hQ : Q (some (.int z)) T.heap locs) : own_G p.tables e below (T.setTop (mkF m pc Ls (.int z :: rest))) s C N Q :=
 own_endO X hx hlk hret rfl (Or.inl ⟨rfl, Or.inl rfl, z, rfl⟩) hd hC hN hQ
theorem own_endJ {z : Int64} (X : Stand p l e R s m args below meth c T locs cells slots) (hx : p.tables.exec = Jvm.exec) (hlk : meth.locks = false) {pc : Nat} {Ls : Array Slot} {rest : List Value} (hret : meth.sig.returnType = some .long)
   (hd : decode c.code pc = .ok (.lreturn, 1)) (hC : cells ≤ C) (hN : slots ≤ N) (hQ : Q (some (.long z)) T.heap locs) : own_G p.tables e below (T.setTop (mkF m pc Ls (.long z :: rest))) s C N Q :=
 own_endO X hx hlk hret rfl (Or.inr (Or.inl ⟨rfl, rfl, z, rfl⟩)) hd hC hN hQ
theorem own_endR {w : Value} {t : FieldType} (X : Stand p l e R s m args below meth c T locs cells slots) (hx : p.tables.exec = Jvm.exec) (hlk : meth.locks = false) {pc : Nat} {Ls : Array Slot} {rest : List Value} (hret : meth.sig.returnType = some t) (hn : narrow t w = w) (ht : t.isReference = true) (hw : w.isRef = true)
   (hd : decode c.code pc = .ok (.areturn, 1)) (hC : cells ≤ C) (hN : slots ≤ N) (hQ : Q (some w) T.heap locs) : own_G p.tables e below (T.setTop (mkF m pc Ls (w :: rest))) s C N Q :=
 own_endO X hx hlk hret hn (Or.inr (Or.inr (Or.inr (Or.inr ⟨rfl, ht, hw⟩)))) hd hC hN hQ
theorem own_endN {z : Int32} {t : FieldType} (X : Stand p l e R s m args below meth c T locs cells slots) (hx : p.tables.exec = Jvm.exec) (hlk : meth.locks = false) {pc : Nat} {Ls : Array Slot} {rest : List Value} (hret : meth.sig.returnType = some t) (ht : t = .boolean ∨ t = .byte ∨ t = .char ∨ t = .short)
   (hd : decode c.code pc = .ok (.ireturn, 1)) (hC : cells ≤ C) (hN : slots ≤ N) (hQ : Q (some (.int (nar t z))) T.heap locs) : own_G p.tables e below (T.setTop (mkF m pc Ls (.int z :: rest))) s C N Q := by
 obtain ⟨fs, hr, hrun, hended, hW, hsame⟩ := X.leave (v := some (.int (nar t z))) (fun h => by rw [hret] at h; cases h) hlk
 exact ⟨_, _, retN X hx hret ht hd hr, hrun, hended, _, _, rfl, hQ, ⟨_, rfl⟩, hW, hsame.mono hC hN⟩
theorem own_endV (X : Stand p l e R s m args below meth c T locs cells slots) (hx : p.tables.exec = Jvm.exec) (hlk : meth.locks = false) {pc : Nat} {Ls : Array Slot} (hret : meth.sig.returnType = none)
   (hd : decode c.code pc = .ok (.return_, 1)) (hC : cells ≤ C) (hN : slots ≤ N) (hQ : Q none T.heap locs) : own_G p.tables e below (T.setTop (mkF m pc Ls [])) s C N Q := by
 obtain ⟨fs, hr, hrun, hended, hW, hsame⟩ := X.leave (v := none) (fun _ => rfl) hlk
 exact ⟨_, _, X.returnOut hx hret hd hr, hrun, hended, _, _, rfl, hQ, ⟨_, rfl⟩, hW, hsame.mono hC hN⟩
end Own
section OwnW
variable {tb : Tables} {p : Program} {l : Launch} {e : Env} {R : Room} {s Z : State} {EL : List (String × Nat)} {vm0 : Vm} {m : MethodId} {args : Array Value} {below : List Frame} {meth : Method} {c : Code} {T S S' : State} {locs : List Loc} {cells slots C N n0 k0 : Nat} {h0 : Heap} {Q : Option Value → Heap → List Loc → Prop}
/-- the same for a run that may load a literal -/
def own_GW (tb : Tables) (e : Env) (below : List Frame) (S : State) (s : State) (C N : Nat) (Z : State) (EL : List (String × Nat)) (Q : Option Value → Heap → List Loc → Prop) : Prop :=
 ∃ t o, Steps tb e below S t ∧ t.status = .running ∧ Ended t below o ∧ ∃ v L, o = .returned v ∧ Q v t.heap L ∧ CHr Z EL s.vm s.heap t.vm t.heap ∧ ReturnedEndW s o t L C N
theorem own_goW (h : ∀ t, Steps tb e below S' t → Steps tb e below S t) (k : own_GW tb e below S' s C N Z EL Q) : own_GW tb e below S s C N Z EL Q := by
 obtain ⟨t, o, a, b⟩ := k
 exact ⟨t, o, h t a, b⟩
theorem own_trW (h : Steps tb e below S S') (k : own_GW tb e below S' s C N Z EL Q) : own_GW tb e below S s C N Z EL Q := by
 obtain ⟨t, o, a, b⟩ := k
 exact ⟨t, o, h.trans a, b⟩
theorem own_monoW {o : Outcome} {t : State} {L : List Loc} {k n k' n' : Nat} (h : ReturnedEndW s o t L k n) (hk : k ≤ k') (hn : n ≤ n') : ReturnedEndW s o t L k' n' := ⟨h.1, h.2.1, h.2.2.1, h.2.2.2.mono hk hn⟩
theorem own_endWO {w : Value} {t : FieldType} {i : Instr} (X : Stand p l e R (s.setVm vm0) m args below meth c T locs cells slots) (hx : p.tables.exec = Jvm.exec) (hlk : meth.locks = false) {pc : Nat} {Ls : Array Slot} {rest : List Value} (hret : meth.sig.returnType = some t) (hn : narrow t w = w)
   (hi : (i = .ireturn ∧ (t = .int ∨ t = .boolean ∨ t = .byte ∨ t = .char ∨ t = .short) ∧ ∃ z, w = .int z) ∨ (i = .lreturn ∧ t = .long ∧ ∃ z, w = .long z) ∨ (i = .dreturn ∧ t = .double ∧ ∃ z, w = .double z) ∨ (i = .freturn ∧ t = .float ∧ ∃ z, w = .float z) ∨ (i = .areturn ∧ t.isReference = true ∧ w.isRef = true))
   (hd : decode c.code pc = .ok (i, 1)) (hS : s.Since vm0 k0) (hk : k0 ≤ T.heap.size) (hC : cells ≤ C) (hN : slots ≤ N) (hR : CHr Z EL s.vm s.heap T.vm T.heap) (hQ : Q (some w) T.heap locs) : own_GW p.tables e below (T.setTop (mkF m pc Ls (w :: rest))) s C N Z EL Q := by
 obtain ⟨fs, hr, hrun, hended, hW⟩ := X.leaveW hS hk (v := some w) (fun h => by rw [hret] at h; cases h) hlk
 exact ⟨_, _, retOut X hx hret hn hi hd hr, hrun, hended, _, _, rfl, hQ, hR, own_monoW hW hC hN⟩
theorem own_endWN {z : Int32} {t : FieldType} (X : Stand p l e R (s.setVm vm0) m args below meth c T locs cells slots) (hx : p.tables.exec = Jvm.exec) (hlk : meth.locks = false) {pc : Nat} {Ls : Array Slot} {rest : List Value} (hret : meth.sig.returnType = some t) (ht : t = .boolean ∨ t = .byte ∨ t = .char ∨ t = .short)
   (hd : decode c.code pc = .ok (.ireturn, 1)) (hS : s.Since vm0 k0) (hk : k0 ≤ T.heap.size) (hC : cells ≤ C) (hN : slots ≤ N) (hR : CHr Z EL s.vm s.heap T.vm T.heap) (hQ : Q (some (.int (nar t z))) T.heap locs) : own_GW p.tables e below (T.setTop (mkF m pc Ls (.int z :: rest))) s C N Z EL Q := by
 obtain ⟨fs, hr, hrun, hended, hW⟩ := X.leaveW hS hk (v := some (.int (nar t z))) (fun h => by rw [hret] at h; cases h) hlk
 exact ⟨_, _, retN X hx hret ht hd hr, hrun, hended, _, _, rfl, hQ, hR, own_monoW hW hC hN⟩
theorem own_endWV (X : Stand p l e R (s.setVm vm0) m args below meth c T locs cells slots) (hx : p.tables.exec = Jvm.exec) (hlk : meth.locks = false) {pc : Nat} {Ls : Array Slot} (hret : meth.sig.returnType = none)
   (hd : decode c.code pc = .ok (.return_, 1)) (hS : s.Since vm0 k0) (hk : k0 ≤ T.heap.size) (hC : cells ≤ C) (hN : slots ≤ N) (hR : CHr Z EL s.vm s.heap T.vm T.heap) (hQ : Q none T.heap locs) : own_GW p.tables e below (T.setTop (mkF m pc Ls [])) s C N Z EL Q := by
 obtain ⟨fs, hr, hrun, hended, hW⟩ := X.leaveW hS hk (v := none) (fun _ => rfl) hlk
 exact ⟨_, _, X.returnOut hx hret hd hr, hrun, hended, _, _, rfl, hQ, hR, own_monoW hW hC hN⟩
end OwnW

abbrev own_M (l : Launch) (Z : State) (y : MethodName) (b : ByteArray) (ml : Nat) (rt : Option FieldType) (ws : List Jvm.Cond) (R : Room) (A : Array Value) (h0 : Heap) (Q : Option Value → Heap → List Loc → Prop) : Prop :=
 MetFree l y (head1 (Jvm.Cond.code y b ml rt :: ws) R) (fun a U => a = A ∧ Z.Warmed39 U.vm ∧ U.heap = h0) (fun _ _ _ _ _ => True) (fun _ U o U' => ∃ v L, o = .returned v ∧ Q v U'.heap L ∧ FrameEnd U o U' L R.cells R.slots)
theorem own_body {l : Launch} {Z : State} {y : MethodName} {b : ByteArray} {ml : Nat} {rt : Option FieldType} {ws : List Jvm.Cond} {R : Room} {A : Array Value} {h0 : Heap} {Q : Option Value → Heap → List Loc → Prop} {C : String} (hC : y.cls = C) (pl : plainFor y = true)
   (k : ∀ (p : Program) (e : Env) (s : State) (m : MethodId) (below : List Frame) (meth : Method) (c : Code) (s₁ : State), BodyLoose p l y (head1 (Jvm.Cond.code y b ml rt :: ws) R) b ml rt e s m A below meth c s₁ → p.tables.exec = Jvm.exec → c.code = b → c.maxLocals = ml → s.vm.findClass C = some m.cls → meth.locks = false → Z.Warmed39 s.vm → Stand p l e R s m A below meth c s₁ [] 0 0 → s₁.heap = h0 → own_G p.tables e below (s₁.setTop (entryFrame m A ml)) s R.cells R.slots Q) : own_M l Z y b ml rt ws R A h0 Q := by
 refine MetFree.of_bodySF pl hisR ?_
 intro p e s m args below meth c s₁ Bd hml0 hP hK
 obtain ⟨rfl, hZ, hh⟩ := hP
 exact k p e s m below meth c s₁ Bd Bd.exec Bd.bytes hml0 (by rw [← hC]; exact findClass_of_methodNamed Bd.named) (BodyLoose.notSynchronized Bd) hZ (Stand.of_body Bd) (by rw [← hh, Bd.state]; rfl)
abbrev own_d (b : ByteArray) (pc : Nat) (i : Instr) (n : Nat) : Prop := decode b pc = .ok (i, n)
theorem own_r0 (n : Nat) : 2 * 0 + n ≤ n := by omega
theorem own_h {Z : State} {a0 : Array Value} (hw : ∀ d ∈ tables_1, d.before a0 Z = true) (i : Nat) {d : Jvm.Cond} (e : tables_1[i]? = some d) : d.before a0 Z = true := hw _ (List.mem_of_getElem? e)

set_option maxRecDepth 65536
set_option maxHeartbeats 40000000
abbrev Y1 : MethodName := ⟨"jdk/internal/util/Preconditions", "checkIndex", "(IILjava/util/function/BiFunction;)I"⟩
abbrev Y2 : MethodName := ⟨"java/lang/String", "checkIndex", "(II)V"⟩
abbrev Y3 : MethodName := ⟨"jdk/internal/util/Preconditions", "checkFromToIndex", "(IIILjava/util/function/BiFunction;)I"⟩
abbrev Y4 : MethodName := ⟨"java/lang/String", "checkBoundsBeginEnd", "(III)V"⟩
abbrev Y5 : MethodName := ⟨"jdk/internal/util/Preconditions", "checkFromIndexSize", "(IIILjava/util/function/BiFunction;)I"⟩
abbrev Y6 : MethodName := ⟨"java/lang/String", "checkBoundsOffCount", "(III)I"⟩
abbrev Y7 : MethodName := ⟨"java/lang/StringUTF16", "length", "([B)I"⟩
abbrev Y8 : MethodName := ⟨"java/lang/StringUTF16", "putChar", "([BII)V"⟩
abbrev Y9 : MethodName := ⟨"java/lang/StringUTF16", "getChar", "([BI)C"⟩
abbrev Y10 : MethodName := ⟨"java/lang/StringUTF16", "checkIndex", "(I[B)V"⟩
abbrev Y11 : MethodName := ⟨"java/lang/StringUTF16", "charAt", "([BI)C"⟩
abbrev Y12 : MethodName := ⟨"java/lang/StringLatin1", "charAt", "([BI)C"⟩
abbrev Y13 : MethodName := ⟨"java/lang/String", "isLatin1", "()Z"⟩
abbrev Y14 : MethodName := ⟨"java/lang/String", "coder", "()B"⟩
abbrev Y15 : MethodName := ⟨"java/lang/String", "length", "()I"⟩
abbrev Y16 : MethodName := ⟨"java/lang/String", "charAt", "(I)C"⟩
abbrev Y17 : MethodName := ⟨"java/lang/Math", "max", "(II)I"⟩
abbrev Y18 : MethodName := ⟨"java/lang/Math", "min", "(II)I"⟩
abbrev Y19 : MethodName := ⟨"java/lang/StringLatin1", "canEncode", "(I)Z"⟩
abbrev Y20 : MethodName := ⟨"java/lang/StringLatin1", "indexOfChar", "([BIII)I"⟩
abbrev Y21 : MethodName := ⟨"java/lang/StringLatin1", "indexOf", "([BIII)I"⟩
abbrev Y22 : MethodName := ⟨"java/lang/StringUTF16", "checkBoundsBeginEnd", "(II[B)V"⟩
abbrev Y23 : MethodName := ⟨"java/lang/StringUTF16", "indexOfCharUnsafe", "([BIII)I"⟩
abbrev Y24 : MethodName := ⟨"java/lang/StringUTF16", "indexOfChar", "([BIII)I"⟩
abbrev Y25 : MethodName := ⟨"java/lang/StringUTF16", "indexOf", "([BIII)I"⟩
abbrev Y26 : MethodName := ⟨"java/lang/String", "indexOf", "(II)I"⟩
abbrev Y27 : MethodName := ⟨"java/lang/String", "indexOf", "(I)I"⟩
abbrev Y28 : MethodName := ⟨"java/lang/StringUTF16", "newBytesLength", "(I)I"⟩
abbrev Y29 : MethodName := ⟨"java/lang/StringUTF16", "newBytesFor", "(I)[B"⟩
abbrev Y30 : MethodName := ⟨"java/lang/StringUTF16", "toBytes", "([CII)[B"⟩
abbrev Y31 : MethodName := ⟨"java/lang/StringUTF16", "compress", "([CI[BII)I"⟩
abbrev Y32 : MethodName := ⟨"java/lang/StringUTF16", "compress", "([CII)[B"⟩
abbrev Y33 : MethodName := ⟨"java/lang/StringUTF16", "coderFromArrayLen", "([BI)B"⟩
abbrev Y34 : MethodName := ⟨"java/lang/String", "<init>", "([CIILjava/lang/Void;)V"⟩
abbrev Y35 : MethodName := ⟨"java/lang/String", "<init>", "([C)V"⟩
abbrev Y36 : MethodName := ⟨"java/lang/AbstractStringBuilder", "<init>", "(I)V"⟩
abbrev Y37 : MethodName := ⟨"java/lang/StringBuilder", "<init>", "(I)V"⟩
abbrev Y38 : MethodName := ⟨"java/lang/AbstractStringBuilder", "isLatin1", "()Z"⟩
abbrev Y39 : MethodName := ⟨"java/lang/StringLatin1", "canEncode", "(C)Z"⟩
abbrev Y40 : MethodName := ⟨"java/lang/String", "value", "()[B"⟩
abbrev Y41 : MethodName := ⟨"java/lang/AbstractStringBuilder", "getValue", "()[B"⟩
abbrev Y42 : MethodName := ⟨"java/lang/AbstractStringBuilder", "length", "()I"⟩
abbrev Y43 : MethodName := ⟨"java/lang/StringBuilder", "length", "()I"⟩
abbrev Y44 : MethodName := ⟨"java/lang/AbstractStringBuilder", "ensureCapacityInternal", "(I)V"⟩
abbrev Y45 : MethodName := ⟨"java/lang/StringUTF16", "checkBoundsOffCount", "(II[B)V"⟩
abbrev Y46 : MethodName := ⟨"java/lang/StringUTF16", "inflate", "([BI[BII)V"⟩
abbrev Y47 : MethodName := ⟨"java/lang/StringLatin1", "inflate", "([BI[BII)V"⟩
abbrev Y48 : MethodName := ⟨"java/lang/AbstractStringBuilder", "inflate", "()V"⟩
abbrev Y49 : MethodName := ⟨"java/lang/StringUTF16", "putCharSB", "([BII)V"⟩
abbrev Y50 : MethodName := ⟨"java/lang/AbstractStringBuilder", "append", "(C)Ljava/lang/AbstractStringBuilder;"⟩
abbrev Y51 : MethodName := ⟨"java/lang/StringBuilder", "append", "(C)Ljava/lang/StringBuilder;"⟩
abbrev Y52 : MethodName := ⟨"java/lang/AbstractStringBuilder", "appendChars", "(Ljava/lang/String;II)V"⟩
abbrev Y53 : MethodName := ⟨"java/lang/AbstractStringBuilder", "append", "(Ljava/lang/CharSequence;II)Ljava/lang/AbstractStringBuilder;"⟩
abbrev Y54 : MethodName := ⟨"java/lang/CharSequence", "length", "()I"⟩
abbrev Y55 : MethodName := ⟨"java/lang/StringBuilder", "append", "(Ljava/lang/CharSequence;II)Ljava/lang/StringBuilder;"⟩
abbrev Y56 : MethodName := ⟨"java/util/Arrays", "checkLength", "(II)V"⟩
abbrev Y57 : MethodName := ⟨"java/util/Arrays", "copyOfRangeByte", "([BII)[B"⟩
abbrev Y58 : MethodName := ⟨"java/util/Arrays", "copyOfRange", "([BII)[B"⟩
abbrev Y59 : MethodName := ⟨"java/lang/String", "<init>", "(Ljava/lang/AbstractStringBuilder;Ljava/lang/Void;)V"⟩
abbrev Y60 : MethodName := ⟨"java/lang/String", "<init>", "(Ljava/lang/StringBuilder;)V"⟩
abbrev Y61 : MethodName := ⟨"java/lang/StringBuilder", "toString", "()Ljava/lang/String;"⟩
abbrev Y62 : MethodName := ⟨"com/example/amid2/amid2/PercentEncoding", "hexDigit", "(C)I"⟩
abbrev Y63 : MethodName := ⟨"com/example/amid2/amid2/PercentEncoding", "isUnreserved", "(C)Z"⟩
abbrev Y64 : MethodName := ⟨"com/example/amid2/amid2/PercentEncodingDecodeUnreservedPinLaw", "hex", "(C)I"⟩
abbrev Y65 : MethodName := ⟨"com/example/amid2/amid2/PercentEncodingDecodeUnreservedPinLaw", "unreserved", "(I)Z"⟩
abbrev Y66 : MethodName := ⟨"com/example/amid2/amid2/PercentEncoding", "octetAt", "(Ljava/lang/String;I)I"⟩
abbrev Y67 : MethodName := ⟨"com/example/amid2/amid2/PercentEncoding", "decodeUnreserved", "(Ljava/lang/String;)Ljava/lang/String;"⟩
abbrev Y68 : MethodName := ⟨"com/example/amid2/amid2/PercentEncodingDecodeUnreservedPinLaw", "draw", "(I)C"⟩
abbrev Y69 : MethodName := ⟨"com/example/amid2/amid2/PercentEncodingDecodeUnreservedPinLaw", "make", "([CI)Ljava/lang/String;"⟩
abbrev Y70 : MethodName := ⟨"com/example/amid2/amid2/PercentEncodingDecodeUnreservedPinLaw", "dec", "([CII)I"⟩
abbrev Y71 : MethodName := ⟨"com/example/amid2/amid2/PercentEncodingDecodeUnreservedPinLaw", "emit", "([CII[CI)I"⟩
abbrev Y72 : MethodName := ⟨"com/example/amid2/amid2/PercentEncodingDecodeUnreservedPinLaw", "same", "(Ljava/lang/String;[CII)Z"⟩
abbrev B6 : ByteArray := jdk_41_method_11_code
abbrev B5 : ByteArray := jdk_42_method_155_code
abbrev B28 : ByteArray := jdk_41_method_12_code
abbrev B58 : ByteArray := jdk_42_method_158_code
abbrev B67 : ByteArray := jdk_41_method_13_code
abbrev B66 : ByteArray := jdk_42_method_157_code
abbrev B57 : ByteArray := jdk_52_method_6_code
abbrev B52 : ByteArray := jdk_52_method_4_code
abbrev B53 : ByteArray := jdk_52_method_5_code
abbrev B61 : ByteArray := jdk_52_method_91_code
abbrev B60 : ByteArray := jdk_52_method_83_code
abbrev B4 : ByteArray := jdk_43_method_2_code
abbrev B3 : ByteArray := jdk_42_method_154_code
abbrev B18 : ByteArray := jdk_42_method_152_code
abbrev B17 : ByteArray := jdk_42_method_54_code
abbrev B2 : ByteArray := jdk_42_method_56_code
abbrev B21 : ByteArray := jdk_29_method_65_code
abbrev B22 : ByteArray := jdk_29_method_69_code
abbrev B20 : ByteArray := jdk_43_method_4_code
abbrev B23 : ByteArray := jdk_43_method_23_code
abbrev B19 : ByteArray := jdk_43_method_22_code
abbrev B56 : ByteArray := jdk_52_method_93_code
abbrev B59 : ByteArray := jdk_52_method_48_code
abbrev B55 : ByteArray := jdk_52_method_47_code
abbrev B54 : ByteArray := jdk_52_method_40_code
abbrev B16 : ByteArray := jdk_42_method_80_code
abbrev B15 : ByteArray := jdk_42_method_79_code
abbrev B51 : ByteArray := jdk_52_method_3_code
abbrev B50 : ByteArray := jdk_52_method_2_code
abbrev B49 : ByteArray := jdk_52_method_14_code
abbrev B12 : ByteArray := jdk_52_method_21_code
abbrev B11 : ByteArray := jdk_52_method_16_code
abbrev B13 : ByteArray := jdk_52_method_15_code
abbrev B9 : ByteArray := jdk_42_method_149_code
abbrev B8 : ByteArray := jdk_42_method_3_code
abbrev B25 : ByteArray := jdk_68_method_2_code
abbrev B24 : ByteArray := jdk_67_method_2_code
abbrev B31 : ByteArray := jdk_68_method_68_code
abbrev B37 : ByteArray := jdk_43_method_3_code
abbrev B32 : ByteArray := jdk_42_method_153_code
abbrev B41 : ByteArray := jdk_68_method_64_code
abbrev B43 : ByteArray := jdk_68_method_6_code
abbrev B42 : ByteArray := jdk_67_method_93_code
abbrev B29 : ByteArray := jdk_68_method_9_code
abbrev B65 : ByteArray := jdk_52_method_94_code
abbrev B64 : ByteArray := jdk_52_method_86_code
abbrev B63 : ByteArray := jdk_43_method_50_code
abbrev B62 : ByteArray := jdk_68_method_11_code
abbrev B68 : ByteArray := jdk_52_method_71_code
abbrev B36 : ByteArray := jdk_68_method_31_code
abbrev B35 : ByteArray := jdk_67_method_14_code
abbrev B30 : ByteArray := jdk_68_method_75_code
abbrev B27 : ByteArray := jdk_68_method_27_code
abbrev B26 : ByteArray := jdk_67_method_10_code
abbrev B71 : ByteArray := jdk_65_method_131_code
abbrev B70 : ByteArray := jdk_65_method_133_code
abbrev B44 : ByteArray := jdk_65_method_132_code
abbrev B40 : ByteArray := jdk_42_method_150_code
abbrev B39 : ByteArray := jdk_42_method_53_code
abbrev B38 : ByteArray := jdk_67_method_42_code
abbrev B34 : ByteArray := prog_14_method_5_code
abbrev B69 : ByteArray := prog_14_method_2_code
abbrev B47 : ByteArray := method_3_code
abbrev B72 : ByteArray := method_4_code
abbrev B33 : ByteArray := prog_14_method_4_code
abbrev B14 : ByteArray := prog_14_method_3_code
abbrev B1 : ByteArray := method_2_code
abbrev B7 : ByteArray := method_7_code
abbrev B46 : ByteArray := method_5_code
abbrev B45 : ByteArray := method_6_code
abbrev B48 : ByteArray := method_8_code
def own_EL : List (String × Nat) := [("com/example/amid2/amid2/PercentEncodingDecodeUnreservedPinLaw", 7), ("java/lang/String", 7)]
theorem own_EW {Z : State} {a0 : Array Value} (hw : ∀ d ∈ tables_1, d.before a0 Z = true) : EW Z a0 own_EL := (EW.cons (own_h hw 7 rfl) (by decide) (EW.cons (own_h hw 244 rfl) (by decide) EW.nil))
theorem own_wS {Z : State} {a0 : Array Value} (hw : ∀ d ∈ tables_1, d.before a0 Z = true) : ∀ a ∈ Bundle.stringAtoms, a.before a0 Z = true := fun d hd => hw d ((by decide +kernel : ∀ d ∈ Bundle.stringAtoms, d ∈ tables_1) d hd)
/-! the index -/
theorem own_ix (i : Nat) (h : i < 2147483648) : (Int32.ofNat i).toInt = i := by
 exact Int32.toInt_ofNat_of_lt (by omega)
theorem own_cl (i : Nat) (h : i < 2147483648) : (Int32.ofNat i).toNatClampNeg = i := by
 show (Int32.ofNat i).toInt.toNat = i
 rw [own_ix i h]; rfl
theorem own_nn (i : Nat) (h : i < 2147483648) : ¬ Int32.ofNat i < 0 := by
 rw [Int32.lt_iff_toInt_lt, own_ix i h]
 simp only [Int32.reduceToInt]
 omega
theorem own_ltI (i j : Nat) (hi : i < 2147483648) (hj : j < 2147483648) : Int32.ofNat i < Int32.ofNat j ↔ i < j := by
 rw [Int32.lt_iff_toInt_lt, own_ix i hi, own_ix j hj]
 omega
theorem own_eqI (i j : Nat) (hi : i < 2147483648) (hj : j < 2147483648) : Int32.ofNat i = Int32.ofNat j ↔ i = j := by
 rw [← Int32.toInt_inj, own_ix i hi, own_ix j hj]
 omega
theorem own_inc (i : Nat) : Int32.ofNat i + 1 = Int32.ofNat (i + 1) := by
 rw [Int32.ofNat_add]; rfl
theorem own_inb {i n : Nat} (h : i < n) (hn : n < 2147483648) : ¬ Int32.ofNat i < 0 ∧ Int32.ofNat i < Int32.ofNat n := ⟨own_nn i (by omega), (own_ltI i n (by omega) hn).mpr h⟩
abbrev own_lo : Int32 → Int32 := StrChars.lo8
abbrev own_hi : Int32 → Int32 := StrChars.hi8
abbrev own_w : List Int32 → List Value := StrChars.Road.wideBytes
theorem own_shl1 (i : Nat) (h : i ≤ 40) : Int32.ofNat i <<< ((1 : Int32) &&& 31) = Int32.ofNat (2 * i) := (by decide +kernel : ∀ k : Fin 41, Int32.ofNat k.val <<< ((1 : Int32) &&& 31) = Int32.ofNat (2 * k.val)) ⟨i, by omega⟩
theorem own_shr1 (i : Nat) (h : i ≤ 40) : Int32.ofNat (2 * i) >>> ((1 : Int32) &&& 31) = Int32.ofNat i := StrChars.shr1 (by omega)
theorem own_w_len (ds : List Int32) : (own_w ds).length = 2 * ds.length := by
 induction ds with
 | nil => rfl
 | cons c ds ih => show ((own_w ds).length + 1) + 1 = _; rw [ih, List.length_cons]; omega
theorem own_w_app (ds : List Int32) (c : Int32) : own_w (ds ++ [c]) = own_w ds ++ [.int (own_lo c), .int (own_hi c)] := by
 induction ds with
 | nil => rfl
 | cons d ds ih => show Value.int (own_lo d) :: Value.int (own_hi d) :: own_w (ds ++ [c]) = _; rw [ih]; rfl
theorem own_w_pad (ds : List Int32) (i : Nat) : (own_w ds ++ [Value.int 0, Value.int 0]).getD i (.int 0) = (own_w ds).getD i (.int 0) := pad_rep (own_w ds) (.int 0) 2 i
theorem own_w_s1 (ds : List Int32) (j : Nat) (h : ds.length = j) (x : Value) : (own_w ds ++ [Value.int 0, Value.int 0]).set (2 * j) x = own_w ds ++ [x, .int 0] := by
 rw [List.set_append_right _ _ (by rw [own_w_len]; omega), own_w_len, h, Nat.sub_self]; rfl
theorem own_w_s2 (ds : List Int32) (j : Nat) (h : ds.length = j) (x y : Value) : (own_w ds ++ [x, Value.int 0]).set (2 * j + 1) y = own_w ds ++ [x, y] := by
 rw [List.set_append_right _ _ (by rw [own_w_len]; omega), own_w_len, h, Nat.add_sub_cancel_left]; rfl
def own_l1 (ds : List Int32) : List Value := ds.map (fun c => .int (own_lo c))
theorem own_l1_len (ds : List Int32) : (own_l1 ds).length = ds.length := by unfold own_l1; exact List.length_map ..
theorem own_l1_app (ds : List Int32) (c : Int32) : own_l1 (ds ++ [c]) = own_l1 ds ++ [.int (own_lo c)] := by unfold own_l1; rw [List.map_append]; rfl
theorem own_l1_pad (ds : List Int32) (i : Nat) : (own_l1 ds ++ [Value.int 0]).getD i (.int 0) = (own_l1 ds).getD i (.int 0) := pad_rep (own_l1 ds) (.int 0) 1 i
theorem own_l1_s (ds : List Int32) (j : Nat) (h : ds.length = j) (x : Value) : (own_l1 ds ++ [Value.int 0]).set j x = own_l1 ds ++ [x] := by
 rw [List.set_append_right _ _ (by rw [own_l1_len]; omega), own_l1_len, h, Nat.sub_self]; rfl
theorem own_lob (c : Int32) : (c >>> ((0 : Int32) &&& 31)).toInt8.toInt32.toInt8.toInt32 = own_lo c := by
 rw [StrChars.shr0, Int8.toInt8_toInt32]; rfl
theorem own_hib (c : Int32) : (c >>> ((8 : Int32) &&& 31)).toInt8.toInt32.toInt8.toInt32 = own_hi c := by
 rw [Int8.toInt8_toInt32]; rfl
theorem own_nb (c : Int32) : c.toInt8.toInt32.toInt8.toInt32 = own_lo c := by
 rw [Int8.toInt8_toInt32]; rfl
def own_r (c : Int32) : Prop := ¬ c < 0 ∧ ¬ (65535 : Int32) < c
theorem own_pair (c : Int32) (h : own_r c) : (((own_lo c &&& 255) <<< ((0 : Int32) &&& 31)) ||| ((own_hi c &&& 255) <<< ((8 : Int32) &&& 31))).toUInt32.toUInt16.toUInt32.toInt32 = c := StrChars.pair_says h.1 h.2
theorem own_w_lo (ds : List Int32) (j : Nat) (h : j < ds.length) : (own_w ds).getD (2 * j) (.int 0) = .int (own_lo (ds.getD j 0)) := StrChars.Road.wide_lo _ ds j h
theorem own_w_hi (ds : List Int32) (j : Nat) (h : j < ds.length) : (own_w ds).getD (2 * j + 1) (.int 0) = .int (own_hi (ds.getD j 0)) := StrChars.Road.wide_hi _ ds j h
theorem own_rnar (c : Int32) (h : own_r c) : nar .char c = c := by
 obtain ⟨y, hy⟩ : ∃ y : UInt16, c = y.toUInt32.toInt32 := ⟨_, (own_pair c h).symm⟩
 rw [hy]
 show y.toUInt32.toInt32.toUInt32.toUInt16.toUInt32.toInt32 = y.toUInt32.toInt32
 simp
theorem own_nr (z : Int32) : own_r (nar .char z) := by
 have h := fits_nar_char z
 simp only [fits, Bool.and_eq_true, decide_eq_true_eq] at h
 exact ⟨Int32.not_lt.mpr h.1, Int32.not_lt.mpr h.2⟩
theorem own_c8 (c : Int32) (h : own_r c) (h8 : ¬ (255 : Int32) < c) : (own_lo c &&& 255).toUInt32.toUInt16.toUInt32.toInt32 = c := StrChars.chr8_lo8 h.1 h8
theorem own_nb0 : nar .byte (0 : Int32) = 0 := by decide
theorem own_nb1 : nar .byte (1 : Int32) = 1 := by decide
theorem own_irr (x : Int32) : ¬ x < x := Int32.lt_irrefl
/-! lists -/
theorem own_gm (cs : List Int32) (i : Nat) (h : i < cs.length) : cs.getD i 0 ∈ cs := by
 induction cs generalizing i with
 | nil => exact absurd h (Nat.not_lt_zero i)
 | cons c cs ih =>
   cases i with
   | zero => show c ∈ c :: cs; simp
   | succ i => show cs.getD i 0 ∈ c :: cs; exact List.mem_cons_of_mem _ (ih i (Nat.lt_of_succ_lt_succ h))
theorem own_tks (cs : List Int32) (i : Nat) (h : i < cs.length) : cs.take i ++ [cs.getD i 0] = cs.take (i + 1) := by
 induction cs generalizing i with
 | nil => exact absurd h (Nat.not_lt_zero i)
 | cons c cs ih =>
   cases i with
   | zero => rfl
   | succ i => show c :: (cs.take i ++ [cs.getD i 0]) = c :: cs.take (i + 1); rw [ih i (Nat.lt_of_succ_lt_succ h)]
theorem own_tl (cs : List Int32) (i : Nat) (h : i ≤ cs.length) : (cs.take i).length = i := by rw [List.length_take]; omega
theorem own_all (cs : List Int32) (P : Int32 → Prop) (h : ∀ k, k < cs.length → P (cs.getD k 0)) : ∀ c ∈ cs, P c := by
 induction cs with
 | nil => intro c hc; cases hc
 | cons d cs ih =>
   intro c hc
   rcases List.mem_cons.mp hc with q | q
   · rw [q]; exact h 0 (Nat.succ_pos _)
   · exact ih (fun k hk => h (k + 1) (Nat.succ_lt_succ hk)) c q
theorem own_tk {P : Int32 → Prop} {xs : List Int32} (k : Nat) (h : ∀ c ∈ xs, P c) : ∀ c ∈ xs.take k, P c := fun c hc => h c (List.mem_of_mem_take hc)
theorem own_ap {P : Int32 → Prop} {ds : List Int32} {x : Int32} (h : ∀ c ∈ ds, P c) (h0 : P x) : ∀ c ∈ ds ++ [x], P c := fun c hc => by
 rcases List.mem_append.mp hc with q | q
 · exact h c q
 · rw [List.mem_singleton.mp q]; exact h0
def own_ci (cs : List Int32) : List Value := cs.map Value.int
theorem own_ci_len (cs : List Int32) : (own_ci cs).length = cs.length := by unfold own_ci; exact List.length_map ..
theorem own_ci_at (cs : List Int32) (i : Nat) (h : i < cs.length) : (own_ci cs).getD i (.int 0) = .int (cs.getD i 0) := by
 induction cs generalizing i with
 | nil => exact absurd h (Nat.not_lt_zero i)
 | cons c cs ih =>
   cases i with
   | zero => rfl
   | succ i => exact ih i (Nat.lt_of_succ_lt_succ h)
theorem own_ci_app (ds : List Int32) (c : Int32) : own_ci (ds ++ [c]) = own_ci ds ++ [.int c] := by unfold own_ci; rw [List.map_append]; rfl
theorem own_ci_pad (ds : List Int32) (i : Nat) : (own_ci ds ++ [Value.int 0]).getD i (.int 0) = (own_ci ds).getD i (.int 0) := pad_rep (own_ci ds) (.int 0) 1 i
theorem own_ci_s (ds : List Int32) (j : Nat) (h : ds.length = j) (x : Value) : (own_ci ds ++ [Value.int 0]).set j x = own_ci ds ++ [x] := by
 rw [List.set_append_right _ _ (by rw [own_ci_len]; omega), own_ci_len, h, Nat.sub_self]; rfl
/-! the two coders -/
def own_cap (co : Int32) (m : Nat) : Int32 := if co = 0 then Int32.ofNat m else Int32.ofNat (2 * m)
def own_sv (co : Int32) (ds : List Int32) : List Value := if co = 0 then own_l1 ds else own_w ds
def own_OK (co : Int32) (cs : List Int32) : Prop := ((co = 0 ∧ ∀ c ∈ cs, ¬ (255 : Int32) < c) ∨ co = 1) ∧ (∀ c ∈ cs, own_r c) ∧ cs.length ≤ 22
def own_BK (bo : Int32) (ds : List Int32) (m : Nat) : Prop := ((bo = 0 ∧ ∀ c ∈ ds, ¬ (255 : Int32) < c) ∨ bo = 1) ∧ (∀ c ∈ ds, own_r c) ∧ m ≤ 5
section Coders
variable {Z : State} {h : Heap} {t x : Addr} {k : ClassId} {co w : Int32} {m : Nat} {ds : List Int32} {d : Value} {C n ty : String} {v u : Value}
theorem own_ne1 (e : co = 1) : ¬ co = 0 := by rw [e]; decide
theorem own_cap0 (e : co = 0) : own_cap co m = Int32.ofNat m := by rw [own_cap, if_pos e]
theorem own_cap1 (e : co = 1) : own_cap co m = Int32.ofNat (2 * m) := by rw [own_cap, if_neg (own_ne1 e)]
theorem own_sv0 (e : co = 0) : own_sv co ds = own_l1 ds := by rw [own_sv, if_pos e]
theorem own_sv1 (e : co = 1) : own_sv co ds = own_w ds := by rw [own_sv, if_neg (own_ne1 e)]
theorem own_v0 (e : co = 0) (F : Arv Z h t k .byte (own_cap co m) (own_sv co ds) d) : Arv Z h t k .byte (Int32.ofNat m) (own_l1 ds) d := by rw [own_cap0 e, own_sv0 e] at F; exact F
theorem own_v1 (e : co = 1) (F : Arv Z h t k .byte (own_cap co m) (own_sv co ds) d) : Arv Z h t k .byte (Int32.ofNat (2 * m)) (own_w ds) d := by rw [own_cap1 e, own_sv1 e] at F; exact F
theorem own_v0r (e : co = 0) (F : Arv Z h t k .byte (Int32.ofNat m) (own_l1 ds) d) : Arv Z h t k .byte (own_cap co m) (own_sv co ds) d := by rw [own_cap0 e, own_sv0 e]; exact F
theorem own_v1r (e : co = 1) (F : Arv Z h t k .byte (Int32.ofNat (2 * m)) (own_w ds) d) : Arv Z h t k .byte (own_cap co m) (own_sv co ds) d := by rw [own_cap1 e, own_sv1 e]; exact F
theorem own_f (e : co = w) (F : Fld Z h x C n ty (.int co)) : Fld Z h x C n ty (.int w) := by subst e; exact F
theorem own_fr (e : co = w) (F : Fld Z h x C n ty (.int w)) : Fld Z h x C n ty (.int co) := by subst e; exact F
theorem own_fb (e : co = 0 ∨ co = 1) (F : Fld Z h x C n ty (.int (nar .byte co))) : Fld Z h x C n ty (.int co) := by
 rcases e with e | e
 · subst e; rw [own_nb0] at F; exact F
 · subst e; rw [own_nb1] at F; exact F
theorem own_sta (e : v = u) (F : Sta Z h C n ty v) : Sta Z h C n ty u := by subst e; exact F
theorem own_co01 {P : Prop} (h : (co = 0 ∧ P) ∨ co = 1) : co = 0 ∨ co = 1 := h.imp (fun q => q.1) id
end Coders
theorem own_okr {co : Int32} {cs : List Int32} {i : Nat} (h : own_OK co cs) (hi : i < cs.length) : own_r (cs.getD i 0) := h.2.1 _ (own_gm cs i hi)
/-! calls -/
theorem own_selp {s : State} {args : Array Value} {C : String} {y z : MethodName} (hsel : (Cond.selects C z z).before args s = true) (e : y.cls = z.cls) (hpriv : s.PrivateAt y) (hinst : (Cond.instanceMethod y).before args s = true) (hy : y.cls ≠ "java/lang/invoke/MethodHandle" ∧ y.cls ≠ "java/lang/invoke/VarHandle") : (Cond.selects y.cls y y).before args s = true := by
 obtain ⟨c2, r2, m2, q1, q2, q3, q4, kP, hkP, hkPi⟩ := Cond.selects_spec hsel
 exact Jvm.Stand.selects_self_of_private (by rw [e]; exact findClass_of_methodNamed q3) hkP hkPi hpriv hinst hy
theorem own_samem {s : State} {args : Array Value} {C : String} {y z : MethodName} (hsel : (Cond.selects C z z).before args s = true) (e : y.cls = z.cls) (hinst : (Cond.instanceMethod y).before args s = true) (hy : y.cls ≠ "java/lang/invoke/MethodHandle" ∧ y.cls ≠ "java/lang/invoke/VarHandle") : (Cond.sameMethod y.cls y.cls y.name y.desc).before args s = true := by
 obtain ⟨c2, r2, m2, -, -, q3, -, kP, hkP, hkPi⟩ := Cond.selects_spec hsel
 obtain ⟨mk, methM, hnamed, -, -, -⟩ := Cond.instanceMethod_spec hinst
 have hfound : s.methodFound? y.cls y.name y.desc = some mk := State.methodFound?_of_named hnamed hy
 have hc : s.vm.findClass y.cls = some m2.cls := by rw [e]; exact findClass_of_methodNamed q3
 have hn2 : s.methodNamed? ⟨y.cls, y.name, y.desc⟩ = some mk := hnamed
 simp only [Cond.before, Cond.holds, Cond.value, hc, hfound, hn2, hkP]
 simp [hkPi]
theorem own_nf {s : State} {args : Array Value} {C : String} {y z : MethodName} (hsel : (Cond.selects C z z).before args s = true) (e : y.cls = z.cls) : NotFace s y := fun r0 h0 => by
 obtain ⟨c2, r2, m2, -, -, q3, -, kP, hkP, hkPi⟩ := Cond.selects_spec hsel
 have h1 := findClass_of_methodNamed h0
 have h2 := findClass_of_methodNamed q3
 rw [e] at h1
 have h3 : r0.cls = m2.cls := Option.some.inj (h1.symm.trans h2)
 exact ⟨kP, by rw [h3]; exact hkP, hkPi⟩
theorem own_safe0 {Z : State} {EL : List (String × Nat)} {vm : Vm} {h : Heap} {x : Addr} (hal : Z.vm.Alike vm) (E : Exa Z h x "java/lang/String") (F : Fld Z h x "java/lang/String" "value" "[B" .null) : Safe Z EL vm h x := fun B => by
 obtain ⟨p, -, u, a, -, q, -, SF, hy⟩ := B
 rcases hy with hy | hy
 · obtain ⟨cell, cf, k, i, f, h1, h2, -, -, -, -, h7⟩ := F
   have ha : h[q.sa]? = some q.sC := SF.ha
   obtain ⟨cS, ⟨⟨-, -, -, ⟨c1, k1, i1, f1, -⟩, -, -, -, v1, -⟩, -⟩, -⟩ := SF
   obtain ⟨k3, e3, -⟩ := State.fieldFound?_setVm (s := ({ Z with heap := h } : State)) hal (show ({ Z with heap := h } : State).fieldFound? "java/lang/String" "value" "[B" = some (cf, k, i, f) from h2)
   have e4 := (show (Wst Z vm h).fieldFound? "java/lang/String" "value" "[B" = _ from e3).symm.trans f1
   simp only [Option.some.injEq, Prod.mk.injEq] at e4
   rw [hy] at h1
   have ec : cell = q.sC := Option.some.inj (h1.symm.trans ha)
   rw [ec, e4.2.2.2, v1] at h7
   cases h7
 · obtain ⟨cell, k, e1, e2, e3, -, -⟩ := E
   rw [hy] at e1
   have ec : q.SA = cell := Option.some.inj ((show h[q.sd]? = some q.SA from SF.hd).symm.trans e1)
   obtain ⟨cS, -, -, f, -⟩ := SF
   have f' : vm.findClass "[B" = some q.SA.cls := f
   rw [hal.findClass, ec] at f'
   obtain ⟨k1, q1, q2⟩ := Vm.findClass_spec f'
   obtain ⟨k2, q3, q4⟩ := Vm.findClass_spec e2
   cases q1.symm.trans q3
   exact absurd (q2.symm.trans q4) (by decide)
def own_ok (s : Slot) : Prop := s = .unset ∨ (∃ z : Int32, s = .val (.int z)) ∨ (∃ a : Addr, s = .val (.ref a))

def own_Z (Z : State) (zc : Int32) (fm : Value) : Prop := Sta Z Z.heap "java/lang/String" "COMPACT_STRINGS" "Z" (.int zc) ∧ ¬ zc = 0 ∧ Sta Z Z.heap "jdk/internal/util/Preconditions" "SIOOBE_FORMATTER" "Ljava/util/function/BiFunction;" fm ∧ fm.isRef = true ∧ Sta Z Z.heap "java/lang/StringUTF16" "$assertionsDisabled" "Z" (.int 1) ∧ Sta Z Z.heap "java/lang/StringUTF16" "HI_BYTE_SHIFT" "I" (.int 0) ∧ Sta Z Z.heap "java/lang/StringUTF16" "LO_BYTE_SHIFT" "I" (.int 8)
theorem d6_0 : own_d B6 0 (.iload_n 0) 1 := by decide +kernel
theorem d6_1 : own_d B6 1 (.ifCond .lt 8) 3 := by decide +kernel
theorem d6_4 : own_d B6 4 (.iload_n 0) 1 := by decide +kernel
theorem d6_5 : own_d B6 5 (.iload_n 1) 1 := by decide +kernel
theorem d6_6 : own_d B6 6 (.if_icmp .lt 10) 3 := by decide +kernel
theorem d6_16 : own_d B6 16 (.iload_n 0) 1 := by decide +kernel
theorem d6_17 : own_d B6 17 (.ireturn) 1 := by decide +kernel
theorem pn_0 : plainName "jdk/internal/util/Preconditions" = true := by first | (simp [plainName, overriddenIn]; done) | decide +kernel
theorem ef_6 (m : MethodId) (p0 : Int32) (p1 : Int32) (p2 : Value) (hW : p2.isRef = true) : entryFrame m #[(.int p0), (.int p1), p2] 3 = mkF m 0 #[.val (.int p0), .val (.int p1), .val p2] [] := by rcases ref_cases hW with h_ | ⟨a_, h_⟩ <;> subst h_ <;> first | (simp [entryFrame, mkF, argsToLocals, Value.category]; done) | rfl
def Q6 (Z : State) (p0 : Int32) (p1 : Int32) (p2 : Value) (h0 : Heap) (n0 : Nat) (v : Option Value) (h : Heap) (L : List Loc) : Prop := v = some (.int p0) ∧ Fr n0 L ∧ h = h0
theorem rm6 (l : Launch) (Z : State) (a0 : Array Value) (hw : ∀ d ∈ tables_1, d.before a0 Z = true) (ws : List Jvm.Cond) (p0 : Int32) (p1 : Int32) (p2 : Value) (h0 : Heap) (n0 : Nat) (Z0 : n0 ≤ h0.size) (h1 : ¬ p0 < 0) (h2 : p0 < p1) (hW : p2.isRef = true) :
   own_M l Z Y1 jdk_41_method_11_code 3 (some .int) ws ({ frames := 0, cells := 0, slots := 0, locals := 0 } : Room) #[(.int p0), (.int p1), p2] h0 (Q6 Z p0 p1 p2 h0 n0) := by
 refine own_body (C := "jdk/internal/util/Preconditions") rfl (plainFor_of_name pn_0) (fun p e s m below meth c s₁ Bd hx hby hml hown hlk hZ X0 e0 => ?_)
 have N0 := Fr.nil n0
 refine own_go (fun _ k => castTop (ef_6 m p0 p1 p2 hW) (XS.iloadN X0.here hx rfl (hb hby d6_0) rfl k)) ?_
 show own_G _ _ _ (s₁.setTop (mkF m 1 #[.val (.int p0), .val (.int p1), .val p2] [(.int p0)])) _ _ _ _
 have hc1 : ¬ (p0 < (0 : Int32)) := h1
 refine own_go (fun _ k => XS.ifNo X0.here hx rfl (hb hby d6_1) rfl ((if0 _ _).trans (flt hc1).1) (XS.iloadN X0.here hx rfl (hb hby d6_4) rfl (XS.iloadN X0.here hx rfl (hb hby d6_5) rfl k))) ?_
 show own_G _ _ _ (s₁.setTop (mkF m 6 #[.val (.int p0), .val (.int p1), .val p2] [(.int p1), (.int p0)])) _ _ _ _
 have hc2 : p0 < p1 := h2
 refine own_go (fun _ k => XS.icmpYes X0.here hx rfl (pc0 := 6) (pc' := 16) rfl (hb hby d6_6) rfl (tlt hc2).1 (by decide) (by decide) (XS.iloadN X0.here hx rfl (hb hby d6_16) rfl k)) ?_
 show own_G _ _ _ (s₁.setTop (mkF m 17 #[.val (.int p0), .val (.int p1), .val p2] [(.int p0)])) _ _ _ _
 exact own_endI X0 hx hlk Bd.returns (hb hby d6_17) (by decide) (by decide) (Q := (Q6 Z p0 p1 p2 h0 n0)) (by rw [e0]; exact ⟨rfl, N0, rfl⟩)
theorem d5_0 : own_d B5 0 (.iload_n 0) 1 := by decide +kernel
theorem d5_1 : own_d B5 1 (.iload_n 1) 1 := by decide +kernel
theorem d5_2 : own_d B5 2 (.getstatic 1053) 3 := by decide +kernel
theorem d5_5 : own_d B5 5 (.invokestatic 1059) 3 := by decide +kernel
theorem d5_8 : own_d B5 8 (.pop) 1 := by decide +kernel
theorem d5_9 : own_d B5 9 (.return_) 1 := by decide +kernel
theorem pd_0 : parseMethodDescriptor "(IILjava/util/function/BiFunction;)I" = some ⟨[.int, .int, (.object "java/util/function/BiFunction")], some .int⟩ := by decide +kernel
theorem pn_1 : plainName "java/lang/String" = true := by first | (simp [plainName, overriddenIn]; done) | decide +kernel
theorem ef_5 (m : MethodId) (p0 : Int32) (p1 : Int32) : entryFrame m #[(.int p0), (.int p1)] 2 = mkF m 0 #[.val (.int p0), .val (.int p1)] [] := by first | (simp [entryFrame, mkF, argsToLocals, Value.category]; done) | rfl
def Q5 (Z : State) (p0 : Int32) (p1 : Int32) (zc : Int32) (fm : Value) (h0 : Heap) (n0 : Nat) (v : Option Value) (h : Heap) (L : List Loc) : Prop := v = none ∧ Fr n0 L ∧ h = h0
theorem rm5 (l : Launch) (Z : State) (a0 : Array Value) (hw : ∀ d ∈ tables_1, d.before a0 Z = true) (ws : List Jvm.Cond) (p0 : Int32) (p1 : Int32) (zc : Int32) (fm : Value) (h0 : Heap) (n0 : Nat) (Z0 : n0 ≤ h0.size) (P_Old : Old Z n0 h0) (HA : own_Z Z zc fm) (h1 : ¬ p0 < 0) (h2 : p0 < p1) :
   own_M l Z Y2 jdk_42_method_155_code 2 none ws ({ frames := 1, cells := 0, slots := 0, locals := 14 } : Room) #[(.int p0), (.int p1)] h0 (Q5 Z p0 p1 zc fm h0 n0) := by
 refine own_body (C := "java/lang/String") rfl (plainFor_of_name pn_1) (fun p e s m below meth c s₁ Bd hx hby hml hown hlk hZ X0 e0 => ?_)
 have N0 := Fr.nil n0
 obtain ⟨Zcs, hcs, Zsi, hfm, Zad, Zhi, Zlo⟩ := id HA
 refine own_go (fun _ k => castTop (ef_5 m p0 p1) (XS.iloadN X0.here hx rfl (hb hby d5_0) rfl (XS.iloadN X0.here hx rfl (hb hby d5_1) rfl k))) ?_
 obtain ⟨T1, X1, e1, st1⟩ := getS2 X0 hx hZ hown (host := "") (Or.inl (own_h hw 35 rfl)) Via.refl e0 (Zsi.ext P_Old.2) (g := (mkF m 2 #[.val (.int p0), .val (.int p1)] [(.int p1), (.int p0)])) rfl (hb hby d5_2)
 refine own_go (fun _ k => st1 _ k) ?_
 obtain ⟨_, _, ⟨T2, L2, k2, n2⟩, -, X2, ⟨Lc2, hQ2, l2, y2, z2⟩, st2⟩ := Jvm.LawKit.callS X1 hx (y := Y1) hown (mvT hZ (own_h hw 37 rfl)) (mvT hZ (own_h hw 38 rfl)) (mvT hZ (own_h hw 36 rfl)) (mvT hZ (own_h hw 39 rfl)) (by decide) (backOf (W := 0) (rm6 l Z a0 hw [] p0 p1 fm  h0 n0 Z0 (by assumption) (by assumption) hfm) hZ (own_h hw 39 rfl) (own_h hw 36 rfl) (by decide) (by decide)) (g := (mkF m 5 #[.val (.int p0), .val (.int p1)] [fm, (.int p1), (.int p0)])) rfl (by rw [hml]; rfl) (argsL := [(.int p0), (.int p1), fm]) (rest := []) (lenOf pd_0 rfl) rfl (own_r0 _) (hb hby d5_5) (fun _ _ => ⟨rfl, e1, (by decide : 0 + 0 ≤ _), (by decide : 0 + 0 ≤ _)⟩)
 dsimp only [Pt.U, Pt.locs, Pt.cells, Pt.slots] at X2 l2 y2 z2 st2 hQ2
 rw [l2] at X2
 subst y2 z2
 obtain ⟨rfl, Nq2, eh2⟩ := hQ2
 have N2 := Fr.app N0 Nq2
 refine own_go (fun _ k => st2 _ (XS.pop X2.here hx rfl (hb hby d5_8) rfl rfl k)) ?_
 show own_G _ _ _ (T2.setTop (mkF m 9 #[.val (.int p0), .val (.int p1)] [])) _ _ _ _
 exact own_endV X2 hx hlk Bd.returns (hb hby d5_9) (by decide) (by decide) (Q := (Q5 Z p0 p1 zc fm h0 n0)) (by rw [eh2]; exact ⟨rfl, N2, rfl⟩)
theorem d28_0 : own_d B28 0 (.iload_n 0) 1 := by decide +kernel
theorem d28_1 : own_d B28 1 (.ifCond .lt 13) 3 := by decide +kernel
theorem d28_4 : own_d B28 4 (.iload_n 0) 1 := by decide +kernel
theorem d28_5 : own_d B28 5 (.iload_n 1) 1 := by decide +kernel
theorem d28_6 : own_d B28 6 (.if_icmp .gt 8) 3 := by decide +kernel
theorem d28_9 : own_d B28 9 (.iload_n 1) 1 := by decide +kernel
theorem d28_10 : own_d B28 10 (.iload_n 2) 1 := by decide +kernel
theorem d28_11 : own_d B28 11 (.if_icmp .le 11) 3 := by decide +kernel
theorem d28_22 : own_d B28 22 (.iload_n 0) 1 := by decide +kernel
theorem d28_23 : own_d B28 23 (.ireturn) 1 := by decide +kernel
theorem ef_28 (m : MethodId) (p0 : Int32) (p1 : Int32) (p2 : Int32) (p3 : Value) (hW : p3.isRef = true) : entryFrame m #[(.int p0), (.int p1), (.int p2), p3] 4 = mkF m 0 #[.val (.int p0), .val (.int p1), .val (.int p2), .val p3] [] := by rcases ref_cases hW with h_ | ⟨a_, h_⟩ <;> subst h_ <;> first | (simp [entryFrame, mkF, argsToLocals, Value.category]; done) | rfl
def Q28 (Z : State) (p0 : Int32) (p1 : Int32) (p2 : Int32) (p3 : Value) (h0 : Heap) (n0 : Nat) (v : Option Value) (h : Heap) (L : List Loc) : Prop := v = some (.int p0) ∧ Fr n0 L ∧ h = h0
theorem rm28 (l : Launch) (Z : State) (a0 : Array Value) (hw : ∀ d ∈ tables_1, d.before a0 Z = true) (ws : List Jvm.Cond) (p0 : Int32) (p1 : Int32) (p2 : Int32) (p3 : Value) (h0 : Heap) (n0 : Nat) (Z0 : n0 ≤ h0.size) (h1 : ¬ p0 < 0) (h2 : ¬ p1 < p0) (h3 : ¬ p2 < p1) (hW : p3.isRef = true) :
   own_M l Z Y3 jdk_41_method_12_code 4 (some .int) ws ({ frames := 0, cells := 0, slots := 0, locals := 0 } : Room) #[(.int p0), (.int p1), (.int p2), p3] h0 (Q28 Z p0 p1 p2 p3 h0 n0) := by
 refine own_body (C := "jdk/internal/util/Preconditions") rfl (plainFor_of_name pn_0) (fun p e s m below meth c s₁ Bd hx hby hml hown hlk hZ X0 e0 => ?_)
 have N0 := Fr.nil n0
 refine own_go (fun _ k => castTop (ef_28 m p0 p1 p2 p3 hW) (XS.iloadN X0.here hx rfl (hb hby d28_0) rfl k)) ?_
 show own_G _ _ _ (s₁.setTop (mkF m 1 #[.val (.int p0), .val (.int p1), .val (.int p2), .val p3] [(.int p0)])) _ _ _ _
 have hc1 : ¬ (p0 < (0 : Int32)) := h1
 refine own_go (fun _ k => XS.ifNo X0.here hx rfl (hb hby d28_1) rfl ((if0 _ _).trans (flt hc1).1) (XS.iloadN X0.here hx rfl (hb hby d28_4) rfl (XS.iloadN X0.here hx rfl (hb hby d28_5) rfl k))) ?_
 show own_G _ _ _ (s₁.setTop (mkF m 6 #[.val (.int p0), .val (.int p1), .val (.int p2), .val p3] [(.int p1), (.int p0)])) _ _ _ _
 have hc2 : ¬ (p1 < p0) := h2
 refine own_go (fun _ k => XS.icmpNo X0.here hx rfl (hb hby d28_6) rfl (flt hc2).2.2.1 (XS.iloadN X0.here hx rfl (hb hby d28_9) rfl (XS.iloadN X0.here hx rfl (hb hby d28_10) rfl k))) ?_
 show own_G _ _ _ (s₁.setTop (mkF m 11 #[.val (.int p0), .val (.int p1), .val (.int p2), .val p3] [(.int p2), (.int p1)])) _ _ _ _
 have hc3 : ¬ (p2 < p1) := h3
 refine own_go (fun _ k => XS.icmpYes X0.here hx rfl (pc0 := 11) (pc' := 22) rfl (hb hby d28_11) rfl (flt hc3).2.2.2 (by decide) (by decide) (XS.iloadN X0.here hx rfl (hb hby d28_22) rfl k)) ?_
 show own_G _ _ _ (s₁.setTop (mkF m 23 #[.val (.int p0), .val (.int p1), .val (.int p2), .val p3] [(.int p0)])) _ _ _ _
 exact own_endI X0 hx hlk Bd.returns (hb hby d28_23) (by decide) (by decide) (Q := (Q28 Z p0 p1 p2 p3 h0 n0)) (by rw [e0]; exact ⟨rfl, N0, rfl⟩)
theorem d58_0 : own_d B58 0 (.iload_n 0) 1 := by decide +kernel
theorem d58_1 : own_d B58 1 (.iload_n 1) 1 := by decide +kernel
theorem d58_2 : own_d B58 2 (.iload_n 2) 1 := by decide +kernel
theorem d58_3 : own_d B58 3 (.getstatic 1053) 3 := by decide +kernel
theorem d58_6 : own_d B58 6 (.invokestatic 1062) 3 := by decide +kernel
theorem d58_9 : own_d B58 9 (.pop) 1 := by decide +kernel
theorem d58_10 : own_d B58 10 (.return_) 1 := by decide +kernel
theorem pd_1 : parseMethodDescriptor "(IIILjava/util/function/BiFunction;)I" = some ⟨[.int, .int, .int, (.object "java/util/function/BiFunction")], some .int⟩ := by decide +kernel
theorem ef_58 (m : MethodId) (p0 : Int32) (p1 : Int32) (p2 : Int32) : entryFrame m #[(.int p0), (.int p1), (.int p2)] 3 = mkF m 0 #[.val (.int p0), .val (.int p1), .val (.int p2)] [] := by first | (simp [entryFrame, mkF, argsToLocals, Value.category]; done) | rfl
def Q58 (Z : State) (p0 : Int32) (p1 : Int32) (p2 : Int32) (zc : Int32) (fm : Value) (h0 : Heap) (n0 : Nat) (v : Option Value) (h : Heap) (L : List Loc) : Prop := v = none ∧ Fr n0 L ∧ h = h0
theorem rm58 (l : Launch) (Z : State) (a0 : Array Value) (hw : ∀ d ∈ tables_1, d.before a0 Z = true) (ws : List Jvm.Cond) (p0 : Int32) (p1 : Int32) (p2 : Int32) (zc : Int32) (fm : Value) (h0 : Heap) (n0 : Nat) (Z0 : n0 ≤ h0.size) (P_Old : Old Z n0 h0) (HA : own_Z Z zc fm) (h1 : ¬ p0 < 0) (h2 : ¬ p1 < p0) (h3 : ¬ p2 < p1) :
   own_M l Z Y4 jdk_42_method_158_code 3 none ws ({ frames := 1, cells := 0, slots := 0, locals := 15 } : Room) #[(.int p0), (.int p1), (.int p2)] h0 (Q58 Z p0 p1 p2 zc fm h0 n0) := by
 refine own_body (C := "java/lang/String") rfl (plainFor_of_name pn_1) (fun p e s m below meth c s₁ Bd hx hby hml hown hlk hZ X0 e0 => ?_)
 have N0 := Fr.nil n0
 obtain ⟨Zcs, hcs, Zsi, hfm, Zad, Zhi, Zlo⟩ := id HA
 refine own_go (fun _ k => castTop (ef_58 m p0 p1 p2) (XS.iloadN X0.here hx rfl (hb hby d58_0) rfl (XS.iloadN X0.here hx rfl (hb hby d58_1) rfl (XS.iloadN X0.here hx rfl (hb hby d58_2) rfl k)))) ?_
 obtain ⟨T1, X1, e1, st1⟩ := getS2 X0 hx hZ hown (host := "") (Or.inl (own_h hw 35 rfl)) Via.refl e0 (Zsi.ext P_Old.2) (g := (mkF m 3 #[.val (.int p0), .val (.int p1), .val (.int p2)] [(.int p2), (.int p1), (.int p0)])) rfl (hb hby d58_3)
 refine own_go (fun _ k => st1 _ k) ?_
 obtain ⟨_, _, ⟨T2, L2, k2, n2⟩, -, X2, ⟨Lc2, hQ2, l2, y2, z2⟩, st2⟩ := Jvm.LawKit.callS X1 hx (y := Y3) hown (mvT hZ (own_h hw 282 rfl)) (mvT hZ (own_h hw 143 rfl)) (mvT hZ (own_h hw 36 rfl)) (mvT hZ (own_h hw 144 rfl)) (by decide) (backOf (W := 0) (rm28 l Z a0 hw [] p0 p1 p2 fm  h0 n0 Z0 (by assumption) (by assumption) (by assumption) hfm) hZ (own_h hw 144 rfl) (own_h hw 36 rfl) (by decide) (by decide)) (g := (mkF m 6 #[.val (.int p0), .val (.int p1), .val (.int p2)] [fm, (.int p2), (.int p1), (.int p0)])) rfl (by rw [hml]; rfl) (argsL := [(.int p0), (.int p1), (.int p2), fm]) (rest := []) (lenOf pd_1 rfl) rfl (own_r0 _) (hb hby d58_6) (fun _ _ => ⟨rfl, e1, (by decide : 0 + 0 ≤ _), (by decide : 0 + 0 ≤ _)⟩)
 dsimp only [Pt.U, Pt.locs, Pt.cells, Pt.slots] at X2 l2 y2 z2 st2 hQ2
 rw [l2] at X2
 subst y2 z2
 obtain ⟨rfl, Nq2, eh2⟩ := hQ2
 have N2 := Fr.app N0 Nq2
 refine own_go (fun _ k => st2 _ (XS.pop X2.here hx rfl (hb hby d58_9) rfl rfl k)) ?_
 show own_G _ _ _ (T2.setTop (mkF m 10 #[.val (.int p0), .val (.int p1), .val (.int p2)] [])) _ _ _ _
 exact own_endV X2 hx hlk Bd.returns (hb hby d58_10) (by decide) (by decide) (Q := (Q58 Z p0 p1 p2 zc fm h0 n0)) (by rw [eh2]; exact ⟨rfl, N2, rfl⟩)
theorem d67_0 : own_d B67 0 (.iload_n 2) 1 := by decide +kernel
theorem d67_1 : own_d B67 1 (.iload_n 0) 1 := by decide +kernel
theorem d67_2 : own_d B67 2 (.ior) 1 := by decide +kernel
theorem d67_3 : own_d B67 3 (.iload_n 1) 1 := by decide +kernel
theorem d67_4 : own_d B67 4 (.ior) 1 := by decide +kernel
theorem d67_5 : own_d B67 5 (.ifCond .lt 10) 3 := by decide +kernel
theorem d67_8 : own_d B67 8 (.iload_n 1) 1 := by decide +kernel
theorem d67_9 : own_d B67 9 (.iload_n 2) 1 := by decide +kernel
theorem d67_10 : own_d B67 10 (.iload_n 0) 1 := by decide +kernel
theorem d67_11 : own_d B67 11 (.isub) 1 := by decide +kernel
theorem d67_12 : own_d B67 12 (.if_icmp .le 11) 3 := by decide +kernel
theorem d67_23 : own_d B67 23 (.iload_n 0) 1 := by decide +kernel
theorem d67_24 : own_d B67 24 (.ireturn) 1 := by decide +kernel
theorem ef_67 (m : MethodId) (p1 : Int32) (p2 : Int32) (p3 : Value) (hW : p3.isRef = true) : entryFrame m #[(.int 0), (.int p1), (.int p2), p3] 4 = mkF m 0 #[.val (.int 0), .val (.int p1), .val (.int p2), .val p3] [] := by rcases ref_cases hW with h_ | ⟨a_, h_⟩ <;> subst h_ <;> first | (simp [entryFrame, mkF, argsToLocals, Value.category]; done) | rfl
def Q67 (Z : State) (p1 : Int32) (p2 : Int32) (p3 : Value) (h0 : Heap) (n0 : Nat) (v : Option Value) (h : Heap) (L : List Loc) : Prop := v = some (.int 0) ∧ Fr n0 L ∧ h = h0
theorem rm67 (l : Launch) (Z : State) (a0 : Array Value) (hw : ∀ d ∈ tables_1, d.before a0 Z = true) (ws : List Jvm.Cond) (p1 : Int32) (p2 : Int32) (p3 : Value) (h0 : Heap) (n0 : Nat) (Z0 : n0 ≤ h0.size) (h1 : ¬ ((p2 ||| (0 : Int32)) ||| p1) < (0 : Int32)) (h2 : ¬ (p2 - (0 : Int32)) < p1) (hW : p3.isRef = true) :
   own_M l Z Y5 jdk_41_method_13_code 4 (some .int) ws ({ frames := 0, cells := 0, slots := 0, locals := 0 } : Room) #[(.int 0), (.int p1), (.int p2), p3] h0 (Q67 Z p1 p2 p3 h0 n0) := by
 refine own_body (C := "jdk/internal/util/Preconditions") rfl (plainFor_of_name pn_0) (fun p e s m below meth c s₁ Bd hx hby hml hown hlk hZ X0 e0 => ?_)
 have N0 := Fr.nil n0
 refine own_go (fun _ k => castTop (ef_67 m p1 p2 p3 hW) (XS.iloadN X0.here hx rfl (hb hby d67_0) rfl (XS.iloadN X0.here hx rfl (hb hby d67_1) rfl (XS.ior X0.here hx rfl (hb hby d67_2) rfl (XS.iloadN X0.here hx rfl (hb hby d67_3) rfl (XS.ior X0.here hx rfl (hb hby d67_4) rfl k)))))) ?_
 show own_G _ _ _ (s₁.setTop (mkF m 5 #[.val (.int 0), .val (.int p1), .val (.int p2), .val p3] [(.int ((p2 ||| (0 : Int32)) ||| p1))])) _ _ _ _
 have hc1 : ¬ (((p2 ||| (0 : Int32)) ||| p1) < (0 : Int32)) := h1
 refine own_go (fun _ k => XS.ifNo X0.here hx rfl (hb hby d67_5) rfl ((if0 _ _).trans (flt hc1).1) (XS.iloadN X0.here hx rfl (hb hby d67_8) rfl (XS.iloadN X0.here hx rfl (hb hby d67_9) rfl (XS.iloadN X0.here hx rfl (hb hby d67_10) rfl (XS.isub X0.here hx rfl (hb hby d67_11) rfl k))))) ?_
 show own_G _ _ _ (s₁.setTop (mkF m 12 #[.val (.int 0), .val (.int p1), .val (.int p2), .val p3] [(.int (p2 - (0 : Int32))), (.int p1)])) _ _ _ _
 have hc2 : ¬ ((p2 - (0 : Int32)) < p1) := h2
 refine own_go (fun _ k => XS.icmpYes X0.here hx rfl (pc0 := 12) (pc' := 23) rfl (hb hby d67_12) rfl (flt hc2).2.2.2 (by decide) (by decide) (XS.iloadN X0.here hx rfl (hb hby d67_23) rfl k)) ?_
 show own_G _ _ _ (s₁.setTop (mkF m 24 #[.val (.int 0), .val (.int p1), .val (.int p2), .val p3] [(.int 0)])) _ _ _ _
 exact own_endI X0 hx hlk Bd.returns (hb hby d67_24) (by decide) (by decide) (Q := (Q67 Z p1 p2 p3 h0 n0)) (by rw [e0]; exact ⟨rfl, N0, rfl⟩)
theorem d66_0 : own_d B66 0 (.iload_n 0) 1 := by decide +kernel
theorem d66_1 : own_d B66 1 (.iload_n 1) 1 := by decide +kernel
theorem d66_2 : own_d B66 2 (.iload_n 2) 1 := by decide +kernel
theorem d66_3 : own_d B66 3 (.getstatic 1053) 3 := by decide +kernel
theorem d66_6 : own_d B66 6 (.invokestatic 1065) 3 := by decide +kernel
theorem d66_9 : own_d B66 9 (.ireturn) 1 := by decide +kernel
theorem ef_66 (m : MethodId) (p1 : Int32) (p2 : Int32) : entryFrame m #[(.int 0), (.int p1), (.int p2)] 3 = mkF m 0 #[.val (.int 0), .val (.int p1), .val (.int p2)] [] := by first | (simp [entryFrame, mkF, argsToLocals, Value.category]; done) | rfl
def Q66 (Z : State) (p1 : Int32) (p2 : Int32) (zc : Int32) (fm : Value) (h0 : Heap) (n0 : Nat) (v : Option Value) (h : Heap) (L : List Loc) : Prop := v = some (.int 0) ∧ Fr n0 L ∧ h = h0
theorem rm66 (l : Launch) (Z : State) (a0 : Array Value) (hw : ∀ d ∈ tables_1, d.before a0 Z = true) (ws : List Jvm.Cond) (p1 : Int32) (p2 : Int32) (zc : Int32) (fm : Value) (h0 : Heap) (n0 : Nat) (Z0 : n0 ≤ h0.size) (P_Old : Old Z n0 h0) (HA : own_Z Z zc fm) (h1 : ¬ ((p2 ||| (0 : Int32)) ||| p1) < (0 : Int32)) (h2 : ¬ (p2 - (0 : Int32)) < p1) :
   own_M l Z Y6 jdk_42_method_157_code 3 (some .int) ws ({ frames := 1, cells := 0, slots := 0, locals := 15 } : Room) #[(.int 0), (.int p1), (.int p2)] h0 (Q66 Z p1 p2 zc fm h0 n0) := by
 refine own_body (C := "java/lang/String") rfl (plainFor_of_name pn_1) (fun p e s m below meth c s₁ Bd hx hby hml hown hlk hZ X0 e0 => ?_)
 have N0 := Fr.nil n0
 obtain ⟨Zcs, hcs, Zsi, hfm, Zad, Zhi, Zlo⟩ := id HA
 refine own_go (fun _ k => castTop (ef_66 m p1 p2) (XS.iloadN X0.here hx rfl (hb hby d66_0) rfl (XS.iloadN X0.here hx rfl (hb hby d66_1) rfl (XS.iloadN X0.here hx rfl (hb hby d66_2) rfl k)))) ?_
 obtain ⟨T1, X1, e1, st1⟩ := getS2 X0 hx hZ hown (host := "") (Or.inl (own_h hw 35 rfl)) Via.refl e0 (Zsi.ext P_Old.2) (g := (mkF m 3 #[.val (.int 0), .val (.int p1), .val (.int p2)] [(.int p2), (.int p1), (.int 0)])) rfl (hb hby d66_3)
 refine own_go (fun _ k => st1 _ k) ?_
 obtain ⟨_, _, ⟨T2, L2, k2, n2⟩, -, X2, ⟨Lc2, hQ2, l2, y2, z2⟩, st2⟩ := Jvm.LawKit.callS X1 hx (y := Y5) hown (mvT hZ (own_h hw 312 rfl)) (mvT hZ (own_h hw 313 rfl)) (mvT hZ (own_h hw 36 rfl)) (mvT hZ (own_h hw 314 rfl)) (by decide) (backOf (W := 0) (rm67 l Z a0 hw [] p1 p2 fm  h0 n0 Z0 (by assumption) (by assumption) hfm) hZ (own_h hw 314 rfl) (own_h hw 36 rfl) (by decide) (by decide)) (g := (mkF m 6 #[.val (.int 0), .val (.int p1), .val (.int p2)] [fm, (.int p2), (.int p1), (.int 0)])) rfl (by rw [hml]; rfl) (argsL := [(.int 0), (.int p1), (.int p2), fm]) (rest := []) (lenOf pd_1 rfl) rfl (own_r0 _) (hb hby d66_6) (fun _ _ => ⟨rfl, e1, (by decide : 0 + 0 ≤ _), (by decide : 0 + 0 ≤ _)⟩)
 dsimp only [Pt.U, Pt.locs, Pt.cells, Pt.slots] at X2 l2 y2 z2 st2 hQ2
 rw [l2] at X2
 subst y2 z2
 obtain ⟨rfl, Nq2, eh2⟩ := hQ2
 have N2 := Fr.app N0 Nq2
 refine own_go (fun _ k => st2 _ k) ?_
 show own_G _ _ _ (T2.setTop (mkF m 9 #[.val (.int 0), .val (.int p1), .val (.int p2)] [(.int 0)])) _ _ _ _
 exact own_endI X2 hx hlk Bd.returns (hb hby d66_9) (by decide) (by decide) (Q := (Q66 Z p1 p2 zc fm h0 n0)) (by rw [eh2]; exact ⟨rfl, N2, rfl⟩)
theorem d57_0 : own_d B57 0 (.aload_n 0) 1 := by decide +kernel
theorem d57_1 : own_d B57 1 (.arraylength) 1 := by decide +kernel
theorem d57_2 : own_d B57 2 (.iconst 1) 1 := by decide +kernel
theorem d57_3 : own_d B57 3 (.ishr) 1 := by decide +kernel
theorem d57_4 : own_d B57 4 (.ireturn) 1 := by decide +kernel
theorem pn_2 : plainName "java/lang/StringUTF16" = true := by first | (simp [plainName, overriddenIn]; done) | decide +kernel
theorem ef_57 (m : MethodId) (p0 : Addr) : entryFrame m #[(.ref p0)] 1 = mkF m 0 #[.val (.ref p0)] [] := by first | (simp [entryFrame, mkF, argsToLocals, Value.category]; done) | rfl
def Q57 (Z : State) (p0 : Addr) (mm : Nat) (kb : ClassId) (ds : List Int32) (h0 : Heap) (n0 : Nat) (v : Option Value) (h : Heap) (L : List Loc) : Prop := v = some (.int (Int32.ofNat mm)) ∧ Fr n0 L ∧ h = h0
theorem rm57 (l : Launch) (Z : State) (a0 : Array Value) (hw : ∀ d ∈ tables_1, d.before a0 Z = true) (ws : List Jvm.Cond) (p0 : Addr) (mm : Nat) (kb : ClassId) (ds : List Int32) (h0 : Heap) (n0 : Nat) (Z0 : n0 ≤ h0.size) (P_V_p0 : Arv Z h0 p0 kb .byte (Int32.ofNat (2 * mm)) (own_w ds) (.int 0)) (hm : mm ≤ 22) :
   own_M l Z Y7 jdk_52_method_6_code 1 (some .int) ws ({ frames := 0, cells := 0, slots := 0, locals := 0 } : Room) #[(.ref p0)] h0 (Q57 Z p0 mm kb ds h0 n0) := by
 refine own_body (C := "java/lang/StringUTF16") rfl (plainFor_of_name pn_2) (fun p e s m below meth c s₁ Bd hx hby hml hown hlk hZ X0 e0 => ?_)
 have N0 := Fr.nil n0
 refine own_go (fun _ k => castTop (ef_57 m p0) (XS.aloadN X0.here hx rfl (hb hby d57_0) rfl rfl k)) ?_
 obtain ⟨cl1, Ar1, -, S1, Ng1, -, -⟩ := id P_V_p0
 refine own_go (fun _ k => X0.arraylength hx (by rw [e0]; exact Ar1.1) (State.isArrayOf_alike hZ.alike Ar1.2.1) (g := (mkF m 1 #[.val (.ref p0)] [(.ref p0)])) rfl rfl (hb hby d57_1) _ k) ?_
 rw [len_of S1 Ng1]
 show own_G _ _ _ (s₁.setTop (mkF m 2 #[.val (.ref p0)] [(.int (Int32.ofNat (2 * mm)))])) _ _ _ _
 refine own_go (fun _ k => XS.iconst X0.here hx rfl (hb hby d57_2) k) ?_
 show own_G _ _ _ (s₁.setTop (mkF m 3 #[.val (.ref p0)] [(.int 1), (.int (Int32.ofNat (2 * mm)))])) _ _ _ _
 refine own_go (fun _ k => XS.ishr X0.here hx rfl (hb hby d57_3) rfl k) ?_
 rw [own_shr1 mm (by omega)]
 show own_G _ _ _ (s₁.setTop (mkF m 4 #[.val (.ref p0)] [(.int (Int32.ofNat mm))])) _ _ _ _
 exact own_endI X0 hx hlk Bd.returns (hb hby d57_4) (by decide) (by decide) (Q := (Q57 Z p0 mm kb ds h0 n0)) (by rw [e0]; exact ⟨rfl, N0, rfl⟩)
theorem d52_0 : own_d B52 0 (.getstatic 44) 3 := by decide +kernel
theorem d52_3 : own_d B52 3 (.ifCond .ne 25) 3 := by decide +kernel
theorem d52_28 : own_d B52 28 (.iload_n 1) 1 := by decide +kernel
theorem d52_29 : own_d B52 29 (.iconst 1) 1 := by decide +kernel
theorem d52_30 : own_d B52 30 (.ishl) 1 := by decide +kernel
theorem d52_31 : own_d B52 31 (.istore_n 1) 1 := by decide +kernel
theorem d52_32 : own_d B52 32 (.aload_n 0) 1 := by decide +kernel
theorem d52_33 : own_d B52 33 (.iload_n 1) 1 := by decide +kernel
theorem d52_34 : own_d B52 34 (.iinc 1 1) 3 := by decide +kernel
theorem d52_37 : own_d B52 37 (.iload_n 2) 1 := by decide +kernel
theorem d52_38 : own_d B52 38 (.getstatic 59) 3 := by decide +kernel
theorem d52_41 : own_d B52 41 (.ishr) 1 := by decide +kernel
theorem d52_42 : own_d B52 42 (.i2b) 1 := by decide +kernel
theorem d52_43 : own_d B52 43 (.bastore) 1 := by decide +kernel
theorem d52_44 : own_d B52 44 (.aload_n 0) 1 := by decide +kernel
theorem d52_45 : own_d B52 45 (.iload_n 1) 1 := by decide +kernel
theorem d52_46 : own_d B52 46 (.iload_n 2) 1 := by decide +kernel
theorem d52_47 : own_d B52 47 (.getstatic 63) 3 := by decide +kernel
theorem d52_50 : own_d B52 50 (.ishr) 1 := by decide +kernel
theorem d52_51 : own_d B52 51 (.i2b) 1 := by decide +kernel
theorem d52_52 : own_d B52 52 (.bastore) 1 := by decide +kernel
theorem d52_53 : own_d B52 53 (.return_) 1 := by decide +kernel
theorem ef_52 (m : MethodId) (p0 : Addr) (p2 : Int32) (j : Nat) : entryFrame m #[(.ref p0), (.int (Int32.ofNat j)), (.int p2)] 3 = mkF m 0 #[.val (.ref p0), .val (.int (Int32.ofNat j)), .val (.int p2)] [] := by first | (simp [entryFrame, mkF, argsToLocals, Value.category]; done) | rfl
def Q52 (Z : State) (p0 : Addr) (p2 : Int32) (j : Nat) (mm : Nat) (kb : ClassId) (ds : List Int32) (zc : Int32) (fm : Value) (h0 : Heap) (n0 : Nat) (v : Option Value) (h : Heap) (L : List Loc) : Prop := v = none ∧ Fr n0 L ∧ Keep h0 h [p0] ∧ Arv Z h p0 kb .byte (Int32.ofNat (2 * mm)) (own_w (ds ++ [p2])) (.int 0)
theorem rm52 (l : Launch) (Z : State) (a0 : Array Value) (hw : ∀ d ∈ tables_1, d.before a0 Z = true) (ws : List Jvm.Cond) (p0 : Addr) (p2 : Int32) (j : Nat) (mm : Nat) (kb : ClassId) (ds : List Int32) (zc : Int32) (fm : Value) (h0 : Heap) (n0 : Nat) (Z0 : n0 ≤ h0.size) (P_Old : Old Z n0 h0) (HA : own_Z Z zc fm) (P_V_p0 : Arv Z h0 p0 kb .byte (Int32.ofNat (2 * mm)) (own_w ds) (.int 0)) (hm : mm ≤ 22) (hjd : ds.length = j) (hjm : j < mm) (g_p0 : n0 ≤ p0) :
   own_M l Z Y8 jdk_52_method_4_code 3 none ws ({ frames := 0, cells := 0, slots := 0, locals := 0 } : Room) #[(.ref p0), (.int (Int32.ofNat j)), (.int p2)] h0 (Q52 Z p0 p2 j mm kb ds zc fm h0 n0) := by
 refine own_body (C := "java/lang/StringUTF16") rfl (plainFor_of_name pn_2) (fun p e s m below meth c s₁ Bd hx hby hml hown hlk hZ X0 e0 => ?_)
 have N0 := Fr.nil n0
 obtain ⟨Zcs, hcs, Zsi, hfm, Zad, Zhi, Zlo⟩ := id HA
 have K0 : Keep h0 h0 [p0] := Keep.refl h0 [p0]
 refine own_go (fun _ k => castTop (ef_52 m p0 p2 j) k) ?_
 obtain ⟨T1, X1, e1, st1⟩ := getS2 X0 hx hZ hown (host := "") (Or.inl (own_h hw 258 rfl)) Via.refl e0 (Zad.ext P_Old.2) (g := (mkF m 0 #[.val (.ref p0), .val (.int (Int32.ofNat j)), .val (.int p2)] [])) rfl (hb hby d52_0)
 refine own_go (fun _ k => st1 _ k) ?_
 show own_G _ _ _ (T1.setTop (mkF m 3 #[.val (.ref p0), .val (.int (Int32.ofNat j)), .val (.int p2)] [(.int 1)])) _ _ _ _
 have hc2 : ¬ ((1 : Int32) = (0 : Int32)) := (by decide)
 refine own_go (fun _ k => XS.ifYes X1.here hx rfl (pc0 := 3) (pc' := 28) rfl (hb hby d52_3) rfl ((if0 _ _).trans (feq hc2).2) (by decide) (by decide) (XS.iloadN X1.here hx rfl (hb hby d52_28) rfl (XS.iconst X1.here hx rfl (hb hby d52_29) k))) ?_
 show own_G _ _ _ (T1.setTop (mkF m 30 #[.val (.ref p0), .val (.int (Int32.ofNat j)), .val (.int p2)] [(.int 1), (.int (Int32.ofNat j))])) _ _ _ _
 refine own_go (fun _ k => XS.ishl X1.here hx rfl (hb hby d52_30) rfl k) ?_
 rw [own_shl1 j (by omega)]
 show own_G _ _ _ (T1.setTop (mkF m 31 #[.val (.ref p0), .val (.int (Int32.ofNat j)), .val (.int p2)] [(.int (Int32.ofNat (2 * j)))])) _ _ _ _
 refine own_go (fun _ k => XS.istoreN X1.here hx rfl (hb hby d52_31) rfl (l' := #[.val (.ref p0), .val (.int (Int32.ofNat (2 * j))), .val (.int p2)]) rfl (XS.aloadN X1.here hx rfl (hb hby d52_32) rfl rfl (XS.iloadN X1.here hx rfl (hb hby d52_33) rfl k))) ?_
 show own_G _ _ _ (T1.setTop (mkF m 34 #[.val (.ref p0), .val (.int (Int32.ofNat (2 * j))), .val (.int p2)] [(.int (Int32.ofNat (2 * j))), (.ref p0)])) _ _ _ _
 refine own_go (fun _ k => XS.iinc X1.here hx rfl (hb hby d52_34) rfl (l' := #[.val (.ref p0), .val (.int ((Int32.ofNat (2 * j)) + (1 : Int32))), .val (.int p2)]) rfl k) ?_
 rw [own_inc (2 * j)]
 show own_G _ _ _ (T1.setTop (mkF m 37 #[.val (.ref p0), .val (.int (Int32.ofNat ((2 * j) + 1))), .val (.int p2)] [(.int (Int32.ofNat (2 * j))), (.ref p0)])) _ _ _ _
 refine own_go (fun _ k => XS.iloadN X1.here hx rfl (hb hby d52_37) rfl k) ?_
 obtain ⟨T3, X3, e3, st3⟩ := getS2 X1 hx hZ hown (host := "") (Or.inl (own_h hw 259 rfl)) Via.refl e1 (Zhi.ext P_Old.2) (g := (mkF m 38 #[.val (.ref p0), .val (.int (Int32.ofNat ((2 * j) + 1))), .val (.int p2)] [(.int p2), (.int (Int32.ofNat (2 * j))), (.ref p0)])) rfl (hb hby d52_38)
 refine own_go (fun _ k => st3 _ (XS.ishr X3.here hx rfl (hb hby d52_41) rfl (XS.i2b X3.here hx rfl (hb hby d52_42) rfl k))) ?_
 show own_G _ _ _ (T3.setTop (mkF m 43 #[.val (.ref p0), .val (.int (Int32.ofNat ((2 * j) + 1))), .val (.int p2)] [(.int (p2 >>> ((0 : Int32) &&& 31)).toInt8.toInt32), (.int (Int32.ofNat (2 * j))), (.ref p0)])) _ _ _ _
 have f5 : Arv Z h0 p0 kb .byte (Int32.ofNat (2 * mm)) (own_w ds ++ [Value.int 0, Value.int 0]) (.int 0) := (P_V_p0).pad (fun i_ => own_w_pad ds i_)
 obtain ⟨cl4, Ar4, q4, S4, Ng4, H4, G4⟩ := id f5
 have in4 : ¬ ((Int32.ofNat (2 * j)) < 0 ∨ cl4.slots.size ≤ ((Int32.ofNat (2 * j))).toNatClampNeg) := inb_of S4 (own_inb (n := 2 * mm) (by omega) (by omega))
 obtain ⟨T4, h4, X4, e4, W4, st4⟩ := stB X3 hx hZ e3 Ar4 (j := (Int32.ofNat (2 * j))) in4 (g := (mkF m 43 #[.val (.ref p0), .val (.int (Int32.ofNat ((2 * j) + 1))), .val (.int p2)] [(.int (p2 >>> ((0 : Int32) &&& 31)).toInt8.toInt32), (.int (Int32.ofNat (2 * j))), (.ref p0)])) rfl rfl (hb hby d52_43)
 have N4 := Fr.snoc X4 N0 g_p0
 have Zs4 := Nat.le_trans Z0 (Keep.of_wr W4).1
 have K4_0 := K0.wr W4 (Or.inl (List.mem_of_getElem? (i := 0) rfl))
 have f6 := P_Old.wr W4 g_p0
 have f7 : Arv Z h4 p0 kb .byte (Int32.ofNat (2 * mm)) (own_w ds ++ [.int (own_lo p2), Value.int 0]) (.int 0) := (by have q := Arv.set Ar4 q4 S4 Ng4 H4 G4 (fits_nar_byte _) W4 (2 * j) (own_cl (2 * j) (by omega)) (by rw [List.length_append, own_w_len, hjd]; show _ < _ + 2; omega); rw [own_lob, own_w_s1 _ _ hjd] at q; exact q)
 refine own_go (fun _ k => st4 _ (XS.aloadN X4.here hx rfl (hb hby d52_44) rfl rfl (XS.iloadN X4.here hx rfl (hb hby d52_45) rfl (XS.iloadN X4.here hx rfl (hb hby d52_46) rfl k)))) ?_
 obtain ⟨T8, X8, e8, st8⟩ := getS2 X4 hx hZ hown (host := "") (Or.inl (own_h hw 260 rfl)) Via.refl e4 (Zlo.ext f6.2) (g := (mkF m 47 #[.val (.ref p0), .val (.int (Int32.ofNat ((2 * j) + 1))), .val (.int p2)] [(.int p2), (.int (Int32.ofNat ((2 * j) + 1))), (.ref p0)])) rfl (hb hby d52_47)
 refine own_go (fun _ k => st8 _ (XS.ishr X8.here hx rfl (hb hby d52_50) rfl (XS.i2b X8.here hx rfl (hb hby d52_51) rfl k))) ?_
 obtain ⟨cl9, Ar9, q9, S9, Ng9, H9, G9⟩ := id f7
 have in9 : ¬ ((Int32.ofNat ((2 * j) + 1)) < 0 ∨ cl9.slots.size ≤ ((Int32.ofNat ((2 * j) + 1))).toNatClampNeg) := inb_of S9 (own_inb (n := 2 * mm) (by omega) (by omega))
 obtain ⟨T9, h9, X9, e9, W9, st9⟩ := stB X8 hx hZ e8 Ar9 (j := (Int32.ofNat ((2 * j) + 1))) in9 (g := (mkF m 52 #[.val (.ref p0), .val (.int (Int32.ofNat ((2 * j) + 1))), .val (.int p2)] [(.int (p2 >>> ((8 : Int32) &&& 31)).toInt8.toInt32), (.int (Int32.ofNat ((2 * j) + 1))), (.ref p0)])) rfl rfl (hb hby d52_52)
 have N9 := Fr.snoc X9 N4 g_p0
 have Zs9 := Nat.le_trans Zs4 (Keep.of_wr W9).1
 have K9_0 := K4_0.wr W9 (Or.inl (List.mem_of_getElem? (i := 0) rfl))
 have f10 := f6.wr W9 g_p0
 have f11 : Arv Z h9 p0 kb .byte (Int32.ofNat (2 * mm)) (own_w ds ++ [.int (own_lo p2), .int (own_hi p2)]) (.int 0) := (by have q := Arv.set Ar9 q9 S9 Ng9 H9 G9 (fits_nar_byte _) W9 (2 * j + 1) (own_cl (2 * j + 1) (by omega)) (by rw [List.length_append, own_w_len, hjd]; show _ < _ + 2; omega); rw [own_hib, own_w_s2 _ _ hjd] at q; exact q)
 refine own_go (fun _ k => st9 _ k) ?_
 show own_G _ _ _ (T9.setTop (mkF m 53 #[.val (.ref p0), .val (.int (Int32.ofNat ((2 * j) + 1))), .val (.int p2)] [])) _ _ _ _
 exact own_endV X9 hx hlk Bd.returns (hb hby d52_53) (by decide) (by decide) (Q := (Q52 Z p0 p2 j mm kb ds zc fm h0 n0)) (by rw [e9]; exact ⟨rfl, N9, K9_0, (by rw [own_w_app]; exact f11)⟩)
theorem d53_0 : own_d B53 0 (.getstatic 44) 3 := by decide +kernel
theorem d53_3 : own_d B53 3 (.ifCond .ne 25) 3 := by decide +kernel
theorem d53_28 : own_d B53 28 (.iload_n 1) 1 := by decide +kernel
theorem d53_29 : own_d B53 29 (.iconst 1) 1 := by decide +kernel
theorem d53_30 : own_d B53 30 (.ishl) 1 := by decide +kernel
theorem d53_31 : own_d B53 31 (.istore_n 1) 1 := by decide +kernel
theorem d53_32 : own_d B53 32 (.aload_n 0) 1 := by decide +kernel
theorem d53_33 : own_d B53 33 (.iload_n 1) 1 := by decide +kernel
theorem d53_34 : own_d B53 34 (.iinc 1 1) 3 := by decide +kernel
theorem d53_37 : own_d B53 37 (.baload) 1 := by decide +kernel
theorem d53_38 : own_d B53 38 (.sipush 255) 3 := by decide +kernel
theorem d53_41 : own_d B53 41 (.iand) 1 := by decide +kernel
theorem d53_42 : own_d B53 42 (.getstatic 59) 3 := by decide +kernel
theorem d53_45 : own_d B53 45 (.ishl) 1 := by decide +kernel
theorem d53_46 : own_d B53 46 (.aload_n 0) 1 := by decide +kernel
theorem d53_47 : own_d B53 47 (.iload_n 1) 1 := by decide +kernel
theorem d53_48 : own_d B53 48 (.baload) 1 := by decide +kernel
theorem d53_49 : own_d B53 49 (.sipush 255) 3 := by decide +kernel
theorem d53_52 : own_d B53 52 (.iand) 1 := by decide +kernel
theorem d53_53 : own_d B53 53 (.getstatic 63) 3 := by decide +kernel
theorem d53_56 : own_d B53 56 (.ishl) 1 := by decide +kernel
theorem d53_57 : own_d B53 57 (.ior) 1 := by decide +kernel
theorem d53_58 : own_d B53 58 (.i2c) 1 := by decide +kernel
theorem d53_59 : own_d B53 59 (.ireturn) 1 := by decide +kernel
theorem ef_53 (m : MethodId) (p0 : Addr) (i : Nat) : entryFrame m #[(.ref p0), (.int (Int32.ofNat i))] 2 = mkF m 0 #[.val (.ref p0), .val (.int (Int32.ofNat i))] [] := by first | (simp [entryFrame, mkF, argsToLocals, Value.category]; done) | rfl
def Q53 (Z : State) (p0 : Addr) (i : Nat) (mm : Nat) (kb : ClassId) (ds : List Int32) (zc : Int32) (fm : Value) (h0 : Heap) (n0 : Nat) (v : Option Value) (h : Heap) (L : List Loc) : Prop := v = some (.int (ds.getD i 0)) ∧ Fr n0 L ∧ h = h0
theorem rm53 (l : Launch) (Z : State) (a0 : Array Value) (hw : ∀ d ∈ tables_1, d.before a0 Z = true) (ws : List Jvm.Cond) (p0 : Addr) (i : Nat) (mm : Nat) (kb : ClassId) (ds : List Int32) (zc : Int32) (fm : Value) (h0 : Heap) (n0 : Nat) (Z0 : n0 ≤ h0.size) (P_Old : Old Z n0 h0) (HA : own_Z Z zc fm) (P_V_p0 : Arv Z h0 p0 kb .byte (Int32.ofNat (2 * mm)) (own_w ds) (.int 0)) (hm : mm ≤ 22) (hi : i < ds.length) (hdl : ds.length ≤ mm) (hr : own_r (ds.getD i 0)) :
   own_M l Z Y9 jdk_52_method_5_code 2 (some .char) ws ({ frames := 0, cells := 0, slots := 0, locals := 0 } : Room) #[(.ref p0), (.int (Int32.ofNat i))] h0 (Q53 Z p0 i mm kb ds zc fm h0 n0) := by
 refine own_body (C := "java/lang/StringUTF16") rfl (plainFor_of_name pn_2) (fun p e s m below meth c s₁ Bd hx hby hml hown hlk hZ X0 e0 => ?_)
 have N0 := Fr.nil n0
 obtain ⟨Zcs, hcs, Zsi, hfm, Zad, Zhi, Zlo⟩ := id HA
 refine own_go (fun _ k => castTop (ef_53 m p0 i) k) ?_
 obtain ⟨T1, X1, e1, st1⟩ := getS2 X0 hx hZ hown (host := "") (Or.inl (own_h hw 258 rfl)) Via.refl e0 (Zad.ext P_Old.2) (g := (mkF m 0 #[.val (.ref p0), .val (.int (Int32.ofNat i))] [])) rfl (hb hby d53_0)
 refine own_go (fun _ k => st1 _ k) ?_
 show own_G _ _ _ (T1.setTop (mkF m 3 #[.val (.ref p0), .val (.int (Int32.ofNat i))] [(.int 1)])) _ _ _ _
 have hc2 : ¬ ((1 : Int32) = (0 : Int32)) := (by decide)
 refine own_go (fun _ k => XS.ifYes X1.here hx rfl (pc0 := 3) (pc' := 28) rfl (hb hby d53_3) rfl ((if0 _ _).trans (feq hc2).2) (by decide) (by decide) (XS.iloadN X1.here hx rfl (hb hby d53_28) rfl (XS.iconst X1.here hx rfl (hb hby d53_29) k))) ?_
 show own_G _ _ _ (T1.setTop (mkF m 30 #[.val (.ref p0), .val (.int (Int32.ofNat i))] [(.int 1), (.int (Int32.ofNat i))])) _ _ _ _
 refine own_go (fun _ k => XS.ishl X1.here hx rfl (hb hby d53_30) rfl k) ?_
 rw [own_shl1 i (by omega)]
 show own_G _ _ _ (T1.setTop (mkF m 31 #[.val (.ref p0), .val (.int (Int32.ofNat i))] [(.int (Int32.ofNat (2 * i)))])) _ _ _ _
 refine own_go (fun _ k => XS.istoreN X1.here hx rfl (hb hby d53_31) rfl (l' := #[.val (.ref p0), .val (.int (Int32.ofNat (2 * i)))]) rfl (XS.aloadN X1.here hx rfl (hb hby d53_32) rfl rfl (XS.iloadN X1.here hx rfl (hb hby d53_33) rfl k))) ?_
 show own_G _ _ _ (T1.setTop (mkF m 34 #[.val (.ref p0), .val (.int (Int32.ofNat (2 * i)))] [(.int (Int32.ofNat (2 * i))), (.ref p0)])) _ _ _ _
 refine own_go (fun _ k => XS.iinc X1.here hx rfl (hb hby d53_34) rfl (l' := #[.val (.ref p0), .val (.int ((Int32.ofNat (2 * i)) + (1 : Int32)))]) rfl k) ?_
 rw [own_inc (2 * i)]
 show own_G _ _ _ (T1.setTop (mkF m 37 #[.val (.ref p0), .val (.int (Int32.ofNat ((2 * i) + 1)))] [(.int (Int32.ofNat (2 * i))), (.ref p0)])) _ _ _ _
 obtain ⟨cl3, Ar3, q3, S3, Ng3, H3, G3⟩ := id P_V_p0
 have in3 : ¬ ((Int32.ofNat (2 * i)) < 0 ∨ cl3.slots.size ≤ ((Int32.ofNat (2 * i))).toNatClampNeg) := inb_of S3 (own_inb (n := 2 * mm) (by omega) (by omega))
 have at3 : cl3.slots[((Int32.ofNat (2 * i))).toNatClampNeg]? = some (.int (own_lo (ds.getD i 0))) := H3.at in3 (by rw [own_cl (2 * i) (by omega)]; exact own_w_lo ds i hi)
 refine own_go (fun _ k => X1.baloadBytes hx (j := (Int32.ofNat (2 * i))) (v := (.int (own_lo (ds.getD i 0)))) (by rw [e1]; exact Ar3.1) (State.isArrayOf_alike hZ.alike Ar3.2.1) Ar3.2.2 in3 at3 (g := (mkF m 37 #[.val (.ref p0), .val (.int (Int32.ofNat ((2 * i) + 1)))] [(.int (Int32.ofNat (2 * i))), (.ref p0)])) rfl rfl (hb hby d53_37) _ (XS.sipush X1.here hx rfl (hb hby d53_38) (XS.iand X1.here hx rfl (hb hby d53_41) rfl k))) ?_
 obtain ⟨T4, X4, e4, st4⟩ := getS2 X1 hx hZ hown (host := "") (Or.inl (own_h hw 259 rfl)) Via.refl e1 (Zhi.ext P_Old.2) (g := (mkF m 42 #[.val (.ref p0), .val (.int (Int32.ofNat ((2 * i) + 1)))] [(.int ((own_lo (ds.getD i 0)) &&& (255 : Int32)))])) rfl (hb hby d53_42)
 refine own_go (fun _ k => st4 _ (XS.ishl X4.here hx rfl (hb hby d53_45) rfl (XS.aloadN X4.here hx rfl (hb hby d53_46) rfl rfl (XS.iloadN X4.here hx rfl (hb hby d53_47) rfl k)))) ?_
 obtain ⟨cl5, Ar5, q5, S5, Ng5, H5, G5⟩ := id P_V_p0
 have in5 : ¬ ((Int32.ofNat ((2 * i) + 1)) < 0 ∨ cl5.slots.size ≤ ((Int32.ofNat ((2 * i) + 1))).toNatClampNeg) := inb_of S5 (own_inb (n := 2 * mm) (by omega) (by omega))
 have at5 : cl5.slots[((Int32.ofNat ((2 * i) + 1))).toNatClampNeg]? = some (.int (own_hi (ds.getD i 0))) := H5.at in5 (by rw [own_cl (2 * i + 1) (by omega)]; exact own_w_hi ds i hi)
 refine own_go (fun _ k => X4.baloadBytes hx (j := (Int32.ofNat ((2 * i) + 1))) (v := (.int (own_hi (ds.getD i 0)))) (by rw [e4]; exact Ar5.1) (State.isArrayOf_alike hZ.alike Ar5.2.1) Ar5.2.2 in5 at5 (g := (mkF m 48 #[.val (.ref p0), .val (.int (Int32.ofNat ((2 * i) + 1)))] [(.int (Int32.ofNat ((2 * i) + 1))), (.ref p0), (.int (((own_lo (ds.getD i 0)) &&& (255 : Int32)) <<< ((0 : Int32) &&& 31)))])) rfl rfl (hb hby d53_48) _ (XS.sipush X4.here hx rfl (hb hby d53_49) (XS.iand X4.here hx rfl (hb hby d53_52) rfl k))) ?_
 obtain ⟨T6, X6, e6, st6⟩ := getS2 X4 hx hZ hown (host := "") (Or.inl (own_h hw 260 rfl)) Via.refl e4 (Zlo.ext P_Old.2) (g := (mkF m 53 #[.val (.ref p0), .val (.int (Int32.ofNat ((2 * i) + 1)))] [(.int ((own_hi (ds.getD i 0)) &&& (255 : Int32))), (.int (((own_lo (ds.getD i 0)) &&& (255 : Int32)) <<< ((0 : Int32) &&& 31)))])) rfl (hb hby d53_53)
 refine own_go (fun _ k => st6 _ (XS.ishl X6.here hx rfl (hb hby d53_56) rfl (XS.ior X6.here hx rfl (hb hby d53_57) rfl k))) ?_
 show own_G _ _ _ (T6.setTop (mkF m 58 #[.val (.ref p0), .val (.int (Int32.ofNat ((2 * i) + 1)))] [(.int ((((own_lo (ds.getD i 0)) &&& (255 : Int32)) <<< ((0 : Int32) &&& 31)) ||| (((own_hi (ds.getD i 0)) &&& (255 : Int32)) <<< ((8 : Int32) &&& 31))))])) _ _ _ _
 refine own_go (fun _ k => XS.i2c X6.here hx rfl (hb hby d53_58) rfl k) ?_
 rw [own_pair _ hr]
 show own_G _ _ _ (T6.setTop (mkF m 59 #[.val (.ref p0), .val (.int (Int32.ofNat ((2 * i) + 1)))] [(.int (ds.getD i 0))])) _ _ _ _
 exact own_endN X6 hx hlk (t := .char) Bd.returns (by simp) (hb hby d53_59) (by decide) (by decide) (Q := (Q53 Z p0 i mm kb ds zc fm h0 n0)) (by rw [e6]; exact ⟨(by rw [own_rnar _ hr]), N0, rfl⟩)
theorem d61_0 : own_d B61 0 (.iload_n 0) 1 := by decide +kernel
theorem d61_1 : own_d B61 1 (.aload_n 1) 1 := by decide +kernel
theorem d61_2 : own_d B61 2 (.invokestatic 48) 3 := by decide +kernel
theorem d61_5 : own_d B61 5 (.invokestatic 414) 3 := by decide +kernel
theorem d61_8 : own_d B61 8 (.return_) 1 := by decide +kernel
theorem pd_2 : parseMethodDescriptor "([B)I" = some ⟨[(.array .byte)], some .int⟩ := by decide +kernel
theorem pd_3 : parseMethodDescriptor "(II)V" = some ⟨[.int, .int], none⟩ := by decide +kernel
theorem ef_61 (m : MethodId) (p1 : Addr) (i : Nat) : entryFrame m #[(.int (Int32.ofNat i)), (.ref p1)] 2 = mkF m 0 #[.val (.int (Int32.ofNat i)), .val (.ref p1)] [] := by first | (simp [entryFrame, mkF, argsToLocals, Value.category]; done) | rfl
def Q61 (Z : State) (p1 : Addr) (i : Nat) (mm : Nat) (kb : ClassId) (ds : List Int32) (zc : Int32) (fm : Value) (h0 : Heap) (n0 : Nat) (v : Option Value) (h : Heap) (L : List Loc) : Prop := v = none ∧ Fr n0 L ∧ h = h0
theorem rm61 (l : Launch) (Z : State) (a0 : Array Value) (hw : ∀ d ∈ tables_1, d.before a0 Z = true) (ws : List Jvm.Cond) (p1 : Addr) (i : Nat) (mm : Nat) (kb : ClassId) (ds : List Int32) (zc : Int32) (fm : Value) (h0 : Heap) (n0 : Nat) (Z0 : n0 ≤ h0.size) (P_Old : Old Z n0 h0) (HA : own_Z Z zc fm) (P_V_p1 : Arv Z h0 p1 kb .byte (Int32.ofNat (2 * mm)) (own_w ds) (.int 0)) (hm : mm ≤ 22) (hib : i < mm) :
   own_M l Z Y10 jdk_52_method_91_code 2 none ws ({ frames := 2, cells := 0, slots := 0, locals := 27 } : Room) #[(.int (Int32.ofNat i)), (.ref p1)] h0 (Q61 Z p1 i mm kb ds zc fm h0 n0) := by
 refine own_body (C := "java/lang/StringUTF16") rfl (plainFor_of_name pn_2) (fun p e s m below meth c s₁ Bd hx hby hml hown hlk hZ X0 e0 => ?_)
 have N0 := Fr.nil n0
 obtain ⟨Zcs, hcs, Zsi, hfm, Zad, Zhi, Zlo⟩ := id HA
 refine own_go (fun _ k => castTop (ef_61 m p1 i) (XS.iloadN X0.here hx rfl (hb hby d61_0) rfl (XS.aloadN X0.here hx rfl (hb hby d61_1) rfl rfl k))) ?_
 obtain ⟨_, _, ⟨T1, L1, k1, n1⟩, -, X1, ⟨Lc1, hQ1, l1, y1, z1⟩, st1⟩ := Jvm.LawKit.callS X0 hx (y := Y7) hown (mvT hZ (own_h hw 276 rfl)) (mvT hZ (own_h hw 277 rfl)) (mvT hZ (own_h hw 56 rfl)) (mvT hZ (own_h hw 278 rfl)) (by decide) (backOf (W := 1) (rm57 l Z a0 hw [] p1 mm kb ds h0 n0 Z0 P_V_p1 (by assumption)) hZ (own_h hw 278 rfl) (own_h hw 56 rfl) (by decide) (by decide)) (g := (mkF m 2 #[.val (.int (Int32.ofNat i)), .val (.ref p1)] [(.ref p1), (.int (Int32.ofNat i))])) rfl (by rw [hml]; rfl) (argsL := [(.ref p1)]) (rest := [(.int (Int32.ofNat i))]) (lenOf pd_2 rfl) rfl (own_r0 _) (hb hby d61_2) (fun _ _ => ⟨rfl, e0, (by decide : 0 + 0 ≤ _), (by decide : 0 + 0 ≤ _)⟩)
 dsimp only [Pt.U, Pt.locs, Pt.cells, Pt.slots] at X1 l1 y1 z1 st1 hQ1
 rw [l1] at X1
 subst y1 z1
 obtain ⟨rfl, Nq1, eh1⟩ := hQ1
 have N1 := Fr.app N0 Nq1
 refine own_go (fun _ k => st1 _ k) ?_
 obtain ⟨_, _, ⟨T2, L2, k2, n2⟩, -, X2, ⟨Lc2, hQ2, l2, y2, z2⟩, st2⟩ := Jvm.LawKit.callS X1 hx (y := Y2) hown (mvT hZ (own_h hw 293 rfl)) (mvT hZ (own_h hw 33 rfl)) (mvT hZ (own_h hw 8 rfl)) (mvT hZ (own_h hw 34 rfl)) (by decide) (backOf (W := 0) (rm5 l Z a0 hw [] (Int32.ofNat i) (Int32.ofNat mm) zc fm h0 n0 Z0 P_Old HA (own_inb hib (by omega)).1 (own_inb hib (by omega)).2) hZ (own_h hw 34 rfl) (own_h hw 8 rfl) (by decide) (by decide)) (g := (mkF m 5 #[.val (.int (Int32.ofNat i)), .val (.ref p1)] [(.int (Int32.ofNat mm)), (.int (Int32.ofNat i))])) rfl (by rw [hml]; rfl) (argsL := [(.int (Int32.ofNat i)), (.int (Int32.ofNat mm))]) (rest := []) (lenOf pd_3 rfl) rfl (own_r0 _) (hb hby d61_5) (fun _ _ => ⟨rfl, eh1, (by decide : 0 + 0 ≤ _), (by decide : 0 + 0 ≤ _)⟩)
 dsimp only [Pt.U, Pt.locs, Pt.cells, Pt.slots] at X2 l2 y2 z2 st2 hQ2
 rw [l2] at X2
 subst y2 z2
 obtain ⟨rfl, Nq2, eh2⟩ := hQ2
 have N2 := Fr.app N1 Nq2
 refine own_go (fun _ k => st2 _ k) ?_
 show own_G _ _ _ (T2.setTop (mkF m 8 #[.val (.int (Int32.ofNat i)), .val (.ref p1)] [])) _ _ _ _
 exact own_endV X2 hx hlk Bd.returns (hb hby d61_8) (by decide) (by decide) (Q := (Q61 Z p1 i mm kb ds zc fm h0 n0)) (by rw [eh2]; exact ⟨rfl, N2, rfl⟩)
theorem d60_0 : own_d B60 0 (.iload_n 1) 1 := by decide +kernel
theorem d60_1 : own_d B60 1 (.aload_n 0) 1 := by decide +kernel
theorem d60_2 : own_d B60 2 (.invokestatic 67) 3 := by decide +kernel
theorem d60_5 : own_d B60 5 (.aload_n 0) 1 := by decide +kernel
theorem d60_6 : own_d B60 6 (.iload_n 1) 1 := by decide +kernel
theorem d60_7 : own_d B60 7 (.invokestatic 71) 3 := by decide +kernel
theorem d60_10 : own_d B60 10 (.ireturn) 1 := by decide +kernel
theorem pd_4 : parseMethodDescriptor "(I[B)V" = some ⟨[.int, (.array .byte)], none⟩ := by decide +kernel
theorem pd_5 : parseMethodDescriptor "([BI)C" = some ⟨[(.array .byte), .int], some .char⟩ := by decide +kernel
theorem ef_60 (m : MethodId) (p0 : Addr) (i : Nat) : entryFrame m #[(.ref p0), (.int (Int32.ofNat i))] 2 = mkF m 0 #[.val (.ref p0), .val (.int (Int32.ofNat i))] [] := by first | (simp [entryFrame, mkF, argsToLocals, Value.category]; done) | rfl
def Q60 (Z : State) (p0 : Addr) (i : Nat) (mm : Nat) (kb : ClassId) (ds : List Int32) (zc : Int32) (fm : Value) (h0 : Heap) (n0 : Nat) (v : Option Value) (h : Heap) (L : List Loc) : Prop := v = some (.int (ds.getD i 0)) ∧ Fr n0 L ∧ h = h0
theorem rm60 (l : Launch) (Z : State) (a0 : Array Value) (hw : ∀ d ∈ tables_1, d.before a0 Z = true) (ws : List Jvm.Cond) (p0 : Addr) (i : Nat) (mm : Nat) (kb : ClassId) (ds : List Int32) (zc : Int32) (fm : Value) (h0 : Heap) (n0 : Nat) (Z0 : n0 ≤ h0.size) (P_Old : Old Z n0 h0) (HA : own_Z Z zc fm) (P_V_p0 : Arv Z h0 p0 kb .byte (Int32.ofNat (2 * mm)) (own_w ds) (.int 0)) (hm : mm ≤ 22) (hi : i < ds.length) (hdl : ds.length ≤ mm) (hr : own_r (ds.getD i 0)) :
   own_M l Z Y11 jdk_52_method_83_code 2 (some .char) ws ({ frames := 3, cells := 0, slots := 0, locals := 40 } : Room) #[(.ref p0), (.int (Int32.ofNat i))] h0 (Q60 Z p0 i mm kb ds zc fm h0 n0) := by
 refine own_body (C := "java/lang/StringUTF16") rfl (plainFor_of_name pn_2) (fun p e s m below meth c s₁ Bd hx hby hml hown hlk hZ X0 e0 => ?_)
 have N0 := Fr.nil n0
 obtain ⟨Zcs, hcs, Zsi, hfm, Zad, Zhi, Zlo⟩ := id HA
 refine own_go (fun _ k => castTop (ef_60 m p0 i) (XS.iloadN X0.here hx rfl (hb hby d60_0) rfl (XS.aloadN X0.here hx rfl (hb hby d60_1) rfl rfl k))) ?_
 obtain ⟨_, _, ⟨T1, L1, k1, n1⟩, -, X1, ⟨Lc1, hQ1, l1, y1, z1⟩, st1⟩ := Jvm.LawKit.callS X0 hx (y := Y10) hown (mvT hZ (own_h hw 290 rfl)) (mvT hZ (own_h hw 291 rfl)) (mvT hZ (own_h hw 56 rfl)) (mvT hZ (own_h hw 292 rfl)) (by decide) (backOf (W := 0) (rm61 l Z a0 hw [] p0 i mm kb ds zc fm h0 n0 Z0 P_Old HA P_V_p0 (by assumption) (by omega)) hZ (own_h hw 292 rfl) (own_h hw 56 rfl) (by decide) (by decide)) (g := (mkF m 2 #[.val (.ref p0), .val (.int (Int32.ofNat i))] [(.ref p0), (.int (Int32.ofNat i))])) rfl (by rw [hml]; rfl) (argsL := [(.int (Int32.ofNat i)), (.ref p0)]) (rest := []) (lenOf pd_4 rfl) rfl (own_r0 _) (hb hby d60_2) (fun _ _ => ⟨rfl, e0, (by decide : 0 + 0 ≤ _), (by decide : 0 + 0 ≤ _)⟩)
 dsimp only [Pt.U, Pt.locs, Pt.cells, Pt.slots] at X1 l1 y1 z1 st1 hQ1
 rw [l1] at X1
 subst y1 z1
 obtain ⟨rfl, Nq1, eh1⟩ := hQ1
 have N1 := Fr.app N0 Nq1
 refine own_go (fun _ k => st1 _ (XS.aloadN X1.here hx rfl (hb hby d60_5) rfl rfl (XS.iloadN X1.here hx rfl (hb hby d60_6) rfl k))) ?_
 obtain ⟨_, _, ⟨T2, L2, k2, n2⟩, -, X2, ⟨Lc2, hQ2, l2, y2, z2⟩, st2⟩ := Jvm.LawKit.callS X1 hx (y := Y9) hown (mvT hZ (own_h hw 261 rfl)) (mvT hZ (own_h hw 262 rfl)) (mvT hZ (own_h hw 56 rfl)) (mvT hZ (own_h hw 263 rfl)) (by decide) (backOf (W := 0) (rm53 l Z a0 hw [] p0 i mm kb ds zc fm h0 n0 Z0 P_Old HA P_V_p0 (by assumption) (by assumption) (by assumption) (by assumption)) hZ (own_h hw 263 rfl) (own_h hw 56 rfl) (by decide) (by decide)) (g := (mkF m 7 #[.val (.ref p0), .val (.int (Int32.ofNat i))] [(.int (Int32.ofNat i)), (.ref p0)])) rfl (by rw [hml]; rfl) (argsL := [(.ref p0), (.int (Int32.ofNat i))]) (rest := []) (lenOf pd_5 rfl) rfl (own_r0 _) (hb hby d60_7) (fun _ _ => ⟨rfl, eh1, (by decide : 0 + 0 ≤ _), (by decide : 0 + 0 ≤ _)⟩)
 dsimp only [Pt.U, Pt.locs, Pt.cells, Pt.slots] at X2 l2 y2 z2 st2 hQ2
 rw [l2] at X2
 subst y2 z2
 obtain ⟨rfl, Nq2, eh2⟩ := hQ2
 have N2 := Fr.app N1 Nq2
 refine own_go (fun _ k => st2 _ k) ?_
 show own_G _ _ _ (T2.setTop (mkF m 10 #[.val (.ref p0), .val (.int (Int32.ofNat i))] [(.int (ds.getD i 0))])) _ _ _ _
 exact own_endN X2 hx hlk (t := .char) Bd.returns (by simp) (hb hby d60_10) (by decide) (by decide) (Q := (Q60 Z p0 i mm kb ds zc fm h0 n0)) (by rw [eh2]; exact ⟨(by rw [own_rnar _ hr]), N2, rfl⟩)
theorem d4_0 : own_d B4 0 (.iload_n 1) 1 := by decide +kernel
theorem d4_1 : own_d B4 1 (.aload_n 0) 1 := by decide +kernel
theorem d4_2 : own_d B4 2 (.arraylength) 1 := by decide +kernel
theorem d4_3 : own_d B4 3 (.invokestatic 9) 3 := by decide +kernel
theorem d4_6 : own_d B4 6 (.aload_n 0) 1 := by decide +kernel
theorem d4_7 : own_d B4 7 (.iload_n 1) 1 := by decide +kernel
theorem d4_8 : own_d B4 8 (.baload) 1 := by decide +kernel
theorem d4_9 : own_d B4 9 (.sipush 255) 3 := by decide +kernel
theorem d4_12 : own_d B4 12 (.iand) 1 := by decide +kernel
theorem d4_13 : own_d B4 13 (.i2c) 1 := by decide +kernel
theorem d4_14 : own_d B4 14 (.ireturn) 1 := by decide +kernel
theorem pn_3 : plainName "java/lang/StringLatin1" = true := by first | (simp [plainName, overriddenIn]; done) | decide +kernel
theorem ef_4 (m : MethodId) (p0 : Addr) (i : Nat) : entryFrame m #[(.ref p0), (.int (Int32.ofNat i))] 2 = mkF m 0 #[.val (.ref p0), .val (.int (Int32.ofNat i))] [] := by first | (simp [entryFrame, mkF, argsToLocals, Value.category]; done) | rfl
def Q4 (Z : State) (p0 : Addr) (i : Nat) (mm : Nat) (kb : ClassId) (ds : List Int32) (zc : Int32) (fm : Value) (h0 : Heap) (n0 : Nat) (v : Option Value) (h : Heap) (L : List Loc) : Prop := v = some (.int (ds.getD i 0)) ∧ Fr n0 L ∧ h = h0
theorem rm4 (l : Launch) (Z : State) (a0 : Array Value) (hw : ∀ d ∈ tables_1, d.before a0 Z = true) (ws : List Jvm.Cond) (p0 : Addr) (i : Nat) (mm : Nat) (kb : ClassId) (ds : List Int32) (zc : Int32) (fm : Value) (h0 : Heap) (n0 : Nat) (Z0 : n0 ≤ h0.size) (P_Old : Old Z n0 h0) (HA : own_Z Z zc fm) (P_V_p0 : Arv Z h0 p0 kb .byte (Int32.ofNat mm) (own_l1 ds) (.int 0)) (hm : mm ≤ 22) (hi : i < ds.length) (hdl : ds.length ≤ mm) (hr : own_r (ds.getD i 0)) (ha8 : ¬ (255 : Int32) < ds.getD i 0) :
   own_M l Z Y12 jdk_43_method_2_code 2 (some .char) ws ({ frames := 2, cells := 0, slots := 0, locals := 27 } : Room) #[(.ref p0), (.int (Int32.ofNat i))] h0 (Q4 Z p0 i mm kb ds zc fm h0 n0) := by
 refine own_body (C := "java/lang/StringLatin1") rfl (plainFor_of_name pn_3) (fun p e s m below meth c s₁ Bd hx hby hml hown hlk hZ X0 e0 => ?_)
 have N0 := Fr.nil n0
 obtain ⟨Zcs, hcs, Zsi, hfm, Zad, Zhi, Zlo⟩ := id HA
 refine own_go (fun _ k => castTop (ef_4 m p0 i) (XS.iloadN X0.here hx rfl (hb hby d4_0) rfl (XS.aloadN X0.here hx rfl (hb hby d4_1) rfl rfl k))) ?_
 obtain ⟨cl1, Ar1, -, S1, Ng1, -, -⟩ := id P_V_p0
 refine own_go (fun _ k => X0.arraylength hx (by rw [e0]; exact Ar1.1) (State.isArrayOf_alike hZ.alike Ar1.2.1) (g := (mkF m 2 #[.val (.ref p0), .val (.int (Int32.ofNat i))] [(.ref p0), (.int (Int32.ofNat i))])) rfl rfl (hb hby d4_2) _ k) ?_
 rw [len_of S1 Ng1]
 show own_G _ _ _ (s₁.setTop (mkF m 3 #[.val (.ref p0), .val (.int (Int32.ofNat i))] [(.int (Int32.ofNat mm)), (.int (Int32.ofNat i))])) _ _ _ _
 obtain ⟨_, _, ⟨T2, L2, k2, n2⟩, -, X2, ⟨Lc2, hQ2, l2, y2, z2⟩, st2⟩ := Jvm.LawKit.callS X0 hx (y := Y2) hown (mvT hZ (own_h hw 32 rfl)) (mvT hZ (own_h hw 33 rfl)) (mvT hZ (own_h hw 8 rfl)) (mvT hZ (own_h hw 34 rfl)) (by decide) (backOf (W := 0) (rm5 l Z a0 hw [] (Int32.ofNat i) (Int32.ofNat mm) zc fm h0 n0 Z0 P_Old HA (own_inb (n := mm) (by omega) (by omega)).1 (own_inb (n := mm) (by omega) (by omega)).2) hZ (own_h hw 34 rfl) (own_h hw 8 rfl) (by decide) (by decide)) (g := (mkF m 3 #[.val (.ref p0), .val (.int (Int32.ofNat i))] [(.int (Int32.ofNat mm)), (.int (Int32.ofNat i))])) rfl (by rw [hml]; rfl) (argsL := [(.int (Int32.ofNat i)), (.int (Int32.ofNat mm))]) (rest := []) (lenOf pd_3 rfl) rfl (own_r0 _) (hb hby d4_3) (fun _ _ => ⟨rfl, e0, (by decide : 0 + 0 ≤ _), (by decide : 0 + 0 ≤ _)⟩)
 dsimp only [Pt.U, Pt.locs, Pt.cells, Pt.slots] at X2 l2 y2 z2 st2 hQ2
 rw [l2] at X2
 subst y2 z2
 obtain ⟨rfl, Nq2, eh2⟩ := hQ2
 have N2 := Fr.app N0 Nq2
 refine own_go (fun _ k => st2 _ (XS.aloadN X2.here hx rfl (hb hby d4_6) rfl rfl (XS.iloadN X2.here hx rfl (hb hby d4_7) rfl k))) ?_
 obtain ⟨cl3, Ar3, q3, S3, Ng3, H3, G3⟩ := id P_V_p0
 have in3 : ¬ ((Int32.ofNat i) < 0 ∨ cl3.slots.size ≤ ((Int32.ofNat i)).toNatClampNeg) := inb_of S3 (own_inb (n := mm) (by omega) (by omega))
 have at3 : cl3.slots[((Int32.ofNat i)).toNatClampNeg]? = some (.int (own_lo (ds.getD i 0))) := H3.at in3 (by rw [own_cl (i) (by omega)]; exact StrChars.Road.low_at _ ds i hi)
 refine own_go (fun _ k => X2.baloadBytes hx (j := (Int32.ofNat i)) (v := (.int (own_lo (ds.getD i 0)))) (by rw [eh2]; exact Ar3.1) (State.isArrayOf_alike hZ.alike Ar3.2.1) Ar3.2.2 in3 at3 (g := (mkF m 8 #[.val (.ref p0), .val (.int (Int32.ofNat i))] [(.int (Int32.ofNat i)), (.ref p0)])) rfl rfl (hb hby d4_8) _ (XS.sipush X2.here hx rfl (hb hby d4_9) (XS.iand X2.here hx rfl (hb hby d4_12) rfl k))) ?_
 show own_G _ _ _ (T2.setTop (mkF m 13 #[.val (.ref p0), .val (.int (Int32.ofNat i))] [(.int ((own_lo (ds.getD i 0)) &&& (255 : Int32)))])) _ _ _ _
 refine own_go (fun _ k => XS.i2c X2.here hx rfl (hb hby d4_13) rfl k) ?_
 rw [own_c8 _ hr ha8]
 show own_G _ _ _ (T2.setTop (mkF m 14 #[.val (.ref p0), .val (.int (Int32.ofNat i))] [(.int (ds.getD i 0))])) _ _ _ _
 exact own_endN X2 hx hlk (t := .char) Bd.returns (by simp) (hb hby d4_14) (by decide) (by decide) (Q := (Q4 Z p0 i mm kb ds zc fm h0 n0)) (by rw [eh2]; exact ⟨(by rw [own_rnar _ hr]), N2, rfl⟩)
theorem d3_0 : own_d B3 0 (.getstatic 38) 3 := by decide +kernel
theorem d3_3 : own_d B3 3 (.ifCond .eq 14) 3 := by decide +kernel
theorem d3_6 : own_d B3 6 (.aload_n 0) 1 := by decide +kernel
theorem d3_7 : own_d B3 7 (.getfield 15) 3 := by decide +kernel
theorem d3_10 : own_d B3 10 (.ifCond .ne 7) 3 := by decide +kernel
theorem d3_13 : own_d B3 13 (.iconst 1) 1 := by decide +kernel
theorem d3_14 : own_d B3 14 (.goto 4) 3 := by decide +kernel
theorem d3_17 : own_d B3 17 (.iconst 0) 1 := by decide +kernel
theorem d3_18 : own_d B3 18 (.ireturn) 1 := by decide +kernel
theorem ef_3a (m : MethodId) (p0 : Addr) : entryFrame m #[(.ref p0)] 1 = mkF m 0 #[.val (.ref p0)] [] := by first | (simp [entryFrame, mkF, argsToLocals, Value.category]; done) | rfl
def Q3a (Z : State) (p0 : Addr) (zc : Int32) (fm : Value) (h0 : Heap) (n0 : Nat) (v : Option Value) (h : Heap) (L : List Loc) : Prop := v = some (.int 1) ∧ Fr n0 L ∧ h = h0
theorem rm3a (l : Launch) (Z : State) (a0 : Array Value) (hw : ∀ d ∈ tables_1, d.before a0 Z = true) (ws : List Jvm.Cond) (p0 : Addr) (zc : Int32) (fm : Value) (h0 : Heap) (n0 : Nat) (Z0 : n0 ≤ h0.size) (P_Old : Old Z n0 h0) (HA : own_Z Z zc fm) (P_F_p0_coder : Fld Z h0 p0 "java/lang/String" "coder" "B" (.int 0)) :
   own_M l Z Y13 jdk_42_method_154_code 1 (some .boolean) ws ({ frames := 0, cells := 0, slots := 0, locals := 0 } : Room) #[(.ref p0)] h0 (Q3a Z p0 zc fm h0 n0) := by
 refine own_body (C := "java/lang/String") rfl (plainFor_of_name pn_1) (fun p e s m below meth c s₁ Bd hx hby hml hown hlk hZ X0 e0 => ?_)
 have N0 := Fr.nil n0
 obtain ⟨Zcs, hcs, Zsi, hfm, Zad, Zhi, Zlo⟩ := id HA
 refine own_go (fun _ k => castTop (ef_3a m p0) k) ?_
 obtain ⟨T1, X1, e1, st1⟩ := getS2 X0 hx hZ hown (host := "") (Or.inl (own_h hw 25 rfl)) Via.refl e0 (Zcs.ext P_Old.2) (g := (mkF m 0 #[.val (.ref p0)] [])) rfl (hb hby d3_0)
 refine own_go (fun _ k => st1 _ k) ?_
 show own_G _ _ _ (T1.setTop (mkF m 3 #[.val (.ref p0)] [(.int zc)])) _ _ _ _
 have hc2 : ¬ (zc = (0 : Int32)) := hcs
 refine own_go (fun _ k => XS.ifNo X1.here hx rfl (hb hby d3_3) rfl ((if0 _ _).trans (feq hc2).1) (XS.aloadN X1.here hx rfl (hb hby d3_6) rfl rfl k)) ?_
 obtain ⟨T3, X3, e3, st3⟩ := getF X1 hx hZ hown (host := "") (Or.inl (own_h hw 26 rfl)) Via.refl e1 P_F_p0_coder (g := (mkF m 7 #[.val (.ref p0)] [(.ref p0)])) rfl rfl (hb hby d3_7)
 refine own_go (fun _ k => st3 _ k) ?_
 show own_G _ _ _ (T3.setTop (mkF m 10 #[.val (.ref p0)] [(.int 0)])) _ _ _ _
 have hc4 : (0 : Int32) = (0 : Int32) := (by decide)
 refine own_go (fun _ k => XS.ifNo X3.here hx rfl (hb hby d3_10) rfl ((if0 _ _).trans (teq hc4).2) (XS.iconst X3.here hx rfl (hb hby d3_13) (XS.goto X3.here hx rfl (pc0 := 14) (pc' := 18) rfl (hb hby d3_14) (by decide) (by decide) k))) ?_
 show own_G _ _ _ (T3.setTop (mkF m 18 #[.val (.ref p0)] [(.int 1)])) _ _ _ _
 exact own_endN X3 hx hlk (t := .boolean) Bd.returns (by simp) (hb hby d3_18) (by decide) (by decide) (Q := (Q3a Z p0 zc fm h0 n0)) (by rw [e3]; exact ⟨rfl, N0, rfl⟩)
theorem d18_0 : own_d B18 0 (.getstatic 38) 3 := by decide +kernel
theorem d18_3 : own_d B18 3 (.ifCond .eq 10) 3 := by decide +kernel
theorem d18_6 : own_d B18 6 (.aload_n 0) 1 := by decide +kernel
theorem d18_7 : own_d B18 7 (.getfield 15) 3 := by decide +kernel
theorem d18_10 : own_d B18 10 (.goto 4) 3 := by decide +kernel
theorem d18_14 : own_d B18 14 (.ireturn) 1 := by decide +kernel
theorem ef_18a (m : MethodId) (p0 : Addr) : entryFrame m #[(.ref p0)] 1 = mkF m 0 #[.val (.ref p0)] [] := by first | (simp [entryFrame, mkF, argsToLocals, Value.category]; done) | rfl
def Q18a (Z : State) (p0 : Addr) (zc : Int32) (fm : Value) (h0 : Heap) (n0 : Nat) (v : Option Value) (h : Heap) (L : List Loc) : Prop := v = some (.int 0) ∧ Fr n0 L ∧ h = h0
theorem rm18a (l : Launch) (Z : State) (a0 : Array Value) (hw : ∀ d ∈ tables_1, d.before a0 Z = true) (ws : List Jvm.Cond) (p0 : Addr) (zc : Int32) (fm : Value) (h0 : Heap) (n0 : Nat) (Z0 : n0 ≤ h0.size) (P_Old : Old Z n0 h0) (HA : own_Z Z zc fm) (P_F_p0_coder : Fld Z h0 p0 "java/lang/String" "coder" "B" (.int 0)) :
   own_M l Z Y14 jdk_42_method_152_code 1 (some .byte) ws ({ frames := 0, cells := 0, slots := 0, locals := 0 } : Room) #[(.ref p0)] h0 (Q18a Z p0 zc fm h0 n0) := by
 refine own_body (C := "java/lang/String") rfl (plainFor_of_name pn_1) (fun p e s m below meth c s₁ Bd hx hby hml hown hlk hZ X0 e0 => ?_)
 have N0 := Fr.nil n0
 obtain ⟨Zcs, hcs, Zsi, hfm, Zad, Zhi, Zlo⟩ := id HA
 refine own_go (fun _ k => castTop (ef_18a m p0) k) ?_
 obtain ⟨T1, X1, e1, st1⟩ := getS2 X0 hx hZ hown (host := "") (Or.inl (own_h hw 25 rfl)) Via.refl e0 (Zcs.ext P_Old.2) (g := (mkF m 0 #[.val (.ref p0)] [])) rfl (hb hby d18_0)
 refine own_go (fun _ k => st1 _ k) ?_
 show own_G _ _ _ (T1.setTop (mkF m 3 #[.val (.ref p0)] [(.int zc)])) _ _ _ _
 have hc2 : ¬ (zc = (0 : Int32)) := hcs
 refine own_go (fun _ k => XS.ifNo X1.here hx rfl (hb hby d18_3) rfl ((if0 _ _).trans (feq hc2).1) (XS.aloadN X1.here hx rfl (hb hby d18_6) rfl rfl k)) ?_
 obtain ⟨T3, X3, e3, st3⟩ := getF X1 hx hZ hown (host := "") (Or.inl (own_h hw 26 rfl)) Via.refl e1 P_F_p0_coder (g := (mkF m 7 #[.val (.ref p0)] [(.ref p0)])) rfl rfl (hb hby d18_7)
 refine own_go (fun _ k => st3 _ (XS.goto X3.here hx rfl (pc0 := 10) (pc' := 14) rfl (hb hby d18_10) (by decide) (by decide) k)) ?_
 show own_G _ _ _ (T3.setTop (mkF m 14 #[.val (.ref p0)] [(.int 0)])) _ _ _ _
 exact own_endN X3 hx hlk (t := .byte) Bd.returns (by simp) (hb hby d18_14) (by decide) (by decide) (Q := (Q18a Z p0 zc fm h0 n0)) (by rw [e3]; exact ⟨(by rw [own_nb0]), N0, rfl⟩)
def Q3b (Z : State) (p0 : Addr) (zc : Int32) (fm : Value) (h0 : Heap) (n0 : Nat) (v : Option Value) (h : Heap) (L : List Loc) : Prop := v = some (.int 0) ∧ Fr n0 L ∧ h = h0
theorem rm3b (l : Launch) (Z : State) (a0 : Array Value) (hw : ∀ d ∈ tables_1, d.before a0 Z = true) (ws : List Jvm.Cond) (p0 : Addr) (zc : Int32) (fm : Value) (h0 : Heap) (n0 : Nat) (Z0 : n0 ≤ h0.size) (P_Old : Old Z n0 h0) (HA : own_Z Z zc fm) (P_F_p0_coder : Fld Z h0 p0 "java/lang/String" "coder" "B" (.int 1)) :
   own_M l Z Y13 jdk_42_method_154_code 1 (some .boolean) ws ({ frames := 0, cells := 0, slots := 0, locals := 0 } : Room) #[(.ref p0)] h0 (Q3b Z p0 zc fm h0 n0) := by
 refine own_body (C := "java/lang/String") rfl (plainFor_of_name pn_1) (fun p e s m below meth c s₁ Bd hx hby hml hown hlk hZ X0 e0 => ?_)
 have N0 := Fr.nil n0
 obtain ⟨Zcs, hcs, Zsi, hfm, Zad, Zhi, Zlo⟩ := id HA
 refine own_go (fun _ k => castTop (ef_3a m p0) k) ?_
 obtain ⟨T1, X1, e1, st1⟩ := getS2 X0 hx hZ hown (host := "") (Or.inl (own_h hw 25 rfl)) Via.refl e0 (Zcs.ext P_Old.2) (g := (mkF m 0 #[.val (.ref p0)] [])) rfl (hb hby d3_0)
 refine own_go (fun _ k => st1 _ k) ?_
 show own_G _ _ _ (T1.setTop (mkF m 3 #[.val (.ref p0)] [(.int zc)])) _ _ _ _
 have hc2 : ¬ (zc = (0 : Int32)) := hcs
 refine own_go (fun _ k => XS.ifNo X1.here hx rfl (hb hby d3_3) rfl ((if0 _ _).trans (feq hc2).1) (XS.aloadN X1.here hx rfl (hb hby d3_6) rfl rfl k)) ?_
 obtain ⟨T3, X3, e3, st3⟩ := getF X1 hx hZ hown (host := "") (Or.inl (own_h hw 26 rfl)) Via.refl e1 P_F_p0_coder (g := (mkF m 7 #[.val (.ref p0)] [(.ref p0)])) rfl rfl (hb hby d3_7)
 refine own_go (fun _ k => st3 _ k) ?_
 show own_G _ _ _ (T3.setTop (mkF m 10 #[.val (.ref p0)] [(.int 1)])) _ _ _ _
 have hc4 : ¬ ((1 : Int32) = (0 : Int32)) := (by decide)
 refine own_go (fun _ k => XS.ifYes X3.here hx rfl (pc0 := 10) (pc' := 17) rfl (hb hby d3_10) rfl ((if0 _ _).trans (feq hc4).2) (by decide) (by decide) (XS.iconst X3.here hx rfl (hb hby d3_17) k)) ?_
 show own_G _ _ _ (T3.setTop (mkF m 18 #[.val (.ref p0)] [(.int 0)])) _ _ _ _
 exact own_endN X3 hx hlk (t := .boolean) Bd.returns (by simp) (hb hby d3_18) (by decide) (by decide) (Q := (Q3b Z p0 zc fm h0 n0)) (by rw [e3]; exact ⟨rfl, N0, rfl⟩)
def Q18b (Z : State) (p0 : Addr) (zc : Int32) (fm : Value) (h0 : Heap) (n0 : Nat) (v : Option Value) (h : Heap) (L : List Loc) : Prop := v = some (.int 1) ∧ Fr n0 L ∧ h = h0
theorem rm18b (l : Launch) (Z : State) (a0 : Array Value) (hw : ∀ d ∈ tables_1, d.before a0 Z = true) (ws : List Jvm.Cond) (p0 : Addr) (zc : Int32) (fm : Value) (h0 : Heap) (n0 : Nat) (Z0 : n0 ≤ h0.size) (P_Old : Old Z n0 h0) (HA : own_Z Z zc fm) (P_F_p0_coder : Fld Z h0 p0 "java/lang/String" "coder" "B" (.int 1)) :
   own_M l Z Y14 jdk_42_method_152_code 1 (some .byte) ws ({ frames := 0, cells := 0, slots := 0, locals := 0 } : Room) #[(.ref p0)] h0 (Q18b Z p0 zc fm h0 n0) := by
 refine own_body (C := "java/lang/String") rfl (plainFor_of_name pn_1) (fun p e s m below meth c s₁ Bd hx hby hml hown hlk hZ X0 e0 => ?_)
 have N0 := Fr.nil n0
 obtain ⟨Zcs, hcs, Zsi, hfm, Zad, Zhi, Zlo⟩ := id HA
 refine own_go (fun _ k => castTop (ef_18a m p0) k) ?_
 obtain ⟨T1, X1, e1, st1⟩ := getS2 X0 hx hZ hown (host := "") (Or.inl (own_h hw 25 rfl)) Via.refl e0 (Zcs.ext P_Old.2) (g := (mkF m 0 #[.val (.ref p0)] [])) rfl (hb hby d18_0)
 refine own_go (fun _ k => st1 _ k) ?_
 show own_G _ _ _ (T1.setTop (mkF m 3 #[.val (.ref p0)] [(.int zc)])) _ _ _ _
 have hc2 : ¬ (zc = (0 : Int32)) := hcs
 refine own_go (fun _ k => XS.ifNo X1.here hx rfl (hb hby d18_3) rfl ((if0 _ _).trans (feq hc2).1) (XS.aloadN X1.here hx rfl (hb hby d18_6) rfl rfl k)) ?_
 obtain ⟨T3, X3, e3, st3⟩ := getF X1 hx hZ hown (host := "") (Or.inl (own_h hw 26 rfl)) Via.refl e1 P_F_p0_coder (g := (mkF m 7 #[.val (.ref p0)] [(.ref p0)])) rfl rfl (hb hby d18_7)
 refine own_go (fun _ k => st3 _ (XS.goto X3.here hx rfl (pc0 := 10) (pc' := 14) rfl (hb hby d18_10) (by decide) (by decide) k)) ?_
 show own_G _ _ _ (T3.setTop (mkF m 14 #[.val (.ref p0)] [(.int 1)])) _ _ _ _
 exact own_endN X3 hx hlk (t := .byte) Bd.returns (by simp) (hb hby d18_14) (by decide) (by decide) (Q := (Q18b Z p0 zc fm h0 n0)) (by rw [e3]; exact ⟨(by rw [own_nb1]), N0, rfl⟩)
theorem d17_0 : own_d B17 0 (.aload_n 0) 1 := by decide +kernel
theorem d17_1 : own_d B17 1 (.getfield 9) 3 := by decide +kernel
theorem d17_4 : own_d B17 4 (.arraylength) 1 := by decide +kernel
theorem d17_5 : own_d B17 5 (.aload_n 0) 1 := by decide +kernel
theorem d17_6 : own_d B17 6 (.invokevirtual 335) 3 := by decide +kernel
theorem d17_9 : own_d B17 9 (.ishr) 1 := by decide +kernel
theorem d17_10 : own_d B17 10 (.ireturn) 1 := by decide +kernel
theorem pd_6 : parseMethodDescriptor "()B" = some ⟨[], some .byte⟩ := by decide +kernel
theorem ef_17 (m : MethodId) (p0 : Addr) : entryFrame m #[(.ref p0)] 1 = mkF m 0 #[.val (.ref p0)] [] := by first | (simp [entryFrame, mkF, argsToLocals, Value.category]; done) | rfl
def Q17 (Z : State) (p0 : Addr) (zc : Int32) (fm : Value) (co : Int32) (t : Addr) (kb : ClassId) (cs : List Int32) (h0 : Heap) (n0 : Nat) (v : Option Value) (h : Heap) (L : List Loc) : Prop := v = some (.int (Int32.ofNat cs.length)) ∧ Fr n0 L ∧ h = h0
theorem rm17 (l : Launch) (Z : State) (a0 : Array Value) (hw : ∀ d ∈ tables_1, d.before a0 Z = true) (ws : List Jvm.Cond) (p0 : Addr) (zc : Int32) (fm : Value) (co : Int32) (t : Addr) (kb : ClassId) (cs : List Int32) (h0 : Heap) (n0 : Nat) (Z0 : n0 ≤ h0.size) (P_Old : Old Z n0 h0) (HA : own_Z Z zc fm) (P_E_p0 : Exa Z h0 p0 "java/lang/String") (P_F_p0_coder : Fld Z h0 p0 "java/lang/String" "coder" "B" (.int co)) (P_F_p0_value : Fld Z h0 p0 "java/lang/String" "value" "[B" (.ref t)) (P_V_t : Arv Z h0 t kb .byte (own_cap co cs.length) (own_sv co cs) (.int 0)) (hs : own_OK co cs) :
   own_M l Z Y15 jdk_42_method_54_code 1 (some .int) ws ({ frames := 1, cells := 0, slots := 0, locals := 13 } : Room) #[(.ref p0)] h0 (Q17 Z p0 zc fm co t kb cs h0 n0) := by
 refine own_body (C := "java/lang/String") rfl (plainFor_of_name pn_1) (fun p e s m below meth c s₁ Bd hx hby hml hown hlk hZ X0 e0 => ?_)
 have N0 := Fr.nil n0
 obtain ⟨Zcs, hcs, Zsi, hfm, Zad, Zhi, Zlo⟩ := id HA
 refine own_go (fun _ k => castTop (ef_17 m p0) k) ?_
 show own_G _ _ _ (s₁.setTop (mkF m 0 #[.val (.ref p0)] [])) _ _ _ _
 rcases hs.1 with ⟨eco, h255c⟩ | eco
 · have co1a : Fld Z h0 p0 "java/lang/String" "coder" "B" (.int 0) := own_f eco P_F_p0_coder
   have co1b : Arv Z h0 t kb .byte (Int32.ofNat cs.length) (own_l1 cs) (.int 0) := own_v0 eco P_V_t
   show own_G _ _ _ (s₁.setTop (mkF m 0 #[.val (.ref p0)] [])) _ _ _ _
   refine own_go (fun _ k => XS.aloadN X0.here hx rfl (hb hby d17_0) rfl rfl k) ?_
   obtain ⟨T2, X2, e2, st2⟩ := getF X0 hx hZ hown (host := "") (Or.inl (own_h hw 27 rfl)) Via.refl e0 P_F_p0_value (g := (mkF m 1 #[.val (.ref p0)] [(.ref p0)])) rfl rfl (hb hby d17_1)
   refine own_go (fun _ k => st2 _ k) ?_
   obtain ⟨cl3, Ar3, -, S3, Ng3, -, -⟩ := id co1b
   refine own_go (fun _ k => X2.arraylength hx (by rw [e2]; exact Ar3.1) (State.isArrayOf_alike hZ.alike Ar3.2.1) (g := (mkF m 4 #[.val (.ref p0)] [(.ref t)])) rfl rfl (hb hby d17_4) _ k) ?_
   rw [len_of S3 Ng3]
   show own_G _ _ _ (T2.setTop (mkF m 5 #[.val (.ref p0)] [(.int (Int32.ofNat cs.length))])) _ _ _ _
   refine own_go (fun _ k => XS.aloadN X2.here hx rfl (hb hby d17_5) rfl rfl k) ?_
   obtain ⟨cq4, kq4, q4a, q4b, q4c⟩ := isOf hZ e2 P_E_p0
   obtain ⟨_, _, ⟨T4, L4, k4, n4⟩, -, X4, ⟨Lc4, hQ4, l4, y4, z4⟩, st4⟩ := X2.virtualBack hx (y := Y14) (z := Y14) hown (mvT hZ (own_h hw 83 rfl)) (mvT hZ (own_h hw 84 rfl)) (notFace_of_selects (args := #[]) (mvT hZ (own_h hw 86 rfl))) (mvT hZ (own_h hw 86 rfl)) (mvT hZ (own_h hw 85 rfl)) (by decide) (backOf (W := 1) (rm18a l Z a0 hw [] p0 zc fm h0 n0 Z0 P_Old HA co1a) hZ (own_h hw 87 rfl) (own_h hw 8 rfl) (by decide) (by decide)) q4a q4c (g := (mkF m 6 #[.val (.ref p0)] [(.ref p0), (.int (Int32.ofNat cs.length))])) rfl (by rw [hml]; rfl) (Steps.refl _) (argsL := []) (rest := [(.int (Int32.ofNat cs.length))]) (lenOf pd_6 rfl) rfl (own_r0 _) (hb hby d17_6) (fun _ _ => ⟨rfl, e2, (by decide : 0 + 0 ≤ _), (by decide : 0 + 0 ≤ _)⟩)
   dsimp only [Pt.U, Pt.locs, Pt.cells, Pt.slots] at X4 l4 y4 z4 st4 hQ4
   rw [l4] at X4
   subst y4 z4
   obtain ⟨rfl, Nq4, eh4⟩ := hQ4
   have N4 := Fr.app N0 Nq4
   refine own_go (fun _ k => st4.trans k) ?_
   show own_G _ _ _ (T4.setTop (mkF m 9 #[.val (.ref p0)] [(.int 0), (.int (Int32.ofNat cs.length))])) _ _ _ _
   refine own_go (fun _ k => XS.ishr X4.here hx rfl (hb hby d17_9) rfl k) ?_
   rw [StrChars.shr0]
   show own_G _ _ _ (T4.setTop (mkF m 10 #[.val (.ref p0)] [(.int (Int32.ofNat cs.length))])) _ _ _ _
   exact own_endI X4 hx hlk Bd.returns (hb hby d17_10) (by decide) (by decide) (Q := (Q17 Z p0 zc fm co t kb cs h0 n0)) (by rw [eh4]; exact ⟨rfl, N4, rfl⟩)
 · have co1a : Fld Z h0 p0 "java/lang/String" "coder" "B" (.int 1) := own_f eco P_F_p0_coder
   have co1b : Arv Z h0 t kb .byte (Int32.ofNat (2 * cs.length)) (own_w cs) (.int 0) := own_v1 eco P_V_t
   show own_G _ _ _ (s₁.setTop (mkF m 0 #[.val (.ref p0)] [])) _ _ _ _
   refine own_go (fun _ k => XS.aloadN X0.here hx rfl (hb hby d17_0) rfl rfl k) ?_
   obtain ⟨T5, X5, e5, st5⟩ := getF X0 hx hZ hown (host := "") (Or.inl (own_h hw 27 rfl)) Via.refl e0 P_F_p0_value (g := (mkF m 1 #[.val (.ref p0)] [(.ref p0)])) rfl rfl (hb hby d17_1)
   refine own_go (fun _ k => st5 _ k) ?_
   obtain ⟨cl6, Ar6, -, S6, Ng6, -, -⟩ := id co1b
   refine own_go (fun _ k => X5.arraylength hx (by rw [e5]; exact Ar6.1) (State.isArrayOf_alike hZ.alike Ar6.2.1) (g := (mkF m 4 #[.val (.ref p0)] [(.ref t)])) rfl rfl (hb hby d17_4) _ k) ?_
   rw [len_of S6 Ng6]
   show own_G _ _ _ (T5.setTop (mkF m 5 #[.val (.ref p0)] [(.int (Int32.ofNat (2 * cs.length)))])) _ _ _ _
   refine own_go (fun _ k => XS.aloadN X5.here hx rfl (hb hby d17_5) rfl rfl k) ?_
   obtain ⟨cq7, kq7, q7a, q7b, q7c⟩ := isOf hZ e5 P_E_p0
   obtain ⟨_, _, ⟨T7, L7, k7, n7⟩, -, X7, ⟨Lc7, hQ7, l7, y7, z7⟩, st7⟩ := X5.virtualBack hx (y := Y14) (z := Y14) hown (mvT hZ (own_h hw 83 rfl)) (mvT hZ (own_h hw 84 rfl)) (notFace_of_selects (args := #[]) (mvT hZ (own_h hw 86 rfl))) (mvT hZ (own_h hw 86 rfl)) (mvT hZ (own_h hw 85 rfl)) (by decide) (backOf (W := 1) (rm18b l Z a0 hw [] p0 zc fm h0 n0 Z0 P_Old HA co1a) hZ (own_h hw 87 rfl) (own_h hw 8 rfl) (by decide) (by decide)) q7a q7c (g := (mkF m 6 #[.val (.ref p0)] [(.ref p0), (.int (Int32.ofNat (2 * cs.length)))])) rfl (by rw [hml]; rfl) (Steps.refl _) (argsL := []) (rest := [(.int (Int32.ofNat (2 * cs.length)))]) (lenOf pd_6 rfl) rfl (own_r0 _) (hb hby d17_6) (fun _ _ => ⟨rfl, e5, (by decide : 0 + 0 ≤ _), (by decide : 0 + 0 ≤ _)⟩)
   dsimp only [Pt.U, Pt.locs, Pt.cells, Pt.slots] at X7 l7 y7 z7 st7 hQ7
   rw [l7] at X7
   subst y7 z7
   obtain ⟨rfl, Nq7, eh7⟩ := hQ7
   have N7 := Fr.app N0 Nq7
   refine own_go (fun _ k => st7.trans k) ?_
   show own_G _ _ _ (T7.setTop (mkF m 9 #[.val (.ref p0)] [(.int 1), (.int (Int32.ofNat (2 * cs.length)))])) _ _ _ _
   refine own_go (fun _ k => XS.ishr X7.here hx rfl (hb hby d17_9) rfl k) ?_
   rw [own_shr1 cs.length (by have := hs.2.2; omega)]
   show own_G _ _ _ (T7.setTop (mkF m 10 #[.val (.ref p0)] [(.int (Int32.ofNat cs.length))])) _ _ _ _
   exact own_endI X7 hx hlk Bd.returns (hb hby d17_10) (by decide) (by decide) (Q := (Q17 Z p0 zc fm co t kb cs h0 n0)) (by rw [eh7]; exact ⟨rfl, N7, rfl⟩)
theorem d2_0 : own_d B2 0 (.aload_n 0) 1 := by decide +kernel
theorem d2_1 : own_d B2 1 (.invokevirtual 492) 3 := by decide +kernel
theorem d2_4 : own_d B2 4 (.ifCond .eq 12) 3 := by decide +kernel
theorem d2_7 : own_d B2 7 (.aload_n 0) 1 := by decide +kernel
theorem d2_8 : own_d B2 8 (.getfield 9) 3 := by decide +kernel
theorem d2_11 : own_d B2 11 (.iload_n 1) 1 := by decide +kernel
theorem d2_12 : own_d B2 12 (.invokestatic 495) 3 := by decide +kernel
theorem d2_15 : own_d B2 15 (.ireturn) 1 := by decide +kernel
theorem d2_16 : own_d B2 16 (.aload_n 0) 1 := by decide +kernel
theorem d2_17 : own_d B2 17 (.getfield 9) 3 := by decide +kernel
theorem d2_20 : own_d B2 20 (.iload_n 1) 1 := by decide +kernel
theorem d2_21 : own_d B2 21 (.invokestatic 498) 3 := by decide +kernel
theorem d2_24 : own_d B2 24 (.ireturn) 1 := by decide +kernel
theorem pd_7 : parseMethodDescriptor "()Z" = some ⟨[], some .boolean⟩ := by decide +kernel
theorem ef_2 (m : MethodId) (p0 : Addr) (i : Nat) : entryFrame m #[(.ref p0), (.int (Int32.ofNat i))] 2 = mkF m 0 #[.val (.ref p0), .val (.int (Int32.ofNat i))] [] := by first | (simp [entryFrame, mkF, argsToLocals, Value.category]; done) | rfl
def Q2 (Z : State) (p0 : Addr) (i : Nat) (zc : Int32) (fm : Value) (co : Int32) (t : Addr) (kb : ClassId) (cs : List Int32) (h0 : Heap) (n0 : Nat) (v : Option Value) (h : Heap) (L : List Loc) : Prop := v = some (.int (cs.getD i 0)) ∧ Fr n0 L ∧ h = h0
theorem rm2 (l : Launch) (Z : State) (a0 : Array Value) (hw : ∀ d ∈ tables_1, d.before a0 Z = true) (ws : List Jvm.Cond) (p0 : Addr) (i : Nat) (zc : Int32) (fm : Value) (co : Int32) (t : Addr) (kb : ClassId) (cs : List Int32) (h0 : Heap) (n0 : Nat) (Z0 : n0 ≤ h0.size) (P_Old : Old Z n0 h0) (HA : own_Z Z zc fm) (P_E_p0 : Exa Z h0 p0 "java/lang/String") (P_F_p0_coder : Fld Z h0 p0 "java/lang/String" "coder" "B" (.int co)) (P_F_p0_value : Fld Z h0 p0 "java/lang/String" "value" "[B" (.ref t)) (P_V_t : Arv Z h0 t kb .byte (own_cap co cs.length) (own_sv co cs) (.int 0)) (hs : own_OK co cs) (hi : i < cs.length) :
   own_M l Z Y16 jdk_42_method_56_code 2 (some .char) ws ({ frames := 4, cells := 0, slots := 0, locals := 53 } : Room) #[(.ref p0), (.int (Int32.ofNat i))] h0 (Q2 Z p0 i zc fm co t kb cs h0 n0) := by
 refine own_body (C := "java/lang/String") rfl (plainFor_of_name pn_1) (fun p e s m below meth c s₁ Bd hx hby hml hown hlk hZ X0 e0 => ?_)
 have N0 := Fr.nil n0
 obtain ⟨Zcs, hcs, Zsi, hfm, Zad, Zhi, Zlo⟩ := id HA
 refine own_go (fun _ k => castTop (ef_2 m p0 i) k) ?_
 show own_G _ _ _ (s₁.setTop (mkF m 0 #[.val (.ref p0), .val (.int (Int32.ofNat i))] [])) _ _ _ _
 rcases hs.1 with ⟨eco, h255c⟩ | eco
 · have co1a : Fld Z h0 p0 "java/lang/String" "coder" "B" (.int 0) := own_f eco P_F_p0_coder
   have co1b : Arv Z h0 t kb .byte (Int32.ofNat cs.length) (own_l1 cs) (.int 0) := own_v0 eco P_V_t
   show own_G _ _ _ (s₁.setTop (mkF m 0 #[.val (.ref p0), .val (.int (Int32.ofNat i))] [])) _ _ _ _
   refine own_go (fun _ k => XS.aloadN X0.here hx rfl (hb hby d2_0) rfl rfl k) ?_
   obtain ⟨cq2, kq2, q2a, q2b, q2c⟩ := isOf hZ e0 P_E_p0
   obtain ⟨_, _, ⟨T2, L2, k2, n2⟩, -, X2, ⟨Lc2, hQ2, l2, y2, z2⟩, st2⟩ := X0.virtualBack hx (y := Y13) (z := Y13) hown (mvT hZ (own_h hw 20 rfl)) (mvT hZ (own_h hw 21 rfl)) (notFace_of_selects (args := #[]) (mvT hZ (own_h hw 23 rfl))) (mvT hZ (own_h hw 23 rfl)) (mvT hZ (own_h hw 22 rfl)) (by decide) (backOf (W := 0) (rm3a l Z a0 hw [] p0 zc fm h0 n0 Z0 P_Old HA co1a) hZ (own_h hw 24 rfl) (own_h hw 8 rfl) (by decide) (by decide)) q2a q2c (g := (mkF m 1 #[.val (.ref p0), .val (.int (Int32.ofNat i))] [(.ref p0)])) rfl (by rw [hml]; rfl) (Steps.refl _) (argsL := []) (rest := []) (lenOf pd_7 rfl) rfl (own_r0 _) (hb hby d2_1) (fun _ _ => ⟨rfl, e0, (by decide : 0 + 0 ≤ _), (by decide : 0 + 0 ≤ _)⟩)
   dsimp only [Pt.U, Pt.locs, Pt.cells, Pt.slots] at X2 l2 y2 z2 st2 hQ2
   rw [l2] at X2
   subst y2 z2
   obtain ⟨rfl, Nq2, eh2⟩ := hQ2
   have N2 := Fr.app N0 Nq2
   refine own_go (fun _ k => st2.trans k) ?_
   show own_G _ _ _ (T2.setTop (mkF m 4 #[.val (.ref p0), .val (.int (Int32.ofNat i))] [(.int 1)])) _ _ _ _
   have hc3 : ¬ ((1 : Int32) = (0 : Int32)) := (by decide)
   refine own_go (fun _ k => XS.ifNo X2.here hx rfl (hb hby d2_4) rfl ((if0 _ _).trans (feq hc3).1) (XS.aloadN X2.here hx rfl (hb hby d2_7) rfl rfl k)) ?_
   obtain ⟨T4, X4, e4, st4⟩ := getF X2 hx hZ hown (host := "") (Or.inl (own_h hw 27 rfl)) Via.refl eh2 P_F_p0_value (g := (mkF m 8 #[.val (.ref p0), .val (.int (Int32.ofNat i))] [(.ref p0)])) rfl rfl (hb hby d2_8)
   refine own_go (fun _ k => st4 _ (XS.iloadN X4.here hx rfl (hb hby d2_11) rfl k)) ?_
   obtain ⟨_, _, ⟨T5, L5, k5, n5⟩, -, X5, ⟨Lc5, hQ5, l5, y5, z5⟩, st5⟩ := Jvm.LawKit.callS X4 hx (y := Y12) hown (mvT hZ (own_h hw 28 rfl)) (mvT hZ (own_h hw 29 rfl)) (mvT hZ (own_h hw 30 rfl)) (mvT hZ (own_h hw 31 rfl)) (by decide) (backOf (W := 0) (rm4 l Z a0 hw [] t i cs.length kb cs zc fm h0 n0 Z0 P_Old HA co1b hs.2.2 hi (Nat.le_refl _) (own_okr hs hi) (h255c _ (own_gm cs i hi))) hZ (own_h hw 31 rfl) (own_h hw 30 rfl) (by decide) (by decide)) (g := (mkF m 12 #[.val (.ref p0), .val (.int (Int32.ofNat i))] [(.int (Int32.ofNat i)), (.ref t)])) rfl (by rw [hml]; rfl) (argsL := [(.ref t), (.int (Int32.ofNat i))]) (rest := []) (lenOf pd_5 rfl) rfl (own_r0 _) (hb hby d2_12) (fun _ _ => ⟨rfl, e4, (by decide : 0 + 0 ≤ _), (by decide : 0 + 0 ≤ _)⟩)
   dsimp only [Pt.U, Pt.locs, Pt.cells, Pt.slots] at X5 l5 y5 z5 st5 hQ5
   rw [l5] at X5
   subst y5 z5
   obtain ⟨rfl, Nq5, eh5⟩ := hQ5
   have N5 := Fr.app N2 Nq5
   refine own_go (fun _ k => st5 _ k) ?_
   show own_G _ _ _ (T5.setTop (mkF m 15 #[.val (.ref p0), .val (.int (Int32.ofNat i))] [(.int (cs.getD i 0))])) _ _ _ _
   exact own_endN X5 hx hlk (t := .char) Bd.returns (by simp) (hb hby d2_15) (by decide) (by decide) (Q := (Q2 Z p0 i zc fm co t kb cs h0 n0)) (by rw [eh5]; exact ⟨(by rw [own_rnar _ (own_okr hs hi)]), N5, rfl⟩)
 · have co1a : Fld Z h0 p0 "java/lang/String" "coder" "B" (.int 1) := own_f eco P_F_p0_coder
   have co1b : Arv Z h0 t kb .byte (Int32.ofNat (2 * cs.length)) (own_w cs) (.int 0) := own_v1 eco P_V_t
   show own_G _ _ _ (s₁.setTop (mkF m 0 #[.val (.ref p0), .val (.int (Int32.ofNat i))] [])) _ _ _ _
   refine own_go (fun _ k => XS.aloadN X0.here hx rfl (hb hby d2_0) rfl rfl k) ?_
   obtain ⟨cq6, kq6, q6a, q6b, q6c⟩ := isOf hZ e0 P_E_p0
   obtain ⟨_, _, ⟨T6, L6, k6, n6⟩, -, X6, ⟨Lc6, hQ6, l6, y6, z6⟩, st6⟩ := X0.virtualBack hx (y := Y13) (z := Y13) hown (mvT hZ (own_h hw 20 rfl)) (mvT hZ (own_h hw 21 rfl)) (notFace_of_selects (args := #[]) (mvT hZ (own_h hw 23 rfl))) (mvT hZ (own_h hw 23 rfl)) (mvT hZ (own_h hw 22 rfl)) (by decide) (backOf (W := 0) (rm3b l Z a0 hw [] p0 zc fm h0 n0 Z0 P_Old HA co1a) hZ (own_h hw 24 rfl) (own_h hw 8 rfl) (by decide) (by decide)) q6a q6c (g := (mkF m 1 #[.val (.ref p0), .val (.int (Int32.ofNat i))] [(.ref p0)])) rfl (by rw [hml]; rfl) (Steps.refl _) (argsL := []) (rest := []) (lenOf pd_7 rfl) rfl (own_r0 _) (hb hby d2_1) (fun _ _ => ⟨rfl, e0, (by decide : 0 + 0 ≤ _), (by decide : 0 + 0 ≤ _)⟩)
   dsimp only [Pt.U, Pt.locs, Pt.cells, Pt.slots] at X6 l6 y6 z6 st6 hQ6
   rw [l6] at X6
   subst y6 z6
   obtain ⟨rfl, Nq6, eh6⟩ := hQ6
   have N6 := Fr.app N0 Nq6
   refine own_go (fun _ k => st6.trans k) ?_
   show own_G _ _ _ (T6.setTop (mkF m 4 #[.val (.ref p0), .val (.int (Int32.ofNat i))] [(.int 0)])) _ _ _ _
   have hc7 : (0 : Int32) = (0 : Int32) := (by decide)
   refine own_go (fun _ k => XS.ifYes X6.here hx rfl (pc0 := 4) (pc' := 16) rfl (hb hby d2_4) rfl ((if0 _ _).trans (teq hc7).1) (by decide) (by decide) (XS.aloadN X6.here hx rfl (hb hby d2_16) rfl rfl k)) ?_
   obtain ⟨T8, X8, e8, st8⟩ := getF X6 hx hZ hown (host := "") (Or.inl (own_h hw 27 rfl)) Via.refl eh6 P_F_p0_value (g := (mkF m 17 #[.val (.ref p0), .val (.int (Int32.ofNat i))] [(.ref p0)])) rfl rfl (hb hby d2_17)
   refine own_go (fun _ k => st8 _ (XS.iloadN X8.here hx rfl (hb hby d2_20) rfl k)) ?_
   obtain ⟨_, _, ⟨T9, L9, k9, n9⟩, -, X9, ⟨Lc9, hQ9, l9, y9, z9⟩, st9⟩ := Jvm.LawKit.callS X8 hx (y := Y11) hown (mvT hZ (own_h hw 287 rfl)) (mvT hZ (own_h hw 288 rfl)) (mvT hZ (own_h hw 56 rfl)) (mvT hZ (own_h hw 289 rfl)) (by decide) (backOf (W := 0) (rm60 l Z a0 hw [] t i cs.length kb cs zc fm h0 n0 Z0 P_Old HA co1b hs.2.2 hi (Nat.le_refl _) (own_okr hs hi)) hZ (own_h hw 289 rfl) (own_h hw 56 rfl) (by decide) (by decide)) (g := (mkF m 21 #[.val (.ref p0), .val (.int (Int32.ofNat i))] [(.int (Int32.ofNat i)), (.ref t)])) rfl (by rw [hml]; rfl) (argsL := [(.ref t), (.int (Int32.ofNat i))]) (rest := []) (lenOf pd_5 rfl) rfl (own_r0 _) (hb hby d2_21) (fun _ _ => ⟨rfl, e8, (by decide : 0 + 0 ≤ _), (by decide : 0 + 0 ≤ _)⟩)
   dsimp only [Pt.U, Pt.locs, Pt.cells, Pt.slots] at X9 l9 y9 z9 st9 hQ9
   rw [l9] at X9
   subst y9 z9
   obtain ⟨rfl, Nq9, eh9⟩ := hQ9
   have N9 := Fr.app N6 Nq9
   refine own_go (fun _ k => st9 _ k) ?_
   show own_G _ _ _ (T9.setTop (mkF m 24 #[.val (.ref p0), .val (.int (Int32.ofNat i))] [(.int (cs.getD i 0))])) _ _ _ _
   exact own_endN X9 hx hlk (t := .char) Bd.returns (by simp) (hb hby d2_24) (by decide) (by decide) (Q := (Q2 Z p0 i zc fm co t kb cs h0 n0)) (by rw [eh9]; exact ⟨(by rw [own_rnar _ (own_okr hs hi)]), N9, rfl⟩)
theorem d21_0 : own_d B21 0 (.iload_n 0) 1 := by decide +kernel
theorem d21_1 : own_d B21 1 (.iload_n 1) 1 := by decide +kernel
theorem d21_2 : own_d B21 2 (.if_icmp .lt 7) 3 := by decide +kernel
theorem d21_5 : own_d B21 5 (.iload_n 0) 1 := by decide +kernel
theorem d21_6 : own_d B21 6 (.goto 4) 3 := by decide +kernel
theorem d21_10 : own_d B21 10 (.ireturn) 1 := by decide +kernel
theorem ef_21 (m : MethodId)  : entryFrame m #[(.int 0), (.int 0)] 2 = mkF m 0 #[.val (.int 0), .val (.int 0)] [] := by first | (simp [entryFrame, mkF, argsToLocals, Value.category]; done) | rfl
def Q21 (Z : State)  (h0 : Heap) (n0 : Nat) (v : Option Value) (h : Heap) (L : List Loc) : Prop := v = some (.int 0) ∧ Fr n0 L ∧ h = h0
theorem rm21 (l : Launch) (Z : State) (a0 : Array Value) (hw : ∀ d ∈ tables_1, d.before a0 Z = true) (ws : List Jvm.Cond)  (h0 : Heap) (n0 : Nat) :
   own_M l Z Y17 jdk_29_method_65_code 2 (some .int) ws ({ frames := 0, cells := 0, slots := 0, locals := 0 } : Room) #[(.int 0), (.int 0)] h0 (Q21 Z  h0 n0) := by
 refine own_body (C := "java/lang/Math") rfl (Jvm.Free.JP.mathPlain rfl (by decide +kernel)) (fun p e s m below meth c s₁ Bd hx hby hml hown hlk hZ X0 e0 => ?_)
 have N0 := Fr.nil n0
 refine own_go (fun _ k => castTop (ef_21 m ) (XS.iloadN X0.here hx rfl (hb hby d21_0) rfl (XS.iloadN X0.here hx rfl (hb hby d21_1) rfl k))) ?_
 show own_G _ _ _ (s₁.setTop (mkF m 2 #[.val (.int 0), .val (.int 0)] [(.int 0), (.int 0)])) _ _ _ _
 have hc1 : ¬ ((0 : Int32) < (0 : Int32)) := (by decide)
 refine own_go (fun _ k => XS.icmpNo X0.here hx rfl (hb hby d21_2) rfl (flt hc1).1 (XS.iloadN X0.here hx rfl (hb hby d21_5) rfl (XS.goto X0.here hx rfl (pc0 := 6) (pc' := 10) rfl (hb hby d21_6) (by decide) (by decide) k))) ?_
 show own_G _ _ _ (s₁.setTop (mkF m 10 #[.val (.int 0), .val (.int 0)] [(.int 0)])) _ _ _ _
 exact own_endI X0 hx hlk Bd.returns (hb hby d21_10) (by decide) (by decide) (Q := (Q21 Z  h0 n0)) (by rw [e0]; exact ⟨rfl, N0, rfl⟩)
theorem d22_0 : own_d B22 0 (.iload_n 0) 1 := by decide +kernel
theorem d22_1 : own_d B22 1 (.iload_n 1) 1 := by decide +kernel
theorem d22_2 : own_d B22 2 (.if_icmp .gt 7) 3 := by decide +kernel
theorem d22_5 : own_d B22 5 (.iload_n 0) 1 := by decide +kernel
theorem d22_6 : own_d B22 6 (.goto 4) 3 := by decide +kernel
theorem d22_9 : own_d B22 9 (.iload_n 1) 1 := by decide +kernel
theorem d22_10 : own_d B22 10 (.ireturn) 1 := by decide +kernel
theorem ef_22a (m : MethodId) (n : Nat) : entryFrame m #[(.int (Int32.ofNat n)), (.int (Int32.ofNat n))] 2 = mkF m 0 #[.val (.int (Int32.ofNat n)), .val (.int (Int32.ofNat n))] [] := by first | (simp [entryFrame, mkF, argsToLocals, Value.category]; done) | rfl
def Q22a (Z : State) (n : Nat) (h0 : Heap) (n0 : Nat) (v : Option Value) (h : Heap) (L : List Loc) : Prop := v = some (.int (Int32.ofNat n)) ∧ Fr n0 L ∧ h = h0
theorem rm22a (l : Launch) (Z : State) (a0 : Array Value) (hw : ∀ d ∈ tables_1, d.before a0 Z = true) (ws : List Jvm.Cond) (n : Nat) (h0 : Heap) (n0 : Nat) (Z0 : n0 ≤ h0.size) :
   own_M l Z Y18 jdk_29_method_69_code 2 (some .int) ws ({ frames := 0, cells := 0, slots := 0, locals := 0 } : Room) #[(.int (Int32.ofNat n)), (.int (Int32.ofNat n))] h0 (Q22a Z n h0 n0) := by
 refine own_body (C := "java/lang/Math") rfl (Jvm.Free.JP.mathPlain rfl (by decide +kernel)) (fun p e s m below meth c s₁ Bd hx hby hml hown hlk hZ X0 e0 => ?_)
 have N0 := Fr.nil n0
 refine own_go (fun _ k => castTop (ef_22a m n) (XS.iloadN X0.here hx rfl (hb hby d22_0) rfl (XS.iloadN X0.here hx rfl (hb hby d22_1) rfl k))) ?_
 show own_G _ _ _ (s₁.setTop (mkF m 2 #[.val (.int (Int32.ofNat n)), .val (.int (Int32.ofNat n))] [(.int (Int32.ofNat n)), (.int (Int32.ofNat n))])) _ _ _ _
 have hc1 : ¬ ((Int32.ofNat n) < (Int32.ofNat n)) := (own_irr _)
 refine own_go (fun _ k => XS.icmpNo X0.here hx rfl (hb hby d22_2) rfl (flt hc1).2.2.1 (XS.iloadN X0.here hx rfl (hb hby d22_5) rfl (XS.goto X0.here hx rfl (pc0 := 6) (pc' := 10) rfl (hb hby d22_6) (by decide) (by decide) k))) ?_
 show own_G _ _ _ (s₁.setTop (mkF m 10 #[.val (.int (Int32.ofNat n)), .val (.int (Int32.ofNat n))] [(.int (Int32.ofNat n))])) _ _ _ _
 exact own_endI X0 hx hlk Bd.returns (hb hby d22_10) (by decide) (by decide) (Q := (Q22a Z n h0 n0)) (by rw [e0]; exact ⟨rfl, N0, rfl⟩)
theorem ef_22b (m : MethodId) (a : Nat) (b : Nat) : entryFrame m #[(.int (Int32.ofNat a)), (.int (Int32.ofNat b))] 2 = mkF m 0 #[.val (.int (Int32.ofNat a)), .val (.int (Int32.ofNat b))] [] := by first | (simp [entryFrame, mkF, argsToLocals, Value.category]; done) | rfl
def Q22b (Z : State) (a : Nat) (b : Nat) (h0 : Heap) (n0 : Nat) (v : Option Value) (h : Heap) (L : List Loc) : Prop := v = some (.int (Int32.ofNat b)) ∧ Fr n0 L ∧ h = h0
theorem rm22b (l : Launch) (Z : State) (a0 : Array Value) (hw : ∀ d ∈ tables_1, d.before a0 Z = true) (ws : List Jvm.Cond) (a : Nat) (b : Nat) (h0 : Heap) (n0 : Nat) (Z0 : n0 ≤ h0.size) (hab : (Int32.ofNat b) < (Int32.ofNat a)) :
   own_M l Z Y18 jdk_29_method_69_code 2 (some .int) ws ({ frames := 0, cells := 0, slots := 0, locals := 0 } : Room) #[(.int (Int32.ofNat a)), (.int (Int32.ofNat b))] h0 (Q22b Z a b h0 n0) := by
 refine own_body (C := "java/lang/Math") rfl (Jvm.Free.JP.mathPlain rfl (by decide +kernel)) (fun p e s m below meth c s₁ Bd hx hby hml hown hlk hZ X0 e0 => ?_)
 have N0 := Fr.nil n0
 refine own_go (fun _ k => castTop (ef_22b m a b) (XS.iloadN X0.here hx rfl (hb hby d22_0) rfl (XS.iloadN X0.here hx rfl (hb hby d22_1) rfl k))) ?_
 show own_G _ _ _ (s₁.setTop (mkF m 2 #[.val (.int (Int32.ofNat a)), .val (.int (Int32.ofNat b))] [(.int (Int32.ofNat b)), (.int (Int32.ofNat a))])) _ _ _ _
 have hc1 : (Int32.ofNat b) < (Int32.ofNat a) := hab
 refine own_go (fun _ k => XS.icmpYes X0.here hx rfl (pc0 := 2) (pc' := 9) rfl (hb hby d22_2) rfl (tlt hc1).2.2.1 (by decide) (by decide) (XS.iloadN X0.here hx rfl (hb hby d22_9) rfl k)) ?_
 show own_G _ _ _ (s₁.setTop (mkF m 10 #[.val (.int (Int32.ofNat a)), .val (.int (Int32.ofNat b))] [(.int (Int32.ofNat b))])) _ _ _ _
 exact own_endI X0 hx hlk Bd.returns (hb hby d22_10) (by decide) (by decide) (Q := (Q22b Z a b h0 n0)) (by rw [e0]; exact ⟨rfl, N0, rfl⟩)
theorem d20_0 : own_d B20 0 (.iload_n 0) 1 := by decide +kernel
theorem d20_1 : own_d B20 1 (.ifCond .lt 14) 3 := by decide +kernel
theorem d20_4 : own_d B20 4 (.iload_n 0) 1 := by decide +kernel
theorem d20_5 : own_d B20 5 (.sipush 255) 3 := by decide +kernel
theorem d20_8 : own_d B20 8 (.if_icmp .gt 7) 3 := by decide +kernel
theorem d20_11 : own_d B20 11 (.iconst 1) 1 := by decide +kernel
theorem d20_12 : own_d B20 12 (.goto 4) 3 := by decide +kernel
theorem d20_16 : own_d B20 16 (.ireturn) 1 := by decide +kernel
theorem ef_20 (m : MethodId)  : entryFrame m #[(.int 37)] 1 = mkF m 0 #[.val (.int 37)] [] := by first | (simp [entryFrame, mkF, argsToLocals, Value.category]; done) | rfl
def Q20 (Z : State)  (h0 : Heap) (n0 : Nat) (v : Option Value) (h : Heap) (L : List Loc) : Prop := v = some (.int 1) ∧ Fr n0 L ∧ h = h0
theorem rm20 (l : Launch) (Z : State) (a0 : Array Value) (hw : ∀ d ∈ tables_1, d.before a0 Z = true) (ws : List Jvm.Cond)  (h0 : Heap) (n0 : Nat) :
   own_M l Z Y19 jdk_43_method_4_code 1 (some .boolean) ws ({ frames := 0, cells := 0, slots := 0, locals := 0 } : Room) #[(.int 37)] h0 (Q20 Z  h0 n0) := by
 refine own_body (C := "java/lang/StringLatin1") rfl (plainFor_of_name pn_3) (fun p e s m below meth c s₁ Bd hx hby hml hown hlk hZ X0 e0 => ?_)
 have N0 := Fr.nil n0
 refine own_go (fun _ k => castTop (ef_20 m ) (XS.iloadN X0.here hx rfl (hb hby d20_0) rfl k)) ?_
 show own_G _ _ _ (s₁.setTop (mkF m 1 #[.val (.int 37)] [(.int 37)])) _ _ _ _
 have hc1 : ¬ ((37 : Int32) < (0 : Int32)) := (by decide)
 refine own_go (fun _ k => XS.ifNo X0.here hx rfl (hb hby d20_1) rfl ((if0 _ _).trans (flt hc1).1) (XS.iloadN X0.here hx rfl (hb hby d20_4) rfl (XS.sipush X0.here hx rfl (hb hby d20_5) k))) ?_
 show own_G _ _ _ (s₁.setTop (mkF m 8 #[.val (.int 37)] [(.int 255), (.int 37)])) _ _ _ _
 have hc2 : ¬ ((255 : Int32) < (37 : Int32)) := (by decide)
 refine own_go (fun _ k => XS.icmpNo X0.here hx rfl (hb hby d20_8) rfl (flt hc2).2.2.1 (XS.iconst X0.here hx rfl (hb hby d20_11) (XS.goto X0.here hx rfl (pc0 := 12) (pc' := 16) rfl (hb hby d20_12) (by decide) (by decide) k))) ?_
 show own_G _ _ _ (s₁.setTop (mkF m 16 #[.val (.int 37)] [(.int 1)])) _ _ _ _
 exact own_endN X0 hx hlk (t := .boolean) Bd.returns (by simp) (hb hby d20_16) (by decide) (by decide) (Q := (Q20 Z  h0 n0)) (by rw [e0]; exact ⟨rfl, N0, rfl⟩)
def own_Fnd (cs : List Int32) (r : Int32) : Prop := (r = -1 ∧ ∀ k, k < cs.length → cs.getD k 0 ≠ 37) ∨ ∃ j, r = Int32.ofNat j ∧ j < cs.length ∧ cs.getD j 0 = 37 ∧ ∀ k, k < j → cs.getD k 0 ≠ 37
theorem own_hvs {P : Nat → Prop} {i : Nat} (hv : ∀ k, k < i → P k) (h : P i) : ∀ k, k < i + 1 → P k := fun k hk => by
 by_cases q : k = i
 · rw [q]; exact h
 · exact hv k (by omega)
theorem own_37 {x : Int32} (h : own_r x) (ha8 : ¬ (255 : Int32) < x) (e : own_lo x = 37) : x = 37 := StrChars.lo8_inj h.1 ha8 (by decide) (by decide) (e.trans (by decide))
theorem own_37r {x : Int32} (h : x = 37) : own_lo x = 37 := by rw [h]; decide
theorem own_n0 {n : Nat} (h : ¬ (0 : Int32) < Int32.ofNat n) (hn : n ≤ 22) : n = 0 := by
 have q := mt (own_ltI 0 n (by omega) (by omega)).mpr h
 omega
theorem d23_0 : own_d B23 0 (.iload_n 1) 1 := by decide +kernel
theorem d23_1 : own_d B23 1 (.i2b) 1 := by decide +kernel
theorem d23_2 : own_d B23 2 (.istore 4) 2 := by decide +kernel
theorem d23_4 : own_d B23 4 (.iload_n 2) 1 := by decide +kernel
theorem d23_5 : own_d B23 5 (.istore 5) 2 := by decide +kernel
theorem d23_7 : own_d B23 7 (.iload 5) 2 := by decide +kernel
theorem d23_9 : own_d B23 9 (.iload_n 3) 1 := by decide +kernel
theorem d23_10 : own_d B23 10 (.if_icmp .ge 21) 3 := by decide +kernel
theorem d23_13 : own_d B23 13 (.aload_n 0) 1 := by decide +kernel
theorem d23_14 : own_d B23 14 (.iload 5) 2 := by decide +kernel
theorem d23_16 : own_d B23 16 (.baload) 1 := by decide +kernel
theorem d23_17 : own_d B23 17 (.iload 4) 2 := by decide +kernel
theorem d23_19 : own_d B23 19 (.if_icmp .ne 6) 3 := by decide +kernel
theorem d23_22 : own_d B23 22 (.iload 5) 2 := by decide +kernel
theorem d23_24 : own_d B23 24 (.ireturn) 1 := by decide +kernel
theorem d23_25 : own_d B23 25 (.iinc 5 1) 3 := by decide +kernel
theorem d23_28 : own_d B23 28 (.goto (-21)) 3 := by decide +kernel
theorem d23_31 : own_d B23 31 (.iconst (-1)) 1 := by decide +kernel
theorem d23_32 : own_d B23 32 (.ireturn) 1 := by decide +kernel
theorem ef_23 (m : MethodId) (p0 : Addr) (n : Nat) : entryFrame m #[(.ref p0), (.int 37), (.int 0), (.int (Int32.ofNat n))] 6 = mkF m 0 #[.val (.ref p0), .val (.int 37), .val (.int 0), .val (.int (Int32.ofNat n)), .unset, .unset] [] := by first | (simp [entryFrame, mkF, argsToLocals, Value.category]; done) | rfl
def Q23 (Z : State) (p0 : Addr) (n : Nat) (kb : ClassId) (ds : List Int32) (h0 : Heap) (n0 : Nat) (v : Option Value) (h : Heap) (L : List Loc) : Prop := ∃ (r : Int32), v = some (.int r) ∧ Fr n0 L ∧ Keep h0 h [] ∧ own_Fnd ds r
theorem rm23 (l : Launch) (Z : State) (a0 : Array Value) (hw : ∀ d ∈ tables_1, d.before a0 Z = true) (ws : List Jvm.Cond) (p0 : Addr) (n : Nat) (kb : ClassId) (ds : List Int32) (h0 : Heap) (n0 : Nat) (Z0 : n0 ≤ h0.size) (P_V_p0 : Arv Z h0 p0 kb .byte (Int32.ofNat n) (own_l1 ds) (.int 0)) (hn : n ≤ 22) (hdn : ds.length = n) (hr : ∀ c ∈ ds, own_r c) (ha8 : ∀ c ∈ ds, ¬ (255 : Int32) < c) :
   own_M l Z Y20 jdk_43_method_23_code 6 (some .int) ws ({ frames := 0, cells := 0, slots := 0, locals := 0 } : Room) #[(.ref p0), (.int 37), (.int 0), (.int (Int32.ofNat n))] h0 (Q23 Z p0 n kb ds h0 n0) := by
 refine own_body (C := "java/lang/StringLatin1") rfl (plainFor_of_name pn_3) (fun p e s m below meth c s₁ Bd hx hby hml hown hlk hZ X0 e0 => ?_)
 have N0 := Fr.nil n0
 have K0 : Keep h0 h0 [] := Keep.refl h0 []
 refine own_go (fun _ k => castTop (ef_23 m p0 n) (XS.iloadN X0.here hx rfl (hb hby d23_0) rfl (XS.i2b X0.here hx rfl (hb hby d23_1) rfl (XS.istore X0.here hx rfl (hb hby d23_2) rfl (l' := #[.val (.ref p0), .val (.int 37), .val (.int 0), .val (.int (Int32.ofNat n)), .val (.int 37), .unset]) rfl (XS.iloadN X0.here hx rfl (hb hby d23_4) rfl (XS.istore X0.here hx rfl (hb hby d23_5) rfl (l' := #[.val (.ref p0), .val (.int 37), .val (.int 0), .val (.int (Int32.ofNat n)), .val (.int 37), .val (.int 0)]) rfl k)))))) ?_
 show own_G _ _ _ (s₁.setTop (mkF m 7 #[.val (.ref p0), .val (.int 37), .val (.int 0), .val (.int (Int32.ofNat n)), .val (.int 37), .val (.int 0)] [])) _ _ _ _
 have loop : ∀ (f i : Nat) (hif : i + f = n) (T : State) (Lc : List Loc) (hp : Heap) (cz sz : Nat) (hv : ∀ k, k < i → ds.getD k 0 ≠ 37) (X : Stand p l e ({ frames := 0, cells := 0, slots := 0, locals := 0 } : Room) s m #[(.ref p0), (.int 37), (.int 0), (.int (Int32.ofNat n))] below meth c T Lc cz sz) (eT : T.heap = hp) (Nn : Fr n0 Lc) (Zp : n0 ≤ hp.size) (Kp : Keep h0 hp []) (hcz : cz + f * 0 + 0 ≤ 0) (hsz : sz + f * 0 + 0 ≤ 0) (J0 : Arv Z hp p0 kb .byte (Int32.ofNat n) (own_l1 ds) (.int 0)), own_G p.tables e below (T.setTop (mkF m 7 #[.val (.ref p0), .val (.int 37), .val (.int 0), .val (.int (Int32.ofNat n)), .val (.int 37), .val (.int (Int32.ofNat i))] [])) s ({ frames := 0, cells := 0, slots := 0, locals := 0 } : Room).cells ({ frames := 0, cells := 0, slots := 0, locals := 0 } : Room).slots (Q23 Z p0 n kb ds h0 n0) := by
   intro f
   induction f with
   | zero =>
     intro i hif T Lc hp cz sz hv X eT Nn Zp Kp hcz hsz J0
     have hin : n = i := by omega
     subst hin
     refine own_go (fun _ k => XS.iload X.here hx rfl (hb hby d23_7) rfl (XS.iloadN X.here hx rfl (hb hby d23_9) rfl k)) ?_
     show own_G _ _ _ (T.setTop (mkF m 10 #[.val (.ref p0), .val (.int 37), .val (.int 0), .val (.int (Int32.ofNat n)), .val (.int 37), .val (.int (Int32.ofNat n))] [(.int (Int32.ofNat n)), (.int (Int32.ofNat n))])) _ _ _ _
     have hc4 : ¬ ((Int32.ofNat n) < (Int32.ofNat n)) := (own_irr _)
     refine own_go (fun _ k => XS.icmpYes X.here hx rfl (pc0 := 10) (pc' := 31) rfl (hb hby d23_10) rfl (flt hc4).2.1 (by decide) (by decide) (XS.iconst X.here hx rfl (hb hby d23_31) k)) ?_
     show own_G _ _ _ (T.setTop (mkF m 32 #[.val (.ref p0), .val (.int 37), .val (.int 0), .val (.int (Int32.ofNat n)), .val (.int 37), .val (.int (Int32.ofNat n))] [(.int (-1))])) _ _ _ _
     exact own_endI X hx hlk Bd.returns (hb hby d23_32) (by first | decide | omega | (dsimp only [Pt.cells, Pt.slots]; omega)) (by first | decide | omega | (dsimp only [Pt.cells, Pt.slots]; omega)) (Q := (Q23 Z p0 n kb ds h0 n0)) (by rw [eT]; exact ⟨_, rfl, Nn, Kp, Or.inl ⟨rfl, fun k hk => hv k (by omega)⟩⟩)
   | succ f ih =>
     intro i hif T Lc hp cz sz hv X eT Nn Zp Kp hcz hsz J0
     have hin : i < n := by omega
     refine own_go (fun _ k => XS.iload X.here hx rfl (hb hby d23_7) rfl (XS.iloadN X.here hx rfl (hb hby d23_9) rfl k)) ?_
     show own_G _ _ _ (T.setTop (mkF m 10 #[.val (.ref p0), .val (.int 37), .val (.int 0), .val (.int (Int32.ofNat n)), .val (.int 37), .val (.int (Int32.ofNat i))] [(.int (Int32.ofNat n)), (.int (Int32.ofNat i))])) _ _ _ _
     have hc1 : (Int32.ofNat i) < (Int32.ofNat n) := (own_ltI i n (by omega) (by omega)).mpr hin
     refine own_go (fun _ k => XS.icmpNo X.here hx rfl (hb hby d23_10) rfl (tlt hc1).2.1 (XS.aloadN X.here hx rfl (hb hby d23_13) rfl rfl (XS.iload X.here hx rfl (hb hby d23_14) rfl k))) ?_
     obtain ⟨cl2, Ar2, q2, S2, Ng2, H2, G2⟩ := id J0
     have in2 : ¬ ((Int32.ofNat i) < 0 ∨ cl2.slots.size ≤ ((Int32.ofNat i)).toNatClampNeg) := inb_of S2 (own_inb hin (by omega))
     have at2 : cl2.slots[((Int32.ofNat i)).toNatClampNeg]? = some (.int (own_lo (ds.getD i 0))) := H2.at in2 (by rw [own_cl (i) (by omega)]; exact StrChars.Road.low_at _ ds i (by omega))
     refine own_go (fun _ k => X.baloadBytes hx (j := (Int32.ofNat i)) (v := (.int (own_lo (ds.getD i 0)))) (by rw [eT]; exact Ar2.1) (State.isArrayOf_alike hZ.alike Ar2.2.1) Ar2.2.2 in2 at2 (g := (mkF m 16 #[.val (.ref p0), .val (.int 37), .val (.int 0), .val (.int (Int32.ofNat n)), .val (.int 37), .val (.int (Int32.ofNat i))] [(.int (Int32.ofNat i)), (.ref p0)])) rfl rfl (hb hby d23_16) _ (XS.iload X.here hx rfl (hb hby d23_17) rfl k)) ?_
     show own_G _ _ _ (T.setTop (mkF m 19 #[.val (.ref p0), .val (.int 37), .val (.int 0), .val (.int (Int32.ofNat n)), .val (.int 37), .val (.int (Int32.ofNat i))] [(.int 37), (.int (own_lo (ds.getD i 0)))])) _ _ _ _
     by_cases hc3 : (own_lo (ds.getD i 0)) = (37 : Int32)
     · refine own_go (fun _ k => XS.icmpNo X.here hx rfl (hb hby d23_19) rfl (teq hc3).2 (XS.iload X.here hx rfl (hb hby d23_22) rfl k)) ?_
       show own_G _ _ _ (T.setTop (mkF m 24 #[.val (.ref p0), .val (.int 37), .val (.int 0), .val (.int (Int32.ofNat n)), .val (.int 37), .val (.int (Int32.ofNat i))] [(.int (Int32.ofNat i))])) _ _ _ _
       exact own_endI X hx hlk Bd.returns (hb hby d23_24) (by first | decide | omega | (dsimp only [Pt.cells, Pt.slots]; omega)) (by first | decide | omega | (dsimp only [Pt.cells, Pt.slots]; omega)) (Q := (Q23 Z p0 n kb ds h0 n0)) (by rw [eT]; exact ⟨_, rfl, Nn, Kp, Or.inr ⟨i, rfl, by omega, own_37 (hr _ (own_gm ds i (by omega))) (ha8 _ (own_gm ds i (by omega))) hc3, hv⟩⟩)
     · refine own_go (fun _ k => XS.icmpYes X.here hx rfl (pc0 := 19) (pc' := 25) rfl (hb hby d23_19) rfl (feq hc3).2 (by decide) (by decide) k) ?_
       show own_G _ _ _ (T.setTop (mkF m 25 #[.val (.ref p0), .val (.int 37), .val (.int 0), .val (.int (Int32.ofNat n)), .val (.int 37), .val (.int (Int32.ofNat i))] [])) _ _ _ _
       refine own_go (fun _ k => XS.iinc X.here hx rfl (hb hby d23_25) rfl (l' := #[.val (.ref p0), .val (.int 37), .val (.int 0), .val (.int (Int32.ofNat n)), .val (.int 37), .val (.int ((Int32.ofNat i) + (1 : Int32)))]) rfl k) ?_
       rw [own_inc i]
       show own_G _ _ _ (T.setTop (mkF m 28 #[.val (.ref p0), .val (.int 37), .val (.int 0), .val (.int (Int32.ofNat n)), .val (.int 37), .val (.int (Int32.ofNat (i + 1)))] [])) _ _ _ _
       refine own_go (fun _ k => XS.goto X.here hx rfl (pc0 := 28) (pc' := 7) rfl (hb hby d23_28) (by decide) (by decide) k) ?_
       show own_G _ _ _ (T.setTop (mkF m 7 #[.val (.ref p0), .val (.int 37), .val (.int 0), .val (.int (Int32.ofNat n)), .val (.int 37), .val (.int (Int32.ofNat (i + 1)))] [])) _ _ _ _
       exact ih (i + 1) (by omega) _ _ _ _ _ (own_hvs hv (fun q => hc3 (own_37r q))) X eT Nn Zp Kp (by omega) (by omega) J0
 exact loop n 0 (by omega) _ _ _ _ _ (fun k hk => absurd hk (Nat.not_lt_zero k)) X0 e0 N0 Z0 K0 (by omega) (by omega) P_V_p0
theorem d19_0 : own_d B19 0 (.iload_n 1) 1 := by decide +kernel
theorem d19_1 : own_d B19 1 (.invokestatic 88) 3 := by decide +kernel
theorem d19_4 : own_d B19 4 (.ifCond .ne 5) 3 := by decide +kernel
theorem d19_9 : own_d B19 9 (.iload_n 2) 1 := by decide +kernel
theorem d19_10 : own_d B19 10 (.iconst 0) 1 := by decide +kernel
theorem d19_11 : own_d B19 11 (.invokestatic 92) 3 := by decide +kernel
theorem d19_14 : own_d B19 14 (.istore_n 2) 1 := by decide +kernel
theorem d19_15 : own_d B19 15 (.iload_n 3) 1 := by decide +kernel
theorem d19_16 : own_d B19 16 (.aload_n 0) 1 := by decide +kernel
theorem d19_17 : own_d B19 17 (.arraylength) 1 := by decide +kernel
theorem d19_18 : own_d B19 18 (.invokestatic 38) 3 := by decide +kernel
theorem d19_21 : own_d B19 21 (.istore_n 3) 1 := by decide +kernel
theorem d19_22 : own_d B19 22 (.iload_n 2) 1 := by decide +kernel
theorem d19_23 : own_d B19 23 (.iload_n 3) 1 := by decide +kernel
theorem d19_24 : own_d B19 24 (.if_icmp .lt 5) 3 := by decide +kernel
theorem d19_27 : own_d B19 27 (.iconst (-1)) 1 := by decide +kernel
theorem d19_28 : own_d B19 28 (.ireturn) 1 := by decide +kernel
theorem d19_29 : own_d B19 29 (.aload_n 0) 1 := by decide +kernel
theorem d19_30 : own_d B19 30 (.iload_n 1) 1 := by decide +kernel
theorem d19_31 : own_d B19 31 (.iload_n 2) 1 := by decide +kernel
theorem d19_32 : own_d B19 32 (.iload_n 3) 1 := by decide +kernel
theorem d19_33 : own_d B19 33 (.invokestatic 95) 3 := by decide +kernel
theorem d19_36 : own_d B19 36 (.ireturn) 1 := by decide +kernel
theorem pd_8 : parseMethodDescriptor "(I)Z" = some ⟨[.int], some .boolean⟩ := by decide +kernel
theorem pd_9 : parseMethodDescriptor "(II)I" = some ⟨[.int, .int], some .int⟩ := by decide +kernel
theorem pd_10 : parseMethodDescriptor "([BIII)I" = some ⟨[(.array .byte), .int, .int, .int], some .int⟩ := by decide +kernel
theorem ef_19 (m : MethodId) (p0 : Addr) (n : Nat) : entryFrame m #[(.ref p0), (.int 37), (.int 0), (.int (Int32.ofNat n))] 4 = mkF m 0 #[.val (.ref p0), .val (.int 37), .val (.int 0), .val (.int (Int32.ofNat n))] [] := by first | (simp [entryFrame, mkF, argsToLocals, Value.category]; done) | rfl
def Q19 (Z : State) (p0 : Addr) (n : Nat) (kb : ClassId) (ds : List Int32) (h0 : Heap) (n0 : Nat) (v : Option Value) (h : Heap) (L : List Loc) : Prop := ∃ (r : Int32), v = some (.int r) ∧ Fr n0 L ∧ Keep h0 h [] ∧ own_Fnd ds r
theorem rm19 (l : Launch) (Z : State) (a0 : Array Value) (hw : ∀ d ∈ tables_1, d.before a0 Z = true) (ws : List Jvm.Cond) (p0 : Addr) (n : Nat) (kb : ClassId) (ds : List Int32) (h0 : Heap) (n0 : Nat) (Z0 : n0 ≤ h0.size) (P_V_p0 : Arv Z h0 p0 kb .byte (Int32.ofNat n) (own_l1 ds) (.int 0)) (hn : n ≤ 22) (hdn : ds.length = n) (hr : ∀ c ∈ ds, own_r c) (ha8 : ∀ c ∈ ds, ¬ (255 : Int32) < c) :
   own_M l Z Y21 jdk_43_method_22_code 4 (some .int) ws ({ frames := 1, cells := 0, slots := 0, locals := 17 } : Room) #[(.ref p0), (.int 37), (.int 0), (.int (Int32.ofNat n))] h0 (Q19 Z p0 n kb ds h0 n0) := by
 refine own_body (C := "java/lang/StringLatin1") rfl (plainFor_of_name pn_3) (fun p e s m below meth c s₁ Bd hx hby hml hown hlk hZ X0 e0 => ?_)
 have N0 := Fr.nil n0
 have K0 : Keep h0 h0 [] := Keep.refl h0 []
 refine own_go (fun _ k => castTop (ef_19 m p0 n) (XS.iloadN X0.here hx rfl (hb hby d19_0) rfl k)) ?_
 obtain ⟨_, _, ⟨T1, L1, k1, n1⟩, -, X1, ⟨Lc1, hQ1, l1, y1, z1⟩, st1⟩ := Jvm.LawKit.callS X0 hx (y := Y19) hown (mvT hZ (own_h hw 91 rfl)) (mvT hZ (own_h hw 92 rfl)) (mvT hZ (own_h hw 30 rfl)) (mvT hZ (own_h hw 93 rfl)) (by decide) (backOf (W := 0) (rm20 l Z a0 hw []  h0 n0) hZ (own_h hw 93 rfl) (own_h hw 30 rfl) (by decide) (by decide)) (g := (mkF m 1 #[.val (.ref p0), .val (.int 37), .val (.int 0), .val (.int (Int32.ofNat n))] [(.int 37)])) rfl (by rw [hml]; rfl) (argsL := [(.int 37)]) (rest := []) (lenOf pd_8 rfl) rfl (own_r0 _) (hb hby d19_1) (fun _ _ => ⟨rfl, e0, (by decide : 0 + 0 ≤ _), (by decide : 0 + 0 ≤ _)⟩)
 dsimp only [Pt.U, Pt.locs, Pt.cells, Pt.slots] at X1 l1 y1 z1 st1 hQ1
 rw [l1] at X1
 subst y1 z1
 obtain ⟨rfl, Nq1, eh1⟩ := hQ1
 have N1 := Fr.app N0 Nq1
 refine own_go (fun _ k => st1 _ k) ?_
 show own_G _ _ _ (T1.setTop (mkF m 4 #[.val (.ref p0), .val (.int 37), .val (.int 0), .val (.int (Int32.ofNat n))] [(.int 1)])) _ _ _ _
 have hc2 : ¬ ((1 : Int32) = (0 : Int32)) := (by decide)
 refine own_go (fun _ k => XS.ifYes X1.here hx rfl (pc0 := 4) (pc' := 9) rfl (hb hby d19_4) rfl ((if0 _ _).trans (feq hc2).2) (by decide) (by decide) (XS.iloadN X1.here hx rfl (hb hby d19_9) rfl (XS.iconst X1.here hx rfl (hb hby d19_10) k))) ?_
 obtain ⟨_, _, ⟨T3, L3, k3, n3⟩, -, X3, ⟨Lc3, hQ3, l3, y3, z3⟩, st3⟩ := Jvm.LawKit.callS X1 hx (y := Y17) hown (mvT hZ (own_h hw 94 rfl)) (mvT hZ (own_h hw 95 rfl)) (mvT hZ (own_h hw 96 rfl)) (mvT hZ (own_h hw 97 rfl)) (by decide) (backOf (W := 0) (rm21 l Z a0 hw []  h0 n0) hZ (own_h hw 97 rfl) (own_h hw 96 rfl) (by decide) (by decide)) (g := (mkF m 11 #[.val (.ref p0), .val (.int 37), .val (.int 0), .val (.int (Int32.ofNat n))] [(.int 0), (.int 0)])) rfl (by rw [hml]; rfl) (argsL := [(.int 0), (.int 0)]) (rest := []) (lenOf pd_9 rfl) rfl (own_r0 _) (hb hby d19_11) (fun _ _ => ⟨rfl, eh1, (by decide : 0 + 0 ≤ _), (by decide : 0 + 0 ≤ _)⟩)
 dsimp only [Pt.U, Pt.locs, Pt.cells, Pt.slots] at X3 l3 y3 z3 st3 hQ3
 rw [l3] at X3
 subst y3 z3
 obtain ⟨rfl, Nq3, eh3⟩ := hQ3
 have N3 := Fr.app N1 Nq3
 refine own_go (fun _ k => st3 _ (XS.istoreN X3.here hx rfl (hb hby d19_14) rfl (l' := #[.val (.ref p0), .val (.int 37), .val (.int 0), .val (.int (Int32.ofNat n))]) rfl (XS.iloadN X3.here hx rfl (hb hby d19_15) rfl (XS.aloadN X3.here hx rfl (hb hby d19_16) rfl rfl k)))) ?_
 obtain ⟨cl4, Ar4, -, S4, Ng4, -, -⟩ := id P_V_p0
 refine own_go (fun _ k => X3.arraylength hx (by rw [eh3]; exact Ar4.1) (State.isArrayOf_alike hZ.alike Ar4.2.1) (g := (mkF m 17 #[.val (.ref p0), .val (.int 37), .val (.int 0), .val (.int (Int32.ofNat n))] [(.ref p0), (.int (Int32.ofNat n))])) rfl rfl (hb hby d19_17) _ k) ?_
 rw [len_of S4 Ng4]
 show own_G _ _ _ (T3.setTop (mkF m 18 #[.val (.ref p0), .val (.int 37), .val (.int 0), .val (.int (Int32.ofNat n))] [(.int (Int32.ofNat n)), (.int (Int32.ofNat n))])) _ _ _ _
 obtain ⟨_, _, ⟨T5, L5, k5, n5⟩, -, X5, ⟨Lc5, hQ5, l5, y5, z5⟩, st5⟩ := Jvm.LawKit.callS X3 hx (y := Y18) hown (mvT hZ (own_h hw 98 rfl)) (mvT hZ (own_h hw 99 rfl)) (mvT hZ (own_h hw 96 rfl)) (mvT hZ (own_h hw 100 rfl)) (by decide) (backOf (W := 0) (rm22a l Z a0 hw []  n h0 n0 Z0 ) hZ (own_h hw 100 rfl) (own_h hw 96 rfl) (by decide) (by decide)) (g := (mkF m 18 #[.val (.ref p0), .val (.int 37), .val (.int 0), .val (.int (Int32.ofNat n))] [(.int (Int32.ofNat n)), (.int (Int32.ofNat n))])) rfl (by rw [hml]; rfl) (argsL := [(.int (Int32.ofNat n)), (.int (Int32.ofNat n))]) (rest := []) (lenOf pd_9 rfl) rfl (own_r0 _) (hb hby d19_18) (fun _ _ => ⟨rfl, eh3, (by decide : 0 + 0 ≤ _), (by decide : 0 + 0 ≤ _)⟩)
 dsimp only [Pt.U, Pt.locs, Pt.cells, Pt.slots] at X5 l5 y5 z5 st5 hQ5
 rw [l5] at X5
 subst y5 z5
 obtain ⟨rfl, Nq5, eh5⟩ := hQ5
 have N5 := Fr.app N3 Nq5
 refine own_go (fun _ k => st5 _ (XS.istoreN X5.here hx rfl (hb hby d19_21) rfl (l' := #[.val (.ref p0), .val (.int 37), .val (.int 0), .val (.int (Int32.ofNat n))]) rfl (XS.iloadN X5.here hx rfl (hb hby d19_22) rfl (XS.iloadN X5.here hx rfl (hb hby d19_23) rfl k)))) ?_
 show own_G _ _ _ (T5.setTop (mkF m 24 #[.val (.ref p0), .val (.int 37), .val (.int 0), .val (.int (Int32.ofNat n))] [(.int (Int32.ofNat n)), (.int 0)])) _ _ _ _
 by_cases hc6 : (0 : Int32) < (Int32.ofNat n)
 · refine own_go (fun _ k => XS.icmpYes X5.here hx rfl (pc0 := 24) (pc' := 29) rfl (hb hby d19_24) rfl (tlt hc6).1 (by decide) (by decide) (XS.aloadN X5.here hx rfl (hb hby d19_29) rfl rfl (XS.iloadN X5.here hx rfl (hb hby d19_30) rfl (XS.iloadN X5.here hx rfl (hb hby d19_31) rfl (XS.iloadN X5.here hx rfl (hb hby d19_32) rfl k))))) ?_
   obtain ⟨_, _, ⟨T7, L7, k7, n7⟩, -, X7, ⟨Lc7, hQ7, l7, y7, z7⟩, st7⟩ := Jvm.LawKit.callS X5 hx (y := Y20) hown (mvT hZ (own_h hw 101 rfl)) (mvT hZ (own_h hw 102 rfl)) (mvT hZ (own_h hw 30 rfl)) (mvT hZ (own_h hw 103 rfl)) (by decide) (backOf (W := 0) (rm23 l Z a0 hw [] p0 n kb ds h0 n0 Z0 P_V_p0 (by assumption) (by assumption) (by assumption) (by assumption)) hZ (own_h hw 103 rfl) (own_h hw 30 rfl) (by decide) (by decide)) (g := (mkF m 33 #[.val (.ref p0), .val (.int 37), .val (.int 0), .val (.int (Int32.ofNat n))] [(.int (Int32.ofNat n)), (.int 0), (.int 37), (.ref p0)])) rfl (by rw [hml]; rfl) (argsL := [(.ref p0), (.int 37), (.int 0), (.int (Int32.ofNat n))]) (rest := []) (lenOf pd_10 rfl) rfl (own_r0 _) (hb hby d19_33) (fun _ _ => ⟨rfl, eh5, (by decide : 0 + 0 ≤ _), (by decide : 0 + 0 ≤ _)⟩)
   dsimp only [Pt.U, Pt.locs, Pt.cells, Pt.slots] at X7 l7 y7 z7 st7 hQ7
   rw [l7] at X7
   subst y7 z7
   obtain ⟨r7, rfl, Nq7, Kq7, r7_0⟩ := hQ7
   have N7 := Fr.app N5 Nq7
   have f8 := P_V_p0.keep Kq7 nin0
   have Zs7 := Nat.le_trans Z0 Kq7.1
   have K7_0 := K0.trans Kq7 all0
   refine own_go (fun _ k => st7 _ k) ?_
   show own_G _ _ _ (T7.setTop (mkF m 36 #[.val (.ref p0), .val (.int 37), .val (.int 0), .val (.int (Int32.ofNat n))] [(.int r7)])) _ _ _ _
   exact own_endI X7 hx hlk Bd.returns (hb hby d19_36) (by decide) (by decide) (Q := (Q19 Z p0 n kb ds h0 n0)) ⟨_, rfl, N7, K7_0, r7_0⟩
 · refine own_go (fun _ k => XS.icmpNo X5.here hx rfl (hb hby d19_24) rfl (flt hc6).1 (XS.iconst X5.here hx rfl (hb hby d19_27) k)) ?_
   show own_G _ _ _ (T5.setTop (mkF m 28 #[.val (.ref p0), .val (.int 37), .val (.int 0), .val (.int (Int32.ofNat n))] [(.int (-1))])) _ _ _ _
   exact own_endI X5 hx hlk Bd.returns (hb hby d19_28) (by decide) (by decide) (Q := (Q19 Z p0 n kb ds h0 n0)) (by rw [eh5]; exact ⟨_, rfl, N5, K0, Or.inl ⟨rfl, fun k hk => absurd (own_n0 hc6 hn) (by omega)⟩⟩)
theorem d56_0 : own_d B56 0 (.iload_n 0) 1 := by decide +kernel
theorem d56_1 : own_d B56 1 (.iload_n 1) 1 := by decide +kernel
theorem d56_2 : own_d B56 2 (.aload_n 2) 1 := by decide +kernel
theorem d56_3 : own_d B56 3 (.invokestatic 48) 3 := by decide +kernel
theorem d56_6 : own_d B56 6 (.invokestatic 241) 3 := by decide +kernel
theorem d56_9 : own_d B56 9 (.return_) 1 := by decide +kernel
theorem pd_11 : parseMethodDescriptor "(III)V" = some ⟨[.int, .int, .int], none⟩ := by decide +kernel
theorem ef_56 (m : MethodId) (p2 : Addr) (n : Nat) : entryFrame m #[(.int 0), (.int (Int32.ofNat n)), (.ref p2)] 3 = mkF m 0 #[.val (.int 0), .val (.int (Int32.ofNat n)), .val (.ref p2)] [] := by first | (simp [entryFrame, mkF, argsToLocals, Value.category]; done) | rfl
def Q56 (Z : State) (p2 : Addr) (n : Nat) (kb : ClassId) (ds : List Int32) (zc : Int32) (fm : Value) (h0 : Heap) (n0 : Nat) (v : Option Value) (h : Heap) (L : List Loc) : Prop := v = none ∧ Fr n0 L ∧ h = h0
theorem rm56 (l : Launch) (Z : State) (a0 : Array Value) (hw : ∀ d ∈ tables_1, d.before a0 Z = true) (ws : List Jvm.Cond) (p2 : Addr) (n : Nat) (kb : ClassId) (ds : List Int32) (zc : Int32) (fm : Value) (h0 : Heap) (n0 : Nat) (Z0 : n0 ≤ h0.size) (P_Old : Old Z n0 h0) (HA : own_Z Z zc fm) (P_V_p2 : Arv Z h0 p2 kb .byte (Int32.ofNat (2 * n)) (own_w ds) (.int 0)) (hn : n ≤ 22) :
   own_M l Z Y22 jdk_52_method_93_code 3 none ws ({ frames := 2, cells := 0, slots := 0, locals := 29 } : Room) #[(.int 0), (.int (Int32.ofNat n)), (.ref p2)] h0 (Q56 Z p2 n kb ds zc fm h0 n0) := by
 refine own_body (C := "java/lang/StringUTF16") rfl (plainFor_of_name pn_2) (fun p e s m below meth c s₁ Bd hx hby hml hown hlk hZ X0 e0 => ?_)
 have N0 := Fr.nil n0
 obtain ⟨Zcs, hcs, Zsi, hfm, Zad, Zhi, Zlo⟩ := id HA
 refine own_go (fun _ k => castTop (ef_56 m p2 n) (XS.iloadN X0.here hx rfl (hb hby d56_0) rfl (XS.iloadN X0.here hx rfl (hb hby d56_1) rfl (XS.aloadN X0.here hx rfl (hb hby d56_2) rfl rfl k)))) ?_
 obtain ⟨_, _, ⟨T1, L1, k1, n1⟩, -, X1, ⟨Lc1, hQ1, l1, y1, z1⟩, st1⟩ := Jvm.LawKit.callS X0 hx (y := Y7) hown (mvT hZ (own_h hw 276 rfl)) (mvT hZ (own_h hw 277 rfl)) (mvT hZ (own_h hw 56 rfl)) (mvT hZ (own_h hw 278 rfl)) (by decide) (backOf (W := 2) (rm57 l Z a0 hw [] p2 n kb ds h0 n0 Z0 P_V_p2 hn) hZ (own_h hw 278 rfl) (own_h hw 56 rfl) (by decide) (by decide)) (g := (mkF m 3 #[.val (.int 0), .val (.int (Int32.ofNat n)), .val (.ref p2)] [(.ref p2), (.int (Int32.ofNat n)), (.int 0)])) rfl (by rw [hml]; rfl) (argsL := [(.ref p2)]) (rest := [(.int (Int32.ofNat n)), (.int 0)]) (lenOf pd_2 rfl) rfl (own_r0 _) (hb hby d56_3) (fun _ _ => ⟨rfl, e0, (by decide : 0 + 0 ≤ _), (by decide : 0 + 0 ≤ _)⟩)
 dsimp only [Pt.U, Pt.locs, Pt.cells, Pt.slots] at X1 l1 y1 z1 st1 hQ1
 rw [l1] at X1
 subst y1 z1
 obtain ⟨rfl, Nq1, eh1⟩ := hQ1
 have N1 := Fr.app N0 Nq1
 refine own_go (fun _ k => st1 _ k) ?_
 obtain ⟨_, _, ⟨T2, L2, k2, n2⟩, -, X2, ⟨Lc2, hQ2, l2, y2, z2⟩, st2⟩ := Jvm.LawKit.callS X1 hx (y := Y4) hown (mvT hZ (own_h hw 279 rfl)) (mvT hZ (own_h hw 280 rfl)) (mvT hZ (own_h hw 8 rfl)) (mvT hZ (own_h hw 281 rfl)) (by decide) (backOf (W := 0) (rm58 l Z a0 hw [] (0 : Int32) (Int32.ofNat n) (Int32.ofNat n) zc fm h0 n0 Z0 P_Old HA (by decide) (own_nn n (by omega)) (own_irr _)) hZ (own_h hw 281 rfl) (own_h hw 8 rfl) (by decide) (by decide)) (g := (mkF m 6 #[.val (.int 0), .val (.int (Int32.ofNat n)), .val (.ref p2)] [(.int (Int32.ofNat n)), (.int (Int32.ofNat n)), (.int 0)])) rfl (by rw [hml]; rfl) (argsL := [(.int 0), (.int (Int32.ofNat n)), (.int (Int32.ofNat n))]) (rest := []) (lenOf pd_11 rfl) rfl (own_r0 _) (hb hby d56_6) (fun _ _ => ⟨rfl, eh1, (by decide : 0 + 0 ≤ _), (by decide : 0 + 0 ≤ _)⟩)
 dsimp only [Pt.U, Pt.locs, Pt.cells, Pt.slots] at X2 l2 y2 z2 st2 hQ2
 rw [l2] at X2
 subst y2 z2
 obtain ⟨rfl, Nq2, eh2⟩ := hQ2
 have N2 := Fr.app N1 Nq2
 refine own_go (fun _ k => st2 _ k) ?_
 show own_G _ _ _ (T2.setTop (mkF m 9 #[.val (.int 0), .val (.int (Int32.ofNat n)), .val (.ref p2)] [])) _ _ _ _
 exact own_endV X2 hx hlk Bd.returns (hb hby d56_9) (by decide) (by decide) (Q := (Q56 Z p2 n kb ds zc fm h0 n0)) (by rw [eh2]; exact ⟨rfl, N2, rfl⟩)
theorem d59_0 : own_d B59 0 (.iload_n 2) 1 := by decide +kernel
theorem d59_1 : own_d B59 1 (.istore 4) 2 := by decide +kernel
theorem d59_3 : own_d B59 3 (.iload 4) 2 := by decide +kernel
theorem d59_5 : own_d B59 5 (.iload_n 3) 1 := by decide +kernel
theorem d59_6 : own_d B59 6 (.if_icmp .ge 22) 3 := by decide +kernel
theorem d59_9 : own_d B59 9 (.aload_n 0) 1 := by decide +kernel
theorem d59_10 : own_d B59 10 (.iload 4) 2 := by decide +kernel
theorem d59_12 : own_d B59 12 (.invokestatic 71) 3 := by decide +kernel
theorem d59_15 : own_d B59 15 (.iload_n 1) 1 := by decide +kernel
theorem d59_16 : own_d B59 16 (.if_icmp .ne 6) 3 := by decide +kernel
theorem d59_19 : own_d B59 19 (.iload 4) 2 := by decide +kernel
theorem d59_21 : own_d B59 21 (.ireturn) 1 := by decide +kernel
theorem d59_22 : own_d B59 22 (.iinc 4 1) 3 := by decide +kernel
theorem d59_25 : own_d B59 25 (.goto (-22)) 3 := by decide +kernel
theorem d59_28 : own_d B59 28 (.iconst (-1)) 1 := by decide +kernel
theorem d59_29 : own_d B59 29 (.ireturn) 1 := by decide +kernel
theorem ef_59 (m : MethodId) (p0 : Addr) (n : Nat) : entryFrame m #[(.ref p0), (.int 37), (.int 0), (.int (Int32.ofNat n))] 5 = mkF m 0 #[.val (.ref p0), .val (.int 37), .val (.int 0), .val (.int (Int32.ofNat n)), .unset] [] := by first | (simp [entryFrame, mkF, argsToLocals, Value.category]; done) | rfl
def Q59 (Z : State) (p0 : Addr) (n : Nat) (kb : ClassId) (ds : List Int32) (zc : Int32) (fm : Value) (h0 : Heap) (n0 : Nat) (v : Option Value) (h : Heap) (L : List Loc) : Prop := ∃ (r : Int32), v = some (.int r) ∧ Fr n0 L ∧ Keep h0 h [] ∧ own_Fnd ds r
theorem rm59 (l : Launch) (Z : State) (a0 : Array Value) (hw : ∀ d ∈ tables_1, d.before a0 Z = true) (ws : List Jvm.Cond) (p0 : Addr) (n : Nat) (kb : ClassId) (ds : List Int32) (zc : Int32) (fm : Value) (h0 : Heap) (n0 : Nat) (Z0 : n0 ≤ h0.size) (P_Old : Old Z n0 h0) (HA : own_Z Z zc fm) (P_V_p0 : Arv Z h0 p0 kb .byte (Int32.ofNat (2 * n)) (own_w ds) (.int 0)) (hn : n ≤ 22) (hdn : ds.length = n) (hr : ∀ c ∈ ds, own_r c) :
   own_M l Z Y23 jdk_52_method_48_code 5 (some .int) ws ({ frames := 1, cells := 0, slots := 0, locals := 13 } : Room) #[(.ref p0), (.int 37), (.int 0), (.int (Int32.ofNat n))] h0 (Q59 Z p0 n kb ds zc fm h0 n0) := by
 refine own_body (C := "java/lang/StringUTF16") rfl (plainFor_of_name pn_2) (fun p e s m below meth c s₁ Bd hx hby hml hown hlk hZ X0 e0 => ?_)
 have N0 := Fr.nil n0
 obtain ⟨Zcs, hcs, Zsi, hfm, Zad, Zhi, Zlo⟩ := id HA
 have K0 : Keep h0 h0 [] := Keep.refl h0 []
 refine own_go (fun _ k => castTop (ef_59 m p0 n) (XS.iloadN X0.here hx rfl (hb hby d59_0) rfl (XS.istore X0.here hx rfl (hb hby d59_1) rfl (l' := #[.val (.ref p0), .val (.int 37), .val (.int 0), .val (.int (Int32.ofNat n)), .val (.int 0)]) rfl k))) ?_
 show own_G _ _ _ (s₁.setTop (mkF m 3 #[.val (.ref p0), .val (.int 37), .val (.int 0), .val (.int (Int32.ofNat n)), .val (.int 0)] [])) _ _ _ _
 have loop : ∀ (f i : Nat) (hif : i + f = n) (T : State) (Lc : List Loc) (hp : Heap) (cz sz : Nat) (hv : ∀ k, k < i → ds.getD k 0 ≠ 37) (X : Stand p l e ({ frames := 1, cells := 0, slots := 0, locals := 13 } : Room) s m #[(.ref p0), (.int 37), (.int 0), (.int (Int32.ofNat n))] below meth c T Lc cz sz) (eT : T.heap = hp) (Nn : Fr n0 Lc) (Zp : n0 ≤ hp.size) (Kp : Keep h0 hp []) (hcz : cz + f * 0 + 0 ≤ 0) (hsz : sz + f * 0 + 0 ≤ 0) (J0 : Old Z n0 hp) (J1 : Arv Z hp p0 kb .byte (Int32.ofNat (2 * n)) (own_w ds) (.int 0)), own_G p.tables e below (T.setTop (mkF m 3 #[.val (.ref p0), .val (.int 37), .val (.int 0), .val (.int (Int32.ofNat n)), .val (.int (Int32.ofNat i))] [])) s ({ frames := 1, cells := 0, slots := 0, locals := 13 } : Room).cells ({ frames := 1, cells := 0, slots := 0, locals := 13 } : Room).slots (Q59 Z p0 n kb ds zc fm h0 n0) := by
   intro f
   induction f with
   | zero =>
     intro i hif T Lc hp cz sz hv X eT Nn Zp Kp hcz hsz J0 J1
     have hin : n = i := by omega
     subst hin
     refine own_go (fun _ k => XS.iload X.here hx rfl (hb hby d59_3) rfl (XS.iloadN X.here hx rfl (hb hby d59_5) rfl k)) ?_
     show own_G _ _ _ (T.setTop (mkF m 6 #[.val (.ref p0), .val (.int 37), .val (.int 0), .val (.int (Int32.ofNat n)), .val (.int (Int32.ofNat n))] [(.int (Int32.ofNat n)), (.int (Int32.ofNat n))])) _ _ _ _
     have hc4 : ¬ ((Int32.ofNat n) < (Int32.ofNat n)) := (own_irr _)
     refine own_go (fun _ k => XS.icmpYes X.here hx rfl (pc0 := 6) (pc' := 28) rfl (hb hby d59_6) rfl (flt hc4).2.1 (by decide) (by decide) (XS.iconst X.here hx rfl (hb hby d59_28) k)) ?_
     show own_G _ _ _ (T.setTop (mkF m 29 #[.val (.ref p0), .val (.int 37), .val (.int 0), .val (.int (Int32.ofNat n)), .val (.int (Int32.ofNat n))] [(.int (-1))])) _ _ _ _
     exact own_endI X hx hlk Bd.returns (hb hby d59_29) (by first | decide | omega | (dsimp only [Pt.cells, Pt.slots]; omega)) (by first | decide | omega | (dsimp only [Pt.cells, Pt.slots]; omega)) (Q := (Q59 Z p0 n kb ds zc fm h0 n0)) (by rw [eT]; exact ⟨_, rfl, Nn, Kp, Or.inl ⟨rfl, fun k hk => hv k (by omega)⟩⟩)
   | succ f ih =>
     intro i hif T Lc hp cz sz hv X eT Nn Zp Kp hcz hsz J0 J1
     have hin : i < n := by omega
     refine own_go (fun _ k => XS.iload X.here hx rfl (hb hby d59_3) rfl (XS.iloadN X.here hx rfl (hb hby d59_5) rfl k)) ?_
     show own_G _ _ _ (T.setTop (mkF m 6 #[.val (.ref p0), .val (.int 37), .val (.int 0), .val (.int (Int32.ofNat n)), .val (.int (Int32.ofNat i))] [(.int (Int32.ofNat n)), (.int (Int32.ofNat i))])) _ _ _ _
     have hc1 : (Int32.ofNat i) < (Int32.ofNat n) := (own_ltI i n (by omega) (by omega)).mpr hin
     refine own_go (fun _ k => XS.icmpNo X.here hx rfl (hb hby d59_6) rfl (tlt hc1).2.1 (XS.aloadN X.here hx rfl (hb hby d59_9) rfl rfl (XS.iload X.here hx rfl (hb hby d59_10) rfl k))) ?_
     obtain ⟨_, _, ⟨T2, L2, k2, n2⟩, -, X2, ⟨Lc2, hQ2, l2, y2, z2⟩, st2⟩ := Jvm.LawKit.callS X hx (y := Y9) hown (mvT hZ (own_h hw 261 rfl)) (mvT hZ (own_h hw 262 rfl)) (mvT hZ (own_h hw 56 rfl)) (mvT hZ (own_h hw 263 rfl)) (by decide) (backOf (W := 0) (rm53 l Z a0 hw [] p0 i n kb ds zc fm hp n0 Zp J0 HA J1 hn (by omega) (by omega) (hr _ (own_gm ds i (by omega)))) hZ (own_h hw 263 rfl) (own_h hw 56 rfl) (by decide) (by decide)) (g := (mkF m 12 #[.val (.ref p0), .val (.int 37), .val (.int 0), .val (.int (Int32.ofNat n)), .val (.int (Int32.ofNat i))] [(.int (Int32.ofNat i)), (.ref p0)])) rfl (by rw [hml]; rfl) (argsL := [(.ref p0), (.int (Int32.ofNat i))]) (rest := []) (lenOf pd_5 rfl) rfl (own_r0 _) (hb hby d59_12) (fun _ _ => ⟨rfl, eT, (by first | decide | omega | (dsimp only [Pt.cells, Pt.slots]; omega)), (by first | decide | omega | (dsimp only [Pt.cells, Pt.slots]; omega))⟩)
     dsimp only [Pt.U, Pt.locs, Pt.cells, Pt.slots] at X2 l2 y2 z2 st2 hQ2
     rw [l2] at X2
     subst y2 z2
     obtain ⟨rfl, Nq2, eh2⟩ := hQ2
     have N2 := Fr.app Nn Nq2
     refine own_go (fun _ k => st2 _ (XS.iloadN X2.here hx rfl (hb hby d59_15) rfl k)) ?_
     show own_G _ _ _ (T2.setTop (mkF m 16 #[.val (.ref p0), .val (.int 37), .val (.int 0), .val (.int (Int32.ofNat n)), .val (.int (Int32.ofNat i))] [(.int 37), (.int (ds.getD i 0))])) _ _ _ _
     by_cases hc3 : (ds.getD i 0) = (37 : Int32)
     · refine own_go (fun _ k => XS.icmpNo X2.here hx rfl (hb hby d59_16) rfl (teq hc3).2 (XS.iload X2.here hx rfl (hb hby d59_19) rfl k)) ?_
       show own_G _ _ _ (T2.setTop (mkF m 21 #[.val (.ref p0), .val (.int 37), .val (.int 0), .val (.int (Int32.ofNat n)), .val (.int (Int32.ofNat i))] [(.int (Int32.ofNat i))])) _ _ _ _
       exact own_endI X2 hx hlk Bd.returns (hb hby d59_21) (by first | decide | omega | (dsimp only [Pt.cells, Pt.slots]; omega)) (by first | decide | omega | (dsimp only [Pt.cells, Pt.slots]; omega)) (Q := (Q59 Z p0 n kb ds zc fm h0 n0)) (by rw [eh2]; exact ⟨_, rfl, N2, Kp, Or.inr ⟨i, rfl, by omega, hc3, hv⟩⟩)
     · refine own_go (fun _ k => XS.icmpYes X2.here hx rfl (pc0 := 16) (pc' := 22) rfl (hb hby d59_16) rfl (feq hc3).2 (by decide) (by decide) k) ?_
       show own_G _ _ _ (T2.setTop (mkF m 22 #[.val (.ref p0), .val (.int 37), .val (.int 0), .val (.int (Int32.ofNat n)), .val (.int (Int32.ofNat i))] [])) _ _ _ _
       refine own_go (fun _ k => XS.iinc X2.here hx rfl (hb hby d59_22) rfl (l' := #[.val (.ref p0), .val (.int 37), .val (.int 0), .val (.int (Int32.ofNat n)), .val (.int ((Int32.ofNat i) + (1 : Int32)))]) rfl k) ?_
       rw [own_inc i]
       show own_G _ _ _ (T2.setTop (mkF m 25 #[.val (.ref p0), .val (.int 37), .val (.int 0), .val (.int (Int32.ofNat n)), .val (.int (Int32.ofNat (i + 1)))] [])) _ _ _ _
       refine own_go (fun _ k => XS.goto X2.here hx rfl (pc0 := 25) (pc' := 3) rfl (hb hby d59_25) (by decide) (by decide) k) ?_
       show own_G _ _ _ (T2.setTop (mkF m 3 #[.val (.ref p0), .val (.int 37), .val (.int 0), .val (.int (Int32.ofNat n)), .val (.int (Int32.ofNat (i + 1)))] [])) _ _ _ _
       exact ih (i + 1) (by omega) _ _ _ _ _ (own_hvs hv hc3) X2 eh2 N2 Zp Kp (by omega) (by omega) J0 J1
 exact loop n 0 (by omega) _ _ _ _ _ (fun k hk => absurd hk (Nat.not_lt_zero k)) X0 e0 N0 Z0 K0 (by omega) (by omega) P_Old P_V_p0
theorem d55_0 : own_d B55 0 (.iload_n 2) 1 := by decide +kernel
theorem d55_1 : own_d B55 1 (.iload_n 3) 1 := by decide +kernel
theorem d55_2 : own_d B55 2 (.aload_n 0) 1 := by decide +kernel
theorem d55_3 : own_d B55 3 (.invokestatic 96) 3 := by decide +kernel
theorem d55_6 : own_d B55 6 (.aload_n 0) 1 := by decide +kernel
theorem d55_7 : own_d B55 7 (.iload_n 1) 1 := by decide +kernel
theorem d55_8 : own_d B55 8 (.iload_n 2) 1 := by decide +kernel
theorem d55_9 : own_d B55 9 (.iload_n 3) 1 := by decide +kernel
theorem d55_10 : own_d B55 10 (.invokestatic 244) 3 := by decide +kernel
theorem d55_13 : own_d B55 13 (.ireturn) 1 := by decide +kernel
theorem pd_12 : parseMethodDescriptor "(II[B)V" = some ⟨[.int, .int, (.array .byte)], none⟩ := by decide +kernel
theorem ef_55 (m : MethodId) (p0 : Addr) (n : Nat) : entryFrame m #[(.ref p0), (.int 37), (.int 0), (.int (Int32.ofNat n))] 4 = mkF m 0 #[.val (.ref p0), .val (.int 37), .val (.int 0), .val (.int (Int32.ofNat n))] [] := by first | (simp [entryFrame, mkF, argsToLocals, Value.category]; done) | rfl
def Q55 (Z : State) (p0 : Addr) (n : Nat) (kb : ClassId) (ds : List Int32) (zc : Int32) (fm : Value) (h0 : Heap) (n0 : Nat) (v : Option Value) (h : Heap) (L : List Loc) : Prop := ∃ (r : Int32), v = some (.int r) ∧ Fr n0 L ∧ Keep h0 h [] ∧ own_Fnd ds r
theorem rm55 (l : Launch) (Z : State) (a0 : Array Value) (hw : ∀ d ∈ tables_1, d.before a0 Z = true) (ws : List Jvm.Cond) (p0 : Addr) (n : Nat) (kb : ClassId) (ds : List Int32) (zc : Int32) (fm : Value) (h0 : Heap) (n0 : Nat) (Z0 : n0 ≤ h0.size) (P_Old : Old Z n0 h0) (HA : own_Z Z zc fm) (P_V_p0 : Arv Z h0 p0 kb .byte (Int32.ofNat (2 * n)) (own_w ds) (.int 0)) (hn : n ≤ 22) (hdn : ds.length = n) (hr : ∀ c ∈ ds, own_r c) :
   own_M l Z Y24 jdk_52_method_47_code 4 (some .int) ws ({ frames := 3, cells := 0, slots := 0, locals := 43 } : Room) #[(.ref p0), (.int 37), (.int 0), (.int (Int32.ofNat n))] h0 (Q55 Z p0 n kb ds zc fm h0 n0) := by
 refine own_body (C := "java/lang/StringUTF16") rfl (plainFor_of_name pn_2) (fun p e s m below meth c s₁ Bd hx hby hml hown hlk hZ X0 e0 => ?_)
 have N0 := Fr.nil n0
 obtain ⟨Zcs, hcs, Zsi, hfm, Zad, Zhi, Zlo⟩ := id HA
 have K0 : Keep h0 h0 [] := Keep.refl h0 []
 refine own_go (fun _ k => castTop (ef_55 m p0 n) (XS.iloadN X0.here hx rfl (hb hby d55_0) rfl (XS.iloadN X0.here hx rfl (hb hby d55_1) rfl (XS.aloadN X0.here hx rfl (hb hby d55_2) rfl rfl k)))) ?_
 obtain ⟨_, _, ⟨T1, L1, k1, n1⟩, -, X1, ⟨Lc1, hQ1, l1, y1, z1⟩, st1⟩ := Jvm.LawKit.callS X0 hx (y := Y22) hown (mvT hZ (own_h hw 273 rfl)) (mvT hZ (own_h hw 274 rfl)) (mvT hZ (own_h hw 56 rfl)) (mvT hZ (own_h hw 275 rfl)) (by decide) (backOf (W := 0) (rm56 l Z a0 hw [] p0 n kb ds zc fm h0 n0 Z0 P_Old HA P_V_p0 (by assumption)) hZ (own_h hw 275 rfl) (own_h hw 56 rfl) (by decide) (by decide)) (g := (mkF m 3 #[.val (.ref p0), .val (.int 37), .val (.int 0), .val (.int (Int32.ofNat n))] [(.ref p0), (.int (Int32.ofNat n)), (.int 0)])) rfl (by rw [hml]; rfl) (argsL := [(.int 0), (.int (Int32.ofNat n)), (.ref p0)]) (rest := []) (lenOf pd_12 rfl) rfl (own_r0 _) (hb hby d55_3) (fun _ _ => ⟨rfl, e0, (by decide : 0 + 0 ≤ _), (by decide : 0 + 0 ≤ _)⟩)
 dsimp only [Pt.U, Pt.locs, Pt.cells, Pt.slots] at X1 l1 y1 z1 st1 hQ1
 rw [l1] at X1
 subst y1 z1
 obtain ⟨rfl, Nq1, eh1⟩ := hQ1
 have N1 := Fr.app N0 Nq1
 refine own_go (fun _ k => st1 _ (XS.aloadN X1.here hx rfl (hb hby d55_6) rfl rfl (XS.iloadN X1.here hx rfl (hb hby d55_7) rfl (XS.iloadN X1.here hx rfl (hb hby d55_8) rfl (XS.iloadN X1.here hx rfl (hb hby d55_9) rfl k))))) ?_
 obtain ⟨_, _, ⟨T2, L2, k2, n2⟩, -, X2, ⟨Lc2, hQ2, l2, y2, z2⟩, st2⟩ := Jvm.LawKit.callS X1 hx (y := Y23) hown (mvT hZ (own_h hw 283 rfl)) (mvT hZ (own_h hw 284 rfl)) (mvT hZ (own_h hw 56 rfl)) (mvT hZ (own_h hw 285 rfl)) (by decide) (backOf (W := 0) (rm59 l Z a0 hw [] p0 n kb ds zc fm h0 n0 Z0 P_Old HA P_V_p0 (by assumption) (by assumption) (by assumption)) hZ (own_h hw 285 rfl) (own_h hw 56 rfl) (by decide) (by decide)) (g := (mkF m 10 #[.val (.ref p0), .val (.int 37), .val (.int 0), .val (.int (Int32.ofNat n))] [(.int (Int32.ofNat n)), (.int 0), (.int 37), (.ref p0)])) rfl (by rw [hml]; rfl) (argsL := [(.ref p0), (.int 37), (.int 0), (.int (Int32.ofNat n))]) (rest := []) (lenOf pd_10 rfl) rfl (own_r0 _) (hb hby d55_10) (fun _ _ => ⟨rfl, eh1, (by decide : 0 + 0 ≤ _), (by decide : 0 + 0 ≤ _)⟩)
 dsimp only [Pt.U, Pt.locs, Pt.cells, Pt.slots] at X2 l2 y2 z2 st2 hQ2
 rw [l2] at X2
 subst y2 z2
 obtain ⟨r2, rfl, Nq2, Kq2, r2_0⟩ := hQ2
 have N2 := Fr.app N1 Nq2
 have f3 := P_Old.keep Kq2 all0
 have f4 := P_V_p0.keep Kq2 nin0
 have Zs2 := Nat.le_trans Z0 Kq2.1
 have K2_0 := K0.trans Kq2 all0
 refine own_go (fun _ k => st2 _ k) ?_
 show own_G _ _ _ (T2.setTop (mkF m 13 #[.val (.ref p0), .val (.int 37), .val (.int 0), .val (.int (Int32.ofNat n))] [(.int r2)])) _ _ _ _
 exact own_endI X2 hx hlk Bd.returns (hb hby d55_13) (by decide) (by decide) (Q := (Q55 Z p0 n kb ds zc fm h0 n0)) ⟨_, rfl, N2, K2_0, r2_0⟩
theorem d54_0 : own_d B54 0 (.iload_n 2) 1 := by decide +kernel
theorem d54_1 : own_d B54 1 (.iconst 0) 1 := by decide +kernel
theorem d54_2 : own_d B54 2 (.invokestatic 224) 3 := by decide +kernel
theorem d54_5 : own_d B54 5 (.istore_n 2) 1 := by decide +kernel
theorem d54_6 : own_d B54 6 (.iload_n 3) 1 := by decide +kernel
theorem d54_7 : own_d B54 7 (.aload_n 0) 1 := by decide +kernel
theorem d54_8 : own_d B54 8 (.arraylength) 1 := by decide +kernel
theorem d54_9 : own_d B54 9 (.iconst 1) 1 := by decide +kernel
theorem d54_10 : own_d B54 10 (.ishr) 1 := by decide +kernel
theorem d54_11 : own_d B54 11 (.invokestatic 183) 3 := by decide +kernel
theorem d54_14 : own_d B54 14 (.istore_n 3) 1 := by decide +kernel
theorem d54_15 : own_d B54 15 (.iload_n 2) 1 := by decide +kernel
theorem d54_16 : own_d B54 16 (.iload_n 3) 1 := by decide +kernel
theorem d54_17 : own_d B54 17 (.if_icmp .lt 5) 3 := by decide +kernel
theorem d54_20 : own_d B54 20 (.iconst (-1)) 1 := by decide +kernel
theorem d54_21 : own_d B54 21 (.ireturn) 1 := by decide +kernel
theorem d54_22 : own_d B54 22 (.iload_n 1) 1 := by decide +kernel
theorem d54_23 : own_d B54 23 (.ldc 227) 2 := by decide +kernel
theorem d54_25 : own_d B54 25 (.if_icmp .ge 11) 3 := by decide +kernel
theorem d54_28 : own_d B54 28 (.aload_n 0) 1 := by decide +kernel
theorem d54_29 : own_d B54 29 (.iload_n 1) 1 := by decide +kernel
theorem d54_30 : own_d B54 30 (.iload_n 2) 1 := by decide +kernel
theorem d54_31 : own_d B54 31 (.iload_n 3) 1 := by decide +kernel
theorem d54_32 : own_d B54 32 (.invokestatic 228) 3 := by decide +kernel
theorem d54_35 : own_d B54 35 (.ireturn) 1 := by decide +kernel
theorem ef_54 (m : MethodId) (p0 : Addr) (n : Nat) : entryFrame m #[(.ref p0), (.int 37), (.int 0), (.int (Int32.ofNat n))] 4 = mkF m 0 #[.val (.ref p0), .val (.int 37), .val (.int 0), .val (.int (Int32.ofNat n))] [] := by first | (simp [entryFrame, mkF, argsToLocals, Value.category]; done) | rfl
def Q54 (Z : State) (p0 : Addr) (n : Nat) (kb : ClassId) (ds : List Int32) (zc : Int32) (fm : Value) (h0 : Heap) (n0 : Nat) (v : Option Value) (h : Heap) (L : List Loc) : Prop := ∃ (r : Int32), v = some (.int r) ∧ Fr n0 L ∧ Keep h0 h [] ∧ own_Fnd ds r
theorem rm54 (l : Launch) (Z : State) (a0 : Array Value) (hw : ∀ d ∈ tables_1, d.before a0 Z = true) (ws : List Jvm.Cond) (p0 : Addr) (n : Nat) (kb : ClassId) (ds : List Int32) (zc : Int32) (fm : Value) (h0 : Heap) (n0 : Nat) (Z0 : n0 ≤ h0.size) (P_Old : Old Z n0 h0) (HA : own_Z Z zc fm) (P_V_p0 : Arv Z h0 p0 kb .byte (Int32.ofNat (2 * n)) (own_w ds) (.int 0)) (hn : n ≤ 22) (hdn : ds.length = n) (hr : ∀ c ∈ ds, own_r c) :
   own_M l Z Y25 jdk_52_method_40_code 4 (some .int) ws ({ frames := 4, cells := 0, slots := 0, locals := 58 } : Room) #[(.ref p0), (.int 37), (.int 0), (.int (Int32.ofNat n))] h0 (Q54 Z p0 n kb ds zc fm h0 n0) := by
 refine own_body (C := "java/lang/StringUTF16") rfl (plainFor_of_name pn_2) (fun p e s m below meth c s₁ Bd hx hby hml hown hlk hZ X0 e0 => ?_)
 have N0 := Fr.nil n0
 obtain ⟨Zcs, hcs, Zsi, hfm, Zad, Zhi, Zlo⟩ := id HA
 have K0 : Keep h0 h0 [] := Keep.refl h0 []
 refine own_go (fun _ k => castTop (ef_54 m p0 n) (XS.iloadN X0.here hx rfl (hb hby d54_0) rfl (XS.iconst X0.here hx rfl (hb hby d54_1) k))) ?_
 obtain ⟨_, _, ⟨T1, L1, k1, n1⟩, -, X1, ⟨Lc1, hQ1, l1, y1, z1⟩, st1⟩ := Jvm.LawKit.callS X0 hx (y := Y17) hown (mvT hZ (own_h hw 267 rfl)) (mvT hZ (own_h hw 95 rfl)) (mvT hZ (own_h hw 96 rfl)) (mvT hZ (own_h hw 97 rfl)) (by decide) (backOf (W := 0) (rm21 l Z a0 hw []  h0 n0) hZ (own_h hw 97 rfl) (own_h hw 96 rfl) (by decide) (by decide)) (g := (mkF m 2 #[.val (.ref p0), .val (.int 37), .val (.int 0), .val (.int (Int32.ofNat n))] [(.int 0), (.int 0)])) rfl (by rw [hml]; rfl) (argsL := [(.int 0), (.int 0)]) (rest := []) (lenOf pd_9 rfl) rfl (own_r0 _) (hb hby d54_2) (fun _ _ => ⟨rfl, e0, (by decide : 0 + 0 ≤ _), (by decide : 0 + 0 ≤ _)⟩)
 dsimp only [Pt.U, Pt.locs, Pt.cells, Pt.slots] at X1 l1 y1 z1 st1 hQ1
 rw [l1] at X1
 subst y1 z1
 obtain ⟨rfl, Nq1, eh1⟩ := hQ1
 have N1 := Fr.app N0 Nq1
 refine own_go (fun _ k => st1 _ (XS.istoreN X1.here hx rfl (hb hby d54_5) rfl (l' := #[.val (.ref p0), .val (.int 37), .val (.int 0), .val (.int (Int32.ofNat n))]) rfl (XS.iloadN X1.here hx rfl (hb hby d54_6) rfl (XS.aloadN X1.here hx rfl (hb hby d54_7) rfl rfl k)))) ?_
 obtain ⟨cl2, Ar2, -, S2, Ng2, -, -⟩ := id P_V_p0
 refine own_go (fun _ k => X1.arraylength hx (by rw [eh1]; exact Ar2.1) (State.isArrayOf_alike hZ.alike Ar2.2.1) (g := (mkF m 8 #[.val (.ref p0), .val (.int 37), .val (.int 0), .val (.int (Int32.ofNat n))] [(.ref p0), (.int (Int32.ofNat n))])) rfl rfl (hb hby d54_8) _ k) ?_
 rw [len_of S2 Ng2]
 show own_G _ _ _ (T1.setTop (mkF m 9 #[.val (.ref p0), .val (.int 37), .val (.int 0), .val (.int (Int32.ofNat n))] [(.int (Int32.ofNat (2 * n))), (.int (Int32.ofNat n))])) _ _ _ _
 refine own_go (fun _ k => XS.iconst X1.here hx rfl (hb hby d54_9) k) ?_
 show own_G _ _ _ (T1.setTop (mkF m 10 #[.val (.ref p0), .val (.int 37), .val (.int 0), .val (.int (Int32.ofNat n))] [(.int 1), (.int (Int32.ofNat (2 * n))), (.int (Int32.ofNat n))])) _ _ _ _
 refine own_go (fun _ k => XS.ishr X1.here hx rfl (hb hby d54_10) rfl k) ?_
 rw [own_shr1 n (by omega)]
 show own_G _ _ _ (T1.setTop (mkF m 11 #[.val (.ref p0), .val (.int 37), .val (.int 0), .val (.int (Int32.ofNat n))] [(.int (Int32.ofNat n)), (.int (Int32.ofNat n))])) _ _ _ _
 obtain ⟨_, _, ⟨T3, L3, k3, n3⟩, -, X3, ⟨Lc3, hQ3, l3, y3, z3⟩, st3⟩ := Jvm.LawKit.callS X1 hx (y := Y18) hown (mvT hZ (own_h hw 268 rfl)) (mvT hZ (own_h hw 99 rfl)) (mvT hZ (own_h hw 96 rfl)) (mvT hZ (own_h hw 100 rfl)) (by decide) (backOf (W := 0) (rm22a l Z a0 hw []  n h0 n0 Z0 ) hZ (own_h hw 100 rfl) (own_h hw 96 rfl) (by decide) (by decide)) (g := (mkF m 11 #[.val (.ref p0), .val (.int 37), .val (.int 0), .val (.int (Int32.ofNat n))] [(.int (Int32.ofNat n)), (.int (Int32.ofNat n))])) rfl (by rw [hml]; rfl) (argsL := [(.int (Int32.ofNat n)), (.int (Int32.ofNat n))]) (rest := []) (lenOf pd_9 rfl) rfl (own_r0 _) (hb hby d54_11) (fun _ _ => ⟨rfl, eh1, (by decide : 0 + 0 ≤ _), (by decide : 0 + 0 ≤ _)⟩)
 dsimp only [Pt.U, Pt.locs, Pt.cells, Pt.slots] at X3 l3 y3 z3 st3 hQ3
 rw [l3] at X3
 subst y3 z3
 obtain ⟨rfl, Nq3, eh3⟩ := hQ3
 have N3 := Fr.app N1 Nq3
 refine own_go (fun _ k => st3 _ (XS.istoreN X3.here hx rfl (hb hby d54_14) rfl (l' := #[.val (.ref p0), .val (.int 37), .val (.int 0), .val (.int (Int32.ofNat n))]) rfl (XS.iloadN X3.here hx rfl (hb hby d54_15) rfl (XS.iloadN X3.here hx rfl (hb hby d54_16) rfl k)))) ?_
 show own_G _ _ _ (T3.setTop (mkF m 17 #[.val (.ref p0), .val (.int 37), .val (.int 0), .val (.int (Int32.ofNat n))] [(.int (Int32.ofNat n)), (.int 0)])) _ _ _ _
 by_cases hc4 : (0 : Int32) < (Int32.ofNat n)
 · refine own_go (fun _ k => XS.icmpYes X3.here hx rfl (pc0 := 17) (pc' := 22) rfl (hb hby d54_17) rfl (tlt hc4).1 (by decide) (by decide) (XS.iloadN X3.here hx rfl (hb hby d54_22) rfl (X3.ldcInt hx hown (mvT hZ (own_h hw 269 rfl)) (g := (mkF m 23 #[.val (.ref p0), .val (.int 37), .val (.int 0), .val (.int (Int32.ofNat n))] [(.int 37)])) rfl (hb hby d54_23) _ k))) ?_
   show own_G _ _ _ (T3.setTop (mkF m 25 #[.val (.ref p0), .val (.int 37), .val (.int 0), .val (.int (Int32.ofNat n))] [(.int 65536), (.int 37)])) _ _ _ _
   have hc5 : (37 : Int32) < (65536 : Int32) := (by decide)
   refine own_go (fun _ k => XS.icmpNo X3.here hx rfl (hb hby d54_25) rfl (tlt hc5).2.1 (XS.aloadN X3.here hx rfl (hb hby d54_28) rfl rfl (XS.iloadN X3.here hx rfl (hb hby d54_29) rfl (XS.iloadN X3.here hx rfl (hb hby d54_30) rfl (XS.iloadN X3.here hx rfl (hb hby d54_31) rfl k))))) ?_
   obtain ⟨_, _, ⟨T6, L6, k6, n6⟩, -, X6, ⟨Lc6, hQ6, l6, y6, z6⟩, st6⟩ := Jvm.LawKit.callS X3 hx (y := Y24) hown (mvT hZ (own_h hw 270 rfl)) (mvT hZ (own_h hw 271 rfl)) (mvT hZ (own_h hw 56 rfl)) (mvT hZ (own_h hw 272 rfl)) (by decide) (backOf (W := 0) (rm55 l Z a0 hw [] p0 n kb ds zc fm h0 n0 Z0 P_Old HA P_V_p0 (by assumption) (by assumption) (by assumption)) hZ (own_h hw 272 rfl) (own_h hw 56 rfl) (by decide) (by decide)) (g := (mkF m 32 #[.val (.ref p0), .val (.int 37), .val (.int 0), .val (.int (Int32.ofNat n))] [(.int (Int32.ofNat n)), (.int 0), (.int 37), (.ref p0)])) rfl (by rw [hml]; rfl) (argsL := [(.ref p0), (.int 37), (.int 0), (.int (Int32.ofNat n))]) (rest := []) (lenOf pd_10 rfl) rfl (own_r0 _) (hb hby d54_32) (fun _ _ => ⟨rfl, eh3, (by decide : 0 + 0 ≤ _), (by decide : 0 + 0 ≤ _)⟩)
   dsimp only [Pt.U, Pt.locs, Pt.cells, Pt.slots] at X6 l6 y6 z6 st6 hQ6
   rw [l6] at X6
   subst y6 z6
   obtain ⟨r6, rfl, Nq6, Kq6, r6_0⟩ := hQ6
   have N6 := Fr.app N3 Nq6
   have f7 := P_Old.keep Kq6 all0
   have f8 := P_V_p0.keep Kq6 nin0
   have Zs6 := Nat.le_trans Z0 Kq6.1
   have K6_0 := K0.trans Kq6 all0
   refine own_go (fun _ k => st6 _ k) ?_
   show own_G _ _ _ (T6.setTop (mkF m 35 #[.val (.ref p0), .val (.int 37), .val (.int 0), .val (.int (Int32.ofNat n))] [(.int r6)])) _ _ _ _
   exact own_endI X6 hx hlk Bd.returns (hb hby d54_35) (by decide) (by decide) (Q := (Q54 Z p0 n kb ds zc fm h0 n0)) ⟨_, rfl, N6, K6_0, r6_0⟩
 · refine own_go (fun _ k => XS.icmpNo X3.here hx rfl (hb hby d54_17) rfl (flt hc4).1 (XS.iconst X3.here hx rfl (hb hby d54_20) k)) ?_
   show own_G _ _ _ (T3.setTop (mkF m 21 #[.val (.ref p0), .val (.int 37), .val (.int 0), .val (.int (Int32.ofNat n))] [(.int (-1))])) _ _ _ _
   exact own_endI X3 hx hlk Bd.returns (hb hby d54_21) (by decide) (by decide) (Q := (Q54 Z p0 n kb ds zc fm h0 n0)) (by rw [eh3]; exact ⟨_, rfl, N3, K0, Or.inl ⟨rfl, fun k hk => absurd (own_n0 hc4 hn) (by omega)⟩⟩)
theorem d16_0 : own_d B16 0 (.aload_n 0) 1 := by decide +kernel
theorem d16_1 : own_d B16 1 (.invokevirtual 492) 3 := by decide +kernel
theorem d16_4 : own_d B16 4 (.ifCond .eq 19) 3 := by decide +kernel
theorem d16_7 : own_d B16 7 (.aload_n 0) 1 := by decide +kernel
theorem d16_8 : own_d B16 8 (.getfield 9) 3 := by decide +kernel
theorem d16_11 : own_d B16 11 (.iload_n 1) 1 := by decide +kernel
theorem d16_12 : own_d B16 12 (.iload_n 2) 1 := by decide +kernel
theorem d16_13 : own_d B16 13 (.aload_n 0) 1 := by decide +kernel
theorem d16_14 : own_d B16 14 (.invokevirtual 505) 3 := by decide +kernel
theorem d16_17 : own_d B16 17 (.invokestatic 637) 3 := by decide +kernel
theorem d16_20 : own_d B16 20 (.goto 16) 3 := by decide +kernel
theorem d16_23 : own_d B16 23 (.aload_n 0) 1 := by decide +kernel
theorem d16_24 : own_d B16 24 (.getfield 9) 3 := by decide +kernel
theorem d16_27 : own_d B16 27 (.iload_n 1) 1 := by decide +kernel
theorem d16_28 : own_d B16 28 (.iload_n 2) 1 := by decide +kernel
theorem d16_29 : own_d B16 29 (.aload_n 0) 1 := by decide +kernel
theorem d16_30 : own_d B16 30 (.invokevirtual 505) 3 := by decide +kernel
theorem d16_33 : own_d B16 33 (.invokestatic 640) 3 := by decide +kernel
theorem d16_36 : own_d B16 36 (.ireturn) 1 := by decide +kernel
theorem pd_13 : parseMethodDescriptor "()I" = some ⟨[], some .int⟩ := by decide +kernel
theorem ef_16 (m : MethodId) (p0 : Addr) : entryFrame m #[(.ref p0), (.int 37), (.int 0)] 3 = mkF m 0 #[.val (.ref p0), .val (.int 37), .val (.int 0)] [] := by first | (simp [entryFrame, mkF, argsToLocals, Value.category]; done) | rfl
def Q16 (Z : State) (p0 : Addr) (zc : Int32) (fm : Value) (co : Int32) (t : Addr) (kb : ClassId) (cs : List Int32) (h0 : Heap) (n0 : Nat) (v : Option Value) (h : Heap) (L : List Loc) : Prop := ∃ (r : Int32), v = some (.int r) ∧ Fr n0 L ∧ Keep h0 h [] ∧ own_Fnd cs r
theorem rm16 (l : Launch) (Z : State) (a0 : Array Value) (hw : ∀ d ∈ tables_1, d.before a0 Z = true) (ws : List Jvm.Cond) (p0 : Addr) (zc : Int32) (fm : Value) (co : Int32) (t : Addr) (kb : ClassId) (cs : List Int32) (h0 : Heap) (n0 : Nat) (Z0 : n0 ≤ h0.size) (P_Old : Old Z n0 h0) (HA : own_Z Z zc fm) (P_E_p0 : Exa Z h0 p0 "java/lang/String") (P_F_p0_coder : Fld Z h0 p0 "java/lang/String" "coder" "B" (.int co)) (P_F_p0_value : Fld Z h0 p0 "java/lang/String" "value" "[B" (.ref t)) (P_V_t : Arv Z h0 t kb .byte (own_cap co cs.length) (own_sv co cs) (.int 0)) (hs : own_OK co cs) :
   own_M l Z Y26 jdk_42_method_80_code 3 (some .int) ws ({ frames := 5, cells := 0, slots := 0, locals := 73 } : Room) #[(.ref p0), (.int 37), (.int 0)] h0 (Q16 Z p0 zc fm co t kb cs h0 n0) := by
 refine own_body (C := "java/lang/String") rfl (plainFor_of_name pn_1) (fun p e s m below meth c s₁ Bd hx hby hml hown hlk hZ X0 e0 => ?_)
 have N0 := Fr.nil n0
 obtain ⟨Zcs, hcs, Zsi, hfm, Zad, Zhi, Zlo⟩ := id HA
 have K0 : Keep h0 h0 [] := Keep.refl h0 []
 refine own_go (fun _ k => castTop (ef_16 m p0) k) ?_
 show own_G _ _ _ (s₁.setTop (mkF m 0 #[.val (.ref p0), .val (.int 37), .val (.int 0)] [])) _ _ _ _
 rcases hs.1 with ⟨eco, h255c⟩ | eco
 · have co1a : Fld Z h0 p0 "java/lang/String" "coder" "B" (.int 0) := own_f eco P_F_p0_coder
   have co1b : Arv Z h0 t kb .byte (Int32.ofNat cs.length) (own_l1 cs) (.int 0) := own_v0 eco P_V_t
   show own_G _ _ _ (s₁.setTop (mkF m 0 #[.val (.ref p0), .val (.int 37), .val (.int 0)] [])) _ _ _ _
   refine own_go (fun _ k => XS.aloadN X0.here hx rfl (hb hby d16_0) rfl rfl k) ?_
   obtain ⟨cq2, kq2, q2a, q2b, q2c⟩ := isOf hZ e0 P_E_p0
   obtain ⟨_, _, ⟨T2, L2, k2, n2⟩, -, X2, ⟨Lc2, hQ2, l2, y2, z2⟩, st2⟩ := X0.virtualBack hx (y := Y13) (z := Y13) hown (mvT hZ (own_h hw 20 rfl)) (mvT hZ (own_h hw 21 rfl)) (notFace_of_selects (args := #[]) (mvT hZ (own_h hw 23 rfl))) (mvT hZ (own_h hw 23 rfl)) (mvT hZ (own_h hw 22 rfl)) (by decide) (backOf (W := 0) (rm3a l Z a0 hw [] p0 zc fm h0 n0 Z0 P_Old HA co1a) hZ (own_h hw 24 rfl) (own_h hw 8 rfl) (by decide) (by decide)) q2a q2c (g := (mkF m 1 #[.val (.ref p0), .val (.int 37), .val (.int 0)] [(.ref p0)])) rfl (by rw [hml]; rfl) (Steps.refl _) (argsL := []) (rest := []) (lenOf pd_7 rfl) rfl (own_r0 _) (hb hby d16_1) (fun _ _ => ⟨rfl, e0, (by decide : 0 + 0 ≤ _), (by decide : 0 + 0 ≤ _)⟩)
   dsimp only [Pt.U, Pt.locs, Pt.cells, Pt.slots] at X2 l2 y2 z2 st2 hQ2
   rw [l2] at X2
   subst y2 z2
   obtain ⟨rfl, Nq2, eh2⟩ := hQ2
   have N2 := Fr.app N0 Nq2
   refine own_go (fun _ k => st2.trans k) ?_
   show own_G _ _ _ (T2.setTop (mkF m 4 #[.val (.ref p0), .val (.int 37), .val (.int 0)] [(.int 1)])) _ _ _ _
   have hc3 : ¬ ((1 : Int32) = (0 : Int32)) := (by decide)
   refine own_go (fun _ k => XS.ifNo X2.here hx rfl (hb hby d16_4) rfl ((if0 _ _).trans (feq hc3).1) (XS.aloadN X2.here hx rfl (hb hby d16_7) rfl rfl k)) ?_
   obtain ⟨T4, X4, e4, st4⟩ := getF X2 hx hZ hown (host := "") (Or.inl (own_h hw 27 rfl)) Via.refl eh2 P_F_p0_value (g := (mkF m 8 #[.val (.ref p0), .val (.int 37), .val (.int 0)] [(.ref p0)])) rfl rfl (hb hby d16_8)
   refine own_go (fun _ k => st4 _ (XS.iloadN X4.here hx rfl (hb hby d16_11) rfl (XS.iloadN X4.here hx rfl (hb hby d16_12) rfl (XS.aloadN X4.here hx rfl (hb hby d16_13) rfl rfl k)))) ?_
   obtain ⟨cq5, kq5, q5a, q5b, q5c⟩ := isOf hZ e4 P_E_p0
   obtain ⟨_, _, ⟨T5, L5, k5, n5⟩, -, X5, ⟨Lc5, hQ5, l5, y5, z5⟩, st5⟩ := X4.virtualBack hx (y := Y15) (z := Y15) hown (mvT hZ (own_h hw 78 rfl)) (mvT hZ (own_h hw 79 rfl)) (notFace_of_selects (args := #[]) (mvT hZ (own_h hw 81 rfl))) (mvT hZ (own_h hw 81 rfl)) (mvT hZ (own_h hw 80 rfl)) (by decide) (backOf (W := 3) (rm17 l Z a0 hw [] p0 zc fm co t kb cs h0 n0 Z0 P_Old HA P_E_p0 (own_fr eco co1a) P_F_p0_value (own_v0r eco co1b) hs) hZ (own_h hw 82 rfl) (own_h hw 8 rfl) (by decide) (by decide)) q5a q5c (g := (mkF m 14 #[.val (.ref p0), .val (.int 37), .val (.int 0)] [(.ref p0), (.int 0), (.int 37), (.ref t)])) rfl (by rw [hml]; rfl) (Steps.refl _) (argsL := []) (rest := [(.int 0), (.int 37), (.ref t)]) (lenOf pd_13 rfl) rfl (own_r0 _) (hb hby d16_14) (fun _ _ => ⟨rfl, e4, (by decide : 0 + 0 ≤ _), (by decide : 0 + 0 ≤ _)⟩)
   dsimp only [Pt.U, Pt.locs, Pt.cells, Pt.slots] at X5 l5 y5 z5 st5 hQ5
   rw [l5] at X5
   subst y5 z5
   obtain ⟨rfl, Nq5, eh5⟩ := hQ5
   have N5 := Fr.app N2 Nq5
   refine own_go (fun _ k => st5.trans k) ?_
   obtain ⟨_, _, ⟨T6, L6, k6, n6⟩, -, X6, ⟨Lc6, hQ6, l6, y6, z6⟩, st6⟩ := Jvm.LawKit.callS X5 hx (y := Y21) hown (mvT hZ (own_h hw 88 rfl)) (mvT hZ (own_h hw 89 rfl)) (mvT hZ (own_h hw 30 rfl)) (mvT hZ (own_h hw 90 rfl)) (by decide) (backOf (W := 0) (rm19 l Z a0 hw [] t cs.length kb cs h0 n0 Z0 co1b hs.2.2 rfl hs.2.1 h255c) hZ (own_h hw 90 rfl) (own_h hw 30 rfl) (by decide) (by decide)) (g := (mkF m 17 #[.val (.ref p0), .val (.int 37), .val (.int 0)] [(.int (Int32.ofNat cs.length)), (.int 0), (.int 37), (.ref t)])) rfl (by rw [hml]; rfl) (argsL := [(.ref t), (.int 37), (.int 0), (.int (Int32.ofNat cs.length))]) (rest := []) (lenOf pd_10 rfl) rfl (own_r0 _) (hb hby d16_17) (fun _ _ => ⟨rfl, eh5, (by decide : 0 + 0 ≤ _), (by decide : 0 + 0 ≤ _)⟩)
   dsimp only [Pt.U, Pt.locs, Pt.cells, Pt.slots] at X6 l6 y6 z6 st6 hQ6
   rw [l6] at X6
   subst y6 z6
   obtain ⟨r6, rfl, Nq6, Kq6, r6_0⟩ := hQ6
   have N6 := Fr.app N5 Nq6
   have f7 := P_Old.keep Kq6 all0
   have f8 := P_E_p0.keep Kq6
   have f9 := co1a.keep Kq6 nin0
   have f10 := P_F_p0_value.keep Kq6 nin0
   have f11 := co1b.keep Kq6 nin0
   have Zs6 := Nat.le_trans Z0 Kq6.1
   have K6_0 := K0.trans Kq6 all0
   refine own_go (fun _ k => st6 _ (XS.goto X6.here hx rfl (pc0 := 20) (pc' := 36) rfl (hb hby d16_20) (by decide) (by decide) k)) ?_
   show own_G _ _ _ (T6.setTop (mkF m 36 #[.val (.ref p0), .val (.int 37), .val (.int 0)] [(.int r6)])) _ _ _ _
   exact own_endI X6 hx hlk Bd.returns (hb hby d16_36) (by decide) (by decide) (Q := (Q16 Z p0 zc fm co t kb cs h0 n0)) ⟨_, rfl, N6, K6_0, r6_0⟩
 · have co1a : Fld Z h0 p0 "java/lang/String" "coder" "B" (.int 1) := own_f eco P_F_p0_coder
   have co1b : Arv Z h0 t kb .byte (Int32.ofNat (2 * cs.length)) (own_w cs) (.int 0) := own_v1 eco P_V_t
   show own_G _ _ _ (s₁.setTop (mkF m 0 #[.val (.ref p0), .val (.int 37), .val (.int 0)] [])) _ _ _ _
   refine own_go (fun _ k => XS.aloadN X0.here hx rfl (hb hby d16_0) rfl rfl k) ?_
   obtain ⟨cq12, kq12, q12a, q12b, q12c⟩ := isOf hZ e0 P_E_p0
   obtain ⟨_, _, ⟨T12, L12, k12, n12⟩, -, X12, ⟨Lc12, hQ12, l12, y12, z12⟩, st12⟩ := X0.virtualBack hx (y := Y13) (z := Y13) hown (mvT hZ (own_h hw 20 rfl)) (mvT hZ (own_h hw 21 rfl)) (notFace_of_selects (args := #[]) (mvT hZ (own_h hw 23 rfl))) (mvT hZ (own_h hw 23 rfl)) (mvT hZ (own_h hw 22 rfl)) (by decide) (backOf (W := 0) (rm3b l Z a0 hw [] p0 zc fm h0 n0 Z0 P_Old HA co1a) hZ (own_h hw 24 rfl) (own_h hw 8 rfl) (by decide) (by decide)) q12a q12c (g := (mkF m 1 #[.val (.ref p0), .val (.int 37), .val (.int 0)] [(.ref p0)])) rfl (by rw [hml]; rfl) (Steps.refl _) (argsL := []) (rest := []) (lenOf pd_7 rfl) rfl (own_r0 _) (hb hby d16_1) (fun _ _ => ⟨rfl, e0, (by decide : 0 + 0 ≤ _), (by decide : 0 + 0 ≤ _)⟩)
   dsimp only [Pt.U, Pt.locs, Pt.cells, Pt.slots] at X12 l12 y12 z12 st12 hQ12
   rw [l12] at X12
   subst y12 z12
   obtain ⟨rfl, Nq12, eh12⟩ := hQ12
   have N12 := Fr.app N0 Nq12
   refine own_go (fun _ k => st12.trans k) ?_
   show own_G _ _ _ (T12.setTop (mkF m 4 #[.val (.ref p0), .val (.int 37), .val (.int 0)] [(.int 0)])) _ _ _ _
   have hc13 : (0 : Int32) = (0 : Int32) := (by decide)
   refine own_go (fun _ k => XS.ifYes X12.here hx rfl (pc0 := 4) (pc' := 23) rfl (hb hby d16_4) rfl ((if0 _ _).trans (teq hc13).1) (by decide) (by decide) (XS.aloadN X12.here hx rfl (hb hby d16_23) rfl rfl k)) ?_
   obtain ⟨T14, X14, e14, st14⟩ := getF X12 hx hZ hown (host := "") (Or.inl (own_h hw 27 rfl)) Via.refl eh12 P_F_p0_value (g := (mkF m 24 #[.val (.ref p0), .val (.int 37), .val (.int 0)] [(.ref p0)])) rfl rfl (hb hby d16_24)
   refine own_go (fun _ k => st14 _ (XS.iloadN X14.here hx rfl (hb hby d16_27) rfl (XS.iloadN X14.here hx rfl (hb hby d16_28) rfl (XS.aloadN X14.here hx rfl (hb hby d16_29) rfl rfl k)))) ?_
   obtain ⟨cq15, kq15, q15a, q15b, q15c⟩ := isOf hZ e14 P_E_p0
   obtain ⟨_, _, ⟨T15, L15, k15, n15⟩, -, X15, ⟨Lc15, hQ15, l15, y15, z15⟩, st15⟩ := X14.virtualBack hx (y := Y15) (z := Y15) hown (mvT hZ (own_h hw 78 rfl)) (mvT hZ (own_h hw 79 rfl)) (notFace_of_selects (args := #[]) (mvT hZ (own_h hw 81 rfl))) (mvT hZ (own_h hw 81 rfl)) (mvT hZ (own_h hw 80 rfl)) (by decide) (backOf (W := 3) (rm17 l Z a0 hw [] p0 zc fm co t kb cs h0 n0 Z0 P_Old HA P_E_p0 (own_fr eco co1a) P_F_p0_value (own_v1r eco co1b) hs) hZ (own_h hw 82 rfl) (own_h hw 8 rfl) (by decide) (by decide)) q15a q15c (g := (mkF m 30 #[.val (.ref p0), .val (.int 37), .val (.int 0)] [(.ref p0), (.int 0), (.int 37), (.ref t)])) rfl (by rw [hml]; rfl) (Steps.refl _) (argsL := []) (rest := [(.int 0), (.int 37), (.ref t)]) (lenOf pd_13 rfl) rfl (own_r0 _) (hb hby d16_30) (fun _ _ => ⟨rfl, e14, (by decide : 0 + 0 ≤ _), (by decide : 0 + 0 ≤ _)⟩)
   dsimp only [Pt.U, Pt.locs, Pt.cells, Pt.slots] at X15 l15 y15 z15 st15 hQ15
   rw [l15] at X15
   subst y15 z15
   obtain ⟨rfl, Nq15, eh15⟩ := hQ15
   have N15 := Fr.app N12 Nq15
   refine own_go (fun _ k => st15.trans k) ?_
   obtain ⟨_, _, ⟨T16, L16, k16, n16⟩, -, X16, ⟨Lc16, hQ16, l16, y16, z16⟩, st16⟩ := Jvm.LawKit.callS X15 hx (y := Y25) hown (mvT hZ (own_h hw 264 rfl)) (mvT hZ (own_h hw 265 rfl)) (mvT hZ (own_h hw 56 rfl)) (mvT hZ (own_h hw 266 rfl)) (by decide) (backOf (W := 0) (rm54 l Z a0 hw [] t cs.length kb cs zc fm h0 n0 Z0 P_Old HA co1b hs.2.2 rfl hs.2.1) hZ (own_h hw 266 rfl) (own_h hw 56 rfl) (by decide) (by decide)) (g := (mkF m 33 #[.val (.ref p0), .val (.int 37), .val (.int 0)] [(.int (Int32.ofNat cs.length)), (.int 0), (.int 37), (.ref t)])) rfl (by rw [hml]; rfl) (argsL := [(.ref t), (.int 37), (.int 0), (.int (Int32.ofNat cs.length))]) (rest := []) (lenOf pd_10 rfl) rfl (own_r0 _) (hb hby d16_33) (fun _ _ => ⟨rfl, eh15, (by decide : 0 + 0 ≤ _), (by decide : 0 + 0 ≤ _)⟩)
   dsimp only [Pt.U, Pt.locs, Pt.cells, Pt.slots] at X16 l16 y16 z16 st16 hQ16
   rw [l16] at X16
   subst y16 z16
   obtain ⟨r16, rfl, Nq16, Kq16, r16_0⟩ := hQ16
   have N16 := Fr.app N15 Nq16
   have f17 := P_Old.keep Kq16 all0
   have f18 := P_E_p0.keep Kq16
   have f19 := co1a.keep Kq16 nin0
   have f20 := P_F_p0_value.keep Kq16 nin0
   have f21 := co1b.keep Kq16 nin0
   have Zs16 := Nat.le_trans Z0 Kq16.1
   have K16_0 := K0.trans Kq16 all0
   refine own_go (fun _ k => st16 _ k) ?_
   show own_G _ _ _ (T16.setTop (mkF m 36 #[.val (.ref p0), .val (.int 37), .val (.int 0)] [(.int r16)])) _ _ _ _
   exact own_endI X16 hx hlk Bd.returns (hb hby d16_36) (by decide) (by decide) (Q := (Q16 Z p0 zc fm co t kb cs h0 n0)) ⟨_, rfl, N16, K16_0, r16_0⟩
theorem d15_0 : own_d B15 0 (.aload_n 0) 1 := by decide +kernel
theorem d15_1 : own_d B15 1 (.iload_n 1) 1 := by decide +kernel
theorem d15_2 : own_d B15 2 (.iconst 0) 1 := by decide +kernel
theorem d15_3 : own_d B15 3 (.invokevirtual 633) 3 := by decide +kernel
theorem d15_6 : own_d B15 6 (.ireturn) 1 := by decide +kernel
theorem ef_15 (m : MethodId) (p0 : Addr) : entryFrame m #[(.ref p0), (.int 37)] 2 = mkF m 0 #[.val (.ref p0), .val (.int 37)] [] := by first | (simp [entryFrame, mkF, argsToLocals, Value.category]; done) | rfl
def Q15 (Z : State) (p0 : Addr) (zc : Int32) (fm : Value) (co : Int32) (t : Addr) (kb : ClassId) (cs : List Int32) (h0 : Heap) (n0 : Nat) (v : Option Value) (h : Heap) (L : List Loc) : Prop := ∃ (r : Int32), v = some (.int r) ∧ Fr n0 L ∧ Keep h0 h [] ∧ own_Fnd cs r
theorem rm15 (l : Launch) (Z : State) (a0 : Array Value) (hw : ∀ d ∈ tables_1, d.before a0 Z = true) (ws : List Jvm.Cond) (p0 : Addr) (zc : Int32) (fm : Value) (co : Int32) (t : Addr) (kb : ClassId) (cs : List Int32) (h0 : Heap) (n0 : Nat) (Z0 : n0 ≤ h0.size) (P_Old : Old Z n0 h0) (HA : own_Z Z zc fm) (P_E_p0 : Exa Z h0 p0 "java/lang/String") (P_F_p0_coder : Fld Z h0 p0 "java/lang/String" "coder" "B" (.int co)) (P_F_p0_value : Fld Z h0 p0 "java/lang/String" "value" "[B" (.ref t)) (P_V_t : Arv Z h0 t kb .byte (own_cap co cs.length) (own_sv co cs) (.int 0)) (hs : own_OK co cs) :
   own_M l Z Y27 jdk_42_method_79_code 2 (some .int) ws ({ frames := 6, cells := 0, slots := 0, locals := 87 } : Room) #[(.ref p0), (.int 37)] h0 (Q15 Z p0 zc fm co t kb cs h0 n0) := by
 refine own_body (C := "java/lang/String") rfl (plainFor_of_name pn_1) (fun p e s m below meth c s₁ Bd hx hby hml hown hlk hZ X0 e0 => ?_)
 have N0 := Fr.nil n0
 obtain ⟨Zcs, hcs, Zsi, hfm, Zad, Zhi, Zlo⟩ := id HA
 have K0 : Keep h0 h0 [] := Keep.refl h0 []
 refine own_go (fun _ k => castTop (ef_15 m p0) (XS.aloadN X0.here hx rfl (hb hby d15_0) rfl rfl (XS.iloadN X0.here hx rfl (hb hby d15_1) rfl (XS.iconst X0.here hx rfl (hb hby d15_2) k)))) ?_
 obtain ⟨cq1, kq1, q1a, q1b, q1c⟩ := isOf hZ e0 P_E_p0
 obtain ⟨_, _, ⟨T1, L1, k1, n1⟩, -, X1, ⟨Lc1, hQ1, l1, y1, z1⟩, st1⟩ := X0.virtualBack hx (y := Y26) (z := Y26) hown (mvT hZ (own_h hw 73 rfl)) (mvT hZ (own_h hw 74 rfl)) (notFace_of_selects (args := #[]) (mvT hZ (own_h hw 76 rfl))) (mvT hZ (own_h hw 76 rfl)) (mvT hZ (own_h hw 75 rfl)) (by decide) (backOf (W := 0) (rm16 l Z a0 hw [] p0 zc fm co t kb cs h0 n0 Z0 P_Old HA P_E_p0 P_F_p0_coder P_F_p0_value P_V_t (by assumption)) hZ (own_h hw 77 rfl) (own_h hw 8 rfl) (by decide) (by decide)) q1a q1c (g := (mkF m 3 #[.val (.ref p0), .val (.int 37)] [(.int 0), (.int 37), (.ref p0)])) rfl (by rw [hml]; rfl) (Steps.refl _) (argsL := [(.int 37), (.int 0)]) (rest := []) (lenOf pd_9 rfl) rfl (own_r0 _) (hb hby d15_3) (fun _ _ => ⟨rfl, e0, (by decide : 0 + 0 ≤ _), (by decide : 0 + 0 ≤ _)⟩)
 dsimp only [Pt.U, Pt.locs, Pt.cells, Pt.slots] at X1 l1 y1 z1 st1 hQ1
 rw [l1] at X1
 subst y1 z1
 obtain ⟨r1, rfl, Nq1, Kq1, r1_0⟩ := hQ1
 have N1 := Fr.app N0 Nq1
 have f2 := P_Old.keep Kq1 all0
 have f3 := P_E_p0.keep Kq1
 have f4 := P_F_p0_coder.keep Kq1 nin0
 have f5 := P_F_p0_value.keep Kq1 nin0
 have f6 := P_V_t.keep Kq1 nin0
 have Zs1 := Nat.le_trans Z0 Kq1.1
 have K1_0 := K0.trans Kq1 all0
 refine own_go (fun _ k => st1.trans k) ?_
 show own_G _ _ _ (T1.setTop (mkF m 6 #[.val (.ref p0), .val (.int 37)] [(.int r1)])) _ _ _ _
 exact own_endI X1 hx hlk Bd.returns (hb hby d15_6) (by decide) (by decide) (Q := (Q15 Z p0 zc fm co t kb cs h0 n0)) ⟨_, rfl, N1, K1_0, r1_0⟩
theorem own_cl0 : (0 : Int32).toNatClampNeg = 0 := by decide
theorem own_sub0 (x : Int32) : x - 0 = x := by simp
theorem own_0add (x : Int32) : 0 + x = x := by simp
theorem own_subn (a b : Nat) (h : b ≤ a) (ha : a ≤ 22) : Int32.ofNat a - Int32.ofNat b = Int32.ofNat (a - b) := (by decide +kernel : ∀ a b : Fin 23, b.val ≤ a.val → Int32.ofNat a.val - Int32.ofNat b.val = Int32.ofNat (a.val - b.val)) ⟨a, by omega⟩ ⟨b, by omega⟩ h
theorem own_addn (a b : Nat) : Int32.ofNat a + Int32.ofNat b = Int32.ofNat (a + b) := (Int32.ofNat_add a b).symm
theorem own_or0 (m n : Nat) (hm : m ≤ 22) (hn : n ≤ 22) : ¬ ((Int32.ofNat m ||| (0 : Int32)) ||| Int32.ofNat n) < (0 : Int32) := (by decide +kernel : ∀ a b : Fin 23, ¬ ((Int32.ofNat a.val ||| (0 : Int32)) ||| Int32.ofNat b.val) < (0 : Int32)) ⟨m, by omega⟩ ⟨n, by omega⟩
theorem own_nlt {a b : Nat} (h : b ≤ a) (ha : a ≤ 22) : ¬ Int32.ofNat a < Int32.ofNat b := fun q => absurd ((own_ltI a b (by omega) (by omega)).mp q) (by omega)
theorem own_sb0 (m n : Nat) (hm : m ≤ 22) (hn : n ≤ m) : ¬ (Int32.ofNat m - (0 : Int32)) < Int32.ofNat n := by rw [own_sub0]; exact own_nlt hn hm
theorem own_sle (q m : Nat) (hm : m ≤ 5) (hq : q ≤ m) : ¬ (0 : Int32) < (Int32.ofNat q - Int32.ofNat m) := (by decide +kernel : ∀ a b : Fin 6, a.val ≤ b.val → ¬ (0 : Int32) < (Int32.ofNat a.val - Int32.ofNat b.val)) ⟨q, by omega⟩ ⟨m, by omega⟩ hq
theorem own_al (ds : List Int32) (x : Int32) : (ds ++ [x]).length = ds.length + 1 := by simp
theorem own_tkn {P : Int32 → Prop} {cs : List Int32} {i : Nat} (hv : ∀ c ∈ cs.take i, P c) (h : P (cs.getD i 0)) (hi : i < cs.length) : ∀ c ∈ cs.take (i + 1), P c := by
 rw [← own_tks cs i hi]; exact own_ap hv h
theorem own_tk0 {P : Int32 → Prop} {cs : List Int32} : ∀ c ∈ cs.take 0, P c := fun c hc => by simp at hc
theorem own_BK0 {m : Nat} (h : m ≤ 5) : own_BK 0 [] m := ⟨Or.inl ⟨rfl, fun c hc => by simp at hc⟩, fun c hc => by simp at hc, h⟩
theorem own_cfl (n : Nat) (co : Int32) (h5 : n ≤ 5) (h0 : 0 < n) (hc : co = 0 ∨ co = 1) : nar .byte ((((Int32.ofNat n) - (own_cap co n)).toUInt32 >>> ((31 : Int32) &&& 31).toUInt32).toInt32).toInt8.toInt32 = co := by
 rcases hc with e | e
 · subst e; exact (by decide +kernel : ∀ k : Fin 6, nar .byte ((((Int32.ofNat k.val) - (own_cap 0 k.val)).toUInt32 >>> ((31 : Int32) &&& 31).toUInt32).toInt32).toInt8.toInt32 = 0) ⟨n, by omega⟩
 · subst e; exact (by decide +kernel : ∀ k : Fin 6, 0 < k.val → nar .byte ((((Int32.ofNat k.val) - (own_cap 1 k.val)).toUInt32 >>> ((31 : Int32) &&& 31).toUInt32).toInt32).toInt8.toInt32 = 1) ⟨n, by omega⟩ h0
theorem own_nz (n : Nat) (h0 : 0 < n) (h : n ≤ 22) : ¬ Int32.ofNat n = (0 : Int32) := fun q => absurd ((own_eqI n 0 (by omega) (by omega)).mp q) (by omega)
def own_Cq (cs : List Int32) (r : Nat) : Prop := (r = cs.length ∧ ∀ c ∈ cs, ¬ (255 : Int32) < c) ∨ (r < cs.length ∧ (255 : Int32) < cs.getD r 0)
/-! copies -/
theorem own_cp (vd vs : List Value) (d : Value) (p q n : Nat) (hn : p + n ≤ vd.length) (i : Nat) : (vd.take p ++ ((List.range n).map fun i => vs.getD (q + i) d) ++ vd.drop (p + n)).getD i d = if i < p then vd.getD i d else if i < p + n then vs.getD (q + (i - p)) d else vd.getD i d := by
 simp only [List.getD_eq_getElem?_getD]
 have l1 : (vd.take p).length = p := by rw [List.length_take]; omega
 have l2 : ((List.range n).map fun i => (vs[q + i]?).getD d).length = n := by simp
 by_cases h1 : i < p
 · rw [if_pos h1, List.append_assoc, List.getElem?_append_left (by omega), List.getElem?_take_of_lt h1]
 · rw [if_neg h1]
   by_cases h2 : i < p + n
   · rw [if_pos h2, List.getElem?_append_left (by rw [List.length_append]; omega), List.getElem?_append_right (by omega), l1, List.getElem?_map, List.getElem?_range (by omega)]
     rfl
   · rw [if_neg h2, List.getElem?_append_right (by rw [List.length_append]; omega), List.length_append, l1, l2, List.getElem?_drop, show p + n + (i - (p + n)) = i from by omega]
theorem own_gt (l : List Value) (d : Value) (j i : Nat) : (l.take j).getD i d = if i < j then l.getD i d else d := by
 simp only [List.getD_eq_getElem?_getD, List.getElem?_take]
 split <;> rfl
theorem own_l1_take (cs : List Int32) (j : Nat) : own_l1 (cs.take j) = (own_l1 cs).take j := by unfold own_l1; exact List.map_take
theorem own_w_take (cs : List Int32) (j : Nat) : own_w (cs.take j) = (own_w cs).take (2 * j) := by
 induction cs generalizing j with
 | nil => rw [List.take_nil]; show ([] : List Value) = ([] : List Value).take (2 * j); rw [List.take_nil]
 | cons c cs ih =>
   cases j with
   | zero => rfl
   | succ j =>
     rw [show 2 * (j + 1) = 2 * j + 1 + 1 from by omega]
     show Value.int (own_lo c) :: Value.int (own_hi c) :: own_w (cs.take j) = Value.int (own_lo c) :: Value.int (own_hi c) :: (own_w cs).take (2 * j)
     rw [ih]
theorem own_cpa (vs : List Value) (d : Value) (R q : Nat) (hq : q ≤ R) (hb : q < 2147483648) (i : Nat) : (vs.take q).getD i d = (([] ++ List.replicate R d).take (0 : Int32).toNatClampNeg ++ ((List.range (Int32.ofNat q).toNatClampNeg).map fun i => vs.getD ((0 : Int32).toNatClampNeg + i) d) ++ ([] ++ List.replicate R d).drop ((0 : Int32).toNatClampNeg + (Int32.ofNat q).toNatClampNeg)).getD i d := by
 rw [own_cl0, own_cl q hb, own_cp _ _ _ _ _ _ (by rw [List.nil_append, List.length_replicate]; omega), own_gt, if_neg (Nat.not_lt_zero i), Nat.zero_add, Nat.sub_zero, Nat.zero_add, pad_rep [] d R i]
 rfl
theorem own_wfar (cs : List Int32) (j k : Nat) (d : Value) (h : 2 * j ≤ k) : (own_w (cs.take j)).getD k d = d := by rw [own_w_take, own_gt, if_neg (by omega)]
theorem own_cpb (cs : List Int32) (R i n : Nat) (hin : i ≤ n) (hnR : 2 * n ≤ R) (hb : n < 1000000) (k : Nat) : (own_w (cs.take n)).getD k (Value.int 0) = ((own_w (cs.take i) ++ List.replicate R (Value.int 0)).take (Int32.ofNat (2 * i)).toNatClampNeg ++ ((List.range (Int32.ofNat (2 * (n - i))).toNatClampNeg).map fun j => (own_w cs).getD ((Int32.ofNat (2 * i)).toNatClampNeg + j) (Value.int 0)) ++ (own_w (cs.take i) ++ List.replicate R (Value.int 0)).drop ((Int32.ofNat (2 * i)).toNatClampNeg + (Int32.ofNat (2 * (n - i))).toNatClampNeg)).getD k (Value.int 0) := by
 rw [own_cl (2 * i) (by omega), own_cl (2 * (n - i)) (by omega), own_cp _ _ _ _ _ _ (by rw [List.length_append, List.length_replicate]; omega), pad_rep, own_w_take, own_w_take, own_gt, own_gt]
 by_cases h1 : k < 2 * i
 · rw [if_pos h1, if_pos h1, if_pos (by omega)]
 · rw [if_neg h1]
   by_cases h2 : k < 2 * i + 2 * (n - i)
   · rw [if_pos h2, if_pos (by omega), show 2 * i + (k - 2 * i) = k from by omega]
   · rw [if_neg h2, if_neg (by omega), if_neg h1]

theorem d51_0 : own_d B51 0 (.iload_n 0) 1 := by decide +kernel
theorem d51_1 : own_d B51 1 (.ifCond .ge 11) 3 := by decide +kernel
theorem d51_12 : own_d B51 12 (.iload_n 0) 1 := by decide +kernel
theorem d51_13 : own_d B51 13 (.ldc 20) 2 := by decide +kernel
theorem d51_15 : own_d B51 15 (.if_icmp .lt 40) 3 := by decide +kernel
theorem d51_55 : own_d B51 55 (.iload_n 0) 1 := by decide +kernel
theorem d51_56 : own_d B51 56 (.iconst 1) 1 := by decide +kernel
theorem d51_57 : own_d B51 57 (.ishl) 1 := by decide +kernel
theorem d51_58 : own_d B51 58 (.ireturn) 1 := by decide +kernel
theorem ef_51 (m : MethodId) (n : Nat) : entryFrame m #[(.int (Int32.ofNat n))] 1 = mkF m 0 #[.val (.int (Int32.ofNat n))] [] := by first | (simp [entryFrame, mkF, argsToLocals, Value.category]; done) | rfl
def Q51 (Z : State) (n : Nat) (h0 : Heap) (n0 : Nat) (v : Option Value) (h : Heap) (L : List Loc) : Prop := v = some (.int (Int32.ofNat (2 * n))) ∧ Fr n0 L ∧ h = h0
theorem rm51 (l : Launch) (Z : State) (a0 : Array Value) (hw : ∀ d ∈ tables_1, d.before a0 Z = true) (ws : List Jvm.Cond) (n : Nat) (h0 : Heap) (n0 : Nat) (Z0 : n0 ≤ h0.size) (hn5 : n ≤ 5) :
   own_M l Z Y28 jdk_52_method_3_code 1 (some .int) ws ({ frames := 0, cells := 0, slots := 0, locals := 0 } : Room) #[(.int (Int32.ofNat n))] h0 (Q51 Z n h0 n0) := by
 refine own_body (C := "java/lang/StringUTF16") rfl (plainFor_of_name pn_2) (fun p e s m below meth c s₁ Bd hx hby hml hown hlk hZ X0 e0 => ?_)
 have N0 := Fr.nil n0
 refine own_go (fun _ k => castTop (ef_51 m n) (XS.iloadN X0.here hx rfl (hb hby d51_0) rfl k)) ?_
 show own_G _ _ _ (s₁.setTop (mkF m 1 #[.val (.int (Int32.ofNat n))] [(.int (Int32.ofNat n))])) _ _ _ _
 have hc1 : ¬ ((Int32.ofNat n) < (0 : Int32)) := (own_nn n (by omega))
 refine own_go (fun _ k => XS.ifYes X0.here hx rfl (pc0 := 1) (pc' := 12) rfl (hb hby d51_1) rfl ((if0 _ _).trans (flt hc1).2.1) (by decide) (by decide) (XS.iloadN X0.here hx rfl (hb hby d51_12) rfl (X0.ldcInt hx hown (mvT hZ (own_h hw 254 rfl)) (g := (mkF m 13 #[.val (.int (Int32.ofNat n))] [(.int (Int32.ofNat n))])) rfl (hb hby d51_13) _ k))) ?_
 show own_G _ _ _ (s₁.setTop (mkF m 15 #[.val (.int (Int32.ofNat n))] [(.int 1073741823), (.int (Int32.ofNat n))])) _ _ _ _
 have hc2 : (Int32.ofNat n) < (1073741823 : Int32) := (own_ltI n 1073741823 (by omega) (by omega)).mpr (by omega)
 refine own_go (fun _ k => XS.icmpYes X0.here hx rfl (pc0 := 15) (pc' := 55) rfl (hb hby d51_15) rfl (tlt hc2).1 (by decide) (by decide) (XS.iloadN X0.here hx rfl (hb hby d51_55) rfl (XS.iconst X0.here hx rfl (hb hby d51_56) k))) ?_
 show own_G _ _ _ (s₁.setTop (mkF m 57 #[.val (.int (Int32.ofNat n))] [(.int 1), (.int (Int32.ofNat n))])) _ _ _ _
 refine own_go (fun _ k => XS.ishl X0.here hx rfl (hb hby d51_57) rfl k) ?_
 rw [own_shl1 n (by omega)]
 show own_G _ _ _ (s₁.setTop (mkF m 58 #[.val (.int (Int32.ofNat n))] [(.int (Int32.ofNat (2 * n)))])) _ _ _ _
 exact own_endI X0 hx hlk Bd.returns (hb hby d51_58) (by decide) (by decide) (Q := (Q51 Z n h0 n0)) (by rw [e0]; exact ⟨rfl, N0, rfl⟩)
theorem d50_0 : own_d B50 0 (.iload_n 0) 1 := by decide +kernel
theorem d50_1 : own_d B50 1 (.invokestatic 11) 3 := by decide +kernel
theorem d50_4 : own_d B50 4 (.newarray .byte) 2 := by decide +kernel
theorem d50_6 : own_d B50 6 (.areturn) 1 := by decide +kernel
theorem pd_14 : parseMethodDescriptor "(I)I" = some ⟨[.int], some .int⟩ := by decide +kernel
theorem ef_50 (m : MethodId) (n : Nat) : entryFrame m #[(.int (Int32.ofNat n))] 1 = mkF m 0 #[.val (.int (Int32.ofNat n))] [] := by first | (simp [entryFrame, mkF, argsToLocals, Value.category]; done) | rfl
def Q50 (Z : State) (n : Nat) (h0 : Heap) (n0 : Nat) (v : Option Value) (h : Heap) (L : List Loc) : Prop := ∃ (b : Addr) (kb : ClassId), v = some (.ref b) ∧ Fr n0 L ∧ Keep h0 h [] ∧ h0.size ≤ b ∧ Exa Z h b "[B" ∧ Arv Z h b kb .byte (Int32.ofNat (2 * n)) (own_w []) (.int 0)
theorem rm50 (l : Launch) (Z : State) (a0 : Array Value) (hw : ∀ d ∈ tables_1, d.before a0 Z = true) (ws : List Jvm.Cond) (n : Nat) (h0 : Heap) (n0 : Nat) (Z0 : n0 ≤ h0.size) (hn5 : n ≤ 5) :
   own_M l Z Y29 jdk_52_method_2_code 1 (some (.array .byte)) ws ({ frames := 1, cells := 1, slots := 10, locals := 12 } : Room) #[(.int (Int32.ofNat n))] h0 (Q50 Z n h0 n0) := by
 refine own_body (C := "java/lang/StringUTF16") rfl (plainFor_of_name pn_2) (fun p e s m below meth c s₁ Bd hx hby hml hown hlk hZ X0 e0 => ?_)
 have N0 := Fr.nil n0
 have K0 : Keep h0 h0 [] := Keep.refl h0 []
 refine own_go (fun _ k => castTop (ef_50 m n) (XS.iloadN X0.here hx rfl (hb hby d50_0) rfl k)) ?_
 obtain ⟨_, _, ⟨T1, L1, k1, n1⟩, -, X1, ⟨Lc1, hQ1, l1, y1, z1⟩, st1⟩ := Jvm.LawKit.callS X0 hx (y := Y28) hown (mvT hZ (own_h hw 251 rfl)) (mvT hZ (own_h hw 252 rfl)) (mvT hZ (own_h hw 56 rfl)) (mvT hZ (own_h hw 253 rfl)) (by decide) (backOf (W := 0) (rm51 l Z a0 hw []  n h0 n0 Z0 (by assumption)) hZ (own_h hw 253 rfl) (own_h hw 56 rfl) (by decide) (by decide)) (g := (mkF m 1 #[.val (.int (Int32.ofNat n))] [(.int (Int32.ofNat n))])) rfl (by rw [hml]; rfl) (argsL := [(.int (Int32.ofNat n))]) (rest := []) (lenOf pd_14 rfl) rfl (own_r0 _) (hb hby d50_1) (fun _ _ => ⟨rfl, e0, (by decide : 0 + 0 ≤ _), (by decide : 0 + 0 ≤ _)⟩)
 dsimp only [Pt.U, Pt.locs, Pt.cells, Pt.slots] at X1 l1 y1 z1 st1 hQ1
 rw [l1] at X1
 subst y1 z1
 obtain ⟨rfl, Nq1, eh1⟩ := hQ1
 have N1 := Fr.app N0 Nq1
 refine own_go (fun _ k => st1 _ k) ?_
 obtain ⟨T2, h2, k2, X2, e2, E2, A2, D2, st2⟩ := newPE (ad := "[B") (had := rfl) X1 hx hZ (own_h hw 10 rfl) eh1 (g := (mkF m 4 #[.val (.int (Int32.ofNat n))] [(.int (Int32.ofNat (2 * n)))])) rfl (hb hby d50_4) rfl (own_nn _ (by omega)) (cap := 10) (by rw [own_cl (2 * n) (by omega)]; omega) (by decide) (by decide) (by decide)
 obtain ⟨b2, g2⟩ : ∃ z, z = h0.size := ⟨_, rfl⟩
 rw [← g2] at A2 D2 st2
 have gg2 := Nat.le_trans Z0 (Nat.le_of_eq g2.symm)
 have sz2_0 := Nat.le_trans K0.1 (Nat.le_of_eq g2.symm)
 have Zs2 := Nat.le_trans Z0 E2.1
 have K2_0 := K0.ext E2
 have f3 : Arv Z h2 b2 k2 .byte (Int32.ofNat (2 * n)) (own_w []) (.int 0) := Arv.new A2 (own_nn _ (by omega))
 have f4 : Exa Z h2 b2 "[B" := D2
 refine own_go (fun _ k => st2 _ k) ?_
 show own_G _ _ _ (T2.setTop (mkF m 6 #[.val (.int (Int32.ofNat n))] [(.ref b2)])) _ _ _ _
 exact own_endR X2 hx hlk Bd.returns rfl rfl rfl (hb hby d50_6) (by decide) (by decide) (Q := (Q50 Z n h0 n0)) (by rw [e2]; exact ⟨b2, k2, rfl, N1, K2_0, sz2_0, f4, f3⟩)
theorem d49_0 : own_d B49 0 (.iload_n 2) 1 := by decide +kernel
theorem d49_1 : own_d B49 1 (.invokestatic 107) 3 := by decide +kernel
theorem d49_4 : own_d B49 4 (.astore_n 3) 1 := by decide +kernel
theorem d49_5 : own_d B49 5 (.iconst 0) 1 := by decide +kernel
theorem d49_6 : own_d B49 6 (.istore 4) 2 := by decide +kernel
theorem d49_8 : own_d B49 8 (.iload 4) 2 := by decide +kernel
theorem d49_10 : own_d B49 10 (.iload_n 2) 1 := by decide +kernel
theorem d49_11 : own_d B49 11 (.if_icmp .ge 21) 3 := by decide +kernel
theorem d49_14 : own_d B49 14 (.aload_n 3) 1 := by decide +kernel
theorem d49_15 : own_d B49 15 (.iload 4) 2 := by decide +kernel
theorem d49_17 : own_d B49 17 (.aload_n 0) 1 := by decide +kernel
theorem d49_18 : own_d B49 18 (.iload_n 1) 1 := by decide +kernel
theorem d49_19 : own_d B49 19 (.caload) 1 := by decide +kernel
theorem d49_20 : own_d B49 20 (.invokestatic 111) 3 := by decide +kernel
theorem d49_23 : own_d B49 23 (.iinc 1 1) 3 := by decide +kernel
theorem d49_26 : own_d B49 26 (.iinc 4 1) 3 := by decide +kernel
theorem d49_29 : own_d B49 29 (.goto (-21)) 3 := by decide +kernel
theorem d49_32 : own_d B49 32 (.aload_n 3) 1 := by decide +kernel
theorem d49_33 : own_d B49 33 (.areturn) 1 := by decide +kernel
theorem pd_15 : parseMethodDescriptor "(I)[B" = some ⟨[.int], some (.array .byte)⟩ := by decide +kernel
theorem pd_16 : parseMethodDescriptor "([BII)V" = some ⟨[(.array .byte), .int, .int], none⟩ := by decide +kernel
theorem ef_49 (m : MethodId) (p0 : Addr) (n : Nat) : entryFrame m #[(.ref p0), (.int 0), (.int (Int32.ofNat n))] 5 = mkF m 0 #[.val (.ref p0), .val (.int 0), .val (.int (Int32.ofNat n)), .unset, .unset] [] := by first | (simp [entryFrame, mkF, argsToLocals, Value.category]; done) | rfl
def Q49 (Z : State) (p0 : Addr) (n : Nat) (kc : ClassId) (cs : List Int32) (zc : Int32) (fm : Value) (h0 : Heap) (n0 : Nat) (v : Option Value) (h : Heap) (L : List Loc) : Prop := ∃ (b : Addr) (kb : ClassId), v = some (.ref b) ∧ Fr n0 L ∧ Keep h0 h [] ∧ h0.size ≤ b ∧ Arv Z h b kb .byte (Int32.ofNat (2 * n)) (own_w cs) (.int 0)
theorem rm49 (l : Launch) (Z : State) (a0 : Array Value) (hw : ∀ d ∈ tables_1, d.before a0 Z = true) (ws : List Jvm.Cond) (p0 : Addr) (n : Nat) (kc : ClassId) (cs : List Int32) (zc : Int32) (fm : Value) (h0 : Heap) (n0 : Nat) (Z0 : n0 ≤ h0.size) (P_Old : Old Z n0 h0) (HA : own_Z Z zc fm) (P_V_p0 : Arv Z h0 p0 kc .char (Int32.ofNat n) (own_ci cs) (.int 0)) (hn5 : n ≤ 5) (hcn : cs.length = n) (hr : ∀ c ∈ cs, own_r c) :
   own_M l Z Y30 jdk_52_method_14_code 5 (some (.array .byte)) ws ({ frames := 2, cells := 1, slots := 10, locals := 24 } : Room) #[(.ref p0), (.int 0), (.int (Int32.ofNat n))] h0 (Q49 Z p0 n kc cs zc fm h0 n0) := by
 refine own_body (C := "java/lang/StringUTF16") rfl (plainFor_of_name pn_2) (fun p e s m below meth c s₁ Bd hx hby hml hown hlk hZ X0 e0 => ?_)
 have N0 := Fr.nil n0
 obtain ⟨Zcs, hcs, Zsi, hfm, Zad, Zhi, Zlo⟩ := id HA
 have K0 : Keep h0 h0 [] := Keep.refl h0 []
 refine own_go (fun _ k => castTop (ef_49 m p0 n) (XS.iloadN X0.here hx rfl (hb hby d49_0) rfl k)) ?_
 obtain ⟨_, _, ⟨T1, L1, k1, n1⟩, -, X1, ⟨Lc1, hQ1, l1, y1, z1⟩, st1⟩ := Jvm.LawKit.callS X0 hx (y := Y29) hown (mvT hZ (own_h hw 248 rfl)) (mvT hZ (own_h hw 249 rfl)) (mvT hZ (own_h hw 56 rfl)) (mvT hZ (own_h hw 250 rfl)) (by decide) (backOf (W := 0) (rm50 l Z a0 hw []  n h0 n0 Z0 (by assumption)) hZ (own_h hw 250 rfl) (own_h hw 56 rfl) (by decide) (by decide)) (g := (mkF m 1 #[.val (.ref p0), .val (.int 0), .val (.int (Int32.ofNat n)), .unset, .unset] [(.int (Int32.ofNat n))])) rfl (by rw [hml]; rfl) (argsL := [(.int (Int32.ofNat n))]) (rest := []) (lenOf pd_15 rfl) rfl (own_r0 _) (hb hby d49_1) (fun _ _ => ⟨rfl, e0, (by decide : 0 + 1 ≤ _), (by decide : 0 + 10 ≤ _)⟩)
 dsimp only [Pt.U, Pt.locs, Pt.cells, Pt.slots] at X1 l1 y1 z1 st1 hQ1
 rw [l1] at X1
 subst y1 z1
 obtain ⟨b1, kb1, rfl, Nq1, Kq1, r1_0, r1_1, r1_2⟩ := hQ1
 have N1 := Fr.app N0 Nq1
 have ne2 := Nat.ne_of_lt (Nat.lt_of_lt_of_le P_V_p0.lt r1_0)
 have gg_b1 := Nat.le_trans Z0 r1_0
 have sz_b1_0 := Nat.le_trans K0.1 r1_0
 have f3 := P_Old.keep Kq1 all0
 have f4 := P_V_p0.keep Kq1 nin0
 have Zs1 := Nat.le_trans Z0 Kq1.1
 have K1_0 := K0.trans Kq1 all0
 refine own_go (fun _ k => st1 _ (XS.astoreN X1.here hx rfl (hb hby d49_4) rfl rfl (l' := #[.val (.ref p0), .val (.int 0), .val (.int (Int32.ofNat n)), .val (.ref b1), .unset]) rfl (XS.iconst X1.here hx rfl (hb hby d49_5) (XS.istore X1.here hx rfl (hb hby d49_6) rfl (l' := #[.val (.ref p0), .val (.int 0), .val (.int (Int32.ofNat n)), .val (.ref b1), .val (.int 0)]) rfl k)))) ?_
 show own_G _ _ _ (T1.setTop (mkF m 8 #[.val (.ref p0), .val (.int 0), .val (.int (Int32.ofNat n)), .val (.ref b1), .val (.int 0)] [])) _ _ _ _
 have loop : ∀ (f i : Nat) (hif : i + f = n) (T : State) (Lc : List Loc) (hp : Heap) (cz sz : Nat) (X : Stand p l e ({ frames := 2, cells := 1, slots := 10, locals := 24 } : Room) s m #[(.ref p0), (.int 0), (.int (Int32.ofNat n))] below meth c T Lc cz sz) (eT : T.heap = hp) (Nn : Fr n0 Lc) (Zp : n0 ≤ hp.size) (Kp : Keep h0 hp []) (hcz : cz + f * 0 + 0 ≤ 1) (hsz : sz + f * 0 + 0 ≤ 10) (J0 : Old Z n0 hp) (J1 : Arv Z hp p0 kc .char (Int32.ofNat n) (own_ci cs) (.int 0)) (J2 : Exa Z hp b1 "[B") (J3 : Arv Z hp b1 kb1 .byte (Int32.ofNat (2 * n)) (own_w (cs.take i)) (.int 0)), own_G p.tables e below (T.setTop (mkF m 8 #[.val (.ref p0), .val (.int (Int32.ofNat i)), .val (.int (Int32.ofNat n)), .val (.ref b1), .val (.int (Int32.ofNat i))] [])) s ({ frames := 2, cells := 1, slots := 10, locals := 24 } : Room).cells ({ frames := 2, cells := 1, slots := 10, locals := 24 } : Room).slots (Q49 Z p0 n kc cs zc fm h0 n0) := by
   intro f
   induction f with
   | zero =>
     intro i hif T Lc hp cz sz X eT Nn Zp Kp hcz hsz J0 J1 J2 J3
     have hin : n = i := by omega
     subst hin
     refine own_go (fun _ k => XS.iload X.here hx rfl (hb hby d49_8) rfl (XS.iloadN X.here hx rfl (hb hby d49_10) rfl k)) ?_
     show own_G _ _ _ (T.setTop (mkF m 11 #[.val (.ref p0), .val (.int (Int32.ofNat n)), .val (.int (Int32.ofNat n)), .val (.ref b1), .val (.int (Int32.ofNat n))] [(.int (Int32.ofNat n)), (.int (Int32.ofNat n))])) _ _ _ _
     have hc12 : ¬ ((Int32.ofNat n) < (Int32.ofNat n)) := (own_irr _)
     refine own_go (fun _ k => XS.icmpYes X.here hx rfl (pc0 := 11) (pc' := 32) rfl (hb hby d49_11) rfl (flt hc12).2.1 (by decide) (by decide) (XS.aloadN X.here hx rfl (hb hby d49_32) rfl rfl k)) ?_
     show own_G _ _ _ (T.setTop (mkF m 33 #[.val (.ref p0), .val (.int (Int32.ofNat n)), .val (.int (Int32.ofNat n)), .val (.ref b1), .val (.int (Int32.ofNat n))] [(.ref b1)])) _ _ _ _
     exact own_endR X hx hlk Bd.returns rfl rfl rfl (hb hby d49_33) (by first | decide | omega | (dsimp only [Pt.cells, Pt.slots]; omega)) (by first | decide | omega | (dsimp only [Pt.cells, Pt.slots]; omega)) (Q := (Q49 Z p0 n kc cs zc fm h0 n0)) (by rw [eT]; exact ⟨b1, kb1, rfl, Nn, Kp, sz_b1_0, (by have q := J3; rw [List.take_of_length_le (by omega)] at q; exact q)⟩)
   | succ f ih =>
     intro i hif T Lc hp cz sz X eT Nn Zp Kp hcz hsz J0 J1 J2 J3
     have hin : i < n := by omega
     refine own_go (fun _ k => XS.iload X.here hx rfl (hb hby d49_8) rfl (XS.iloadN X.here hx rfl (hb hby d49_10) rfl k)) ?_
     show own_G _ _ _ (T.setTop (mkF m 11 #[.val (.ref p0), .val (.int (Int32.ofNat i)), .val (.int (Int32.ofNat n)), .val (.ref b1), .val (.int (Int32.ofNat i))] [(.int (Int32.ofNat n)), (.int (Int32.ofNat i))])) _ _ _ _
     have hc5 : (Int32.ofNat i) < (Int32.ofNat n) := (own_ltI i n (by omega) (by omega)).mpr hin
     refine own_go (fun _ k => XS.icmpNo X.here hx rfl (hb hby d49_11) rfl (tlt hc5).2.1 (XS.aloadN X.here hx rfl (hb hby d49_14) rfl rfl (XS.iload X.here hx rfl (hb hby d49_15) rfl (XS.aloadN X.here hx rfl (hb hby d49_17) rfl rfl (XS.iloadN X.here hx rfl (hb hby d49_18) rfl k))))) ?_
     obtain ⟨cl6, Ar6, q6, S6, Ng6, H6, G6⟩ := id J1
     have in6 : ¬ ((Int32.ofNat i) < 0 ∨ cl6.slots.size ≤ ((Int32.ofNat i)).toNatClampNeg) := inb_of S6 (own_inb hin (by omega))
     have at6 : cl6.slots[((Int32.ofNat i)).toNatClampNeg]? = some (.int (cs.getD i 0)) := H6.at in6 (by rw [own_cl (i) (by omega)]; exact own_ci_at cs i (by omega))
     refine own_go (fun _ k => X.caload hx (j := (Int32.ofNat i)) (v := (.int (cs.getD i 0))) (by rw [eT]; exact Ar6.1) (State.isArrayOf_alike hZ.alike Ar6.2.1) Ar6.2.2 in6 at6 (g := (mkF m 19 #[.val (.ref p0), .val (.int (Int32.ofNat i)), .val (.int (Int32.ofNat n)), .val (.ref b1), .val (.int (Int32.ofNat i))] [(.int (Int32.ofNat i)), (.ref p0), (.int (Int32.ofNat i)), (.ref b1)])) rfl rfl (hb hby d49_19) _ k) ?_
     obtain ⟨_, _, ⟨T7, L7, k7, n7⟩, -, X7, ⟨Lc7, hQ7, l7, y7, z7⟩, st7⟩ := Jvm.LawKit.callS X hx (y := Y8) hown (mvT hZ (own_h hw 255 rfl)) (mvT hZ (own_h hw 256 rfl)) (mvT hZ (own_h hw 56 rfl)) (mvT hZ (own_h hw 257 rfl)) (by decide) (backOf (W := 0) (rm52 l Z a0 hw [] b1 (cs.getD i 0) i n kb1 (cs.take i) zc fm hp n0 Zp J0 HA J3 (by omega) (own_tl cs i (by omega)) hin gg_b1) hZ (own_h hw 257 rfl) (own_h hw 56 rfl) (by decide) (by decide)) (g := (mkF m 20 #[.val (.ref p0), .val (.int (Int32.ofNat i)), .val (.int (Int32.ofNat n)), .val (.ref b1), .val (.int (Int32.ofNat i))] [(.int (cs.getD i 0)), (.int (Int32.ofNat i)), (.ref b1)])) rfl (by rw [hml]; rfl) (argsL := [(.ref b1), (.int (Int32.ofNat i)), (.int (cs.getD i 0))]) (rest := []) (lenOf pd_16 rfl) rfl (own_r0 _) (hb hby d49_20) (fun _ _ => ⟨rfl, eT, (by first | decide | omega | (dsimp only [Pt.cells, Pt.slots]; omega)), (by first | decide | omega | (dsimp only [Pt.cells, Pt.slots]; omega))⟩)
     dsimp only [Pt.U, Pt.locs, Pt.cells, Pt.slots] at X7 l7 y7 z7 st7 hQ7
     rw [l7] at X7
     subst y7 z7
     obtain ⟨rfl, Nq7, Kq7, r7_0⟩ := hQ7
     have N7 := Fr.app Nn Nq7
     have f8 := J0.keep Kq7 (allS gg_b1 all0)
     have f9 := J1.keep Kq7 (ninS ne2 nin0)
     have f10 := J2.keep Kq7
     have Zs7 := Nat.le_trans Zp Kq7.1
     have K7_0 := Kp.trans Kq7 (allS (Or.inr sz_b1_0) all0)
     refine own_go (fun _ k => st7 _ k) ?_
     show own_G _ _ _ (T7.setTop (mkF m 23 #[.val (.ref p0), .val (.int (Int32.ofNat i)), .val (.int (Int32.ofNat n)), .val (.ref b1), .val (.int (Int32.ofNat i))] [])) _ _ _ _
     refine own_go (fun _ k => XS.iinc X7.here hx rfl (hb hby d49_23) rfl (l' := #[.val (.ref p0), .val (.int ((Int32.ofNat i) + (1 : Int32))), .val (.int (Int32.ofNat n)), .val (.ref b1), .val (.int (Int32.ofNat i))]) rfl k) ?_
     rw [own_inc i]
     show own_G _ _ _ (T7.setTop (mkF m 26 #[.val (.ref p0), .val (.int (Int32.ofNat (i + 1))), .val (.int (Int32.ofNat n)), .val (.ref b1), .val (.int (Int32.ofNat i))] [])) _ _ _ _
     refine own_go (fun _ k => XS.iinc X7.here hx rfl (hb hby d49_26) rfl (l' := #[.val (.ref p0), .val (.int (Int32.ofNat (i + 1))), .val (.int (Int32.ofNat n)), .val (.ref b1), .val (.int ((Int32.ofNat i) + (1 : Int32)))]) rfl k) ?_
     rw [own_inc i]
     show own_G _ _ _ (T7.setTop (mkF m 29 #[.val (.ref p0), .val (.int (Int32.ofNat (i + 1))), .val (.int (Int32.ofNat n)), .val (.ref b1), .val (.int (Int32.ofNat (i + 1)))] [])) _ _ _ _
     refine own_go (fun _ k => XS.goto X7.here hx rfl (pc0 := 29) (pc' := 8) rfl (hb hby d49_29) (by decide) (by decide) k) ?_
     show own_G _ _ _ (T7.setTop (mkF m 8 #[.val (.ref p0), .val (.int (Int32.ofNat (i + 1))), .val (.int (Int32.ofNat n)), .val (.ref b1), .val (.int (Int32.ofNat (i + 1)))] [])) _ _ _ _
     have f11 : Arv Z T7.heap b1 kb1 .byte (Int32.ofNat (2 * n)) (own_w (cs.take (i + 1))) (.int 0) := (by have q := r7_0; rw [own_tks cs i (by omega)] at q; exact q)
     exact ih (i + 1) (by omega) _ _ _ _ _  X7 rfl N7 Zs7 K7_0 (by omega) (by omega) f8 f9 f10 f11
 exact loop n 0 (by omega) _ _ _ _ _  X1 rfl N1 Zs1 K1_0 (by omega) (by omega) f3 f4 r1_1 r1_2
theorem d12_0 : own_d B12 0 (.iconst 0) 1 := by decide +kernel
theorem d12_1 : own_d B12 1 (.istore 5) 2 := by decide +kernel
theorem d12_3 : own_d B12 3 (.iload 5) 2 := by decide +kernel
theorem d12_5 : own_d B12 5 (.iload 4) 2 := by decide +kernel
theorem d12_7 : own_d B12 7 (.if_icmp .ge 37) 3 := by decide +kernel
theorem d12_10 : own_d B12 10 (.aload_n 0) 1 := by decide +kernel
theorem d12_11 : own_d B12 11 (.iload_n 1) 1 := by decide +kernel
theorem d12_12 : own_d B12 12 (.caload) 1 := by decide +kernel
theorem d12_13 : own_d B12 13 (.istore 6) 2 := by decide +kernel
theorem d12_15 : own_d B12 15 (.iload 6) 2 := by decide +kernel
theorem d12_17 : own_d B12 17 (.sipush 255) 3 := by decide +kernel
theorem d12_20 : own_d B12 20 (.if_icmp .le 6) 3 := by decide +kernel
theorem d12_23 : own_d B12 23 (.iload 5) 2 := by decide +kernel
theorem d12_25 : own_d B12 25 (.ireturn) 1 := by decide +kernel
theorem d12_26 : own_d B12 26 (.aload_n 2) 1 := by decide +kernel
theorem d12_27 : own_d B12 27 (.iload_n 3) 1 := by decide +kernel
theorem d12_28 : own_d B12 28 (.iload 6) 2 := by decide +kernel
theorem d12_30 : own_d B12 30 (.i2b) 1 := by decide +kernel
theorem d12_31 : own_d B12 31 (.bastore) 1 := by decide +kernel
theorem d12_32 : own_d B12 32 (.iinc 1 1) 3 := by decide +kernel
theorem d12_35 : own_d B12 35 (.iinc 3 1) 3 := by decide +kernel
theorem d12_38 : own_d B12 38 (.iinc 5 1) 3 := by decide +kernel
theorem d12_41 : own_d B12 41 (.goto (-38)) 3 := by decide +kernel
theorem d12_44 : own_d B12 44 (.iload 4) 2 := by decide +kernel
theorem d12_46 : own_d B12 46 (.ireturn) 1 := by decide +kernel
theorem ef_12 (m : MethodId) (p0 : Addr) (p2 : Addr) (n : Nat) : entryFrame m #[(.ref p0), (.int 0), (.ref p2), (.int 0), (.int (Int32.ofNat n))] 7 = mkF m 0 #[.val (.ref p0), .val (.int 0), .val (.ref p2), .val (.int 0), .val (.int (Int32.ofNat n)), .unset, .unset] [] := by first | (simp [entryFrame, mkF, argsToLocals, Value.category]; done) | rfl
def Q12 (Z : State) (p0 : Addr) (p2 : Addr) (n : Nat) (kc : ClassId) (cs : List Int32) (kd : ClassId) (h0 : Heap) (n0 : Nat) (v : Option Value) (h : Heap) (L : List Loc) : Prop := ∃ (r : Nat), v = some (.int (Int32.ofNat r)) ∧ Fr n0 L ∧ Keep h0 h [p2] ∧ Arv Z h p2 kd .byte (Int32.ofNat n) (own_l1 (cs.take r)) (.int 0) ∧ own_Cq cs r
theorem rm12 (l : Launch) (Z : State) (a0 : Array Value) (hw : ∀ d ∈ tables_1, d.before a0 Z = true) (ws : List Jvm.Cond) (p0 : Addr) (p2 : Addr) (n : Nat) (kc : ClassId) (cs : List Int32) (kd : ClassId) (h0 : Heap) (n0 : Nat) (Z0 : n0 ≤ h0.size) (P_V_p0 : Arv Z h0 p0 kc .char (Int32.ofNat n) (own_ci cs) (.int 0)) (P_V_p2 : Arv Z h0 p2 kd .byte (Int32.ofNat n) (own_l1 []) (.int 0)) (hn5 : n ≤ 5) (hcn : cs.length = n) (hr : ∀ c ∈ cs, own_r c) (g_p2 : n0 ≤ p2) (npq : p0 ≠ p2) :
   own_M l Z Y31 jdk_52_method_21_code 7 (some .int) ws ({ frames := 0, cells := 0, slots := 0, locals := 0 } : Room) #[(.ref p0), (.int 0), (.ref p2), (.int 0), (.int (Int32.ofNat n))] h0 (Q12 Z p0 p2 n kc cs kd h0 n0) := by
 refine own_body (C := "java/lang/StringUTF16") rfl (plainFor_of_name pn_2) (fun p e s m below meth c s₁ Bd hx hby hml hown hlk hZ X0 e0 => ?_)
 have N0 := Fr.nil n0
 have K0 : Keep h0 h0 [p2] := Keep.refl h0 [p2]
 refine own_go (fun _ k => castTop (ef_12 m p0 p2 n) (XS.iconst X0.here hx rfl (hb hby d12_0) (XS.istore X0.here hx rfl (hb hby d12_1) rfl (l' := #[.val (.ref p0), .val (.int 0), .val (.ref p2), .val (.int 0), .val (.int (Int32.ofNat n)), .val (.int 0), .unset]) rfl k))) ?_
 show own_G _ _ _ (s₁.setTop (mkF m 3 #[.val (.ref p0), .val (.int 0), .val (.ref p2), .val (.int 0), .val (.int (Int32.ofNat n)), .val (.int 0), .unset] [])) _ _ _ _
 have loop : ∀ (f i : Nat) (hif : i + f = n) (T : State) (Lc : List Loc) (hp : Heap) (cz sz : Nat) (hv : ∀ k, k < i → ¬ (255 : Int32) < cs.getD k 0) (l6 : Slot) (ok6 : own_ok l6) (X : Stand p l e ({ frames := 0, cells := 0, slots := 0, locals := 0 } : Room) s m #[(.ref p0), (.int 0), (.ref p2), (.int 0), (.int (Int32.ofNat n))] below meth c T Lc cz sz) (eT : T.heap = hp) (Nn : Fr n0 Lc) (Zp : n0 ≤ hp.size) (Kp : Keep h0 hp [p2]) (hcz : cz + f * 0 + 0 ≤ 0) (hsz : sz + f * 0 + 0 ≤ 0) (J0 : Arv Z hp p0 kc .char (Int32.ofNat n) (own_ci cs) (.int 0)) (J1 : Arv Z hp p2 kd .byte (Int32.ofNat n) (own_l1 (cs.take i)) (.int 0)), own_G p.tables e below (T.setTop (mkF m 3 #[.val (.ref p0), .val (.int (Int32.ofNat i)), .val (.ref p2), .val (.int (Int32.ofNat i)), .val (.int (Int32.ofNat n)), .val (.int (Int32.ofNat i)), l6] [])) s ({ frames := 0, cells := 0, slots := 0, locals := 0 } : Room).cells ({ frames := 0, cells := 0, slots := 0, locals := 0 } : Room).slots (Q12 Z p0 p2 n kc cs kd h0 n0) := by
   intro f
   induction f with
   | zero =>
     intro i hif T Lc hp cz sz hv l6 ok6 X eT Nn Zp Kp hcz hsz J0 J1
     have hin : n = i := by omega
     subst hin
     refine own_go (fun _ k => XS.iload X.here hx rfl (hb hby d12_3) rfl (XS.iload X.here hx rfl (hb hby d12_5) rfl k)) ?_
     show own_G _ _ _ (T.setTop (mkF m 7 #[.val (.ref p0), .val (.int (Int32.ofNat n)), .val (.ref p2), .val (.int (Int32.ofNat n)), .val (.int (Int32.ofNat n)), .val (.int (Int32.ofNat n)), l6] [(.int (Int32.ofNat n)), (.int (Int32.ofNat n))])) _ _ _ _
     have hc9 : ¬ ((Int32.ofNat n) < (Int32.ofNat n)) := (own_irr _)
     refine own_go (fun _ k => XS.icmpYes X.here hx rfl (pc0 := 7) (pc' := 44) rfl (hb hby d12_7) rfl (flt hc9).2.1 (by decide) (by decide) (XS.iload X.here hx rfl (hb hby d12_44) rfl k)) ?_
     show own_G _ _ _ (T.setTop (mkF m 46 #[.val (.ref p0), .val (.int (Int32.ofNat n)), .val (.ref p2), .val (.int (Int32.ofNat n)), .val (.int (Int32.ofNat n)), .val (.int (Int32.ofNat n)), l6] [(.int (Int32.ofNat n))])) _ _ _ _
     exact own_endI X hx hlk Bd.returns (hb hby d12_46) (by first | decide | omega | (dsimp only [Pt.cells, Pt.slots]; omega)) (by first | decide | omega | (dsimp only [Pt.cells, Pt.slots]; omega)) (Q := (Q12 Z p0 p2 n kc cs kd h0 n0)) (by rw [eT]; exact ⟨n, rfl, Nn, Kp, J1, Or.inl ⟨by omega, own_all cs _ (fun k hk => hv k (by omega))⟩⟩)
   | succ f ih =>
     intro i hif T Lc hp cz sz hv l6 ok6 X eT Nn Zp Kp hcz hsz J0 J1
     have hin : i < n := by omega
     refine own_go (fun _ k => XS.iload X.here hx rfl (hb hby d12_3) rfl (XS.iload X.here hx rfl (hb hby d12_5) rfl k)) ?_
     show own_G _ _ _ (T.setTop (mkF m 7 #[.val (.ref p0), .val (.int (Int32.ofNat i)), .val (.ref p2), .val (.int (Int32.ofNat i)), .val (.int (Int32.ofNat n)), .val (.int (Int32.ofNat i)), l6] [(.int (Int32.ofNat n)), (.int (Int32.ofNat i))])) _ _ _ _
     have hc1 : (Int32.ofNat i) < (Int32.ofNat n) := (own_ltI i n (by omega) (by omega)).mpr hin
     refine own_go (fun _ k => XS.icmpNo X.here hx rfl (hb hby d12_7) rfl (tlt hc1).2.1 (XS.aloadN X.here hx rfl (hb hby d12_10) rfl rfl (XS.iloadN X.here hx rfl (hb hby d12_11) rfl k))) ?_
     obtain ⟨cl2, Ar2, q2, S2, Ng2, H2, G2⟩ := id J0
     have in2 : ¬ ((Int32.ofNat i) < 0 ∨ cl2.slots.size ≤ ((Int32.ofNat i)).toNatClampNeg) := inb_of S2 (own_inb hin (by omega))
     have at2 : cl2.slots[((Int32.ofNat i)).toNatClampNeg]? = some (.int (cs.getD i 0)) := H2.at in2 (by rw [own_cl (i) (by omega)]; exact own_ci_at cs i (by omega))
     refine own_go (fun _ k => X.caload hx (j := (Int32.ofNat i)) (v := (.int (cs.getD i 0))) (by rw [eT]; exact Ar2.1) (State.isArrayOf_alike hZ.alike Ar2.2.1) Ar2.2.2 in2 at2 (g := (mkF m 12 #[.val (.ref p0), .val (.int (Int32.ofNat i)), .val (.ref p2), .val (.int (Int32.ofNat i)), .val (.int (Int32.ofNat n)), .val (.int (Int32.ofNat i)), l6] [(.int (Int32.ofNat i)), (.ref p0)])) rfl rfl (hb hby d12_12) _ (XS.istore X.here hx rfl (hb hby d12_13) rfl (l' := #[.val (.ref p0), .val (.int (Int32.ofNat i)), .val (.ref p2), .val (.int (Int32.ofNat i)), .val (.int (Int32.ofNat n)), .val (.int (Int32.ofNat i)), .val (.int (cs.getD i 0))]) (by rcases ok6 with h_ | ⟨z_, h_⟩ | ⟨a_, h_⟩ <;> rw [h_] <;> rfl) (XS.iload X.here hx rfl (hb hby d12_15) rfl (XS.sipush X.here hx rfl (hb hby d12_17) k)))) ?_
     show own_G _ _ _ (T.setTop (mkF m 20 #[.val (.ref p0), .val (.int (Int32.ofNat i)), .val (.ref p2), .val (.int (Int32.ofNat i)), .val (.int (Int32.ofNat n)), .val (.int (Int32.ofNat i)), .val (.int (cs.getD i 0))] [(.int 255), (.int (cs.getD i 0))])) _ _ _ _
     by_cases hc3 : (255 : Int32) < (cs.getD i 0)
     · refine own_go (fun _ k => XS.icmpNo X.here hx rfl (hb hby d12_20) rfl (tlt hc3).2.2.2 (XS.iload X.here hx rfl (hb hby d12_23) rfl k)) ?_
       show own_G _ _ _ (T.setTop (mkF m 25 #[.val (.ref p0), .val (.int (Int32.ofNat i)), .val (.ref p2), .val (.int (Int32.ofNat i)), .val (.int (Int32.ofNat n)), .val (.int (Int32.ofNat i)), .val (.int (cs.getD i 0))] [(.int (Int32.ofNat i))])) _ _ _ _
       exact own_endI X hx hlk Bd.returns (hb hby d12_25) (by first | decide | omega | (dsimp only [Pt.cells, Pt.slots]; omega)) (by first | decide | omega | (dsimp only [Pt.cells, Pt.slots]; omega)) (Q := (Q12 Z p0 p2 n kc cs kd h0 n0)) (by rw [eT]; exact ⟨i, rfl, Nn, Kp, J1, Or.inr ⟨by omega, hc3⟩⟩)
     · refine own_go (fun _ k => XS.icmpYes X.here hx rfl (pc0 := 20) (pc' := 26) rfl (hb hby d12_20) rfl (flt hc3).2.2.2 (by decide) (by decide) (XS.aloadN X.here hx rfl (hb hby d12_26) rfl rfl (XS.iloadN X.here hx rfl (hb hby d12_27) rfl (XS.iload X.here hx rfl (hb hby d12_28) rfl (XS.i2b X.here hx rfl (hb hby d12_30) rfl k))))) ?_
       show own_G _ _ _ (T.setTop (mkF m 31 #[.val (.ref p0), .val (.int (Int32.ofNat i)), .val (.ref p2), .val (.int (Int32.ofNat i)), .val (.int (Int32.ofNat n)), .val (.int (Int32.ofNat i)), .val (.int (cs.getD i 0))] [(.int (cs.getD i 0).toInt8.toInt32), (.int (Int32.ofNat i)), (.ref p2)])) _ _ _ _
       have f5 : Arv Z hp p2 kd .byte (Int32.ofNat n) (own_l1 (cs.take i) ++ [Value.int 0]) (.int 0) := (J1).pad (fun i_ => own_l1_pad (cs.take i) i_)
       obtain ⟨cl4, Ar4, q4, S4, Ng4, H4, G4⟩ := id f5
       have in4 : ¬ ((Int32.ofNat i) < 0 ∨ cl4.slots.size ≤ ((Int32.ofNat i)).toNatClampNeg) := inb_of S4 (own_inb hin (by omega))
       obtain ⟨T4, h4, X4, e4, W4, st4⟩ := stB X hx hZ eT Ar4 (j := (Int32.ofNat i)) in4 (g := (mkF m 31 #[.val (.ref p0), .val (.int (Int32.ofNat i)), .val (.ref p2), .val (.int (Int32.ofNat i)), .val (.int (Int32.ofNat n)), .val (.int (Int32.ofNat i)), .val (.int (cs.getD i 0))] [(.int (cs.getD i 0).toInt8.toInt32), (.int (Int32.ofNat i)), (.ref p2)])) rfl rfl (hb hby d12_31)
       have N4 := Fr.snoc X4 Nn g_p2
       have Zs4 := Nat.le_trans Zp (Keep.of_wr W4).1
       have K4_0 := Kp.wr W4 (Or.inl (List.mem_of_getElem? (i := 0) rfl))
       have f6 := J0.other W4 npq
       have f7 : Arv Z h4 p2 kd .byte (Int32.ofNat n) (own_l1 ((cs.take i) ++ [(cs.getD i 0)])) (.int 0) := (by have q := Arv.set Ar4 q4 S4 Ng4 H4 G4 (fits_nar_byte _) W4 (i) (own_cl (i) (by omega)) (by rw [List.length_append, own_l1_len, (own_tl cs i (by omega))]; show _ < _ + 1; omega); rw [own_nb, own_l1_s _ _ (own_tl cs i (by omega)), ← own_l1_app] at q; exact q)
       refine own_go (fun _ k => st4 _ k) ?_
       show own_G _ _ _ (T4.setTop (mkF m 32 #[.val (.ref p0), .val (.int (Int32.ofNat i)), .val (.ref p2), .val (.int (Int32.ofNat i)), .val (.int (Int32.ofNat n)), .val (.int (Int32.ofNat i)), .val (.int (cs.getD i 0))] [])) _ _ _ _
       refine own_go (fun _ k => XS.iinc X4.here hx rfl (hb hby d12_32) rfl (l' := #[.val (.ref p0), .val (.int ((Int32.ofNat i) + (1 : Int32))), .val (.ref p2), .val (.int (Int32.ofNat i)), .val (.int (Int32.ofNat n)), .val (.int (Int32.ofNat i)), .val (.int (cs.getD i 0))]) rfl k) ?_
       rw [own_inc i]
       show own_G _ _ _ (T4.setTop (mkF m 35 #[.val (.ref p0), .val (.int (Int32.ofNat (i + 1))), .val (.ref p2), .val (.int (Int32.ofNat i)), .val (.int (Int32.ofNat n)), .val (.int (Int32.ofNat i)), .val (.int (cs.getD i 0))] [])) _ _ _ _
       refine own_go (fun _ k => XS.iinc X4.here hx rfl (hb hby d12_35) rfl (l' := #[.val (.ref p0), .val (.int (Int32.ofNat (i + 1))), .val (.ref p2), .val (.int ((Int32.ofNat i) + (1 : Int32))), .val (.int (Int32.ofNat n)), .val (.int (Int32.ofNat i)), .val (.int (cs.getD i 0))]) rfl k) ?_
       rw [own_inc i]
       show own_G _ _ _ (T4.setTop (mkF m 38 #[.val (.ref p0), .val (.int (Int32.ofNat (i + 1))), .val (.ref p2), .val (.int (Int32.ofNat (i + 1))), .val (.int (Int32.ofNat n)), .val (.int (Int32.ofNat i)), .val (.int (cs.getD i 0))] [])) _ _ _ _
       refine own_go (fun _ k => XS.iinc X4.here hx rfl (hb hby d12_38) rfl (l' := #[.val (.ref p0), .val (.int (Int32.ofNat (i + 1))), .val (.ref p2), .val (.int (Int32.ofNat (i + 1))), .val (.int (Int32.ofNat n)), .val (.int ((Int32.ofNat i) + (1 : Int32))), .val (.int (cs.getD i 0))]) rfl k) ?_
       rw [own_inc i]
       show own_G _ _ _ (T4.setTop (mkF m 41 #[.val (.ref p0), .val (.int (Int32.ofNat (i + 1))), .val (.ref p2), .val (.int (Int32.ofNat (i + 1))), .val (.int (Int32.ofNat n)), .val (.int (Int32.ofNat (i + 1))), .val (.int (cs.getD i 0))] [])) _ _ _ _
       refine own_go (fun _ k => XS.goto X4.here hx rfl (pc0 := 41) (pc' := 3) rfl (hb hby d12_41) (by decide) (by decide) k) ?_
       show own_G _ _ _ (T4.setTop (mkF m 3 #[.val (.ref p0), .val (.int (Int32.ofNat (i + 1))), .val (.ref p2), .val (.int (Int32.ofNat (i + 1))), .val (.int (Int32.ofNat n)), .val (.int (Int32.ofNat (i + 1))), .val (.int (cs.getD i 0))] [])) _ _ _ _
       have f8 : Arv Z h4 p2 kd .byte (Int32.ofNat n) (own_l1 (cs.take (i + 1))) (.int 0) := (by have q := f7; rw [own_tks cs i (by omega)] at q; exact q)
       exact ih (i + 1) (by omega) _ _ _ _ _ (own_hvs hv hc3) (.val (.int (cs.getD i 0))) (Or.inr (Or.inl ⟨_, rfl⟩)) X4 e4 N4 Zs4 K4_0 (by omega) (by omega) f6 f8
 exact loop n 0 (by omega) _ _ _ _ _ (fun k hk => absurd hk (Nat.not_lt_zero k)) .unset (Or.inl rfl) X0 e0 N0 Z0 K0 (by omega) (by omega) P_V_p0 P_V_p2
theorem d11_0 : own_d B11 0 (.iload_n 2) 1 := by decide +kernel
theorem d11_1 : own_d B11 1 (.newarray .byte) 2 := by decide +kernel
theorem d11_3 : own_d B11 3 (.astore_n 3) 1 := by decide +kernel
theorem d11_4 : own_d B11 4 (.aload_n 0) 1 := by decide +kernel
theorem d11_5 : own_d B11 5 (.iload_n 1) 1 := by decide +kernel
theorem d11_6 : own_d B11 6 (.aload_n 3) 1 := by decide +kernel
theorem d11_7 : own_d B11 7 (.iconst 0) 1 := by decide +kernel
theorem d11_8 : own_d B11 8 (.iload_n 2) 1 := by decide +kernel
theorem d11_9 : own_d B11 9 (.invokestatic 115) 3 := by decide +kernel
theorem d11_12 : own_d B11 12 (.istore 4) 2 := by decide +kernel
theorem d11_14 : own_d B11 14 (.iload 4) 2 := by decide +kernel
theorem d11_16 : own_d B11 16 (.iload_n 2) 1 := by decide +kernel
theorem d11_17 : own_d B11 17 (.if_icmp .eq 40) 3 := by decide +kernel
theorem d11_20 : own_d B11 20 (.aload_n 0) 1 := by decide +kernel
theorem d11_21 : own_d B11 21 (.iload_n 1) 1 := by decide +kernel
theorem d11_22 : own_d B11 22 (.iload_n 2) 1 := by decide +kernel
theorem d11_23 : own_d B11 23 (.invokestatic 119) 3 := by decide +kernel
theorem d11_26 : own_d B11 26 (.astore 5) 2 := by decide +kernel
theorem d11_28 : own_d B11 28 (.aload 5) 2 := by decide +kernel
theorem d11_30 : own_d B11 30 (.iload 4) 2 := by decide +kernel
theorem d11_32 : own_d B11 32 (.invokestatic 71) 3 := by decide +kernel
theorem d11_35 : own_d B11 35 (.sipush 255) 3 := by decide +kernel
theorem d11_38 : own_d B11 38 (.if_icmp .gt 16) 3 := by decide +kernel
theorem d11_54 : own_d B11 54 (.aload 5) 2 := by decide +kernel
theorem d11_56 : own_d B11 56 (.areturn) 1 := by decide +kernel
theorem d11_57 : own_d B11 57 (.aload_n 3) 1 := by decide +kernel
theorem d11_58 : own_d B11 58 (.areturn) 1 := by decide +kernel
theorem pd_17 : parseMethodDescriptor "([CI[BII)I" = some ⟨[(.array .char), .int, (.array .byte), .int, .int], some .int⟩ := by decide +kernel
theorem pd_18 : parseMethodDescriptor "([CII)[B" = some ⟨[(.array .char), .int, .int], some (.array .byte)⟩ := by decide +kernel
theorem ef_11 (m : MethodId) (p0 : Addr) (n : Nat) : entryFrame m #[(.ref p0), (.int 0), (.int (Int32.ofNat n))] 6 = mkF m 0 #[.val (.ref p0), .val (.int 0), .val (.int (Int32.ofNat n)), .unset, .unset, .unset] [] := by first | (simp [entryFrame, mkF, argsToLocals, Value.category]; done) | rfl
def Q11 (Z : State) (p0 : Addr) (n : Nat) (kc : ClassId) (cs : List Int32) (zc : Int32) (fm : Value) (h0 : Heap) (n0 : Nat) (v : Option Value) (h : Heap) (L : List Loc) : Prop := ∃ (b : Addr) (kb : ClassId) (co : Int32), v = some (.ref b) ∧ Fr n0 L ∧ Keep h0 h [] ∧ h0.size ≤ b ∧ Arv Z h b kb .byte (own_cap co n) (own_sv co cs) (.int 0) ∧ ((co = 0 ∧ ∀ c ∈ cs, ¬ (255 : Int32) < c) ∨ co = 1)
theorem rm11 (l : Launch) (Z : State) (a0 : Array Value) (hw : ∀ d ∈ tables_1, d.before a0 Z = true) (ws : List Jvm.Cond) (p0 : Addr) (n : Nat) (kc : ClassId) (cs : List Int32) (zc : Int32) (fm : Value) (h0 : Heap) (n0 : Nat) (Z0 : n0 ≤ h0.size) (P_Old : Old Z n0 h0) (HA : own_Z Z zc fm) (P_V_p0 : Arv Z h0 p0 kc .char (Int32.ofNat n) (own_ci cs) (.int 0)) (hn5 : n ≤ 5) (hcn : cs.length = n) (hr : ∀ c ∈ cs, own_r c) :
   own_M l Z Y32 jdk_52_method_16_code 6 (some (.array .byte)) ws ({ frames := 3, cells := 2, slots := 15, locals := 40 } : Room) #[(.ref p0), (.int 0), (.int (Int32.ofNat n))] h0 (Q11 Z p0 n kc cs zc fm h0 n0) := by
 refine own_body (C := "java/lang/StringUTF16") rfl (plainFor_of_name pn_2) (fun p e s m below meth c s₁ Bd hx hby hml hown hlk hZ X0 e0 => ?_)
 have N0 := Fr.nil n0
 obtain ⟨Zcs, hcs, Zsi, hfm, Zad, Zhi, Zlo⟩ := id HA
 have K0 : Keep h0 h0 [] := Keep.refl h0 []
 refine own_go (fun _ k => castTop (ef_11 m p0 n) (XS.iloadN X0.here hx rfl (hb hby d11_0) rfl k)) ?_
 obtain ⟨T1, h1, k1, X1, e1, E1, A1, st1⟩ := newP X0 hx hZ (own_h hw 10 rfl) e0 (g := (mkF m 1 #[.val (.ref p0), .val (.int 0), .val (.int (Int32.ofNat n)), .unset, .unset, .unset] [(.int (Int32.ofNat n))])) rfl (hb hby d11_1) rfl (own_nn n (by omega)) (cap := 5) (by rw [own_cl n (by omega)]; exact hn5) (by decide) (by decide) (by decide)
 obtain ⟨b1, g1⟩ : ∃ z, z = h0.size := ⟨_, rfl⟩
 rw [← g1] at A1 st1
 have ne2 := Nat.ne_of_lt (Nat.lt_of_lt_of_le P_V_p0.lt (Nat.le_of_eq g1.symm))
 have gg1 := Nat.le_trans Z0 (Nat.le_of_eq g1.symm)
 have sz1_0 := Nat.le_trans K0.1 (Nat.le_of_eq g1.symm)
 have Zs1 := Nat.le_trans Z0 E1.1
 have K1_0 := K0.ext E1
 have f3 := P_Old.ext E1
 have f4 := P_V_p0.ext E1
 have f5 : Arv Z h1 b1 k1 .byte (Int32.ofNat n) [] (.int 0) := Arv.new A1 (own_nn n (by omega))
 refine own_go (fun _ k => st1 _ k) ?_
 show own_G _ _ _ (T1.setTop (mkF m 3 #[.val (.ref p0), .val (.int 0), .val (.int (Int32.ofNat n)), .unset, .unset, .unset] [(.ref b1)])) _ _ _ _
 have f6 : Arv Z h1 b1 k1 .byte (Int32.ofNat n) (own_l1 []) (.int 0) := f5
 refine own_go (fun _ k => XS.astoreN X1.here hx rfl (hb hby d11_3) rfl rfl (l' := #[.val (.ref p0), .val (.int 0), .val (.int (Int32.ofNat n)), .val (.ref b1), .unset, .unset]) rfl (XS.aloadN X1.here hx rfl (hb hby d11_4) rfl rfl (XS.iloadN X1.here hx rfl (hb hby d11_5) rfl (XS.aloadN X1.here hx rfl (hb hby d11_6) rfl rfl (XS.iconst X1.here hx rfl (hb hby d11_7) (XS.iloadN X1.here hx rfl (hb hby d11_8) rfl k)))))) ?_
 obtain ⟨_, _, ⟨T7, L7, k7, n7⟩, -, X7, ⟨Lc7, hQ7, l7, y7, z7⟩, st7⟩ := Jvm.LawKit.callS X1 hx (y := Y31) hown (mvT hZ (own_h hw 58 rfl)) (mvT hZ (own_h hw 59 rfl)) (mvT hZ (own_h hw 56 rfl)) (mvT hZ (own_h hw 60 rfl)) (by decide) (backOf (W := 0) (rm12 l Z a0 hw [] p0 b1 n kc cs k1 h1 n0 Zs1 f4 f6 hn5 hcn hr gg1 ne2) hZ (own_h hw 60 rfl) (own_h hw 56 rfl) (by decide) (by decide)) (g := (mkF m 9 #[.val (.ref p0), .val (.int 0), .val (.int (Int32.ofNat n)), .val (.ref b1), .unset, .unset] [(.int (Int32.ofNat n)), (.int 0), (.ref b1), (.int 0), (.ref p0)])) rfl (by rw [hml]; rfl) (argsL := [(.ref p0), (.int 0), (.ref b1), (.int 0), (.int (Int32.ofNat n))]) (rest := []) (lenOf pd_17 rfl) rfl (own_r0 _) (hb hby d11_9) (fun _ _ => ⟨rfl, e1, (by decide : 1 + 0 ≤ _), (by decide : 5 + 0 ≤ _)⟩)
 dsimp only [Pt.U, Pt.locs, Pt.cells, Pt.slots] at X7 l7 y7 z7 st7 hQ7
 rw [l7] at X7
 subst y7 z7
 obtain ⟨r7, rfl, Nq7, Kq7, r7_0, r7_1⟩ := hQ7
 have N7 := Fr.app N0 Nq7
 have f8 := f3.keep Kq7 (allS gg1 all0)
 have f9 := f4.keep Kq7 (ninS ne2 nin0)
 have Zs7 := Nat.le_trans Zs1 Kq7.1
 have K7_0 := K1_0.trans Kq7 (allS (Or.inr sz1_0) all0)
 refine own_go (fun _ k => st7 _ k) ?_
 show own_G _ _ _ (T7.setTop (mkF m 12 #[.val (.ref p0), .val (.int 0), .val (.int (Int32.ofNat n)), .val (.ref b1), .unset, .unset] [(.int (Int32.ofNat r7))])) _ _ _ _
 rcases r7_1 with ⟨er, ha8⟩ | ⟨lr, hq9⟩
 · skip
   refine own_go (fun _ k => XS.istore X7.here hx rfl (hb hby d11_12) rfl (l' := #[.val (.ref p0), .val (.int 0), .val (.int (Int32.ofNat n)), .val (.ref b1), .val (.int (Int32.ofNat r7)), .unset]) rfl (XS.iload X7.here hx rfl (hb hby d11_14) rfl (XS.iloadN X7.here hx rfl (hb hby d11_16) rfl k))) ?_
   show own_G _ _ _ (T7.setTop (mkF m 17 #[.val (.ref p0), .val (.int 0), .val (.int (Int32.ofNat n)), .val (.ref b1), .val (.int (Int32.ofNat r7)), .unset] [(.int (Int32.ofNat n)), (.int (Int32.ofNat r7))])) _ _ _ _
   have hc10 : (Int32.ofNat r7) = (Int32.ofNat n) := (by rw [er, hcn])
   refine own_go (fun _ k => XS.icmpYes X7.here hx rfl (pc0 := 17) (pc' := 57) rfl (hb hby d11_17) rfl (teq hc10).1 (by decide) (by decide) (XS.aloadN X7.here hx rfl (hb hby d11_57) rfl rfl k)) ?_
   show own_G _ _ _ (T7.setTop (mkF m 58 #[.val (.ref p0), .val (.int 0), .val (.int (Int32.ofNat n)), .val (.ref b1), .val (.int (Int32.ofNat r7)), .unset] [(.ref b1)])) _ _ _ _
   exact own_endR X7 hx hlk Bd.returns rfl rfl rfl (hb hby d11_58) (by decide) (by decide) (Q := (Q11 Z p0 n kc cs zc fm h0 n0)) ⟨b1, k1, 0, rfl, N7, K7_0, sz1_0, own_v0r rfl (by have q := r7_0; rw [List.take_of_length_le (by omega)] at q; exact q), Or.inl ⟨rfl, ha8⟩⟩
 · skip
   refine own_go (fun _ k => XS.istore X7.here hx rfl (hb hby d11_12) rfl (l' := #[.val (.ref p0), .val (.int 0), .val (.int (Int32.ofNat n)), .val (.ref b1), .val (.int (Int32.ofNat r7)), .unset]) rfl (XS.iload X7.here hx rfl (hb hby d11_14) rfl (XS.iloadN X7.here hx rfl (hb hby d11_16) rfl k))) ?_
   show own_G _ _ _ (T7.setTop (mkF m 17 #[.val (.ref p0), .val (.int 0), .val (.int (Int32.ofNat n)), .val (.ref b1), .val (.int (Int32.ofNat r7)), .unset] [(.int (Int32.ofNat n)), (.int (Int32.ofNat r7))])) _ _ _ _
   have hc11 : ¬ ((Int32.ofNat r7) = (Int32.ofNat n)) := (fun q => absurd ((own_eqI r7 n (by omega) (by omega)).mp q) (by omega))
   refine own_go (fun _ k => XS.icmpNo X7.here hx rfl (hb hby d11_17) rfl (feq hc11).1 (XS.aloadN X7.here hx rfl (hb hby d11_20) rfl rfl (XS.iloadN X7.here hx rfl (hb hby d11_21) rfl (XS.iloadN X7.here hx rfl (hb hby d11_22) rfl k)))) ?_
   obtain ⟨_, _, ⟨T12, L12, k12, n12⟩, -, X12, ⟨Lc12, hQ12, l12, y12, z12⟩, st12⟩ := Jvm.LawKit.callS X7 hx (y := Y30) hown (mvT hZ (own_h hw 245 rfl)) (mvT hZ (own_h hw 246 rfl)) (mvT hZ (own_h hw 56 rfl)) (mvT hZ (own_h hw 247 rfl)) (by decide) (backOf (W := 0) (rm49 l Z a0 hw [] p0 n kc cs zc fm T7.heap n0 Zs7 f8 HA f9 hn5 hcn hr) hZ (own_h hw 247 rfl) (own_h hw 56 rfl) (by decide) (by decide)) (g := (mkF m 23 #[.val (.ref p0), .val (.int 0), .val (.int (Int32.ofNat n)), .val (.ref b1), .val (.int (Int32.ofNat r7)), .unset] [(.int (Int32.ofNat n)), (.int 0), (.ref p0)])) rfl (by rw [hml]; rfl) (argsL := [(.ref p0), (.int 0), (.int (Int32.ofNat n))]) (rest := []) (lenOf pd_18 rfl) rfl (own_r0 _) (hb hby d11_23) (fun _ _ => ⟨rfl, rfl, (by decide : 1 + 1 ≤ _), (by decide : 5 + 10 ≤ _)⟩)
   dsimp only [Pt.U, Pt.locs, Pt.cells, Pt.slots] at X12 l12 y12 z12 st12 hQ12
   rw [l12] at X12
   subst y12 z12
   obtain ⟨b12, kb12, rfl, Nq12, Kq12, r12_0, r12_1⟩ := hQ12
   have N12 := Fr.app N7 Nq12
   have ne13 := Nat.ne_of_lt (Nat.lt_of_lt_of_le f9.lt r12_0)
   have ne14 := Nat.ne_of_lt (Nat.lt_of_lt_of_le r7_0.lt r12_0)
   have gg_b12 := Nat.le_trans Zs7 r12_0
   have sz_b12_0 := Nat.le_trans K7_0.1 r12_0
   have f15 := f8.keep Kq12 all0
   have f16 := f9.keep Kq12 nin0
   have f17 := r7_0.keep Kq12 nin0
   have Zs12 := Nat.le_trans Zs7 Kq12.1
   have K12_0 := K7_0.trans Kq12 all0
   refine own_go (fun _ k => st12 _ (XS.astore X12.here hx rfl (hb hby d11_26) rfl rfl (l' := #[.val (.ref p0), .val (.int 0), .val (.int (Int32.ofNat n)), .val (.ref b1), .val (.int (Int32.ofNat r7)), .val (.ref b12)]) rfl (XS.aload X12.here hx rfl (hb hby d11_28) rfl rfl (XS.iload X12.here hx rfl (hb hby d11_30) rfl k)))) ?_
   obtain ⟨_, _, ⟨T18, L18, k18, n18⟩, -, X18, ⟨Lc18, hQ18, l18, y18, z18⟩, st18⟩ := Jvm.LawKit.callS X12 hx (y := Y9) hown (mvT hZ (own_h hw 261 rfl)) (mvT hZ (own_h hw 262 rfl)) (mvT hZ (own_h hw 56 rfl)) (mvT hZ (own_h hw 263 rfl)) (by decide) (backOf (W := 0) (rm53 l Z a0 hw [] b12 r7 n kb12 cs zc fm T12.heap n0 Zs12 f15 HA r12_1 (by omega) lr (by omega) (hr _ (own_gm cs _ lr))) hZ (own_h hw 263 rfl) (own_h hw 56 rfl) (by decide) (by decide)) (g := (mkF m 32 #[.val (.ref p0), .val (.int 0), .val (.int (Int32.ofNat n)), .val (.ref b1), .val (.int (Int32.ofNat r7)), .val (.ref b12)] [(.int (Int32.ofNat r7)), (.ref b12)])) rfl (by rw [hml]; rfl) (argsL := [(.ref b12), (.int (Int32.ofNat r7))]) (rest := []) (lenOf pd_5 rfl) rfl (own_r0 _) (hb hby d11_32) (fun _ _ => ⟨rfl, rfl, (by decide : 2 + 0 ≤ _), (by decide : 15 + 0 ≤ _)⟩)
   dsimp only [Pt.U, Pt.locs, Pt.cells, Pt.slots] at X18 l18 y18 z18 st18 hQ18
   rw [l18] at X18
   subst y18 z18
   obtain ⟨rfl, Nq18, eh18⟩ := hQ18
   have N18 := Fr.app N12 Nq18
   refine own_go (fun _ k => st18 _ (XS.sipush X18.here hx rfl (hb hby d11_35) k)) ?_
   show own_G _ _ _ (T18.setTop (mkF m 38 #[.val (.ref p0), .val (.int 0), .val (.int (Int32.ofNat n)), .val (.ref b1), .val (.int (Int32.ofNat r7)), .val (.ref b12)] [(.int 255), (.int (cs.getD r7 0))])) _ _ _ _
   have hc19 : (255 : Int32) < (cs.getD r7 0) := hq9
   refine own_go (fun _ k => XS.icmpYes X18.here hx rfl (pc0 := 38) (pc' := 54) rfl (hb hby d11_38) rfl (tlt hc19).2.2.1 (by decide) (by decide) (XS.aload X18.here hx rfl (hb hby d11_54) rfl rfl k)) ?_
   show own_G _ _ _ (T18.setTop (mkF m 56 #[.val (.ref p0), .val (.int 0), .val (.int (Int32.ofNat n)), .val (.ref b1), .val (.int (Int32.ofNat r7)), .val (.ref b12)] [(.ref b12)])) _ _ _ _
   exact own_endR X18 hx hlk Bd.returns rfl rfl rfl (hb hby d11_56) (by decide) (by decide) (Q := (Q11 Z p0 n kc cs zc fm h0 n0)) (by rw [eh18]; exact ⟨b12, kb12, 1, rfl, N18, K12_0, sz_b12_0, own_v1r rfl r12_1, Or.inr rfl⟩)
theorem d13_0 : own_d B13 0 (.iload_n 1) 1 := by decide +kernel
theorem d13_1 : own_d B13 1 (.aload_n 0) 1 := by decide +kernel
theorem d13_2 : own_d B13 2 (.arraylength) 1 := by decide +kernel
theorem d13_3 : own_d B13 3 (.isub) 1 := by decide +kernel
theorem d13_4 : own_d B13 4 (.bipush 31) 2 := by decide +kernel
theorem d13_6 : own_d B13 6 (.iushr) 1 := by decide +kernel
theorem d13_7 : own_d B13 7 (.i2b) 1 := by decide +kernel
theorem d13_8 : own_d B13 8 (.ireturn) 1 := by decide +kernel
theorem ef_13 (m : MethodId) (p0 : Addr) (n : Nat) : entryFrame m #[(.ref p0), (.int (Int32.ofNat n))] 2 = mkF m 0 #[.val (.ref p0), .val (.int (Int32.ofNat n))] [] := by first | (simp [entryFrame, mkF, argsToLocals, Value.category]; done) | rfl
def Q13 (Z : State) (p0 : Addr) (n : Nat) (kb : ClassId) (co : Int32) (cs : List Int32) (h0 : Heap) (n0 : Nat) (v : Option Value) (h : Heap) (L : List Loc) : Prop := v = some (.int co) ∧ Fr n0 L ∧ h = h0
theorem rm13 (l : Launch) (Z : State) (a0 : Array Value) (hw : ∀ d ∈ tables_1, d.before a0 Z = true) (ws : List Jvm.Cond) (p0 : Addr) (n : Nat) (kb : ClassId) (co : Int32) (cs : List Int32) (h0 : Heap) (n0 : Nat) (Z0 : n0 ≤ h0.size) (P_V_p0 : Arv Z h0 p0 kb .byte (own_cap co n) (own_sv co cs) (.int 0)) (hn5 : n ≤ 5) (hn0 : 0 < n) (hco1 : co = 0 ∨ co = 1) :
   own_M l Z Y33 jdk_52_method_15_code 2 (some .byte) ws ({ frames := 0, cells := 0, slots := 0, locals := 0 } : Room) #[(.ref p0), (.int (Int32.ofNat n))] h0 (Q13 Z p0 n kb co cs h0 n0) := by
 refine own_body (C := "java/lang/StringUTF16") rfl (plainFor_of_name pn_2) (fun p e s m below meth c s₁ Bd hx hby hml hown hlk hZ X0 e0 => ?_)
 have N0 := Fr.nil n0
 refine own_go (fun _ k => castTop (ef_13 m p0 n) (XS.iloadN X0.here hx rfl (hb hby d13_0) rfl (XS.aloadN X0.here hx rfl (hb hby d13_1) rfl rfl k))) ?_
 obtain ⟨cl1, Ar1, -, S1, Ng1, -, -⟩ := id P_V_p0
 refine own_go (fun _ k => X0.arraylength hx (by rw [e0]; exact Ar1.1) (State.isArrayOf_alike hZ.alike Ar1.2.1) (g := (mkF m 2 #[.val (.ref p0), .val (.int (Int32.ofNat n))] [(.ref p0), (.int (Int32.ofNat n))])) rfl rfl (hb hby d13_2) _ k) ?_
 rw [len_of S1 Ng1]
 show own_G _ _ _ (s₁.setTop (mkF m 3 #[.val (.ref p0), .val (.int (Int32.ofNat n))] [(.int (own_cap co n)), (.int (Int32.ofNat n))])) _ _ _ _
 refine own_go (fun _ k => XS.isub X0.here hx rfl (hb hby d13_3) rfl (XS.bipush X0.here hx rfl (hb hby d13_4) (XS.iushr X0.here hx rfl (hb hby d13_6) rfl (XS.i2b X0.here hx rfl (hb hby d13_7) rfl k)))) ?_
 show own_G _ _ _ (s₁.setTop (mkF m 8 #[.val (.ref p0), .val (.int (Int32.ofNat n))] [(.int ((((Int32.ofNat n) - (own_cap co n)).toUInt32 >>> ((31 : Int32) &&& 31).toUInt32).toInt32).toInt8.toInt32)])) _ _ _ _
 exact own_endN X0 hx hlk (t := .byte) Bd.returns (by simp) (hb hby d13_8) (by decide) (by decide) (Q := (Q13 Z p0 n kb co cs h0 n0)) (by rw [e0]; exact ⟨(by rw [own_cfl n co hn5 hn0 hco1]), N0, rfl⟩)
theorem d9_0 : own_d B9 0 (.aload_n 0) 1 := by decide +kernel
theorem d9_1 : own_d B9 1 (.invokespecial 1) 3 := by decide +kernel
theorem d9_4 : own_d B9 4 (.iload_n 3) 1 := by decide +kernel
theorem d9_5 : own_d B9 5 (.ifCond .ne 22) 3 := by decide +kernel
theorem d9_8 : own_d B9 8 (.aload_n 0) 1 := by decide +kernel
theorem d9_9 : own_d B9 9 (.ldc 7) 2 := by decide +kernel
theorem d9_11 : own_d B9 11 (.getfield 9) 3 := by decide +kernel
theorem d9_14 : own_d B9 14 (.putfield 9) 3 := by decide +kernel
theorem d9_17 : own_d B9 17 (.aload_n 0) 1 := by decide +kernel
theorem d9_18 : own_d B9 18 (.ldc 7) 2 := by decide +kernel
theorem d9_20 : own_d B9 20 (.getfield 15) 3 := by decide +kernel
theorem d9_23 : own_d B9 23 (.putfield 15) 3 := by decide +kernel
theorem d9_26 : own_d B9 26 (.return_) 1 := by decide +kernel
theorem d9_27 : own_d B9 27 (.getstatic 38) 3 := by decide +kernel
theorem d9_30 : own_d B9 30 (.ifCond .eq 28) 3 := by decide +kernel
theorem d9_33 : own_d B9 33 (.aload_n 1) 1 := by decide +kernel
theorem d9_34 : own_d B9 34 (.iload_n 2) 1 := by decide +kernel
theorem d9_35 : own_d B9 35 (.iload_n 3) 1 := by decide +kernel
theorem d9_36 : own_d B9 36 (.invokestatic 177) 3 := by decide +kernel
theorem d9_39 : own_d B9 39 (.astore 5) 2 := by decide +kernel
theorem d9_41 : own_d B9 41 (.aload_n 0) 1 := by decide +kernel
theorem d9_42 : own_d B9 42 (.aload 5) 2 := by decide +kernel
theorem d9_44 : own_d B9 44 (.iload_n 3) 1 := by decide +kernel
theorem d9_45 : own_d B9 45 (.invokestatic 47) 3 := by decide +kernel
theorem d9_48 : own_d B9 48 (.putfield 15) 3 := by decide +kernel
theorem d9_51 : own_d B9 51 (.aload_n 0) 1 := by decide +kernel
theorem d9_52 : own_d B9 52 (.aload 5) 2 := by decide +kernel
theorem d9_54 : own_d B9 54 (.putfield 9) 3 := by decide +kernel
theorem d9_57 : own_d B9 57 (.return_) 1 := by decide +kernel
theorem pd_19 : parseMethodDescriptor "([BI)B" = some ⟨[(.array .byte), .int], some .byte⟩ := by decide +kernel
theorem ef_9a (m : MethodId) (p0 : Addr) (p1 : Addr) (n : Nat) : entryFrame m #[(.ref p0), (.ref p1), (.int 0), (.int (Int32.ofNat n)), .null] 6 = mkF m 0 #[.val (.ref p0), .val (.ref p1), .val (.int 0), .val (.int (Int32.ofNat n)), .val .null, .unset] [] := by first | (simp [entryFrame, mkF, argsToLocals, Value.category]; done) | rfl
def Q9a (Z : State) (p0 : Addr) (p1 : Addr) (zc : Int32) (fm : Value) (n : Nat) (kc : ClassId) (cs : List Int32) (h0 : Heap) (n0 : Nat) (v : Option Value) (h : Heap) (L : List Loc) : Prop := ∃ (t : Addr) (kb : ClassId) (co : Int32), v = none ∧ Fr n0 L ∧ Keep h0 h [p0] ∧ Exa Z h p0 "java/lang/String" ∧ Fld Z h p0 "java/lang/String" "coder" "B" (.int co) ∧ Fld Z h p0 "java/lang/String" "value" "[B" (.ref t) ∧ Arv Z h t kb .byte (own_cap co n) (own_sv co cs) (.int 0) ∧ h0.size ≤ t ∧ ((co = 0 ∧ ∀ c ∈ cs, ¬ (255 : Int32) < c) ∨ co = 1)
theorem rm9a (l : Launch) (Z : State) (a0 : Array Value) (hw : ∀ d ∈ tables_1, d.before a0 Z = true) (ws : List Jvm.Cond) (p0 : Addr) (p1 : Addr) (zc : Int32) (fm : Value) (n : Nat) (kc : ClassId) (cs : List Int32) (h0 : Heap) (n0 : Nat) (Z0 : n0 ≤ h0.size) (P_E_p0 : Exa Z h0 p0 "java/lang/String") (P_F_p0_value : Fld Z h0 p0 "java/lang/String" "value" "[B" .null) (P_F_p0_coder : Fld Z h0 p0 "java/lang/String" "coder" "B" (.int 0)) (g_p0 : n0 ≤ p0) (P_Old : Old Z n0 h0) (HA : own_Z Z zc fm) (P_V_p1 : Arv Z h0 p1 kc .char (Int32.ofNat n) (own_ci cs) (.int 0)) (hn5 : n ≤ 5) (hn0 : 0 < n) (hcn : cs.length = n) (hr : ∀ c ∈ cs, own_r c) :
   own_M l Z Y34 jdk_42_method_149_code 6 none ws ({ frames := 4, cells := 2, slots := 15, locals := 57 } : Room) #[(.ref p0), (.ref p1), (.int 0), (.int (Int32.ofNat n)), .null] h0 (Q9a Z p0 p1 zc fm n kc cs h0 n0) := by
 refine own_body (C := "java/lang/String") rfl (plainFor_of_name pn_1) (fun p e s m below meth c s₁ Bd hx hby hml hown hlk hZ X0 e0 => ?_)
 have hnm := (name_of_methodNamed Bd.named Bd.method).1
 have N0 := Fr.nil n0
 obtain ⟨Zcs, hcs, Zsi, hfm, Zad, Zhi, Zlo⟩ := id HA
 have K0 : Keep h0 h0 [p0] := Keep.refl h0 [p0]
 refine own_go (fun _ k => castTop (ef_9a m p0 p1 n) (XS.aloadN X0.here hx rfl (hb hby d9_0) rfl rfl k)) ?_
 obtain ⟨T1, X1, e1, st1⟩ := initO X0 hx hZ hown (own_h hw 51 rfl) (own_h hw 52 rfl) (own_h hw 53 rfl) e0 (g := (mkF m 1 #[.val (.ref p0), .val (.ref p1), .val (.int 0), .val (.int (Int32.ofNat n)), .val .null, .unset] [(.ref p0)])) rfl (by rw [hml]; rfl) rfl (hb hby d9_1) (by decide) (W := 0) (own_r0 _) (by decide)
 refine own_go (fun _ k => st1 _ (XS.iloadN X1.here hx rfl (hb hby d9_4) rfl k)) ?_
 show own_G _ _ _ (T1.setTop (mkF m 5 #[.val (.ref p0), .val (.ref p1), .val (.int 0), .val (.int (Int32.ofNat n)), .val .null, .unset] [(.int (Int32.ofNat n))])) _ _ _ _
 have hc2 : ¬ ((Int32.ofNat n) = (0 : Int32)) := (own_nz n hn0 (by omega))
 refine own_go (fun _ k => XS.ifYes X1.here hx rfl (pc0 := 5) (pc' := 27) rfl (hb hby d9_5) rfl ((if0 _ _).trans (feq hc2).2) (by decide) (by decide) k) ?_
 obtain ⟨T3, X3, e3, st3⟩ := getS2 X1 hx hZ hown (host := "") (Or.inl (own_h hw 25 rfl)) Via.refl e1 (Zcs.ext P_Old.2) (g := (mkF m 27 #[.val (.ref p0), .val (.ref p1), .val (.int 0), .val (.int (Int32.ofNat n)), .val .null, .unset] [])) rfl (hb hby d9_27)
 refine own_go (fun _ k => st3 _ k) ?_
 show own_G _ _ _ (T3.setTop (mkF m 30 #[.val (.ref p0), .val (.ref p1), .val (.int 0), .val (.int (Int32.ofNat n)), .val .null, .unset] [(.int zc)])) _ _ _ _
 have hc4 : ¬ (zc = (0 : Int32)) := hcs
 refine own_go (fun _ k => XS.ifNo X3.here hx rfl (hb hby d9_30) rfl ((if0 _ _).trans (feq hc4).1) (XS.aloadN X3.here hx rfl (hb hby d9_33) rfl rfl (XS.iloadN X3.here hx rfl (hb hby d9_34) rfl (XS.iloadN X3.here hx rfl (hb hby d9_35) rfl k)))) ?_
 obtain ⟨_, _, ⟨T5, L5, k5, n5⟩, -, X5, ⟨Lc5, hQ5, l5, y5, z5⟩, st5⟩ := Jvm.LawKit.callS X3 hx (y := Y32) hown (mvT hZ (own_h hw 54 rfl)) (mvT hZ (own_h hw 55 rfl)) (mvT hZ (own_h hw 56 rfl)) (mvT hZ (own_h hw 57 rfl)) (by decide) (backOf (W := 0) (rm11 l Z a0 hw [] p1 n kc cs zc fm h0 n0 Z0 P_Old HA P_V_p1 hn5 hcn hr) hZ (own_h hw 57 rfl) (own_h hw 56 rfl) (by decide) (by decide)) (g := (mkF m 36 #[.val (.ref p0), .val (.ref p1), .val (.int 0), .val (.int (Int32.ofNat n)), .val .null, .unset] [(.int (Int32.ofNat n)), (.int 0), (.ref p1)])) rfl (by rw [hml]; rfl) (argsL := [(.ref p1), (.int 0), (.int (Int32.ofNat n))]) (rest := []) (lenOf pd_18 rfl) rfl (own_r0 _) (hb hby d9_36) (fun _ _ => ⟨rfl, e3, (by decide : 0 + 2 ≤ _), (by decide : 0 + 15 ≤ _)⟩)
 dsimp only [Pt.U, Pt.locs, Pt.cells, Pt.slots] at X5 l5 y5 z5 st5 hQ5
 rw [l5] at X5
 subst y5 z5
 obtain ⟨b5, kb5, co5, rfl, Nq5, Kq5, r5_0, r5_1, r5_2⟩ := hQ5
 have N5 := Fr.app N0 Nq5
 have ne6 := Nat.ne_of_lt (Nat.lt_of_lt_of_le P_E_p0.lt r5_0)
 have ne7 := Nat.ne_of_lt (Nat.lt_of_lt_of_le P_V_p1.lt r5_0)
 have gg_b5 := Nat.le_trans Z0 r5_0
 have sz_b5_0 := Nat.le_trans K0.1 r5_0
 have f8 := P_E_p0.keep Kq5
 have f9 := P_F_p0_value.keep Kq5 nin0
 have f10 := P_F_p0_coder.keep Kq5 nin0
 have f11 := P_Old.keep Kq5 all0
 have f12 := P_V_p1.keep Kq5 nin0
 have Zs5 := Nat.le_trans Z0 Kq5.1
 have K5_0 := K0.trans Kq5 all0
 refine own_go (fun _ k => st5 _ (XS.astore X5.here hx rfl (hb hby d9_39) rfl rfl (l' := #[.val (.ref p0), .val (.ref p1), .val (.int 0), .val (.int (Int32.ofNat n)), .val .null, .val (.ref b5)]) rfl (XS.aloadN X5.here hx rfl (hb hby d9_41) rfl rfl (XS.aload X5.here hx rfl (hb hby d9_42) rfl rfl (XS.iloadN X5.here hx rfl (hb hby d9_44) rfl k))))) ?_
 obtain ⟨_, _, ⟨T13, L13, k13, n13⟩, -, X13, ⟨Lc13, hQ13, l13, y13, z13⟩, st13⟩ := Jvm.LawKit.callS X5 hx (y := Y33) hown (mvT hZ (own_h hw 61 rfl)) (mvT hZ (own_h hw 62 rfl)) (mvT hZ (own_h hw 56 rfl)) (mvT hZ (own_h hw 63 rfl)) (by decide) (backOf (W := 1) (rm13 l Z a0 hw [] b5 n kb5 co5 cs T5.heap n0 Zs5 r5_1 hn5 hn0 (own_co01 r5_2)) hZ (own_h hw 63 rfl) (own_h hw 56 rfl) (by decide) (by decide)) (g := (mkF m 45 #[.val (.ref p0), .val (.ref p1), .val (.int 0), .val (.int (Int32.ofNat n)), .val .null, .val (.ref b5)] [(.int (Int32.ofNat n)), (.ref b5), (.ref p0)])) rfl (by rw [hml]; rfl) (argsL := [(.ref b5), (.int (Int32.ofNat n))]) (rest := [(.ref p0)]) (lenOf pd_19 rfl) rfl (own_r0 _) (hb hby d9_45) (fun _ _ => ⟨rfl, rfl, (by decide : 2 + 0 ≤ _), (by decide : 15 + 0 ≤ _)⟩)
 dsimp only [Pt.U, Pt.locs, Pt.cells, Pt.slots] at X13 l13 y13 z13 st13 hQ13
 rw [l13] at X13
 subst y13 z13
 obtain ⟨rfl, Nq13, eh13⟩ := hQ13
 have N13 := Fr.app N5 Nq13
 refine own_go (fun _ k => st13 _ k) ?_
 obtain ⟨T14, h14, X14, e14, W14, st14⟩ := putFN X13 hx hZ hown (own_h hw 26 rfl) Via.refl eh13 f10 f8 (Or.inr ⟨(own_h hw 12 rfl), rfl, hnm⟩) (own_h hw 9 rfl) (ty := .byte) (v' := (.int (nar .byte co5))) (by decide) rfl (fits_nar_byte _) (g := (mkF m 48 #[.val (.ref p0), .val (.ref p1), .val (.int 0), .val (.int (Int32.ofNat n)), .val .null, .val (.ref b5)] [(.int co5), (.ref p0)])) rfl rfl (hb hby d9_48)
 have N14 := Fr.snoc X14 N13 g_p0
 have Zs14 := Nat.le_trans Zs5 (Keep.of_wr W14).1
 have K14_0 := K5_0.wr W14 (Or.inl (List.mem_of_getElem? (i := 0) rfl))
 have f15 := f8.wr W14
 have f16 := f9.other W14 (Or.inr (slot_ne (Or.inr (own_h hw 11 rfl)) (Or.inr (own_h hw 12 rfl)) (by decide) (t := (.array .byte)) (t' := .byte) (by decide) (by decide)))
 have f17 : Fld Z h14 p0 "java/lang/String" "coder" "B" (.int (nar .byte co5)) := f10.same W14
 have f18 := f11.wr W14 g_p0
 have f19 := f12.other W14 (Ne.symm (by obtain ⟨c_, A_, -⟩ := f12; exact ne_arr f8 (own_h hw 9 rfl) A_))
 have f20 := r5_1.other W14 (Ne.symm ne6)
 refine own_go (fun _ k => st14 _ (XS.aloadN X14.here hx rfl (hb hby d9_51) rfl rfl (XS.aload X14.here hx rfl (hb hby d9_52) rfl rfl k))) ?_
 obtain ⟨T21, h21, X21, e21, W21, st21⟩ := putF X14 hx hZ hown (host := "") (Or.inl (own_h hw 27 rfl)) Via.refl e14 f16 f15 (Or.inr ⟨(own_h hw 11 rfl), rfl, hnm⟩) (own_h hw 9 rfl) (ty := (.array .byte)) (by decide) rfl rfl (g := (mkF m 54 #[.val (.ref p0), .val (.ref p1), .val (.int 0), .val (.int (Int32.ofNat n)), .val .null, .val (.ref b5)] [(.ref b5), (.ref p0)])) rfl rfl (hb hby d9_54)
 have N21 := Fr.snoc X21 N14 g_p0
 have Zs21 := Nat.le_trans Zs14 (Keep.of_wr W21).1
 have K21_0 := K14_0.wr W21 (Or.inl (List.mem_of_getElem? (i := 0) rfl))
 have f22 := f15.wr W21
 have f23 : Fld Z h21 p0 "java/lang/String" "value" "[B" (.ref b5) := f16.same W21
 have f24 := f17.other W21 (Or.inr (slot_ne (Or.inr (own_h hw 12 rfl)) (Or.inr (own_h hw 11 rfl)) (by decide) (t := .byte) (t' := (.array .byte)) (by decide) (by decide)))
 have f25 := f18.wr W21 g_p0
 have f26 := f19.other W21 (Ne.symm (by obtain ⟨c_, A_, -⟩ := f19; exact ne_arr f15 (own_h hw 9 rfl) A_))
 have f27 := f20.other W21 (Ne.symm ne6)
 refine own_go (fun _ k => st21 _ k) ?_
 show own_G _ _ _ (T21.setTop (mkF m 57 #[.val (.ref p0), .val (.ref p1), .val (.int 0), .val (.int (Int32.ofNat n)), .val .null, .val (.ref b5)] [])) _ _ _ _
 exact own_endV X21 hx hlk Bd.returns (hb hby d9_57) (by decide) (by decide) (Q := (Q9a Z p0 p1 zc fm n kc cs h0 n0)) (by rw [e21]; exact ⟨b5, kb5, co5, rfl, N21, K21_0, f22, (own_fb (own_co01 r5_2) f24), f23, f27, sz_b5_0, r5_2⟩)
theorem d8_0 : own_d B8 0 (.aload_n 0) 1 := by decide +kernel
theorem d8_1 : own_d B8 1 (.aload_n 1) 1 := by decide +kernel
theorem d8_2 : own_d B8 2 (.iconst 0) 1 := by decide +kernel
theorem d8_3 : own_d B8 3 (.aload_n 1) 1 := by decide +kernel
theorem d8_4 : own_d B8 4 (.arraylength) 1 := by decide +kernel
theorem d8_5 : own_d B8 5 (.aconst_null) 1 := by decide +kernel
theorem d8_6 : own_d B8 6 (.invokespecial 27) 3 := by decide +kernel
theorem d8_9 : own_d B8 9 (.return_) 1 := by decide +kernel
theorem pd_20 : parseMethodDescriptor "([CIILjava/lang/Void;)V" = some ⟨[(.array .char), .int, .int, (.object "java/lang/Void")], none⟩ := by decide +kernel
theorem ef_8a (m : MethodId) (p0 : Addr) (p1 : Addr) : entryFrame m #[(.ref p0), (.ref p1)] 2 = mkF m 0 #[.val (.ref p0), .val (.ref p1)] [] := by first | (simp [entryFrame, mkF, argsToLocals, Value.category]; done) | rfl
def Q8a (Z : State) (p0 : Addr) (p1 : Addr) (zc : Int32) (fm : Value) (n : Nat) (kc : ClassId) (cs : List Int32) (h0 : Heap) (n0 : Nat) (v : Option Value) (h : Heap) (L : List Loc) : Prop := ∃ (t : Addr) (kb : ClassId) (co : Int32), v = none ∧ Fr n0 L ∧ Keep h0 h [p0] ∧ Exa Z h p0 "java/lang/String" ∧ Fld Z h p0 "java/lang/String" "coder" "B" (.int co) ∧ Fld Z h p0 "java/lang/String" "value" "[B" (.ref t) ∧ Arv Z h t kb .byte (own_cap co n) (own_sv co cs) (.int 0) ∧ h0.size ≤ t ∧ ((co = 0 ∧ ∀ c ∈ cs, ¬ (255 : Int32) < c) ∨ co = 1)
theorem rm8a (l : Launch) (Z : State) (a0 : Array Value) (hw : ∀ d ∈ tables_1, d.before a0 Z = true) (ws : List Jvm.Cond) (p0 : Addr) (p1 : Addr) (zc : Int32) (fm : Value) (n : Nat) (kc : ClassId) (cs : List Int32) (h0 : Heap) (n0 : Nat) (Z0 : n0 ≤ h0.size) (P_E_p0 : Exa Z h0 p0 "java/lang/String") (P_F_p0_value : Fld Z h0 p0 "java/lang/String" "value" "[B" .null) (P_F_p0_coder : Fld Z h0 p0 "java/lang/String" "coder" "B" (.int 0)) (g_p0 : n0 ≤ p0) (P_Old : Old Z n0 h0) (HA : own_Z Z zc fm) (P_V_p1 : Arv Z h0 p1 kc .char (Int32.ofNat n) (own_ci cs) (.int 0)) (hn5 : n ≤ 5) (hn0 : 0 < n) (hcn : cs.length = n) (hr : ∀ c ∈ cs, own_r c) :
   own_M l Z Y35 jdk_42_method_3_code 2 none ws ({ frames := 5, cells := 2, slots := 15, locals := 74 } : Room) #[(.ref p0), (.ref p1)] h0 (Q8a Z p0 p1 zc fm n kc cs h0 n0) := by
 refine own_body (C := "java/lang/String") rfl (plainFor_of_name pn_1) (fun p e s m below meth c s₁ Bd hx hby hml hown hlk hZ X0 e0 => ?_)
 have N0 := Fr.nil n0
 obtain ⟨Zcs, hcs, Zsi, hfm, Zad, Zhi, Zlo⟩ := id HA
 have K0 : Keep h0 h0 [p0] := Keep.refl h0 [p0]
 refine own_go (fun _ k => castTop (ef_8a m p0 p1) (XS.aloadN X0.here hx rfl (hb hby d8_0) rfl rfl (XS.aloadN X0.here hx rfl (hb hby d8_1) rfl rfl (XS.iconst X0.here hx rfl (hb hby d8_2) (XS.aloadN X0.here hx rfl (hb hby d8_3) rfl rfl k))))) ?_
 obtain ⟨cl1, Ar1, -, S1, Ng1, -, -⟩ := id P_V_p1
 refine own_go (fun _ k => X0.arraylength hx (by rw [e0]; exact Ar1.1) (State.isArrayOf_alike hZ.alike Ar1.2.1) (g := (mkF m 4 #[.val (.ref p0), .val (.ref p1)] [(.ref p1), (.int 0), (.ref p1), (.ref p0)])) rfl rfl (hb hby d8_4) _ k) ?_
 rw [len_of S1 Ng1]
 show own_G _ _ _ (s₁.setTop (mkF m 5 #[.val (.ref p0), .val (.ref p1)] [(.int (Int32.ofNat n)), (.int 0), (.ref p1), (.ref p0)])) _ _ _ _
 refine own_go (fun _ k => XS.aconstNull X0.here hx rfl (hb hby d8_5) k) ?_
 obtain ⟨_, _, ⟨T2, L2, k2, n2⟩, -, X2, ⟨Lc2, hQ2, l2, y2, z2⟩, st2⟩ := X0.specialBack hx (y := Y34) rfl hown (mvT hZ (own_h hw 47 rfl)) (mvT hZ (own_h hw 48 rfl)) (mvT hZ (own_h hw 50 rfl)) (by decide) (backOf (W := 0) (rm9a l Z a0 hw [] p0 p1 zc fm n kc cs h0 n0 Z0 P_E_p0 P_F_p0_value P_F_p0_coder g_p0 P_Old HA P_V_p1 (by assumption) (by assumption) (by assumption) (by assumption)) hZ (own_h hw 50 rfl) (own_h hw 8 rfl) (by decide) (by decide)) (g := (mkF m 6 #[.val (.ref p0), .val (.ref p1)] [.null, (.int (Int32.ofNat n)), (.int 0), (.ref p1), (.ref p0)])) rfl (by rw [hml]; rfl) (Steps.refl _) (a := p0) (argsL := [(.ref p1), (.int 0), (.int (Int32.ofNat n)), .null]) (rest := []) (lenOf pd_20 rfl) rfl (own_r0 _) (hb hby d8_6) (fun _ _ => ⟨rfl, e0, (by decide : 0 + 2 ≤ _), (by decide : 0 + 15 ≤ _)⟩)
 dsimp only [Pt.U, Pt.locs, Pt.cells, Pt.slots] at X2 l2 y2 z2 st2 hQ2
 rw [l2] at X2
 subst y2 z2
 obtain ⟨t2, kb2, co2, rfl, Nq2, Kq2, r2_0, r2_1, r2_2, r2_3, r2_4, r2_5⟩ := hQ2
 have N2 := Fr.app N0 Nq2
 have ne3 := Nat.ne_of_lt (Nat.lt_of_lt_of_le P_E_p0.lt r2_4)
 have ne4 := Nat.ne_of_lt (Nat.lt_of_lt_of_le P_V_p1.lt r2_4)
 have gg_t2 := Nat.le_trans Z0 r2_4
 have sz_t2_0 := Nat.le_trans K0.1 r2_4
 have f5 := P_E_p0.keep Kq2
 have f6 := P_Old.keep Kq2 (allS g_p0 all0)
 have f7 := P_V_p1.keep Kq2 (ninS (Ne.symm (by obtain ⟨c_, A_, -⟩ := P_V_p1; exact ne_arr P_E_p0 (own_h hw 9 rfl) A_)) nin0)
 have Zs2 := Nat.le_trans Z0 Kq2.1
 have K2_0 := K0.trans Kq2 (allS (Or.inl (List.mem_of_getElem? (i := 0) rfl)) all0)
 refine own_go (fun _ k => st2.trans k) ?_
 show own_G _ _ _ (T2.setTop (mkF m 9 #[.val (.ref p0), .val (.ref p1)] [])) _ _ _ _
 exact own_endV X2 hx hlk Bd.returns (hb hby d8_9) (by decide) (by decide) (Q := (Q8a Z p0 p1 zc fm n kc cs h0 n0)) ⟨t2, kb2, co2, rfl, N2, K2_0, r2_0, r2_1, r2_2, r2_3, r2_4, r2_5⟩
theorem ef_9b (m : MethodId) (p0 : Addr) (p1 : Addr) : entryFrame m #[(.ref p0), (.ref p1), (.int 0), (.int 0), .null] 6 = mkF m 0 #[.val (.ref p0), .val (.ref p1), .val (.int 0), .val (.int 0), .val .null, .unset] [] := by first | (simp [entryFrame, mkF, argsToLocals, Value.category]; done) | rfl
def Q9b (Z : State) (p0 : Addr) (p1 : Addr) (h0 : Heap) (n0 : Nat) (v : Option Value) (h : Heap) (L : List Loc) : Prop := ∃ (t : Addr) (kb : ClassId), v = none ∧ Fr n0 L ∧ Keep h0 h [p0] ∧ Exa Z h p0 "java/lang/String" ∧ Fld Z h p0 "java/lang/String" "coder" "B" (.int 0) ∧ Fld Z h p0 "java/lang/String" "value" "[B" (.ref t) ∧ Arv Z h t kb .byte (Int32.ofNat 0) (own_l1 []) (.int 0)
theorem rm9b (l : Launch) (Z : State) (a0 : Array Value) (hw : ∀ d ∈ tables_1, d.before a0 Z = true) (ws : List Jvm.Cond) (p0 : Addr) (p1 : Addr) (h0 : Heap) (n0 : Nat) (Z0 : n0 ≤ h0.size) (P_E_p0 : Exa Z h0 p0 "java/lang/String") (P_F_p0_value : Fld Z h0 p0 "java/lang/String" "value" "[B" .null) (P_F_p0_coder : Fld Z h0 p0 "java/lang/String" "coder" "B" (.int 0)) (g_p0 : n0 ≤ p0) :
   MetFree l Y34 (head1 (Jvm.Cond.code Y34 jdk_42_method_149_code 6 none :: ws) ({ frames := 1, cells := 4, slots := 8, locals := 12 } : Room)) (fun a U => a = #[(.ref p0), (.ref p1), (.int 0), (.int 0), .null] ∧ Z.Warmed39 U.vm ∧ U.heap = h0 ∧ CHv Z own_EL U.vm h0) (fun _ _ _ _ _ => True) (fun _ U o U' => ∃ v L, o = .returned v ∧ (Q9b Z p0 p1 h0 n0) v U'.heap L ∧ CHr Z own_EL U.vm U.heap U'.vm U'.heap ∧ ReturnedEndW U o U' L ({ frames := 1, cells := 4, slots := 8, locals := 12 } : Room).cells ({ frames := 1, cells := 4, slots := 8, locals := 12 } : Room).slots) := by
 refine MetFree.of_bodySF (plainFor_of_name pn_1) hisR ?_
 intro p e s m args below meth c s₁ Bd hml0 hP hK
 obtain ⟨rfl, hZ, hh, H0⟩ := hP
 have hx := Bd.exec
 have hby := Bd.bytes
 have hml : c.maxLocals = 6 := hml0
 have hown : s.vm.findClass "java/lang/String" = some m.cls := findClass_of_methodNamed Bd.named
 have hnm := (name_of_methodNamed Bd.named Bd.method).1
 have hlk : meth.locks = false := BodyLoose.notSynchronized Bd
 have X0 : Stand p l e ({ frames := 1, cells := 4, slots := 8, locals := 12 } : Room) (s.setVm s.vm) m #[(.ref p0), (.ref p1), (.int 0), (.int 0), .null] below meth c s₁ [] 0 0 := Stand.of_body Bd
 have e0 : s₁.heap = h0 := by rw [← hh, Bd.state]; rfl
 have N0 := Fr.nil n0
 have hS0 := (State.WarmedH.refl s).since s.heap.size
 have hk0 : s.heap.size ≤ h0.size := by rw [hh]; exact Nat.le_refl _
 have CR0 : CHr Z own_EL s.vm h0 s.vm h0 := CHr.refl H0
 have KS0 : Keep h0 h0 [p0] := Keep.refl _ _
 have sf0_p0 : Safe Z own_EL s.vm h0 p0 := own_safe0 hZ.alike P_E_p0 P_F_p0_value
 have K0 : Keep h0 h0 [p0] := Keep.refl h0 [p0]
 show own_GW p.tables e below (s₁.setTop (entryFrame m #[(.ref p0), (.ref p1), (.int 0), (.int 0), .null] 6)) s ({ frames := 1, cells := 4, slots := 8, locals := 12 } : Room).cells ({ frames := 1, cells := 4, slots := 8, locals := 12 } : Room).slots Z own_EL (Q9b Z p0 p1 h0 n0)
 refine own_goW (fun _ k => castTop (ef_9b m p0 p1) (XS.aloadN X0.here hx rfl (hb hby d9_0) rfl rfl k)) ?_
 obtain ⟨T1, X1, e1, st1⟩ := initO X0 hx hZ hown (own_h hw 51 rfl) (own_h hw 52 rfl) (own_h hw 53 rfl) e0 (g := (mkF m 1 #[.val (.ref p0), .val (.ref p1), .val (.int 0), .val (.int 0), .val .null, .unset] [(.ref p0)])) rfl (by rw [hml]; rfl) rfl (hb hby d9_1) (by decide) (W := 0) (own_r0 _) (by decide)
 refine own_goW (fun _ k => st1 _ (XS.iloadN X1.here hx rfl (hb hby d9_4) rfl k)) ?_
 show own_GW _ _ _ (T1.setTop (mkF m 5 #[.val (.ref p0), .val (.ref p1), .val (.int 0), .val (.int 0), .val .null, .unset] [(.int 0)])) _ _ _ _ _ _
 have hc2 : (0 : Int32) = (0 : Int32) := (by decide)
 refine own_goW (fun _ k => XS.ifNo X1.here hx rfl (hb hby d9_5) rfl ((if0 _ _).trans (teq hc2).2) (XS.aloadN X1.here hx rfl (hb hby d9_8) rfl rfl k)) ?_
 show own_GW _ _ _ (T1.setTop (mkF m 9 #[.val (.ref p0), .val (.ref p1), .val (.int 0), .val (.int 0), .val .null, .unset] [(.ref p0)])) _ _ _ _ _ _
 have CQ3 := CR0.trans (CHr.keep KS0 (allS (sf0_p0) all0) CR0.1)
 obtain ⟨a3, T3, h3, k13, b3, kb3, X3, e3, E3, hS3, hk3, hZ, hown, xa3, cd3, vl3, vb3, la3, lb3, CC3, Lt3, nea3, st3⟩ := ldcCH X1 hx hZ hown (own_h hw 244 rfl) (own_wS hw) e1 hS0 (Nat.le_trans hk0 KS0.1) (own_EW hw) (by simp [own_EL]) CQ3.1 (vs := []) (z := (0 : Int32)) ⟨by decide, rfl⟩ (by decide) rfl (g := (mkF m 9 #[.val (.ref p0), .val (.ref p1), .val (.int 0), .val (.int 0), .val .null, .unset] [(.ref p0)])) rfl (hb hby d9_9) (n := 0) (by decide) (by decide) (by decide) (by decide)
 have CR3 := CQ3.trans CC3
 have Zs3 := Nat.le_trans Z0 E3.1
 have K3_0 := K0.ext E3
 have f4 := P_E_p0.ext E3
 have f5 := P_F_p0_value.ext E3
 have f6 := P_F_p0_coder.ext E3
 have sf7 : Safe Z own_EL T3.vm h3 p0 := (CHr.safe CR3 P_E_p0.lt sf0_p0)
 have KS3 : Keep h3 h3 [p0] := Keep.refl _ _
 refine own_goW (fun _ k => st3 _ k) ?_
 obtain ⟨T8, X8, e8, st8⟩ := getF X3 hx hZ hown (host := "") (Or.inl (own_h hw 27 rfl)) Via.refl e3 vl3 (g := (mkF m 11 #[.val (.ref p0), .val (.ref p1), .val (.int 0), .val (.int 0), .val .null, .unset] [(.ref a3), (.ref p0)])) rfl rfl (hb hby d9_11)
 refine own_goW (fun _ k => st8 _ k) ?_
 obtain ⟨T9, h9, X9, e9, W9, st9⟩ := putF X8 hx hZ hown (host := "") (Or.inl (own_h hw 27 rfl)) Via.refl e8 f5 f4 (Or.inr ⟨(own_h hw 11 rfl), rfl, hnm⟩) (own_h hw 9 rfl) (ty := (.array .byte)) (by decide) rfl rfl (g := (mkF m 14 #[.val (.ref p0), .val (.ref p1), .val (.int 0), .val (.int 0), .val .null, .unset] [(.ref b3), (.ref p0)])) rfl rfl (hb hby d9_14)
 have N9 := Fr.snoc X9 N0 g_p0
 have Zs9 := Nat.le_trans Zs3 (Keep.of_wr W9).1
 have K9_0 := K3_0.wr W9 (Or.inl (List.mem_of_getElem? (i := 0) rfl))
 have K9_1 := KS3.wr W9 (Or.inl (List.mem_of_getElem? (i := 0) rfl))
 have f10 := f4.wr W9
 have f11 : Fld Z h9 p0 "java/lang/String" "value" "[B" (.ref b3) := f5.same W9
 have f12 := f6.other W9 (Or.inr (slot_ne (Or.inr (own_h hw 12 rfl)) (Or.inr (own_h hw 11 rfl)) (by decide) (t := .byte) (t' := (.array .byte)) (by decide) (by decide)))
 have f13 := vb3.other W9 (Ne.symm (by obtain ⟨c_, A_, -⟩ := vb3; exact ne_arr f4 (own_h hw 9 rfl) A_))
 refine own_goW (fun _ k => st9 _ (XS.aloadN X9.here hx rfl (hb hby d9_17) rfl rfl k)) ?_
 show own_GW _ _ _ (T9.setTop (mkF m 18 #[.val (.ref p0), .val (.ref p1), .val (.int 0), .val (.int 0), .val .null, .unset] [(.ref p0)])) _ _ _ _ _ _
 have CQ14 := CR3.trans (CHr.keep K9_1 (allS sf7 all0) CR3.1)
 obtain ⟨a14, T14, h14, k114, b14, kb14, X14, e14, E14, hS14, hk14, hZ, hown, xa14, cd14, vl14, vb14, la14, lb14, CC14, Lt14, nea14, st14⟩ := ldcCH X9 hx hZ hown (own_h hw 244 rfl) (own_wS hw) e9 hS3 (Nat.le_trans hk3 K9_1.1) (own_EW hw) (by simp [own_EL]) CQ14.1 (vs := []) (z := (0 : Int32)) ⟨by decide, rfl⟩ (by decide) rfl (g := (mkF m 18 #[.val (.ref p0), .val (.ref p1), .val (.int 0), .val (.int 0), .val .null, .unset] [(.ref p0)])) rfl (hb hby d9_18) (n := 0) (by decide) (by decide) (by decide) (by decide)
 have CR14 := CQ14.trans CC14
 have Zs14 := Nat.le_trans Zs9 E14.1
 have K14_0 := K9_0.ext E14
 have f15 := f10.ext E14
 have f16 := f11.ext E14
 have f17 := f12.ext E14
 have f18 := f13.ext E14
 have sf19 : Safe Z own_EL T14.vm h14 p0 := (CHr.safe CR14 P_E_p0.lt sf0_p0)
 have KS14 : Keep h14 h14 [p0] := Keep.refl _ _
 refine own_goW (fun _ k => st14 _ k) ?_
 obtain ⟨T20, X20, e20, st20⟩ := getF X14 hx hZ hown (host := "") (Or.inl (own_h hw 26 rfl)) Via.refl e14 cd14 (g := (mkF m 20 #[.val (.ref p0), .val (.ref p1), .val (.int 0), .val (.int 0), .val .null, .unset] [(.ref a14), (.ref p0)])) rfl rfl (hb hby d9_20)
 refine own_goW (fun _ k => st20 _ k) ?_
 obtain ⟨T21, h21, X21, e21, W21, st21⟩ := putFN X20 hx hZ hown (own_h hw 26 rfl) Via.refl e20 f17 f15 (Or.inr ⟨(own_h hw 12 rfl), rfl, hnm⟩) (own_h hw 9 rfl) (ty := .byte) (v' := (.int (nar .byte 0))) (by decide) rfl (fits_nar_byte _) (g := (mkF m 23 #[.val (.ref p0), .val (.ref p1), .val (.int 0), .val (.int 0), .val .null, .unset] [(.int 0), (.ref p0)])) rfl rfl (hb hby d9_23)
 have N21 := Fr.snoc X21 N9 g_p0
 have Zs21 := Nat.le_trans Zs14 (Keep.of_wr W21).1
 have K21_0 := K14_0.wr W21 (Or.inl (List.mem_of_getElem? (i := 0) rfl))
 have K21_1 := KS14.wr W21 (Or.inl (List.mem_of_getElem? (i := 0) rfl))
 have f22 := f15.wr W21
 have f23 := f16.other W21 (Or.inr (slot_ne (Or.inr (own_h hw 11 rfl)) (Or.inr (own_h hw 12 rfl)) (by decide) (t := (.array .byte)) (t' := .byte) (by decide) (by decide)))
 have f24 : Fld Z h21 p0 "java/lang/String" "coder" "B" (.int (nar .byte 0)) := f17.same W21
 have f25 := f18.other W21 (Ne.symm (by obtain ⟨c_, A_, -⟩ := f18; exact ne_arr f15 (own_h hw 9 rfl) A_))
 have f26 := vb14.other W21 (Ne.symm (by obtain ⟨c_, A_, -⟩ := vb14; exact ne_arr f15 (own_h hw 9 rfl) A_))
 refine own_goW (fun _ k => st21 _ k) ?_
 show own_GW _ _ _ (T21.setTop (mkF m 26 #[.val (.ref p0), .val (.ref p1), .val (.int 0), .val (.int 0), .val .null, .unset] [])) _ _ _ _ _ _
 have CQ27 := CR14.trans (CHr.keep K21_1 (allS sf19 all0) CR14.1)
 have CE27 : CHr Z own_EL s.vm s.heap T21.vm T21.heap := by rw [hh, show T21.heap = h21 from e21]; exact CQ27.trans (CHv.at X21 hZ (own_EW hw) CQ27.1)
 exact own_endWV X21 hx hlk Bd.returns (hb hby d9_26) hS14 (show _ ≤ T21.heap.size by rw [show T21.heap = h21 from e21]; exact (Nat.le_trans hk14 K21_1.1)) (by decide) (by decide) CE27 (Q := (Q9b Z p0 p1 h0 n0)) (by rw [e21]; exact ⟨b3, kb3, rfl, N21, K21_0, f22, f24, f23, f25⟩)
def Q8b (Z : State) (p0 : Addr) (p1 : Addr) (kc : ClassId) (h0 : Heap) (n0 : Nat) (v : Option Value) (h : Heap) (L : List Loc) : Prop := ∃ (t : Addr) (kb : ClassId), v = none ∧ Fr n0 L ∧ Keep h0 h [p0] ∧ Exa Z h p0 "java/lang/String" ∧ Fld Z h p0 "java/lang/String" "coder" "B" (.int 0) ∧ Fld Z h p0 "java/lang/String" "value" "[B" (.ref t) ∧ Arv Z h t kb .byte (Int32.ofNat 0) (own_l1 []) (.int 0)
theorem rm8b (l : Launch) (Z : State) (a0 : Array Value) (hw : ∀ d ∈ tables_1, d.before a0 Z = true) (ws : List Jvm.Cond) (p0 : Addr) (p1 : Addr) (kc : ClassId) (h0 : Heap) (n0 : Nat) (Z0 : n0 ≤ h0.size) (P_E_p0 : Exa Z h0 p0 "java/lang/String") (P_F_p0_value : Fld Z h0 p0 "java/lang/String" "value" "[B" .null) (P_F_p0_coder : Fld Z h0 p0 "java/lang/String" "coder" "B" (.int 0)) (g_p0 : n0 ≤ p0) (P_V_p1 : Arv Z h0 p1 kc .char (0 : Int32) [] (.int 0)) :
   MetFree l Y35 (head1 (Jvm.Cond.code Y35 jdk_42_method_3_code 2 none :: ws) ({ frames := 2, cells := 4, slots := 8, locals := 29 } : Room)) (fun a U => a = #[(.ref p0), (.ref p1)] ∧ Z.Warmed39 U.vm ∧ U.heap = h0 ∧ CHv Z own_EL U.vm h0) (fun _ _ _ _ _ => True) (fun _ U o U' => ∃ v L, o = .returned v ∧ (Q8b Z p0 p1 kc h0 n0) v U'.heap L ∧ CHr Z own_EL U.vm U.heap U'.vm U'.heap ∧ ReturnedEndW U o U' L ({ frames := 2, cells := 4, slots := 8, locals := 29 } : Room).cells ({ frames := 2, cells := 4, slots := 8, locals := 29 } : Room).slots) := by
 refine MetFree.of_bodySF (plainFor_of_name pn_1) hisR ?_
 intro p e s m args below meth c s₁ Bd hml0 hP hK
 obtain ⟨rfl, hZ, hh, H0⟩ := hP
 have hx := Bd.exec
 have hby := Bd.bytes
 have hml : c.maxLocals = 2 := hml0
 have hown : s.vm.findClass "java/lang/String" = some m.cls := findClass_of_methodNamed Bd.named
 have hnm := (name_of_methodNamed Bd.named Bd.method).1
 have hlk : meth.locks = false := BodyLoose.notSynchronized Bd
 have X0 : Stand p l e ({ frames := 2, cells := 4, slots := 8, locals := 29 } : Room) (s.setVm s.vm) m #[(.ref p0), (.ref p1)] below meth c s₁ [] 0 0 := Stand.of_body Bd
 have e0 : s₁.heap = h0 := by rw [← hh, Bd.state]; rfl
 have N0 := Fr.nil n0
 have hS0 := (State.WarmedH.refl s).since s.heap.size
 have hk0 : s.heap.size ≤ h0.size := by rw [hh]; exact Nat.le_refl _
 have CR0 : CHr Z own_EL s.vm h0 s.vm h0 := CHr.refl H0
 have KS0 : Keep h0 h0 [] := Keep.refl _ _
 have K0 : Keep h0 h0 [p0] := Keep.refl h0 [p0]
 show own_GW p.tables e below (s₁.setTop (entryFrame m #[(.ref p0), (.ref p1)] 2)) s ({ frames := 2, cells := 4, slots := 8, locals := 29 } : Room).cells ({ frames := 2, cells := 4, slots := 8, locals := 29 } : Room).slots Z own_EL (Q8b Z p0 p1 kc h0 n0)
 refine own_goW (fun _ k => castTop (ef_8a m p0 p1) (XS.aloadN X0.here hx rfl (hb hby d8_0) rfl rfl (XS.aloadN X0.here hx rfl (hb hby d8_1) rfl rfl (XS.iconst X0.here hx rfl (hb hby d8_2) (XS.aloadN X0.here hx rfl (hb hby d8_3) rfl rfl k))))) ?_
 obtain ⟨cl1, Ar1, -, S1, Ng1, -, -⟩ := id P_V_p1
 refine own_goW (fun _ k => X0.arraylength hx (by rw [e0]; exact Ar1.1) (State.isArrayOf_alike hZ.alike Ar1.2.1) (g := (mkF m 4 #[.val (.ref p0), .val (.ref p1)] [(.ref p1), (.int 0), (.ref p1), (.ref p0)])) rfl rfl (hb hby d8_4) _ k) ?_
 rw [len_of S1 Ng1]
 show own_GW _ _ _ (s₁.setTop (mkF m 5 #[.val (.ref p0), .val (.ref p1)] [(.int 0), (.int 0), (.ref p1), (.ref p0)])) _ _ _ _ _ _
 refine own_goW (fun _ k => XS.aconstNull X0.here hx rfl (hb hby d8_5) k) ?_
 show own_GW _ _ _ (s₁.setTop (mkF m 6 #[.val (.ref p0), .val (.ref p1)] [.null, (.int 0), (.int 0), (.ref p1), (.ref p0)])) _ _ _ _ _ _
 have CQ2 := CR0.trans (CHr.keep KS0 all0 CR0.1)
 obtain ⟨_, _, ⟨T2, L2, k2, n2⟩, -, X2, hS'2, gh2, ⟨Lc2, hQ2, l2, y2, z2, CC2⟩, st2⟩ := X0.specialBackS hx (y := Y34) rfl hown (mvT hZ (own_h hw 47 rfl)) (mvT hZ (own_h hw 48 rfl)) (mvT hZ (own_h hw 50 rfl)) (by decide) (backOfSH (W := 0) (rm9b l Z a0 hw [] p0 p1  h0 n0 Z0 P_E_p0 P_F_p0_value P_F_p0_coder g_p0) hZ (own_h hw 50 rfl) (own_h hw 8 rfl) (by decide) (by decide) (own_EW hw) CQ2.1) (g := (mkF m 6 #[.val (.ref p0), .val (.ref p1)] [.null, (.int 0), (.int 0), (.ref p1), (.ref p0)])) rfl (by rw [hml]; rfl) (Steps.refl _) (a := p0) (argsL := [(.ref p1), (.int 0), (.int 0), .null]) (rest := []) (lenOf pd_20 rfl) rfl (own_r0 _) (hb hby d8_6) (fun _ _ => ⟨rfl, e0, (by decide : 0 + 4 ≤ _), (by decide : 0 + 8 ≤ _)⟩)
 dsimp only [Pt.U, Pt.locs, Pt.cells, Pt.slots] at X2 l2 y2 z2 st2 hQ2 hS'2 gh2 CC2
 rw [l2] at X2
 subst y2 z2
 have hk2 : h0.size ≤ T2.heap.size := by rw [← show s₁.heap = h0 from e0]; exact gh2
 obtain ⟨X2, hS2, hZ, hown⟩ := rebS hS0 (Nat.le_trans hk0 KS0.1) X2 hS'2 hk2 hZ hown
 have CR2 := CQ2.trans CC2
 obtain ⟨t2, kb2, rfl, Nq2, Kq2, r2_0, r2_1, r2_2, r2_3⟩ := hQ2
 have N2 := Fr.app N0 Nq2
 have f3 := P_E_p0.keep Kq2
 have f4 := P_V_p1.keep Kq2 (ninS (Ne.symm (by obtain ⟨c_, A_, -⟩ := P_V_p1; exact ne_arr P_E_p0 (own_h hw 9 rfl) A_)) nin0)
 have Zs2 := Nat.le_trans Z0 Kq2.1
 have K2_0 := K0.trans Kq2 (allS (Or.inl (List.mem_of_getElem? (i := 0) rfl)) all0)
 have KS2 : Keep T2.heap T2.heap [] := Keep.refl _ _
 refine own_goW (fun _ k => st2.trans k) ?_
 show own_GW _ _ _ (T2.setTop (mkF m 9 #[.val (.ref p0), .val (.ref p1)] [])) _ _ _ _ _ _
 have CQ5 := CR2.trans (CHr.keep KS2 all0 CR2.1)
 have CE5 : CHr Z own_EL s.vm s.heap T2.vm T2.heap := by rw [hh, show T2.heap = T2.heap from rfl]; exact CQ5.trans (CHv.at X2 hZ (own_EW hw) CQ5.1)
 exact own_endWV X2 hx hlk Bd.returns (hb hby d8_9) hS2 (show _ ≤ T2.heap.size by rw [show T2.heap = T2.heap from rfl]; exact (Nat.le_trans (Nat.le_refl _) KS2.1)) (by decide) (by decide) CE5 (Q := (Q8b Z p0 p1 kc h0 n0)) ⟨t2, kb2, rfl, N2, K2_0, r2_0, r2_1, r2_2, r2_3⟩
theorem d25_0 : own_d B25 0 (.aload_n 0) 1 := by decide +kernel
theorem d25_1 : own_d B25 1 (.invokespecial 3) 3 := by decide +kernel
theorem d25_4 : own_d B25 4 (.getstatic 18) 3 := by decide +kernel
theorem d25_7 : own_d B25 7 (.ifCond .eq 18) 3 := by decide +kernel
theorem d25_10 : own_d B25 10 (.aload_n 0) 1 := by decide +kernel
theorem d25_11 : own_d B25 11 (.iload_n 1) 1 := by decide +kernel
theorem d25_12 : own_d B25 12 (.newarray .byte) 2 := by decide +kernel
theorem d25_14 : own_d B25 14 (.putfield 15) 3 := by decide +kernel
theorem d25_17 : own_d B25 17 (.aload_n 0) 1 := by decide +kernel
theorem d25_18 : own_d B25 18 (.iconst 0) 1 := by decide +kernel
theorem d25_19 : own_d B25 19 (.putfield 22) 3 := by decide +kernel
theorem d25_22 : own_d B25 22 (.goto 16) 3 := by decide +kernel
theorem d25_38 : own_d B25 38 (.return_) 1 := by decide +kernel
theorem pn_4 : plainName "java/lang/AbstractStringBuilder" = true := by first | (simp [plainName, overriddenIn]; done) | decide +kernel
theorem ef_25 (m : MethodId) (p0 : Addr) (mm : Nat) : entryFrame m #[(.ref p0), (.int (Int32.ofNat mm))] 2 = mkF m 0 #[.val (.ref p0), .val (.int (Int32.ofNat mm))] [] := by first | (simp [entryFrame, mkF, argsToLocals, Value.category]; done) | rfl
def Q25 (Z : State) (p0 : Addr) (zc : Int32) (fm : Value) (mm : Nat) (h0 : Heap) (n0 : Nat) (v : Option Value) (h : Heap) (L : List Loc) : Prop := ∃ (va : Addr) (kv : ClassId), v = none ∧ Fr n0 L ∧ Keep h0 h [p0] ∧ Exa Z h p0 "java/lang/StringBuilder" ∧ Fld Z h p0 "java/lang/AbstractStringBuilder" "value" "[B" (.ref va) ∧ Fld Z h p0 "java/lang/AbstractStringBuilder" "coder" "B" (.int 0) ∧ Fld Z h p0 "java/lang/AbstractStringBuilder" "count" "I" (.int 0) ∧ Fld Z h p0 "java/lang/AbstractStringBuilder" "maybeLatin1" "Z" (.int 0) ∧ Exa Z h va "[B" ∧ Arv Z h va kv .byte (Int32.ofNat mm) (own_l1 []) (.int 0) ∧ h0.size ≤ va
theorem rm25 (l : Launch) (Z : State) (a0 : Array Value) (hw : ∀ d ∈ tables_1, d.before a0 Z = true) (ws : List Jvm.Cond) (p0 : Addr) (zc : Int32) (fm : Value) (mm : Nat) (h0 : Heap) (n0 : Nat) (Z0 : n0 ≤ h0.size) (P_E_p0 : Exa Z h0 p0 "java/lang/StringBuilder") (P_F_p0_value : Fld Z h0 p0 "java/lang/AbstractStringBuilder" "value" "[B" .null) (P_F_p0_coder : Fld Z h0 p0 "java/lang/AbstractStringBuilder" "coder" "B" (.int 0)) (P_F_p0_count : Fld Z h0 p0 "java/lang/AbstractStringBuilder" "count" "I" (.int 0)) (P_F_p0_maybeLatin1 : Fld Z h0 p0 "java/lang/AbstractStringBuilder" "maybeLatin1" "Z" (.int 0)) (g_p0 : n0 ≤ p0) (P_Old : Old Z n0 h0) (HA : own_Z Z zc fm) (hm5 : mm ≤ 5) :
   own_M l Z Y36 jdk_68_method_2_code 2 none ws ({ frames := 1, cells := 1, slots := 5, locals := 12 } : Room) #[(.ref p0), (.int (Int32.ofNat mm))] h0 (Q25 Z p0 zc fm mm h0 n0) := by
 refine own_body (C := "java/lang/AbstractStringBuilder") rfl (plainFor_of_name pn_4) (fun p e s m below meth c s₁ Bd hx hby hml hown hlk hZ X0 e0 => ?_)
 have N0 := Fr.nil n0
 obtain ⟨Zcs, hcs, Zsi, hfm, Zad, Zhi, Zlo⟩ := id HA
 have K0 : Keep h0 h0 [p0] := Keep.refl h0 [p0]
 refine own_go (fun _ k => castTop (ef_25 m p0 mm) (XS.aloadN X0.here hx rfl (hb hby d25_0) rfl rfl k)) ?_
 obtain ⟨T1, X1, e1, st1⟩ := initO X0 hx hZ hown (own_h hw 117 rfl) (own_h hw 52 rfl) (own_h hw 53 rfl) e0 (g := (mkF m 1 #[.val (.ref p0), .val (.int (Int32.ofNat mm))] [(.ref p0)])) rfl (by rw [hml]; rfl) rfl (hb hby d25_1) (by decide) (W := 0) (own_r0 _) (by decide)
 refine own_go (fun _ k => st1 _ k) ?_
 obtain ⟨T2, X2, e2, st2⟩ := getS2 X1 hx hZ hown (host := "") (Or.inl (own_h hw 118 rfl)) Via.refl e1 (Zcs.ext P_Old.2) (g := (mkF m 4 #[.val (.ref p0), .val (.int (Int32.ofNat mm))] [])) rfl (hb hby d25_4)
 refine own_go (fun _ k => st2 _ k) ?_
 show own_G _ _ _ (T2.setTop (mkF m 7 #[.val (.ref p0), .val (.int (Int32.ofNat mm))] [(.int zc)])) _ _ _ _
 have hc3 : ¬ (zc = (0 : Int32)) := hcs
 refine own_go (fun _ k => XS.ifNo X2.here hx rfl (hb hby d25_7) rfl ((if0 _ _).trans (feq hc3).1) (XS.aloadN X2.here hx rfl (hb hby d25_10) rfl rfl (XS.iloadN X2.here hx rfl (hb hby d25_11) rfl k))) ?_
 obtain ⟨T4, h4, k4, X4, e4, E4, A4, D4, st4⟩ := newPE (ad := "[B") (had := rfl) X2 hx hZ (own_h hw 10 rfl) e2 (g := (mkF m 12 #[.val (.ref p0), .val (.int (Int32.ofNat mm))] [(.int (Int32.ofNat mm)), (.ref p0)])) rfl (hb hby d25_12) rfl (own_nn mm (by omega)) (cap := 5) (by rw [own_cl mm (by omega)]; exact hm5) (by decide) (by decide) (by decide)
 obtain ⟨b4, g4⟩ : ∃ z, z = h0.size := ⟨_, rfl⟩
 rw [← g4] at A4 D4 st4
 have ne5 := Nat.ne_of_lt (Nat.lt_of_lt_of_le P_E_p0.lt (Nat.le_of_eq g4.symm))
 have gg4 := Nat.le_trans Z0 (Nat.le_of_eq g4.symm)
 have sz4_0 := Nat.le_trans K0.1 (Nat.le_of_eq g4.symm)
 have Zs4 := Nat.le_trans Z0 E4.1
 have K4_0 := K0.ext E4
 have f6 := P_E_p0.ext E4
 have f7 := P_F_p0_value.ext E4
 have f8 := P_F_p0_coder.ext E4
 have f9 := P_F_p0_count.ext E4
 have f10 := P_F_p0_maybeLatin1.ext E4
 have f11 := P_Old.ext E4
 have f12 : Arv Z h4 b4 k4 .byte (Int32.ofNat mm) (own_l1 []) (.int 0) := Arv.new A4 (own_nn mm (by omega))
 have f13 : Exa Z h4 b4 "[B" := D4
 refine own_go (fun _ k => st4 _ k) ?_
 obtain ⟨T14, h14, X14, e14, W14, st14⟩ := putF X4 hx hZ hown (host := "") (Or.inl (own_h hw 119 rfl)) Via.refl e4 f7 f6 (Or.inl (own_h hw 120 rfl)) (own_h hw 105 rfl) (ty := (.array .byte)) (by decide) rfl rfl (g := (mkF m 14 #[.val (.ref p0), .val (.int (Int32.ofNat mm))] [(.ref b4), (.ref p0)])) rfl rfl (hb hby d25_14)
 have N14 := Fr.snoc X14 N0 g_p0
 have Zs14 := Nat.le_trans Zs4 (Keep.of_wr W14).1
 have K14_0 := K4_0.wr W14 (Or.inl (List.mem_of_getElem? (i := 0) rfl))
 have f15 := f6.wr W14
 have f16 : Fld Z h14 p0 "java/lang/AbstractStringBuilder" "value" "[B" (.ref b4) := f7.same W14
 have f17 := f8.other W14 (Or.inr (slot_ne (Or.inl (own_h hw 122 rfl)) (Or.inl (own_h hw 120 rfl)) (by decide) (t := .byte) (t' := (.array .byte)) (by decide) (by decide)))
 have f18 := f9.other W14 (Or.inr (slot_ne (Or.inl (own_h hw 146 rfl)) (Or.inl (own_h hw 120 rfl)) (by decide) (t := .int) (t' := (.array .byte)) (by decide) (by decide)))
 have f19 := f10.other W14 (Or.inr (slot_ne (Or.inl (own_h hw 319 rfl)) (Or.inl (own_h hw 120 rfl)) (by decide) (t := .boolean) (t' := (.array .byte)) (by decide) (by decide)))
 have f20 := f11.wr W14 g_p0
 have f21 := f12.other W14 (Ne.symm ne5)
 have f22 := f13.wr W14
 refine own_go (fun _ k => st14 _ (XS.aloadN X14.here hx rfl (hb hby d25_17) rfl rfl (XS.iconst X14.here hx rfl (hb hby d25_18) k))) ?_
 obtain ⟨T23, h23, X23, e23, W23, st23⟩ := putFN X14 hx hZ hown (own_h hw 121 rfl) Via.refl e14 f17 f15 (Or.inl (own_h hw 122 rfl)) (own_h hw 105 rfl) (ty := .byte) (v' := (.int 0)) (by decide) rfl rfl (g := (mkF m 19 #[.val (.ref p0), .val (.int (Int32.ofNat mm))] [(.int 0), (.ref p0)])) rfl rfl (hb hby d25_19)
 have N23 := Fr.snoc X23 N14 g_p0
 have Zs23 := Nat.le_trans Zs14 (Keep.of_wr W23).1
 have K23_0 := K14_0.wr W23 (Or.inl (List.mem_of_getElem? (i := 0) rfl))
 have f24 := f15.wr W23
 have f25 := f16.other W23 (Or.inr (slot_ne (Or.inl (own_h hw 120 rfl)) (Or.inl (own_h hw 122 rfl)) (by decide) (t := (.array .byte)) (t' := .byte) (by decide) (by decide)))
 have f26 : Fld Z h23 p0 "java/lang/AbstractStringBuilder" "coder" "B" (.int 0) := f17.same W23
 have f27 := f18.other W23 (Or.inr (slot_ne (Or.inl (own_h hw 146 rfl)) (Or.inl (own_h hw 122 rfl)) (by decide) (t := .int) (t' := .byte) (by decide) (by decide)))
 have f28 := f19.other W23 (Or.inr (slot_ne (Or.inl (own_h hw 319 rfl)) (Or.inl (own_h hw 122 rfl)) (by decide) (t := .boolean) (t' := .byte) (by decide) (by decide)))
 have f29 := f20.wr W23 g_p0
 have f30 := f21.other W23 (Ne.symm ne5)
 have f31 := f22.wr W23
 refine own_go (fun _ k => st23 _ (XS.goto X23.here hx rfl (pc0 := 22) (pc' := 38) rfl (hb hby d25_22) (by decide) (by decide) k)) ?_
 show own_G _ _ _ (T23.setTop (mkF m 38 #[.val (.ref p0), .val (.int (Int32.ofNat mm))] [])) _ _ _ _
 exact own_endV X23 hx hlk Bd.returns (hb hby d25_38) (by decide) (by decide) (Q := (Q25 Z p0 zc fm mm h0 n0)) (by rw [e23]; exact ⟨b4, k4, rfl, N23, K23_0, f24, f25, f26, f27, f28, f31, f30, sz4_0⟩)
theorem d24_0 : own_d B24 0 (.aload_n 0) 1 := by decide +kernel
theorem d24_1 : own_d B24 1 (.iload_n 1) 1 := by decide +kernel
theorem d24_2 : own_d B24 2 (.invokespecial 1) 3 := by decide +kernel
theorem d24_5 : own_d B24 5 (.return_) 1 := by decide +kernel
theorem pd_21 : parseMethodDescriptor "(I)V" = some ⟨[.int], none⟩ := by decide +kernel
theorem pn_5 : plainName "java/lang/StringBuilder" = true := by first | (simp [plainName, overriddenIn]; done) | decide +kernel
theorem ef_24 (m : MethodId) (p0 : Addr) (mm : Nat) : entryFrame m #[(.ref p0), (.int (Int32.ofNat mm))] 2 = mkF m 0 #[.val (.ref p0), .val (.int (Int32.ofNat mm))] [] := by first | (simp [entryFrame, mkF, argsToLocals, Value.category]; done) | rfl
def Q24 (Z : State) (p0 : Addr) (zc : Int32) (fm : Value) (mm : Nat) (h0 : Heap) (n0 : Nat) (v : Option Value) (h : Heap) (L : List Loc) : Prop := ∃ (va : Addr) (kv : ClassId), v = none ∧ Fr n0 L ∧ Keep h0 h [p0] ∧ Exa Z h p0 "java/lang/StringBuilder" ∧ Fld Z h p0 "java/lang/AbstractStringBuilder" "value" "[B" (.ref va) ∧ Fld Z h p0 "java/lang/AbstractStringBuilder" "coder" "B" (.int 0) ∧ Fld Z h p0 "java/lang/AbstractStringBuilder" "count" "I" (.int 0) ∧ Fld Z h p0 "java/lang/AbstractStringBuilder" "maybeLatin1" "Z" (.int 0) ∧ Exa Z h va "[B" ∧ Arv Z h va kv .byte (Int32.ofNat mm) (own_l1 []) (.int 0) ∧ h0.size ≤ va
theorem rm24 (l : Launch) (Z : State) (a0 : Array Value) (hw : ∀ d ∈ tables_1, d.before a0 Z = true) (ws : List Jvm.Cond) (p0 : Addr) (zc : Int32) (fm : Value) (mm : Nat) (h0 : Heap) (n0 : Nat) (Z0 : n0 ≤ h0.size) (P_E_p0 : Exa Z h0 p0 "java/lang/StringBuilder") (P_F_p0_value : Fld Z h0 p0 "java/lang/AbstractStringBuilder" "value" "[B" .null) (P_F_p0_coder : Fld Z h0 p0 "java/lang/AbstractStringBuilder" "coder" "B" (.int 0)) (P_F_p0_count : Fld Z h0 p0 "java/lang/AbstractStringBuilder" "count" "I" (.int 0)) (P_F_p0_maybeLatin1 : Fld Z h0 p0 "java/lang/AbstractStringBuilder" "maybeLatin1" "Z" (.int 0)) (g_p0 : n0 ≤ p0) (P_Old : Old Z n0 h0) (HA : own_Z Z zc fm) (hm5 : mm ≤ 5) :
   own_M l Z Y37 jdk_67_method_2_code 2 none ws ({ frames := 2, cells := 1, slots := 5, locals := 25 } : Room) #[(.ref p0), (.int (Int32.ofNat mm))] h0 (Q24 Z p0 zc fm mm h0 n0) := by
 refine own_body (C := "java/lang/StringBuilder") rfl (plainFor_of_name pn_5) (fun p e s m below meth c s₁ Bd hx hby hml hown hlk hZ X0 e0 => ?_)
 have N0 := Fr.nil n0
 obtain ⟨Zcs, hcs, Zsi, hfm, Zad, Zhi, Zlo⟩ := id HA
 have K0 : Keep h0 h0 [p0] := Keep.refl h0 [p0]
 refine own_go (fun _ k => castTop (ef_24 m p0 mm) (XS.aloadN X0.here hx rfl (hb hby d24_0) rfl rfl (XS.iloadN X0.here hx rfl (hb hby d24_1) rfl k))) ?_
 obtain ⟨_, _, ⟨T1, L1, k1, n1⟩, -, X1, ⟨Lc1, hQ1, l1, y1, z1⟩, st1⟩ := X0.specialBack hx (y := Y36) rfl hown (mvT hZ (own_h hw 111 rfl)) (mvT hZ (own_h hw 112 rfl)) (mvT hZ (own_h hw 116 rfl)) (by decide) (backOf (W := 0) (rm25 l Z a0 hw [] p0 zc fm mm h0 n0 Z0 P_E_p0 P_F_p0_value P_F_p0_coder P_F_p0_count P_F_p0_maybeLatin1 g_p0 P_Old HA (by assumption)) hZ (own_h hw 116 rfl) (own_h hw 115 rfl) (by decide) (by decide)) (g := (mkF m 2 #[.val (.ref p0), .val (.int (Int32.ofNat mm))] [(.int (Int32.ofNat mm)), (.ref p0)])) rfl (by rw [hml]; rfl) (Steps.refl _) (a := p0) (argsL := [(.int (Int32.ofNat mm))]) (rest := []) (lenOf pd_21 rfl) rfl (own_r0 _) (hb hby d24_2) (fun _ _ => ⟨rfl, e0, (by decide : 0 + 1 ≤ _), (by decide : 0 + 5 ≤ _)⟩)
 dsimp only [Pt.U, Pt.locs, Pt.cells, Pt.slots] at X1 l1 y1 z1 st1 hQ1
 rw [l1] at X1
 subst y1 z1
 obtain ⟨va1, kv1, rfl, Nq1, Kq1, r1_0, r1_1, r1_2, r1_3, r1_4, r1_5, r1_6, r1_7⟩ := hQ1
 have N1 := Fr.app N0 Nq1
 have ne2 := Nat.ne_of_lt (Nat.lt_of_lt_of_le P_E_p0.lt r1_7)
 have gg_va1 := Nat.le_trans Z0 r1_7
 have sz_va1_0 := Nat.le_trans K0.1 r1_7
 have f3 := P_E_p0.keep Kq1
 have f4 := P_Old.keep Kq1 (allS g_p0 all0)
 have Zs1 := Nat.le_trans Z0 Kq1.1
 have K1_0 := K0.trans Kq1 (allS (Or.inl (List.mem_of_getElem? (i := 0) rfl)) all0)
 refine own_go (fun _ k => st1.trans k) ?_
 show own_G _ _ _ (T1.setTop (mkF m 5 #[.val (.ref p0), .val (.int (Int32.ofNat mm))] [])) _ _ _ _
 exact own_endV X1 hx hlk Bd.returns (hb hby d24_5) (by decide) (by decide) (Q := (Q24 Z p0 zc fm mm h0 n0)) ⟨va1, kv1, rfl, N1, K1_0, r1_0, r1_1, r1_2, r1_3, r1_4, r1_5, r1_6, r1_7⟩
theorem d31_0 : own_d B31 0 (.getstatic 18) 3 := by decide +kernel
theorem d31_3 : own_d B31 3 (.ifCond .eq 14) 3 := by decide +kernel
theorem d31_6 : own_d B31 6 (.aload_n 0) 1 := by decide +kernel
theorem d31_7 : own_d B31 7 (.getfield 22) 3 := by decide +kernel
theorem d31_10 : own_d B31 10 (.ifCond .ne 7) 3 := by decide +kernel
theorem d31_13 : own_d B31 13 (.iconst 1) 1 := by decide +kernel
theorem d31_14 : own_d B31 14 (.goto 4) 3 := by decide +kernel
theorem d31_17 : own_d B31 17 (.iconst 0) 1 := by decide +kernel
theorem d31_18 : own_d B31 18 (.ireturn) 1 := by decide +kernel
theorem ef_31a (m : MethodId) (p0 : Addr) : entryFrame m #[(.ref p0)] 1 = mkF m 0 #[.val (.ref p0)] [] := by first | (simp [entryFrame, mkF, argsToLocals, Value.category]; done) | rfl
def Q31a (Z : State) (p0 : Addr) (zc : Int32) (fm : Value) (h0 : Heap) (n0 : Nat) (v : Option Value) (h : Heap) (L : List Loc) : Prop := v = some (.int 1) ∧ Fr n0 L ∧ h = h0
theorem rm31a (l : Launch) (Z : State) (a0 : Array Value) (hw : ∀ d ∈ tables_1, d.before a0 Z = true) (ws : List Jvm.Cond) (p0 : Addr) (zc : Int32) (fm : Value) (h0 : Heap) (n0 : Nat) (Z0 : n0 ≤ h0.size) (P_Old : Old Z n0 h0) (HA : own_Z Z zc fm) (P_F_p0_coder : Fld Z h0 p0 "java/lang/AbstractStringBuilder" "coder" "B" (.int 0)) :
   own_M l Z Y38 jdk_68_method_68_code 1 (some .boolean) ws ({ frames := 0, cells := 0, slots := 0, locals := 0 } : Room) #[(.ref p0)] h0 (Q31a Z p0 zc fm h0 n0) := by
 refine own_body (C := "java/lang/AbstractStringBuilder") rfl (plainFor_of_name pn_4) (fun p e s m below meth c s₁ Bd hx hby hml hown hlk hZ X0 e0 => ?_)
 have N0 := Fr.nil n0
 obtain ⟨Zcs, hcs, Zsi, hfm, Zad, Zhi, Zlo⟩ := id HA
 refine own_go (fun _ k => castTop (ef_31a m p0) k) ?_
 obtain ⟨T1, X1, e1, st1⟩ := getS2 X0 hx hZ hown (host := "") (Or.inl (own_h hw 118 rfl)) Via.refl e0 (Zcs.ext P_Old.2) (g := (mkF m 0 #[.val (.ref p0)] [])) rfl (hb hby d31_0)
 refine own_go (fun _ k => st1 _ k) ?_
 show own_G _ _ _ (T1.setTop (mkF m 3 #[.val (.ref p0)] [(.int zc)])) _ _ _ _
 have hc2 : ¬ (zc = (0 : Int32)) := hcs
 refine own_go (fun _ k => XS.ifNo X1.here hx rfl (hb hby d31_3) rfl ((if0 _ _).trans (feq hc2).1) (XS.aloadN X1.here hx rfl (hb hby d31_6) rfl rfl k)) ?_
 obtain ⟨T3, X3, e3, st3⟩ := getF X1 hx hZ hown (host := "") (Or.inl (own_h hw 121 rfl)) Via.refl e1 P_F_p0_coder (g := (mkF m 7 #[.val (.ref p0)] [(.ref p0)])) rfl rfl (hb hby d31_7)
 refine own_go (fun _ k => st3 _ k) ?_
 show own_G _ _ _ (T3.setTop (mkF m 10 #[.val (.ref p0)] [(.int 0)])) _ _ _ _
 have hc4 : (0 : Int32) = (0 : Int32) := (by decide)
 refine own_go (fun _ k => XS.ifNo X3.here hx rfl (hb hby d31_10) rfl ((if0 _ _).trans (teq hc4).2) (XS.iconst X3.here hx rfl (hb hby d31_13) (XS.goto X3.here hx rfl (pc0 := 14) (pc' := 18) rfl (hb hby d31_14) (by decide) (by decide) k))) ?_
 show own_G _ _ _ (T3.setTop (mkF m 18 #[.val (.ref p0)] [(.int 1)])) _ _ _ _
 exact own_endN X3 hx hlk (t := .boolean) Bd.returns (by simp) (hb hby d31_18) (by decide) (by decide) (Q := (Q31a Z p0 zc fm h0 n0)) (by rw [e3]; exact ⟨rfl, N0, rfl⟩)
def Q31b (Z : State) (p0 : Addr) (zc : Int32) (fm : Value) (h0 : Heap) (n0 : Nat) (v : Option Value) (h : Heap) (L : List Loc) : Prop := v = some (.int 0) ∧ Fr n0 L ∧ h = h0
theorem rm31b (l : Launch) (Z : State) (a0 : Array Value) (hw : ∀ d ∈ tables_1, d.before a0 Z = true) (ws : List Jvm.Cond) (p0 : Addr) (zc : Int32) (fm : Value) (h0 : Heap) (n0 : Nat) (Z0 : n0 ≤ h0.size) (P_Old : Old Z n0 h0) (HA : own_Z Z zc fm) (P_F_p0_coder : Fld Z h0 p0 "java/lang/AbstractStringBuilder" "coder" "B" (.int 1)) :
   own_M l Z Y38 jdk_68_method_68_code 1 (some .boolean) ws ({ frames := 0, cells := 0, slots := 0, locals := 0 } : Room) #[(.ref p0)] h0 (Q31b Z p0 zc fm h0 n0) := by
 refine own_body (C := "java/lang/AbstractStringBuilder") rfl (plainFor_of_name pn_4) (fun p e s m below meth c s₁ Bd hx hby hml hown hlk hZ X0 e0 => ?_)
 have N0 := Fr.nil n0
 obtain ⟨Zcs, hcs, Zsi, hfm, Zad, Zhi, Zlo⟩ := id HA
 refine own_go (fun _ k => castTop (ef_31a m p0) k) ?_
 obtain ⟨T1, X1, e1, st1⟩ := getS2 X0 hx hZ hown (host := "") (Or.inl (own_h hw 118 rfl)) Via.refl e0 (Zcs.ext P_Old.2) (g := (mkF m 0 #[.val (.ref p0)] [])) rfl (hb hby d31_0)
 refine own_go (fun _ k => st1 _ k) ?_
 show own_G _ _ _ (T1.setTop (mkF m 3 #[.val (.ref p0)] [(.int zc)])) _ _ _ _
 have hc2 : ¬ (zc = (0 : Int32)) := hcs
 refine own_go (fun _ k => XS.ifNo X1.here hx rfl (hb hby d31_3) rfl ((if0 _ _).trans (feq hc2).1) (XS.aloadN X1.here hx rfl (hb hby d31_6) rfl rfl k)) ?_
 obtain ⟨T3, X3, e3, st3⟩ := getF X1 hx hZ hown (host := "") (Or.inl (own_h hw 121 rfl)) Via.refl e1 P_F_p0_coder (g := (mkF m 7 #[.val (.ref p0)] [(.ref p0)])) rfl rfl (hb hby d31_7)
 refine own_go (fun _ k => st3 _ k) ?_
 show own_G _ _ _ (T3.setTop (mkF m 10 #[.val (.ref p0)] [(.int 1)])) _ _ _ _
 have hc4 : ¬ ((1 : Int32) = (0 : Int32)) := (by decide)
 refine own_go (fun _ k => XS.ifYes X3.here hx rfl (pc0 := 10) (pc' := 17) rfl (hb hby d31_10) rfl ((if0 _ _).trans (feq hc4).2) (by decide) (by decide) (XS.iconst X3.here hx rfl (hb hby d31_17) k)) ?_
 show own_G _ _ _ (T3.setTop (mkF m 18 #[.val (.ref p0)] [(.int 0)])) _ _ _ _
 exact own_endN X3 hx hlk (t := .boolean) Bd.returns (by simp) (hb hby d31_18) (by decide) (by decide) (Q := (Q31b Z p0 zc fm h0 n0)) (by rw [e3]; exact ⟨rfl, N0, rfl⟩)
theorem d37_0 : own_d B37 0 (.iload_n 0) 1 := by decide +kernel
theorem d37_1 : own_d B37 1 (.sipush 255) 3 := by decide +kernel
theorem d37_4 : own_d B37 4 (.if_icmp .gt 7) 3 := by decide +kernel
theorem d37_7 : own_d B37 7 (.iconst 1) 1 := by decide +kernel
theorem d37_8 : own_d B37 8 (.goto 4) 3 := by decide +kernel
theorem d37_11 : own_d B37 11 (.iconst 0) 1 := by decide +kernel
theorem d37_12 : own_d B37 12 (.ireturn) 1 := by decide +kernel
def own_can_12 (p0 : Int32) (w0 : Int32) : Int32 := (w0 &&& 1)
def own_can (p0 : Int32) : Int32 := (if (255 : Int32) < p0 then (own_can_12 p0 (0 : Int32)) else (own_can_12 p0 (1 : Int32)))
theorem ef_37 (m : MethodId) (p0 : Int32) : entryFrame m #[(.int p0)] 1 = mkF m 0 #[.val (.int p0)] [] := by first | (simp [entryFrame, mkF, argsToLocals, Value.category]; done) | rfl
theorem rm37 (l : Launch) (Z : State) (a0 : Array Value) (hw : ∀ d ∈ tables_1, d.before a0 Z = true) (ws : List Jvm.Cond) (p0 : Int32) (h0 : Heap) (n0 : Nat) :
   MetFree l Y39 (head1 (Jvm.Cond.code Y39 jdk_43_method_3_code 1 (some .boolean) :: ws) ({ frames := 0, cells := 0, slots := 0, locals := 0 } : Room)) (fun a U => a = #[(.int p0)] ∧ Z.Warmed39 U.vm ∧ U.heap = h0) (fun _ _ _ _ _ => True) (fun _ U o U' => ∃ v L, o = .returned v ∧ (own_P n0 h0 (some (.int (own_can p0)))) v U'.heap L ∧ FrameEnd U o U' L ({ frames := 0, cells := 0, slots := 0, locals := 0 } : Room).cells ({ frames := 0, cells := 0, slots := 0, locals := 0 } : Room).slots) := by
 refine MetFree.of_bodySF (plainFor_of_name pn_3) hisR ?_
 intro p e s m args below meth c s₁ Bd hml0 hP hK
 obtain ⟨rfl, hZ, hh⟩ := hP
 have hx := Bd.exec
 have hby := Bd.bytes
 have hml : c.maxLocals = 1 := hml0
 have hown : s.vm.findClass "java/lang/StringLatin1" = some m.cls := findClass_of_methodNamed Bd.named
 have hnm := (name_of_methodNamed Bd.named Bd.method).1
 have hlk : meth.locks = false := BodyLoose.notSynchronized Bd
 have X0 : Stand p l e ({ frames := 0, cells := 0, slots := 0, locals := 0 } : Room) s m #[(.int p0)] below meth c s₁ [] 0 0 := Stand.of_body Bd
 have e0 : s₁.heap = h0 := by rw [← hh, Bd.state]; rfl
 have N0 := Fr.nil n0
 have J12 : ∀ (T : State) (Lc : List Loc) (X : Stand p l e ({ frames := 0, cells := 0, slots := 0, locals := 0 } : Room) s m #[(.int p0)] below meth c T Lc 0 0) (eT : T.heap = h0) (N : Fr n0 Lc) (w0 : Int32) , own_G p.tables e below (T.setTop (mkF m 12 #[.val (.int p0)] [(.int w0)])) s ({ frames := 0, cells := 0, slots := 0, locals := 0 } : Room).cells ({ frames := 0, cells := 0, slots := 0, locals := 0 } : Room).slots (own_P n0 h0 (some (.int (own_can_12 p0 w0)))) := by
   intro T Lc X eT N w0 
   show own_G _ _ _ _ _ _ _ (own_P n0 h0 (some (.int ((w0 &&& 1)))))
   exact own_endN X hx hlk (t := .boolean) Bd.returns (by simp) (hb hby d37_12) (by decide) (by decide) ⟨rfl, N, eT⟩
 show own_G p.tables e below (s₁.setTop (entryFrame m #[(.int p0)] 1)) s ({ frames := 0, cells := 0, slots := 0, locals := 0 } : Room).cells ({ frames := 0, cells := 0, slots := 0, locals := 0 } : Room).slots (own_P n0 h0 (some (.int ((if (255 : Int32) < p0 then (own_can_12 p0 (0 : Int32)) else (own_can_12 p0 (1 : Int32)))))))
 refine own_go (fun _ k => castTop (ef_37 m p0) k) ?_
 refine own_go (fun _ k => XS.iloadN X0.here hx rfl (hb hby d37_0) rfl (XS.sipush X0.here hx rfl (hb hby d37_1) k)) ?_
 show own_G _ _ _ (s₁.setTop (mkF m 4 #[.val (.int p0)] [(.int 255), (.int p0)])) _ _ _ _
 by_cases hc1 : (255 : Int32) < p0
 · refine own_itI hc1 ?_
   refine own_go (fun _ k => XS.icmpYes X0.here hx rfl (pc0 := 4) (pc' := 11) rfl (hb hby d37_4) rfl (tlt hc1).2.2.1 (by decide) (by decide) (XS.iconst X0.here hx rfl (hb hby d37_11) k)) ?_
   show own_G _ _ _ (s₁.setTop (mkF m 12 #[.val (.int p0)] [(.int 0)])) _ _ _ _
   exact J12 _ _ X0 e0 N0 (0 : Int32) 
 · refine own_ifI hc1 ?_
   refine own_go (fun _ k => XS.icmpNo X0.here hx rfl (hb hby d37_4) rfl (flt hc1).2.2.1 (XS.iconst X0.here hx rfl (hb hby d37_7) (XS.goto X0.here hx rfl (pc0 := 8) (pc' := 12) rfl (hb hby d37_8) (by decide) (by decide) k))) ?_
   show own_G _ _ _ (s₁.setTop (mkF m 12 #[.val (.int p0)] [(.int 1)])) _ _ _ _
   exact J12 _ _ X0 e0 N0 (1 : Int32) 
theorem own_canT {x : Int32} (h : own_can x = 0) : (255 : Int32) < x := by
 by_cases q : (255 : Int32) < x
 · exact q
 · rw [own_can, if_neg q] at h
   exact absurd (show ((1 : Int32) &&& 1) = 0 from h) (by decide)
theorem own_canF {x : Int32} (h : ¬ own_can x = 0) : ¬ (255 : Int32) < x := fun q => h (by
 rw [own_can, if_pos q]
 show ((0 : Int32) &&& 1) = 0
 decide)
theorem d32_0 : own_d B32 0 (.aload_n 0) 1 := by decide +kernel
theorem d32_1 : own_d B32 1 (.getfield 9) 3 := by decide +kernel
theorem d32_4 : own_d B32 4 (.areturn) 1 := by decide +kernel
theorem ef_32 (m : MethodId) (p0 : Addr) : entryFrame m #[(.ref p0)] 1 = mkF m 0 #[.val (.ref p0)] [] := by first | (simp [entryFrame, mkF, argsToLocals, Value.category]; done) | rfl
def Q32 (Z : State) (p0 : Addr) (t : Addr) (h0 : Heap) (n0 : Nat) (v : Option Value) (h : Heap) (L : List Loc) : Prop := v = some (.ref t) ∧ Fr n0 L ∧ h = h0
theorem rm32 (l : Launch) (Z : State) (a0 : Array Value) (hw : ∀ d ∈ tables_1, d.before a0 Z = true) (ws : List Jvm.Cond) (p0 : Addr) (t : Addr) (h0 : Heap) (n0 : Nat) (Z0 : n0 ≤ h0.size) (P_F_p0_value : Fld Z h0 p0 "java/lang/String" "value" "[B" (.ref t)) :
   own_M l Z Y40 jdk_42_method_153_code 1 (some (.array .byte)) ws ({ frames := 0, cells := 0, slots := 0, locals := 0 } : Room) #[(.ref p0)] h0 (Q32 Z p0 t h0 n0) := by
 refine own_body (C := "java/lang/String") rfl (plainFor_of_name pn_1) (fun p e s m below meth c s₁ Bd hx hby hml hown hlk hZ X0 e0 => ?_)
 have N0 := Fr.nil n0
 refine own_go (fun _ k => castTop (ef_32 m p0) (XS.aloadN X0.here hx rfl (hb hby d32_0) rfl rfl k)) ?_
 obtain ⟨T1, X1, e1, st1⟩ := getF X0 hx hZ hown (host := "") (Or.inl (own_h hw 27 rfl)) Via.refl e0 P_F_p0_value (g := (mkF m 1 #[.val (.ref p0)] [(.ref p0)])) rfl rfl (hb hby d32_1)
 refine own_go (fun _ k => st1 _ k) ?_
 show own_G _ _ _ (T1.setTop (mkF m 4 #[.val (.ref p0)] [(.ref t)])) _ _ _ _
 exact own_endR X1 hx hlk Bd.returns rfl rfl rfl (hb hby d32_4) (by decide) (by decide) (Q := (Q32 Z p0 t h0 n0)) (by rw [e1]; exact ⟨rfl, N0, rfl⟩)
theorem d41_0 : own_d B41 0 (.aload_n 0) 1 := by decide +kernel
theorem d41_1 : own_d B41 1 (.getfield 15) 3 := by decide +kernel
theorem d41_4 : own_d B41 4 (.areturn) 1 := by decide +kernel
theorem ef_41 (m : MethodId) (p0 : Addr) : entryFrame m #[(.ref p0)] 1 = mkF m 0 #[.val (.ref p0)] [] := by first | (simp [entryFrame, mkF, argsToLocals, Value.category]; done) | rfl
def Q41 (Z : State) (p0 : Addr) (va : Addr) (h0 : Heap) (n0 : Nat) (v : Option Value) (h : Heap) (L : List Loc) : Prop := v = some (.ref va) ∧ Fr n0 L ∧ h = h0
theorem rm41 (l : Launch) (Z : State) (a0 : Array Value) (hw : ∀ d ∈ tables_1, d.before a0 Z = true) (ws : List Jvm.Cond) (p0 : Addr) (va : Addr) (h0 : Heap) (n0 : Nat) (Z0 : n0 ≤ h0.size) (P_F_p0_value : Fld Z h0 p0 "java/lang/AbstractStringBuilder" "value" "[B" (.ref va)) :
   own_M l Z Y41 jdk_68_method_64_code 1 (some (.array .byte)) ws ({ frames := 0, cells := 0, slots := 0, locals := 0 } : Room) #[(.ref p0)] h0 (Q41 Z p0 va h0 n0) := by
 refine own_body (C := "java/lang/AbstractStringBuilder") rfl (plainFor_of_name pn_4) (fun p e s m below meth c s₁ Bd hx hby hml hown hlk hZ X0 e0 => ?_)
 have N0 := Fr.nil n0
 refine own_go (fun _ k => castTop (ef_41 m p0) (XS.aloadN X0.here hx rfl (hb hby d41_0) rfl rfl k)) ?_
 obtain ⟨T1, X1, e1, st1⟩ := getF X0 hx hZ hown (host := "") (Or.inl (own_h hw 119 rfl)) Via.refl e0 P_F_p0_value (g := (mkF m 1 #[.val (.ref p0)] [(.ref p0)])) rfl rfl (hb hby d41_1)
 refine own_go (fun _ k => st1 _ k) ?_
 show own_G _ _ _ (T1.setTop (mkF m 4 #[.val (.ref p0)] [(.ref va)])) _ _ _ _
 exact own_endR X1 hx hlk Bd.returns rfl rfl rfl (hb hby d41_4) (by decide) (by decide) (Q := (Q41 Z p0 va h0 n0)) (by rw [e1]; exact ⟨rfl, N0, rfl⟩)
theorem d43_0 : own_d B43 0 (.aload_n 0) 1 := by decide +kernel
theorem d43_1 : own_d B43 1 (.getfield 79) 3 := by decide +kernel
theorem d43_4 : own_d B43 4 (.ireturn) 1 := by decide +kernel
theorem ef_43 (m : MethodId) (p0 : Addr) : entryFrame m #[(.ref p0)] 1 = mkF m 0 #[.val (.ref p0)] [] := by first | (simp [entryFrame, mkF, argsToLocals, Value.category]; done) | rfl
def Q43 (Z : State) (p0 : Addr) (q : Int32) (h0 : Heap) (n0 : Nat) (v : Option Value) (h : Heap) (L : List Loc) : Prop := v = some (.int q) ∧ Fr n0 L ∧ h = h0
theorem rm43 (l : Launch) (Z : State) (a0 : Array Value) (hw : ∀ d ∈ tables_1, d.before a0 Z = true) (ws : List Jvm.Cond) (p0 : Addr) (q : Int32) (h0 : Heap) (n0 : Nat) (Z0 : n0 ≤ h0.size) (P_E_p0 : Exa Z h0 p0 "java/lang/StringBuilder") (P_F_p0_count : Fld Z h0 p0 "java/lang/AbstractStringBuilder" "count" "I" (.int q)) :
   own_M l Z Y42 jdk_68_method_6_code 1 (some .int) ws ({ frames := 0, cells := 0, slots := 0, locals := 0 } : Room) #[(.ref p0)] h0 (Q43 Z p0 q h0 n0) := by
 refine own_body (C := "java/lang/AbstractStringBuilder") rfl (plainFor_of_name pn_4) (fun p e s m below meth c s₁ Bd hx hby hml hown hlk hZ X0 e0 => ?_)
 have N0 := Fr.nil n0
 refine own_go (fun _ k => castTop (ef_43 m p0) (XS.aloadN X0.here hx rfl (hb hby d43_0) rfl rfl k)) ?_
 obtain ⟨T1, X1, e1, st1⟩ := getF X0 hx hZ hown (host := "") (Or.inl (own_h hw 145 rfl)) Via.refl e0 P_F_p0_count (g := (mkF m 1 #[.val (.ref p0)] [(.ref p0)])) rfl rfl (hb hby d43_1)
 refine own_go (fun _ k => st1 _ k) ?_
 show own_G _ _ _ (T1.setTop (mkF m 4 #[.val (.ref p0)] [(.int q)])) _ _ _ _
 exact own_endI X1 hx hlk Bd.returns (hb hby d43_4) (by decide) (by decide) (Q := (Q43 Z p0 q h0 n0)) (by rw [e1]; exact ⟨rfl, N0, rfl⟩)
theorem d42_0 : own_d B42 0 (.aload_n 0) 1 := by decide +kernel
theorem d42_1 : own_d B42 1 (.invokespecial 343) 3 := by decide +kernel
theorem d42_4 : own_d B42 4 (.ireturn) 1 := by decide +kernel
theorem ef_42 (m : MethodId) (p0 : Addr) : entryFrame m #[(.ref p0)] 1 = mkF m 0 #[.val (.ref p0)] [] := by first | (simp [entryFrame, mkF, argsToLocals, Value.category]; done) | rfl
def Q42 (Z : State) (p0 : Addr) (q : Int32) (h0 : Heap) (n0 : Nat) (v : Option Value) (h : Heap) (L : List Loc) : Prop := v = some (.int q) ∧ Fr n0 L ∧ h = h0
theorem rm42 (l : Launch) (Z : State) (a0 : Array Value) (hw : ∀ d ∈ tables_1, d.before a0 Z = true) (ws : List Jvm.Cond) (p0 : Addr) (q : Int32) (h0 : Heap) (n0 : Nat) (Z0 : n0 ≤ h0.size) (P_E_p0 : Exa Z h0 p0 "java/lang/StringBuilder") (P_F_p0_count : Fld Z h0 p0 "java/lang/AbstractStringBuilder" "count" "I" (.int q)) :
   own_M l Z Y43 jdk_67_method_93_code 1 (some .int) ws ({ frames := 1, cells := 0, slots := 0, locals := 12 } : Room) #[(.ref p0)] h0 (Q42 Z p0 q h0 n0) := by
 refine own_body (C := "java/lang/StringBuilder") rfl (plainFor_of_name pn_5) (fun p e s m below meth c s₁ Bd hx hby hml hown hlk hZ X0 e0 => ?_)
 have N0 := Fr.nil n0
 refine own_go (fun _ k => castTop (ef_42 m p0) (XS.aloadN X0.here hx rfl (hb hby d42_0) rfl rfl k)) ?_
 obtain ⟨_, _, ⟨T1, L1, k1, n1⟩, -, X1, ⟨Lc1, hQ1, l1, y1, z1⟩, st1⟩ := superBack X0 hx hZ (y := Y42) hown (own_h hw 215 rfl) (own_samem (own_h hw 150 rfl) rfl (own_h hw 211 rfl) (by decide)) (own_h hw 211 rfl) (own_h hw 130 rfl) (by decide) (backOf (W := 0) (rm43 l Z a0 hw [] p0 q h0 n0 Z0 P_E_p0 P_F_p0_count) hZ (own_h hw 216 rfl) (own_h hw 115 rfl) (by decide) (by decide)) e0 (Ins.self P_E_p0) (g := (mkF m 1 #[.val (.ref p0)] [(.ref p0)])) rfl (by rw [hml]; rfl) (own_h hw 216 rfl) (argsL := []) (rest := []) (lenOf pd_13 rfl) rfl (own_r0 _) (hb hby d42_1) (fun _ _ => ⟨rfl, e0, (by decide : 0 + 0 ≤ _), (by decide : 0 + 0 ≤ _)⟩)
 dsimp only [Pt.U, Pt.locs, Pt.cells, Pt.slots] at X1 l1 y1 z1 st1 hQ1
 rw [l1] at X1
 subst y1 z1
 obtain ⟨rfl, Nq1, eh1⟩ := hQ1
 have N1 := Fr.app N0 Nq1
 refine own_go (fun _ k => st1.trans k) ?_
 show own_G _ _ _ (T1.setTop (mkF m 4 #[.val (.ref p0)] [(.int q)])) _ _ _ _
 exact own_endI X1 hx hlk Bd.returns (hb hby d42_4) (by decide) (by decide) (Q := (Q42 Z p0 q h0 n0)) (by rw [eh1]; exact ⟨rfl, N1, rfl⟩)
theorem d29_0 : own_d B29 0 (.aload_n 0) 1 := by decide +kernel
theorem d29_1 : own_d B29 1 (.getfield 15) 3 := by decide +kernel
theorem d29_4 : own_d B29 4 (.arraylength) 1 := by decide +kernel
theorem d29_5 : own_d B29 5 (.aload_n 0) 1 := by decide +kernel
theorem d29_6 : own_d B29 6 (.getfield 22) 3 := by decide +kernel
theorem d29_9 : own_d B29 9 (.ishr) 1 := by decide +kernel
theorem d29_10 : own_d B29 10 (.istore_n 2) 1 := by decide +kernel
theorem d29_11 : own_d B29 11 (.iload_n 1) 1 := by decide +kernel
theorem d29_12 : own_d B29 12 (.iload_n 2) 1 := by decide +kernel
theorem d29_13 : own_d B29 13 (.isub) 1 := by decide +kernel
theorem d29_14 : own_d B29 14 (.ifCond .le 24) 3 := by decide +kernel
theorem d29_38 : own_d B29 38 (.return_) 1 := by decide +kernel
theorem ef_29 (m : MethodId) (p0 : Addr) (qn : Nat) : entryFrame m #[(.ref p0), (.int (Int32.ofNat qn))] 3 = mkF m 0 #[.val (.ref p0), .val (.int (Int32.ofNat qn)), .unset] [] := by first | (simp [entryFrame, mkF, argsToLocals, Value.category]; done) | rfl
def Q29 (Z : State) (p0 : Addr) (va : Addr) (kv : ClassId) (bo : Int32) (ds : List Int32) (mm : Nat) (qn : Nat) (h0 : Heap) (n0 : Nat) (v : Option Value) (h : Heap) (L : List Loc) : Prop := v = none ∧ Fr n0 L ∧ h = h0
theorem rm29 (l : Launch) (Z : State) (a0 : Array Value) (hw : ∀ d ∈ tables_1, d.before a0 Z = true) (ws : List Jvm.Cond) (p0 : Addr) (va : Addr) (kv : ClassId) (bo : Int32) (ds : List Int32) (mm : Nat) (qn : Nat) (h0 : Heap) (n0 : Nat) (Z0 : n0 ≤ h0.size) (P_F_p0_value : Fld Z h0 p0 "java/lang/AbstractStringBuilder" "value" "[B" (.ref va)) (P_F_p0_coder : Fld Z h0 p0 "java/lang/AbstractStringBuilder" "coder" "B" (.int bo)) (P_V_va : Arv Z h0 va kv .byte (own_cap bo mm) (own_sv bo ds) (.int 0)) (hB : own_BK bo ds mm) (hqm : qn ≤ mm) :
   own_M l Z Y44 jdk_68_method_9_code 3 none ws ({ frames := 0, cells := 0, slots := 0, locals := 0 } : Room) #[(.ref p0), (.int (Int32.ofNat qn))] h0 (Q29 Z p0 va kv bo ds mm qn h0 n0) := by
 refine own_body (C := "java/lang/AbstractStringBuilder") rfl (plainFor_of_name pn_4) (fun p e s m below meth c s₁ Bd hx hby hml hown hlk hZ X0 e0 => ?_)
 have N0 := Fr.nil n0
 refine own_go (fun _ k => castTop (ef_29 m p0 qn) k) ?_
 show own_G _ _ _ (s₁.setTop (mkF m 0 #[.val (.ref p0), .val (.int (Int32.ofNat qn)), .unset] [])) _ _ _ _
 rcases hB.1 with ⟨ebo, h255b⟩ | ebo
 · have co1a : Fld Z h0 p0 "java/lang/AbstractStringBuilder" "coder" "B" (.int 0) := own_f ebo P_F_p0_coder
   have co1b : Arv Z h0 va kv .byte (Int32.ofNat mm) (own_l1 ds) (.int 0) := own_v0 ebo P_V_va
   show own_G _ _ _ (s₁.setTop (mkF m 0 #[.val (.ref p0), .val (.int (Int32.ofNat qn)), .unset] [])) _ _ _ _
   refine own_go (fun _ k => XS.aloadN X0.here hx rfl (hb hby d29_0) rfl rfl k) ?_
   obtain ⟨T2, X2, e2, st2⟩ := getF X0 hx hZ hown (host := "") (Or.inl (own_h hw 119 rfl)) Via.refl e0 P_F_p0_value (g := (mkF m 1 #[.val (.ref p0), .val (.int (Int32.ofNat qn)), .unset] [(.ref p0)])) rfl rfl (hb hby d29_1)
   refine own_go (fun _ k => st2 _ k) ?_
   obtain ⟨cl3, Ar3, -, S3, Ng3, -, -⟩ := id co1b
   refine own_go (fun _ k => X2.arraylength hx (by rw [e2]; exact Ar3.1) (State.isArrayOf_alike hZ.alike Ar3.2.1) (g := (mkF m 4 #[.val (.ref p0), .val (.int (Int32.ofNat qn)), .unset] [(.ref va)])) rfl rfl (hb hby d29_4) _ k) ?_
   rw [len_of S3 Ng3]
   show own_G _ _ _ (T2.setTop (mkF m 5 #[.val (.ref p0), .val (.int (Int32.ofNat qn)), .unset] [(.int (Int32.ofNat mm))])) _ _ _ _
   refine own_go (fun _ k => XS.aloadN X2.here hx rfl (hb hby d29_5) rfl rfl k) ?_
   obtain ⟨T4, X4, e4, st4⟩ := getF X2 hx hZ hown (host := "") (Or.inl (own_h hw 121 rfl)) Via.refl e2 co1a (g := (mkF m 6 #[.val (.ref p0), .val (.int (Int32.ofNat qn)), .unset] [(.ref p0), (.int (Int32.ofNat mm))])) rfl rfl (hb hby d29_6)
   refine own_go (fun _ k => st4 _ k) ?_
   show own_G _ _ _ (T4.setTop (mkF m 9 #[.val (.ref p0), .val (.int (Int32.ofNat qn)), .unset] [(.int 0), (.int (Int32.ofNat mm))])) _ _ _ _
   refine own_go (fun _ k => XS.ishr X4.here hx rfl (hb hby d29_9) rfl k) ?_
   rw [StrChars.shr0]
   show own_G _ _ _ (T4.setTop (mkF m 10 #[.val (.ref p0), .val (.int (Int32.ofNat qn)), .unset] [(.int (Int32.ofNat mm))])) _ _ _ _
   refine own_go (fun _ k => XS.istoreN X4.here hx rfl (hb hby d29_10) rfl (l' := #[.val (.ref p0), .val (.int (Int32.ofNat qn)), .val (.int (Int32.ofNat mm))]) rfl (XS.iloadN X4.here hx rfl (hb hby d29_11) rfl (XS.iloadN X4.here hx rfl (hb hby d29_12) rfl (XS.isub X4.here hx rfl (hb hby d29_13) rfl k)))) ?_
   show own_G _ _ _ (T4.setTop (mkF m 14 #[.val (.ref p0), .val (.int (Int32.ofNat qn)), .val (.int (Int32.ofNat mm))] [(.int ((Int32.ofNat qn) - (Int32.ofNat mm)))])) _ _ _ _
   have hc5 : ¬ ((0 : Int32) < ((Int32.ofNat qn) - (Int32.ofNat mm))) := (own_sle qn mm hB.2.2 hqm)
   refine own_go (fun _ k => XS.ifYes X4.here hx rfl (pc0 := 14) (pc' := 38) rfl (hb hby d29_14) rfl ((if0 _ _).trans (flt hc5).2.2.2) (by decide) (by decide) k) ?_
   show own_G _ _ _ (T4.setTop (mkF m 38 #[.val (.ref p0), .val (.int (Int32.ofNat qn)), .val (.int (Int32.ofNat mm))] [])) _ _ _ _
   exact own_endV X4 hx hlk Bd.returns (hb hby d29_38) (by decide) (by decide) (Q := (Q29 Z p0 va kv bo ds mm qn h0 n0)) (by rw [e4]; exact ⟨rfl, N0, rfl⟩)
 · have co1a : Fld Z h0 p0 "java/lang/AbstractStringBuilder" "coder" "B" (.int 1) := own_f ebo P_F_p0_coder
   have co1b : Arv Z h0 va kv .byte (Int32.ofNat (2 * mm)) (own_w ds) (.int 0) := own_v1 ebo P_V_va
   show own_G _ _ _ (s₁.setTop (mkF m 0 #[.val (.ref p0), .val (.int (Int32.ofNat qn)), .unset] [])) _ _ _ _
   refine own_go (fun _ k => XS.aloadN X0.here hx rfl (hb hby d29_0) rfl rfl k) ?_
   obtain ⟨T6, X6, e6, st6⟩ := getF X0 hx hZ hown (host := "") (Or.inl (own_h hw 119 rfl)) Via.refl e0 P_F_p0_value (g := (mkF m 1 #[.val (.ref p0), .val (.int (Int32.ofNat qn)), .unset] [(.ref p0)])) rfl rfl (hb hby d29_1)
   refine own_go (fun _ k => st6 _ k) ?_
   obtain ⟨cl7, Ar7, -, S7, Ng7, -, -⟩ := id co1b
   refine own_go (fun _ k => X6.arraylength hx (by rw [e6]; exact Ar7.1) (State.isArrayOf_alike hZ.alike Ar7.2.1) (g := (mkF m 4 #[.val (.ref p0), .val (.int (Int32.ofNat qn)), .unset] [(.ref va)])) rfl rfl (hb hby d29_4) _ k) ?_
   rw [len_of S7 Ng7]
   show own_G _ _ _ (T6.setTop (mkF m 5 #[.val (.ref p0), .val (.int (Int32.ofNat qn)), .unset] [(.int (Int32.ofNat (2 * mm)))])) _ _ _ _
   refine own_go (fun _ k => XS.aloadN X6.here hx rfl (hb hby d29_5) rfl rfl k) ?_
   obtain ⟨T8, X8, e8, st8⟩ := getF X6 hx hZ hown (host := "") (Or.inl (own_h hw 121 rfl)) Via.refl e6 co1a (g := (mkF m 6 #[.val (.ref p0), .val (.int (Int32.ofNat qn)), .unset] [(.ref p0), (.int (Int32.ofNat (2 * mm)))])) rfl rfl (hb hby d29_6)
   refine own_go (fun _ k => st8 _ k) ?_
   show own_G _ _ _ (T8.setTop (mkF m 9 #[.val (.ref p0), .val (.int (Int32.ofNat qn)), .unset] [(.int 1), (.int (Int32.ofNat (2 * mm)))])) _ _ _ _
   refine own_go (fun _ k => XS.ishr X8.here hx rfl (hb hby d29_9) rfl k) ?_
   rw [own_shr1 mm (by have := hB.2.2; omega)]
   show own_G _ _ _ (T8.setTop (mkF m 10 #[.val (.ref p0), .val (.int (Int32.ofNat qn)), .unset] [(.int (Int32.ofNat mm))])) _ _ _ _
   refine own_go (fun _ k => XS.istoreN X8.here hx rfl (hb hby d29_10) rfl (l' := #[.val (.ref p0), .val (.int (Int32.ofNat qn)), .val (.int (Int32.ofNat mm))]) rfl (XS.iloadN X8.here hx rfl (hb hby d29_11) rfl (XS.iloadN X8.here hx rfl (hb hby d29_12) rfl (XS.isub X8.here hx rfl (hb hby d29_13) rfl k)))) ?_
   show own_G _ _ _ (T8.setTop (mkF m 14 #[.val (.ref p0), .val (.int (Int32.ofNat qn)), .val (.int (Int32.ofNat mm))] [(.int ((Int32.ofNat qn) - (Int32.ofNat mm)))])) _ _ _ _
   have hc9 : ¬ ((0 : Int32) < ((Int32.ofNat qn) - (Int32.ofNat mm))) := (own_sle qn mm hB.2.2 hqm)
   refine own_go (fun _ k => XS.ifYes X8.here hx rfl (pc0 := 14) (pc' := 38) rfl (hb hby d29_14) rfl ((if0 _ _).trans (flt hc9).2.2.2) (by decide) (by decide) k) ?_
   show own_G _ _ _ (T8.setTop (mkF m 38 #[.val (.ref p0), .val (.int (Int32.ofNat qn)), .val (.int (Int32.ofNat mm))] [])) _ _ _ _
   exact own_endV X8 hx hlk Bd.returns (hb hby d29_38) (by decide) (by decide) (Q := (Q29 Z p0 va kv bo ds mm qn h0 n0)) (by rw [e8]; exact ⟨rfl, N0, rfl⟩)
theorem d65_0 : own_d B65 0 (.iload_n 0) 1 := by decide +kernel
theorem d65_1 : own_d B65 1 (.iload_n 1) 1 := by decide +kernel
theorem d65_2 : own_d B65 2 (.aload_n 2) 1 := by decide +kernel
theorem d65_3 : own_d B65 3 (.invokestatic 48) 3 := by decide +kernel
theorem d65_6 : own_d B65 6 (.invokestatic 419) 3 := by decide +kernel
theorem d65_9 : own_d B65 9 (.pop) 1 := by decide +kernel
theorem d65_10 : own_d B65 10 (.return_) 1 := by decide +kernel
theorem pd_22 : parseMethodDescriptor "(III)I" = some ⟨[.int, .int, .int], some .int⟩ := by decide +kernel
theorem ef_65 (m : MethodId) (p2 : Addr) (n : Nat) : entryFrame m #[(.int 0), (.int (Int32.ofNat n)), (.ref p2)] 3 = mkF m 0 #[.val (.int 0), .val (.int (Int32.ofNat n)), .val (.ref p2)] [] := by first | (simp [entryFrame, mkF, argsToLocals, Value.category]; done) | rfl
def Q65 (Z : State) (p2 : Addr) (n : Nat) (mm : Nat) (kb : ClassId) (ds : List Int32) (zc : Int32) (fm : Value) (h0 : Heap) (n0 : Nat) (v : Option Value) (h : Heap) (L : List Loc) : Prop := v = none ∧ Fr n0 L ∧ h = h0
theorem rm65 (l : Launch) (Z : State) (a0 : Array Value) (hw : ∀ d ∈ tables_1, d.before a0 Z = true) (ws : List Jvm.Cond) (p2 : Addr) (n : Nat) (mm : Nat) (kb : ClassId) (ds : List Int32) (zc : Int32) (fm : Value) (h0 : Heap) (n0 : Nat) (Z0 : n0 ≤ h0.size) (P_Old : Old Z n0 h0) (HA : own_Z Z zc fm) (P_V_p2 : Arv Z h0 p2 kb .byte (Int32.ofNat (2 * mm)) (own_w ds) (.int 0)) (hm : mm ≤ 22) (hnmm : n ≤ mm) :
   own_M l Z Y45 jdk_52_method_94_code 3 none ws ({ frames := 2, cells := 0, slots := 0, locals := 29 } : Room) #[(.int 0), (.int (Int32.ofNat n)), (.ref p2)] h0 (Q65 Z p2 n mm kb ds zc fm h0 n0) := by
 refine own_body (C := "java/lang/StringUTF16") rfl (plainFor_of_name pn_2) (fun p e s m below meth c s₁ Bd hx hby hml hown hlk hZ X0 e0 => ?_)
 have hnm := (name_of_methodNamed Bd.named Bd.method).1
 have N0 := Fr.nil n0
 obtain ⟨Zcs, hcs, Zsi, hfm, Zad, Zhi, Zlo⟩ := id HA
 refine own_go (fun _ k => castTop (ef_65 m p2 n) (XS.iloadN X0.here hx rfl (hb hby d65_0) rfl (XS.iloadN X0.here hx rfl (hb hby d65_1) rfl (XS.aloadN X0.here hx rfl (hb hby d65_2) rfl rfl k)))) ?_
 obtain ⟨_, _, ⟨T1, L1, k1, n1⟩, -, X1, ⟨Lc1, hQ1, l1, y1, z1⟩, st1⟩ := Jvm.LawKit.callS X0 hx (y := Y7) hown (mvT hZ (own_h hw 276 rfl)) (mvT hZ (own_h hw 277 rfl)) (mvT hZ (own_h hw 56 rfl)) (mvT hZ (own_h hw 278 rfl)) (by decide) (backOf (W := 2) (rm57 l Z a0 hw [] p2 mm kb ds h0 n0 Z0 P_V_p2 (by assumption)) hZ (own_h hw 278 rfl) (own_h hw 56 rfl) (by decide) (by decide)) (g := (mkF m 3 #[.val (.int 0), .val (.int (Int32.ofNat n)), .val (.ref p2)] [(.ref p2), (.int (Int32.ofNat n)), (.int 0)])) rfl (by rw [hml]; rfl) (argsL := [(.ref p2)]) (rest := [(.int (Int32.ofNat n)), (.int 0)]) (lenOf pd_2 rfl) rfl (own_r0 _) (hb hby d65_3) (fun _ _ => ⟨rfl, e0, (by decide : 0 + 0 ≤ _), (by decide : 0 + 0 ≤ _)⟩)
 dsimp only [Pt.U, Pt.locs, Pt.cells, Pt.slots] at X1 l1 y1 z1 st1 hQ1
 rw [l1] at X1
 subst y1 z1
 obtain ⟨rfl, Nq1, eh1⟩ := hQ1
 have N1 := Fr.app N0 Nq1
 refine own_go (fun _ k => st1 _ k) ?_
 obtain ⟨_, _, ⟨T2, L2, k2, n2⟩, -, X2, ⟨Lc2, hQ2, l2, y2, z2⟩, st2⟩ := Jvm.LawKit.callS X1 hx (y := Y6) hown (mvT hZ (own_h hw 309 rfl)) (mvT hZ (own_h hw 310 rfl)) (mvT hZ (own_h hw 8 rfl)) (mvT hZ (own_h hw 311 rfl)) (by decide) (backOf (W := 0) (rm66 l Z a0 hw [] (Int32.ofNat n) (Int32.ofNat mm) zc fm h0 n0 Z0 P_Old HA (own_or0 mm n hm (by omega)) (own_sb0 mm n hm hnmm)) hZ (own_h hw 311 rfl) (own_h hw 8 rfl) (by decide) (by decide)) (g := (mkF m 6 #[.val (.int 0), .val (.int (Int32.ofNat n)), .val (.ref p2)] [(.int (Int32.ofNat mm)), (.int (Int32.ofNat n)), (.int 0)])) rfl (by rw [hml]; rfl) (argsL := [(.int 0), (.int (Int32.ofNat n)), (.int (Int32.ofNat mm))]) (rest := []) (lenOf pd_22 rfl) rfl (own_r0 _) (hb hby d65_6) (fun _ _ => ⟨rfl, eh1, (by decide : 0 + 0 ≤ _), (by decide : 0 + 0 ≤ _)⟩)
 dsimp only [Pt.U, Pt.locs, Pt.cells, Pt.slots] at X2 l2 y2 z2 st2 hQ2
 rw [l2] at X2
 subst y2 z2
 obtain ⟨rfl, Nq2, eh2⟩ := hQ2
 have N2 := Fr.app N1 Nq2
 refine own_go (fun _ k => st2 _ (XS.pop X2.here hx rfl (hb hby d65_9) rfl rfl k)) ?_
 show own_G _ _ _ (T2.setTop (mkF m 10 #[.val (.int 0), .val (.int (Int32.ofNat n)), .val (.ref p2)] [])) _ _ _ _
 exact own_endV X2 hx hlk Bd.returns (hb hby d65_10) (by decide) (by decide) (Q := (Q65 Z p2 n mm kb ds zc fm h0 n0)) (by rw [eh2]; exact ⟨rfl, N2, rfl⟩)
theorem d64_0 : own_d B64 0 (.iload_n 3) 1 := by decide +kernel
theorem d64_1 : own_d B64 1 (.iload 4) 2 := by decide +kernel
theorem d64_3 : own_d B64 3 (.aload_n 2) 1 := by decide +kernel
theorem d64_4 : own_d B64 4 (.invokestatic 173) 3 := by decide +kernel
theorem d64_7 : own_d B64 7 (.iconst 0) 1 := by decide +kernel
theorem d64_8 : own_d B64 8 (.istore 5) 2 := by decide +kernel
theorem d64_10 : own_d B64 10 (.iload 5) 2 := by decide +kernel
theorem d64_12 : own_d B64 12 (.iload 4) 2 := by decide +kernel
theorem d64_14 : own_d B64 14 (.if_icmp .ge 27) 3 := by decide +kernel
theorem d64_17 : own_d B64 17 (.aload_n 2) 1 := by decide +kernel
theorem d64_18 : own_d B64 18 (.iload_n 3) 1 := by decide +kernel
theorem d64_19 : own_d B64 19 (.iinc 3 1) 3 := by decide +kernel
theorem d64_22 : own_d B64 22 (.aload_n 0) 1 := by decide +kernel
theorem d64_23 : own_d B64 23 (.iload_n 1) 1 := by decide +kernel
theorem d64_24 : own_d B64 24 (.iinc 1 1) 3 := by decide +kernel
theorem d64_27 : own_d B64 27 (.baload) 1 := by decide +kernel
theorem d64_28 : own_d B64 28 (.sipush 255) 3 := by decide +kernel
theorem d64_31 : own_d B64 31 (.iand) 1 := by decide +kernel
theorem d64_32 : own_d B64 32 (.invokestatic 111) 3 := by decide +kernel
theorem d64_35 : own_d B64 35 (.iinc 5 1) 3 := by decide +kernel
theorem d64_38 : own_d B64 38 (.goto (-28)) 3 := by decide +kernel
theorem d64_41 : own_d B64 41 (.return_) 1 := by decide +kernel
theorem ef_64 (m : MethodId) (p0 : Addr) (p2 : Addr) (n : Nat) : entryFrame m #[(.ref p0), (.int 0), (.ref p2), (.int 0), (.int (Int32.ofNat n))] 6 = mkF m 0 #[.val (.ref p0), .val (.int 0), .val (.ref p2), .val (.int 0), .val (.int (Int32.ofNat n)), .unset] [] := by first | (simp [entryFrame, mkF, argsToLocals, Value.category]; done) | rfl
def Q64 (Z : State) (p0 : Addr) (p2 : Addr) (n : Nat) (mm : Nat) (kb : ClassId) (kd : ClassId) (ds : List Int32) (zc : Int32) (fm : Value) (h0 : Heap) (n0 : Nat) (v : Option Value) (h : Heap) (L : List Loc) : Prop := v = none ∧ Fr n0 L ∧ Keep h0 h [p2] ∧ Arv Z h p2 kd .byte (Int32.ofNat (2 * mm)) (own_w ds) (.int 0)
theorem rm64 (l : Launch) (Z : State) (a0 : Array Value) (hw : ∀ d ∈ tables_1, d.before a0 Z = true) (ws : List Jvm.Cond) (p0 : Addr) (p2 : Addr) (n : Nat) (mm : Nat) (kb : ClassId) (kd : ClassId) (ds : List Int32) (zc : Int32) (fm : Value) (h0 : Heap) (n0 : Nat) (Z0 : n0 ≤ h0.size) (P_Old : Old Z n0 h0) (HA : own_Z Z zc fm) (P_V_p0 : Arv Z h0 p0 kb .byte (Int32.ofNat mm) (own_l1 ds) (.int 0)) (P_V_p2 : Arv Z h0 p2 kd .byte (Int32.ofNat (2 * mm)) (own_w []) (.int 0)) (hm5 : mm ≤ 5) (hdn : ds.length = n) (hnmm : n ≤ mm) (hr : ∀ c ∈ ds, own_r c) (ha8 : ∀ c ∈ ds, ¬ (255 : Int32) < c) (g_p2 : n0 ≤ p2) (npq : p0 ≠ p2) :
   own_M l Z Y46 jdk_52_method_86_code 6 none ws ({ frames := 3, cells := 0, slots := 0, locals := 43 } : Room) #[(.ref p0), (.int 0), (.ref p2), (.int 0), (.int (Int32.ofNat n))] h0 (Q64 Z p0 p2 n mm kb kd ds zc fm h0 n0) := by
 refine own_body (C := "java/lang/StringUTF16") rfl (plainFor_of_name pn_2) (fun p e s m below meth c s₁ Bd hx hby hml hown hlk hZ X0 e0 => ?_)
 have hnm := (name_of_methodNamed Bd.named Bd.method).1
 have N0 := Fr.nil n0
 obtain ⟨Zcs, hcs, Zsi, hfm, Zad, Zhi, Zlo⟩ := id HA
 have K0 : Keep h0 h0 [p2] := Keep.refl h0 [p2]
 refine own_go (fun _ k => castTop (ef_64 m p0 p2 n) (XS.iloadN X0.here hx rfl (hb hby d64_0) rfl (XS.iload X0.here hx rfl (hb hby d64_1) rfl (XS.aloadN X0.here hx rfl (hb hby d64_3) rfl rfl k)))) ?_
 obtain ⟨_, _, ⟨T1, L1, k1, n1⟩, -, X1, ⟨Lc1, hQ1, l1, y1, z1⟩, st1⟩ := Jvm.LawKit.callS X0 hx (y := Y45) hown (mvT hZ (own_h hw 306 rfl)) (mvT hZ (own_h hw 307 rfl)) (mvT hZ (own_h hw 56 rfl)) (mvT hZ (own_h hw 308 rfl)) (by decide) (backOf (W := 0) (rm65 l Z a0 hw [] p2 n mm kd ([]) zc fm h0 n0 Z0 P_Old HA P_V_p2 (by omega) hnmm) hZ (own_h hw 308 rfl) (own_h hw 56 rfl) (by decide) (by decide)) (g := (mkF m 4 #[.val (.ref p0), .val (.int 0), .val (.ref p2), .val (.int 0), .val (.int (Int32.ofNat n)), .unset] [(.ref p2), (.int (Int32.ofNat n)), (.int 0)])) rfl (by rw [hml]; rfl) (argsL := [(.int 0), (.int (Int32.ofNat n)), (.ref p2)]) (rest := []) (lenOf pd_12 rfl) rfl (own_r0 _) (hb hby d64_4) (fun _ _ => ⟨rfl, e0, (by decide : 0 + 0 ≤ _), (by decide : 0 + 0 ≤ _)⟩)
 dsimp only [Pt.U, Pt.locs, Pt.cells, Pt.slots] at X1 l1 y1 z1 st1 hQ1
 rw [l1] at X1
 subst y1 z1
 obtain ⟨rfl, Nq1, eh1⟩ := hQ1
 have N1 := Fr.app N0 Nq1
 refine own_go (fun _ k => st1 _ (XS.iconst X1.here hx rfl (hb hby d64_7) (XS.istore X1.here hx rfl (hb hby d64_8) rfl (l' := #[.val (.ref p0), .val (.int 0), .val (.ref p2), .val (.int 0), .val (.int (Int32.ofNat n)), .val (.int 0)]) rfl k))) ?_
 show own_G _ _ _ (T1.setTop (mkF m 10 #[.val (.ref p0), .val (.int 0), .val (.ref p2), .val (.int 0), .val (.int (Int32.ofNat n)), .val (.int 0)] [])) _ _ _ _
 have loop : ∀ (f i : Nat) (hif : i + f = n) (T : State) (Lc : List Loc) (hp : Heap) (cz sz : Nat) (X : Stand p l e ({ frames := 3, cells := 0, slots := 0, locals := 43 } : Room) s m #[(.ref p0), (.int 0), (.ref p2), (.int 0), (.int (Int32.ofNat n))] below meth c T Lc cz sz) (eT : T.heap = hp) (Nn : Fr n0 Lc) (Zp : n0 ≤ hp.size) (Kp : Keep h0 hp [p2]) (hcz : cz + f * 0 + 0 ≤ 0) (hsz : sz + f * 0 + 0 ≤ 0) (J0 : Old Z n0 hp) (J1 : Arv Z hp p0 kb .byte (Int32.ofNat mm) (own_l1 ds) (.int 0)) (J2 : Arv Z hp p2 kd .byte (Int32.ofNat (2 * mm)) (own_w (ds.take i)) (.int 0)), own_G p.tables e below (T.setTop (mkF m 10 #[.val (.ref p0), .val (.int (Int32.ofNat i)), .val (.ref p2), .val (.int (Int32.ofNat i)), .val (.int (Int32.ofNat n)), .val (.int (Int32.ofNat i))] [])) s ({ frames := 3, cells := 0, slots := 0, locals := 43 } : Room).cells ({ frames := 3, cells := 0, slots := 0, locals := 43 } : Room).slots (Q64 Z p0 p2 n mm kb kd ds zc fm h0 n0) := by
   intro f
   induction f with
   | zero =>
     intro i hif T Lc hp cz sz X eT Nn Zp Kp hcz hsz J0 J1 J2
     have hin : n = i := by omega
     subst hin
     refine own_go (fun _ k => XS.iload X.here hx rfl (hb hby d64_10) rfl (XS.iload X.here hx rfl (hb hby d64_12) rfl k)) ?_
     show own_G _ _ _ (T.setTop (mkF m 14 #[.val (.ref p0), .val (.int (Int32.ofNat n)), .val (.ref p2), .val (.int (Int32.ofNat n)), .val (.int (Int32.ofNat n)), .val (.int (Int32.ofNat n))] [(.int (Int32.ofNat n)), (.int (Int32.ofNat n))])) _ _ _ _
     have hc8 : ¬ ((Int32.ofNat n) < (Int32.ofNat n)) := (own_irr _)
     refine own_go (fun _ k => XS.icmpYes X.here hx rfl (pc0 := 14) (pc' := 41) rfl (hb hby d64_14) rfl (flt hc8).2.1 (by decide) (by decide) k) ?_
     show own_G _ _ _ (T.setTop (mkF m 41 #[.val (.ref p0), .val (.int (Int32.ofNat n)), .val (.ref p2), .val (.int (Int32.ofNat n)), .val (.int (Int32.ofNat n)), .val (.int (Int32.ofNat n))] [])) _ _ _ _
     exact own_endV X hx hlk Bd.returns (hb hby d64_41) (by first | decide | omega | (dsimp only [Pt.cells, Pt.slots]; omega)) (by first | decide | omega | (dsimp only [Pt.cells, Pt.slots]; omega)) (Q := (Q64 Z p0 p2 n mm kb kd ds zc fm h0 n0)) (by rw [eT]; exact ⟨rfl, Nn, Kp, (by have q := J2; rw [List.take_of_length_le (by omega)] at q; exact q)⟩)
   | succ f ih =>
     intro i hif T Lc hp cz sz X eT Nn Zp Kp hcz hsz J0 J1 J2
     have hin : i < n := by omega
     refine own_go (fun _ k => XS.iload X.here hx rfl (hb hby d64_10) rfl (XS.iload X.here hx rfl (hb hby d64_12) rfl k)) ?_
     show own_G _ _ _ (T.setTop (mkF m 14 #[.val (.ref p0), .val (.int (Int32.ofNat i)), .val (.ref p2), .val (.int (Int32.ofNat i)), .val (.int (Int32.ofNat n)), .val (.int (Int32.ofNat i))] [(.int (Int32.ofNat n)), (.int (Int32.ofNat i))])) _ _ _ _
     have hc2 : (Int32.ofNat i) < (Int32.ofNat n) := (own_ltI i n (by omega) (by omega)).mpr hin
     refine own_go (fun _ k => XS.icmpNo X.here hx rfl (hb hby d64_14) rfl (tlt hc2).2.1 (XS.aloadN X.here hx rfl (hb hby d64_17) rfl rfl (XS.iloadN X.here hx rfl (hb hby d64_18) rfl k))) ?_
     show own_G _ _ _ (T.setTop (mkF m 19 #[.val (.ref p0), .val (.int (Int32.ofNat i)), .val (.ref p2), .val (.int (Int32.ofNat i)), .val (.int (Int32.ofNat n)), .val (.int (Int32.ofNat i))] [(.int (Int32.ofNat i)), (.ref p2)])) _ _ _ _
     refine own_go (fun _ k => XS.iinc X.here hx rfl (hb hby d64_19) rfl (l' := #[.val (.ref p0), .val (.int (Int32.ofNat i)), .val (.ref p2), .val (.int ((Int32.ofNat i) + (1 : Int32))), .val (.int (Int32.ofNat n)), .val (.int (Int32.ofNat i))]) rfl k) ?_
     rw [own_inc i]
     show own_G _ _ _ (T.setTop (mkF m 22 #[.val (.ref p0), .val (.int (Int32.ofNat i)), .val (.ref p2), .val (.int (Int32.ofNat (i + 1))), .val (.int (Int32.ofNat n)), .val (.int (Int32.ofNat i))] [(.int (Int32.ofNat i)), (.ref p2)])) _ _ _ _
     refine own_go (fun _ k => XS.aloadN X.here hx rfl (hb hby d64_22) rfl rfl (XS.iloadN X.here hx rfl (hb hby d64_23) rfl k)) ?_
     show own_G _ _ _ (T.setTop (mkF m 24 #[.val (.ref p0), .val (.int (Int32.ofNat i)), .val (.ref p2), .val (.int (Int32.ofNat (i + 1))), .val (.int (Int32.ofNat n)), .val (.int (Int32.ofNat i))] [(.int (Int32.ofNat i)), (.ref p0), (.int (Int32.ofNat i)), (.ref p2)])) _ _ _ _
     refine own_go (fun _ k => XS.iinc X.here hx rfl (hb hby d64_24) rfl (l' := #[.val (.ref p0), .val (.int ((Int32.ofNat i) + (1 : Int32))), .val (.ref p2), .val (.int (Int32.ofNat (i + 1))), .val (.int (Int32.ofNat n)), .val (.int (Int32.ofNat i))]) rfl k) ?_
     rw [own_inc i]
     show own_G _ _ _ (T.setTop (mkF m 27 #[.val (.ref p0), .val (.int (Int32.ofNat (i + 1))), .val (.ref p2), .val (.int (Int32.ofNat (i + 1))), .val (.int (Int32.ofNat n)), .val (.int (Int32.ofNat i))] [(.int (Int32.ofNat i)), (.ref p0), (.int (Int32.ofNat i)), (.ref p2)])) _ _ _ _
     obtain ⟨cl3, Ar3, q3, S3, Ng3, H3, G3⟩ := id J1
     have in3 : ¬ ((Int32.ofNat i) < 0 ∨ cl3.slots.size ≤ ((Int32.ofNat i)).toNatClampNeg) := inb_of S3 (own_inb (n := mm) (by omega) (by omega))
     have at3 : cl3.slots[((Int32.ofNat i)).toNatClampNeg]? = some (.int (own_lo (ds.getD i 0))) := H3.at in3 (by rw [own_cl (i) (by omega)]; exact StrChars.Road.low_at _ ds i (by omega))
     refine own_go (fun _ k => X.baloadBytes hx (j := (Int32.ofNat i)) (v := (.int (own_lo (ds.getD i 0)))) (by rw [eT]; exact Ar3.1) (State.isArrayOf_alike hZ.alike Ar3.2.1) Ar3.2.2 in3 at3 (g := (mkF m 27 #[.val (.ref p0), .val (.int (Int32.ofNat (i + 1))), .val (.ref p2), .val (.int (Int32.ofNat (i + 1))), .val (.int (Int32.ofNat n)), .val (.int (Int32.ofNat i))] [(.int (Int32.ofNat i)), (.ref p0), (.int (Int32.ofNat i)), (.ref p2)])) rfl rfl (hb hby d64_27) _ (XS.sipush X.here hx rfl (hb hby d64_28) k)) ?_
     show own_G _ _ _ (T.setTop (mkF m 31 #[.val (.ref p0), .val (.int (Int32.ofNat (i + 1))), .val (.ref p2), .val (.int (Int32.ofNat (i + 1))), .val (.int (Int32.ofNat n)), .val (.int (Int32.ofNat i))] [(.int 255), (.int (own_lo (ds.getD i 0))), (.int (Int32.ofNat i)), (.ref p2)])) _ _ _ _
     refine own_go (fun _ k => XS.iand X.here hx rfl (hb hby d64_31) rfl k) ?_
     rw [StrChars.lo8_mask (hr _ (own_gm ds i (by omega))).1 (ha8 _ (own_gm ds i (by omega)))]
     show own_G _ _ _ (T.setTop (mkF m 32 #[.val (.ref p0), .val (.int (Int32.ofNat (i + 1))), .val (.ref p2), .val (.int (Int32.ofNat (i + 1))), .val (.int (Int32.ofNat n)), .val (.int (Int32.ofNat i))] [(.int (ds.getD i 0)), (.int (Int32.ofNat i)), (.ref p2)])) _ _ _ _
     obtain ⟨_, _, ⟨T4, L4, k4, n4⟩, -, X4, ⟨Lc4, hQ4, l4, y4, z4⟩, st4⟩ := Jvm.LawKit.callS X hx (y := Y8) hown (mvT hZ (own_h hw 255 rfl)) (mvT hZ (own_h hw 256 rfl)) (mvT hZ (own_h hw 56 rfl)) (mvT hZ (own_h hw 257 rfl)) (by decide) (backOf (W := 0) (rm52 l Z a0 hw [] p2 (ds.getD i 0) i mm kd (ds.take i) zc fm hp n0 Zp J0 HA J2 (by omega) (own_tl ds i (by omega)) (by omega) g_p2) hZ (own_h hw 257 rfl) (own_h hw 56 rfl) (by decide) (by decide)) (g := (mkF m 32 #[.val (.ref p0), .val (.int (Int32.ofNat (i + 1))), .val (.ref p2), .val (.int (Int32.ofNat (i + 1))), .val (.int (Int32.ofNat n)), .val (.int (Int32.ofNat i))] [(.int (ds.getD i 0)), (.int (Int32.ofNat i)), (.ref p2)])) rfl (by rw [hml]; rfl) (argsL := [(.ref p2), (.int (Int32.ofNat i)), (.int (ds.getD i 0))]) (rest := []) (lenOf pd_16 rfl) rfl (own_r0 _) (hb hby d64_32) (fun _ _ => ⟨rfl, eT, (by first | decide | omega | (dsimp only [Pt.cells, Pt.slots]; omega)), (by first | decide | omega | (dsimp only [Pt.cells, Pt.slots]; omega))⟩)
     dsimp only [Pt.U, Pt.locs, Pt.cells, Pt.slots] at X4 l4 y4 z4 st4 hQ4
     rw [l4] at X4
     subst y4 z4
     obtain ⟨rfl, Nq4, Kq4, r4_0⟩ := hQ4
     have N4 := Fr.app Nn Nq4
     have f5 := J0.keep Kq4 (allS g_p2 all0)
     have f6 := J1.keep Kq4 (ninS npq nin0)
     have Zs4 := Nat.le_trans Zp Kq4.1
     have K4_0 := Kp.trans Kq4 (allS (Or.inl (List.mem_of_getElem? (i := 0) rfl)) all0)
     refine own_go (fun _ k => st4 _ k) ?_
     show own_G _ _ _ (T4.setTop (mkF m 35 #[.val (.ref p0), .val (.int (Int32.ofNat (i + 1))), .val (.ref p2), .val (.int (Int32.ofNat (i + 1))), .val (.int (Int32.ofNat n)), .val (.int (Int32.ofNat i))] [])) _ _ _ _
     refine own_go (fun _ k => XS.iinc X4.here hx rfl (hb hby d64_35) rfl (l' := #[.val (.ref p0), .val (.int (Int32.ofNat (i + 1))), .val (.ref p2), .val (.int (Int32.ofNat (i + 1))), .val (.int (Int32.ofNat n)), .val (.int ((Int32.ofNat i) + (1 : Int32)))]) rfl k) ?_
     rw [own_inc i]
     show own_G _ _ _ (T4.setTop (mkF m 38 #[.val (.ref p0), .val (.int (Int32.ofNat (i + 1))), .val (.ref p2), .val (.int (Int32.ofNat (i + 1))), .val (.int (Int32.ofNat n)), .val (.int (Int32.ofNat (i + 1)))] [])) _ _ _ _
     refine own_go (fun _ k => XS.goto X4.here hx rfl (pc0 := 38) (pc' := 10) rfl (hb hby d64_38) (by decide) (by decide) k) ?_
     show own_G _ _ _ (T4.setTop (mkF m 10 #[.val (.ref p0), .val (.int (Int32.ofNat (i + 1))), .val (.ref p2), .val (.int (Int32.ofNat (i + 1))), .val (.int (Int32.ofNat n)), .val (.int (Int32.ofNat (i + 1)))] [])) _ _ _ _
     have f7 : Arv Z T4.heap p2 kd .byte (Int32.ofNat (2 * mm)) (own_w (ds.take (i + 1))) (.int 0) := (by have q := r4_0; rw [own_tks ds i (by omega)] at q; exact q)
     exact ih (i + 1) (by omega) _ _ _ _ _  X4 rfl N4 Zs4 K4_0 (by omega) (by omega) f5 f6 f7
 exact loop n 0 (by omega) _ _ _ _ _  X1 eh1 N1 Z0 K0 (by omega) (by omega) P_Old P_V_p0 P_V_p2
theorem d63_0 : own_d B63 0 (.aload_n 0) 1 := by decide +kernel
theorem d63_1 : own_d B63 1 (.iload_n 1) 1 := by decide +kernel
theorem d63_2 : own_d B63 2 (.aload_n 2) 1 := by decide +kernel
theorem d63_3 : own_d B63 3 (.iload_n 3) 1 := by decide +kernel
theorem d63_4 : own_d B63 4 (.iload 4) 2 := by decide +kernel
theorem d63_6 : own_d B63 6 (.invokestatic 240) 3 := by decide +kernel
theorem d63_9 : own_d B63 9 (.return_) 1 := by decide +kernel
theorem pd_23 : parseMethodDescriptor "([BI[BII)V" = some ⟨[(.array .byte), .int, (.array .byte), .int, .int], none⟩ := by decide +kernel
theorem ef_63 (m : MethodId) (p0 : Addr) (p2 : Addr) (n : Nat) : entryFrame m #[(.ref p0), (.int 0), (.ref p2), (.int 0), (.int (Int32.ofNat n))] 5 = mkF m 0 #[.val (.ref p0), .val (.int 0), .val (.ref p2), .val (.int 0), .val (.int (Int32.ofNat n))] [] := by first | (simp [entryFrame, mkF, argsToLocals, Value.category]; done) | rfl
def Q63 (Z : State) (p0 : Addr) (p2 : Addr) (n : Nat) (mm : Nat) (kb : ClassId) (kd : ClassId) (ds : List Int32) (zc : Int32) (fm : Value) (h0 : Heap) (n0 : Nat) (v : Option Value) (h : Heap) (L : List Loc) : Prop := v = none ∧ Fr n0 L ∧ Keep h0 h [p2] ∧ Arv Z h p2 kd .byte (Int32.ofNat (2 * mm)) (own_w ds) (.int 0)
theorem rm63 (l : Launch) (Z : State) (a0 : Array Value) (hw : ∀ d ∈ tables_1, d.before a0 Z = true) (ws : List Jvm.Cond) (p0 : Addr) (p2 : Addr) (n : Nat) (mm : Nat) (kb : ClassId) (kd : ClassId) (ds : List Int32) (zc : Int32) (fm : Value) (h0 : Heap) (n0 : Nat) (Z0 : n0 ≤ h0.size) (P_Old : Old Z n0 h0) (HA : own_Z Z zc fm) (P_V_p0 : Arv Z h0 p0 kb .byte (Int32.ofNat mm) (own_l1 ds) (.int 0)) (P_V_p2 : Arv Z h0 p2 kd .byte (Int32.ofNat (2 * mm)) (own_w []) (.int 0)) (hm5 : mm ≤ 5) (hdn : ds.length = n) (hnmm : n ≤ mm) (hr : ∀ c ∈ ds, own_r c) (ha8 : ∀ c ∈ ds, ¬ (255 : Int32) < c) (g_p2 : n0 ≤ p2) (npq : p0 ≠ p2) :
   own_M l Z Y47 jdk_43_method_50_code 5 none ws ({ frames := 4, cells := 0, slots := 0, locals := 60 } : Room) #[(.ref p0), (.int 0), (.ref p2), (.int 0), (.int (Int32.ofNat n))] h0 (Q63 Z p0 p2 n mm kb kd ds zc fm h0 n0) := by
 refine own_body (C := "java/lang/StringLatin1") rfl (plainFor_of_name pn_3) (fun p e s m below meth c s₁ Bd hx hby hml hown hlk hZ X0 e0 => ?_)
 have N0 := Fr.nil n0
 obtain ⟨Zcs, hcs, Zsi, hfm, Zad, Zhi, Zlo⟩ := id HA
 have K0 : Keep h0 h0 [p2] := Keep.refl h0 [p2]
 refine own_go (fun _ k => castTop (ef_63 m p0 p2 n) (XS.aloadN X0.here hx rfl (hb hby d63_0) rfl rfl (XS.iloadN X0.here hx rfl (hb hby d63_1) rfl (XS.aloadN X0.here hx rfl (hb hby d63_2) rfl rfl (XS.iloadN X0.here hx rfl (hb hby d63_3) rfl (XS.iload X0.here hx rfl (hb hby d63_4) rfl k)))))) ?_
 obtain ⟨_, _, ⟨T1, L1, k1, n1⟩, -, X1, ⟨Lc1, hQ1, l1, y1, z1⟩, st1⟩ := Jvm.LawKit.callS X0 hx (y := Y46) hown (mvT hZ (own_h hw 303 rfl)) (mvT hZ (own_h hw 304 rfl)) (mvT hZ (own_h hw 56 rfl)) (mvT hZ (own_h hw 305 rfl)) (by decide) (backOf (W := 0) (rm64 l Z a0 hw [] p0 p2 n mm kb kd ds zc fm h0 n0 Z0 P_Old HA P_V_p0 P_V_p2 (by assumption) (by assumption) (by assumption) (by assumption) (by assumption) g_p2 npq) hZ (own_h hw 305 rfl) (own_h hw 56 rfl) (by decide) (by decide)) (g := (mkF m 6 #[.val (.ref p0), .val (.int 0), .val (.ref p2), .val (.int 0), .val (.int (Int32.ofNat n))] [(.int (Int32.ofNat n)), (.int 0), (.ref p2), (.int 0), (.ref p0)])) rfl (by rw [hml]; rfl) (argsL := [(.ref p0), (.int 0), (.ref p2), (.int 0), (.int (Int32.ofNat n))]) (rest := []) (lenOf pd_23 rfl) rfl (own_r0 _) (hb hby d63_6) (fun _ _ => ⟨rfl, e0, (by decide : 0 + 0 ≤ _), (by decide : 0 + 0 ≤ _)⟩)
 dsimp only [Pt.U, Pt.locs, Pt.cells, Pt.slots] at X1 l1 y1 z1 st1 hQ1
 rw [l1] at X1
 subst y1 z1
 obtain ⟨rfl, Nq1, Kq1, r1_0⟩ := hQ1
 have N1 := Fr.app N0 Nq1
 have f2 := P_Old.keep Kq1 (allS g_p2 all0)
 have f3 := P_V_p0.keep Kq1 (ninS npq nin0)
 have Zs1 := Nat.le_trans Z0 Kq1.1
 have K1_0 := K0.trans Kq1 (allS (Or.inl (List.mem_of_getElem? (i := 0) rfl)) all0)
 refine own_go (fun _ k => st1 _ k) ?_
 show own_G _ _ _ (T1.setTop (mkF m 9 #[.val (.ref p0), .val (.int 0), .val (.ref p2), .val (.int 0), .val (.int (Int32.ofNat n))] [])) _ _ _ _
 exact own_endV X1 hx hlk Bd.returns (hb hby d63_9) (by decide) (by decide) (Q := (Q63 Z p0 p2 n mm kb kd ds zc fm h0 n0)) ⟨rfl, N1, K1_0, r1_0⟩
theorem d62_0 : own_d B62 0 (.aload_n 0) 1 := by decide +kernel
theorem d62_1 : own_d B62 1 (.invokevirtual 83) 3 := by decide +kernel
theorem d62_4 : own_d B62 4 (.ifCond .ne 4) 3 := by decide +kernel
theorem d62_8 : own_d B62 8 (.aload_n 0) 1 := by decide +kernel
theorem d62_9 : own_d B62 9 (.getfield 15) 3 := by decide +kernel
theorem d62_12 : own_d B62 12 (.arraylength) 1 := by decide +kernel
theorem d62_13 : own_d B62 13 (.invokestatic 26) 3 := by decide +kernel
theorem d62_16 : own_d B62 16 (.astore_n 1) 1 := by decide +kernel
theorem d62_17 : own_d B62 17 (.aload_n 0) 1 := by decide +kernel
theorem d62_18 : own_d B62 18 (.getfield 15) 3 := by decide +kernel
theorem d62_21 : own_d B62 21 (.iconst 0) 1 := by decide +kernel
theorem d62_22 : own_d B62 22 (.aload_n 1) 1 := by decide +kernel
theorem d62_23 : own_d B62 23 (.iconst 0) 1 := by decide +kernel
theorem d62_24 : own_d B62 24 (.aload_n 0) 1 := by decide +kernel
theorem d62_25 : own_d B62 25 (.getfield 79) 3 := by decide +kernel
theorem d62_28 : own_d B62 28 (.invokestatic 125) 3 := by decide +kernel
theorem d62_31 : own_d B62 31 (.aload_n 0) 1 := by decide +kernel
theorem d62_32 : own_d B62 32 (.aload_n 1) 1 := by decide +kernel
theorem d62_33 : own_d B62 33 (.putfield 15) 3 := by decide +kernel
theorem d62_36 : own_d B62 36 (.aload_n 0) 1 := by decide +kernel
theorem d62_37 : own_d B62 37 (.iconst 1) 1 := by decide +kernel
theorem d62_38 : own_d B62 38 (.putfield 22) 3 := by decide +kernel
theorem d62_41 : own_d B62 41 (.return_) 1 := by decide +kernel
theorem ef_62 (m : MethodId) (p0 : Addr) : entryFrame m #[(.ref p0)] 2 = mkF m 0 #[.val (.ref p0), .unset] [] := by first | (simp [entryFrame, mkF, argsToLocals, Value.category]; done) | rfl
def Q62 (Z : State) (p0 : Addr) (zc : Int32) (fm : Value) (va : Addr) (kv : ClassId) (ds : List Int32) (mm : Nat) (h0 : Heap) (n0 : Nat) (v : Option Value) (h : Heap) (L : List Loc) : Prop := ∃ (b : Addr) (kb : ClassId), v = none ∧ Fr n0 L ∧ Keep h0 h [p0] ∧ h0.size ≤ b ∧ Exa Z h b "[B" ∧ Exa Z h p0 "java/lang/StringBuilder" ∧ Fld Z h p0 "java/lang/AbstractStringBuilder" "value" "[B" (.ref b) ∧ Fld Z h p0 "java/lang/AbstractStringBuilder" "coder" "B" (.int 1) ∧ Fld Z h p0 "java/lang/AbstractStringBuilder" "count" "I" (.int (Int32.ofNat ds.length)) ∧ Fld Z h p0 "java/lang/AbstractStringBuilder" "maybeLatin1" "Z" (.int 0) ∧ Arv Z h b kb .byte (Int32.ofNat (2 * mm)) (own_w ds) (.int 0)
theorem rm62 (l : Launch) (Z : State) (a0 : Array Value) (hw : ∀ d ∈ tables_1, d.before a0 Z = true) (ws : List Jvm.Cond) (p0 : Addr) (zc : Int32) (fm : Value) (va : Addr) (kv : ClassId) (ds : List Int32) (mm : Nat) (h0 : Heap) (n0 : Nat) (Z0 : n0 ≤ h0.size) (P_Old : Old Z n0 h0) (HA : own_Z Z zc fm) (P_E_p0 : Exa Z h0 p0 "java/lang/StringBuilder") (P_F_p0_value : Fld Z h0 p0 "java/lang/AbstractStringBuilder" "value" "[B" (.ref va)) (P_F_p0_coder : Fld Z h0 p0 "java/lang/AbstractStringBuilder" "coder" "B" (.int 0)) (P_F_p0_count : Fld Z h0 p0 "java/lang/AbstractStringBuilder" "count" "I" (.int (Int32.ofNat ds.length))) (P_F_p0_maybeLatin1 : Fld Z h0 p0 "java/lang/AbstractStringBuilder" "maybeLatin1" "Z" (.int 0)) (P_V_va : Arv Z h0 va kv .byte (Int32.ofNat mm) (own_l1 ds) (.int 0)) (hm5 : mm ≤ 5) (hdm : ds.length ≤ mm) (hr : ∀ c ∈ ds, own_r c) (ha8 : ∀ c ∈ ds, ¬ (255 : Int32) < c) (g_p0 : n0 ≤ p0) :
   own_M l Z Y48 jdk_68_method_11_code 2 none ws ({ frames := 5, cells := 1, slots := 10, locals := 76 } : Room) #[(.ref p0)] h0 (Q62 Z p0 zc fm va kv ds mm h0 n0) := by
 refine own_body (C := "java/lang/AbstractStringBuilder") rfl (plainFor_of_name pn_4) (fun p e s m below meth c s₁ Bd hx hby hml hown hlk hZ X0 e0 => ?_)
 have N0 := Fr.nil n0
 obtain ⟨Zcs, hcs, Zsi, hfm, Zad, Zhi, Zlo⟩ := id HA
 have K0 : Keep h0 h0 [p0] := Keep.refl h0 [p0]
 refine own_go (fun _ k => castTop (ef_62 m p0) (XS.aloadN X0.here hx rfl (hb hby d62_0) rfl rfl k)) ?_
 obtain ⟨cq1, kq1, q1a, q1b, q1c⟩ := isOf hZ e0 P_E_p0
 obtain ⟨_, _, ⟨T1, L1, k1, n1⟩, -, X1, ⟨Lc1, hQ1, l1, y1, z1⟩, st1⟩ := X0.virtualBack hx (y := Y38) (z := Y38) hown (mvT hZ (own_h hw 158 rfl)) (mvT hZ (own_h hw 159 rfl)) (notFace_of_selects (args := #[]) (mvT hZ (own_h hw 161 rfl))) (mvT hZ (own_h hw 161 rfl)) (mvT hZ (own_h hw 160 rfl)) (by decide) (backOf (W := 0) (rm31a l Z a0 hw [] p0 zc fm h0 n0 Z0 P_Old HA P_F_p0_coder) hZ (own_h hw 162 rfl) (own_h hw 115 rfl) (by decide) (by decide)) q1a q1c (g := (mkF m 1 #[.val (.ref p0), .unset] [(.ref p0)])) rfl (by rw [hml]; rfl) (Steps.refl _) (argsL := []) (rest := []) (lenOf pd_7 rfl) rfl (own_r0 _) (hb hby d62_1) (fun _ _ => ⟨rfl, e0, (by decide : 0 + 0 ≤ _), (by decide : 0 + 0 ≤ _)⟩)
 dsimp only [Pt.U, Pt.locs, Pt.cells, Pt.slots] at X1 l1 y1 z1 st1 hQ1
 rw [l1] at X1
 subst y1 z1
 obtain ⟨rfl, Nq1, eh1⟩ := hQ1
 have N1 := Fr.app N0 Nq1
 refine own_go (fun _ k => st1.trans k) ?_
 show own_G _ _ _ (T1.setTop (mkF m 4 #[.val (.ref p0), .unset] [(.int 1)])) _ _ _ _
 have hc2 : ¬ ((1 : Int32) = (0 : Int32)) := (by decide)
 refine own_go (fun _ k => XS.ifYes X1.here hx rfl (pc0 := 4) (pc' := 8) rfl (hb hby d62_4) rfl ((if0 _ _).trans (feq hc2).2) (by decide) (by decide) (XS.aloadN X1.here hx rfl (hb hby d62_8) rfl rfl k)) ?_
 obtain ⟨T3, X3, e3, st3⟩ := getF X1 hx hZ hown (host := "") (Or.inl (own_h hw 119 rfl)) Via.refl eh1 P_F_p0_value (g := (mkF m 9 #[.val (.ref p0), .unset] [(.ref p0)])) rfl rfl (hb hby d62_9)
 refine own_go (fun _ k => st3 _ k) ?_
 obtain ⟨cl4, Ar4, -, S4, Ng4, -, -⟩ := id P_V_va
 refine own_go (fun _ k => X3.arraylength hx (by rw [e3]; exact Ar4.1) (State.isArrayOf_alike hZ.alike Ar4.2.1) (g := (mkF m 12 #[.val (.ref p0), .unset] [(.ref va)])) rfl rfl (hb hby d62_12) _ k) ?_
 rw [len_of S4 Ng4]
 show own_G _ _ _ (T3.setTop (mkF m 13 #[.val (.ref p0), .unset] [(.int (Int32.ofNat mm))])) _ _ _ _
 obtain ⟨_, _, ⟨T5, L5, k5, n5⟩, -, X5, ⟨Lc5, hQ5, l5, y5, z5⟩, st5⟩ := Jvm.LawKit.callS X3 hx (y := Y29) hown (mvT hZ (own_h hw 299 rfl)) (mvT hZ (own_h hw 249 rfl)) (mvT hZ (own_h hw 56 rfl)) (mvT hZ (own_h hw 250 rfl)) (by decide) (backOf (W := 0) (rm50 l Z a0 hw []  mm h0 n0 Z0 hm5) hZ (own_h hw 250 rfl) (own_h hw 56 rfl) (by decide) (by decide)) (g := (mkF m 13 #[.val (.ref p0), .unset] [(.int (Int32.ofNat mm))])) rfl (by rw [hml]; rfl) (argsL := [(.int (Int32.ofNat mm))]) (rest := []) (lenOf pd_15 rfl) rfl (own_r0 _) (hb hby d62_13) (fun _ _ => ⟨rfl, e3, (by decide : 0 + 1 ≤ _), (by decide : 0 + 10 ≤ _)⟩)
 dsimp only [Pt.U, Pt.locs, Pt.cells, Pt.slots] at X5 l5 y5 z5 st5 hQ5
 rw [l5] at X5
 subst y5 z5
 obtain ⟨b5, kb5, rfl, Nq5, Kq5, r5_0, r5_1, r5_2⟩ := hQ5
 have N5 := Fr.app N1 Nq5
 have ne6 := Nat.ne_of_lt (Nat.lt_of_lt_of_le P_E_p0.lt r5_0)
 have ne7 := Nat.ne_of_lt (Nat.lt_of_lt_of_le P_V_va.lt r5_0)
 have gg_b5 := Nat.le_trans Z0 r5_0
 have sz_b5_0 := Nat.le_trans K0.1 r5_0
 have f8 := P_Old.keep Kq5 all0
 have f9 := P_E_p0.keep Kq5
 have f10 := P_F_p0_value.keep Kq5 nin0
 have f11 := P_F_p0_coder.keep Kq5 nin0
 have f12 := P_F_p0_count.keep Kq5 nin0
 have f13 := P_F_p0_maybeLatin1.keep Kq5 nin0
 have f14 := P_V_va.keep Kq5 nin0
 have Zs5 := Nat.le_trans Z0 Kq5.1
 have K5_0 := K0.trans Kq5 all0
 refine own_go (fun _ k => st5 _ (XS.astoreN X5.here hx rfl (hb hby d62_16) rfl rfl (l' := #[.val (.ref p0), .val (.ref b5)]) rfl (XS.aloadN X5.here hx rfl (hb hby d62_17) rfl rfl k))) ?_
 obtain ⟨T15, X15, e15, st15⟩ := getF X5 hx hZ hown (host := "") (Or.inl (own_h hw 119 rfl)) Via.refl rfl f10 (g := (mkF m 18 #[.val (.ref p0), .val (.ref b5)] [(.ref p0)])) rfl rfl (hb hby d62_18)
 refine own_go (fun _ k => st15 _ (XS.iconst X15.here hx rfl (hb hby d62_21) (XS.aloadN X15.here hx rfl (hb hby d62_22) rfl rfl (XS.iconst X15.here hx rfl (hb hby d62_23) (XS.aloadN X15.here hx rfl (hb hby d62_24) rfl rfl k))))) ?_
 obtain ⟨T16, X16, e16, st16⟩ := getF X15 hx hZ hown (host := "") (Or.inl (own_h hw 145 rfl)) Via.refl e15 f12 (g := (mkF m 25 #[.val (.ref p0), .val (.ref b5)] [(.ref p0), (.int 0), (.ref b5), (.int 0), (.ref va)])) rfl rfl (hb hby d62_25)
 refine own_go (fun _ k => st16 _ k) ?_
 obtain ⟨_, _, ⟨T17, L17, k17, n17⟩, -, X17, ⟨Lc17, hQ17, l17, y17, z17⟩, st17⟩ := Jvm.LawKit.callS X16 hx (y := Y47) hown (mvT hZ (own_h hw 300 rfl)) (mvT hZ (own_h hw 301 rfl)) (mvT hZ (own_h hw 30 rfl)) (mvT hZ (own_h hw 302 rfl)) (by decide) (backOf (W := 0) (rm63 l Z a0 hw [] va b5 ds.length mm kv kb5 ds zc fm T5.heap n0 Zs5 f8 HA f14 r5_2 hm5 rfl hdm hr ha8 gg_b5 ne7) hZ (own_h hw 302 rfl) (own_h hw 30 rfl) (by decide) (by decide)) (g := (mkF m 28 #[.val (.ref p0), .val (.ref b5)] [(.int (Int32.ofNat ds.length)), (.int 0), (.ref b5), (.int 0), (.ref va)])) rfl (by rw [hml]; rfl) (argsL := [(.ref va), (.int 0), (.ref b5), (.int 0), (.int (Int32.ofNat ds.length))]) (rest := []) (lenOf pd_23 rfl) rfl (own_r0 _) (hb hby d62_28) (fun _ _ => ⟨rfl, e16, (by decide : 1 + 0 ≤ _), (by decide : 10 + 0 ≤ _)⟩)
 dsimp only [Pt.U, Pt.locs, Pt.cells, Pt.slots] at X17 l17 y17 z17 st17 hQ17
 rw [l17] at X17
 subst y17 z17
 obtain ⟨rfl, Nq17, Kq17, r17_0⟩ := hQ17
 have N17 := Fr.app N5 Nq17
 have f18 := f8.keep Kq17 (allS gg_b5 all0)
 have f19 := f9.keep Kq17
 have f20 := f10.keep Kq17 (ninS ne6 nin0)
 have f21 := f11.keep Kq17 (ninS ne6 nin0)
 have f22 := f12.keep Kq17 (ninS ne6 nin0)
 have f23 := f13.keep Kq17 (ninS ne6 nin0)
 have f24 := f14.keep Kq17 (ninS ne7 nin0)
 have f25 := r5_1.keep Kq17
 have Zs17 := Nat.le_trans Zs5 Kq17.1
 have K17_0 := K5_0.trans Kq17 (allS (Or.inr sz_b5_0) all0)
 refine own_go (fun _ k => st17 _ (XS.aloadN X17.here hx rfl (hb hby d62_31) rfl rfl (XS.aloadN X17.here hx rfl (hb hby d62_32) rfl rfl k))) ?_
 obtain ⟨T26, h26, X26, e26, W26, st26⟩ := putF X17 hx hZ hown (host := "") (Or.inl (own_h hw 119 rfl)) Via.refl rfl f20 f19 (Or.inl (own_h hw 120 rfl)) (own_h hw 105 rfl) (ty := (.array .byte)) (by decide) rfl rfl (g := (mkF m 33 #[.val (.ref p0), .val (.ref b5)] [(.ref b5), (.ref p0)])) rfl rfl (hb hby d62_33)
 have N26 := Fr.snoc X26 N17 g_p0
 have Zs26 := Nat.le_trans Zs17 (Keep.of_wr W26).1
 have K26_0 := K17_0.wr W26 (Or.inl (List.mem_of_getElem? (i := 0) rfl))
 have f27 := f18.wr W26 g_p0
 have f28 := f19.wr W26
 have f29 : Fld Z h26 p0 "java/lang/AbstractStringBuilder" "value" "[B" (.ref b5) := f20.same W26
 have f30 := f21.other W26 (Or.inr (slot_ne (Or.inl (own_h hw 122 rfl)) (Or.inl (own_h hw 120 rfl)) (by decide) (t := .byte) (t' := (.array .byte)) (by decide) (by decide)))
 have f31 := f22.other W26 (Or.inr (slot_ne (Or.inl (own_h hw 146 rfl)) (Or.inl (own_h hw 120 rfl)) (by decide) (t := .int) (t' := (.array .byte)) (by decide) (by decide)))
 have f32 := f23.other W26 (Or.inr (slot_ne (Or.inl (own_h hw 319 rfl)) (Or.inl (own_h hw 120 rfl)) (by decide) (t := .boolean) (t' := (.array .byte)) (by decide) (by decide)))
 have f33 := f24.other W26 (Ne.symm (by obtain ⟨c_, A_, -⟩ := f24; exact ne_arr f19 (own_h hw 105 rfl) A_))
 have f34 := f25.wr W26
 have f35 := r17_0.other W26 (Ne.symm ne6)
 refine own_go (fun _ k => st26 _ (XS.aloadN X26.here hx rfl (hb hby d62_36) rfl rfl (XS.iconst X26.here hx rfl (hb hby d62_37) k))) ?_
 obtain ⟨T36, h36, X36, e36, W36, st36⟩ := putFN X26 hx hZ hown (own_h hw 121 rfl) Via.refl e26 f30 f28 (Or.inl (own_h hw 122 rfl)) (own_h hw 105 rfl) (ty := .byte) (v' := (.int 1)) (by decide) rfl rfl (g := (mkF m 38 #[.val (.ref p0), .val (.ref b5)] [(.int 1), (.ref p0)])) rfl rfl (hb hby d62_38)
 have N36 := Fr.snoc X36 N26 g_p0
 have Zs36 := Nat.le_trans Zs26 (Keep.of_wr W36).1
 have K36_0 := K26_0.wr W36 (Or.inl (List.mem_of_getElem? (i := 0) rfl))
 have f37 := f27.wr W36 g_p0
 have f38 := f28.wr W36
 have f39 := f29.other W36 (Or.inr (slot_ne (Or.inl (own_h hw 120 rfl)) (Or.inl (own_h hw 122 rfl)) (by decide) (t := (.array .byte)) (t' := .byte) (by decide) (by decide)))
 have f40 : Fld Z h36 p0 "java/lang/AbstractStringBuilder" "coder" "B" (.int 1) := f30.same W36
 have f41 := f31.other W36 (Or.inr (slot_ne (Or.inl (own_h hw 146 rfl)) (Or.inl (own_h hw 122 rfl)) (by decide) (t := .int) (t' := .byte) (by decide) (by decide)))
 have f42 := f32.other W36 (Or.inr (slot_ne (Or.inl (own_h hw 319 rfl)) (Or.inl (own_h hw 122 rfl)) (by decide) (t := .boolean) (t' := .byte) (by decide) (by decide)))
 have f43 := f33.other W36 (Ne.symm (by obtain ⟨c_, A_, -⟩ := f33; exact ne_arr f28 (own_h hw 105 rfl) A_))
 have f44 := f34.wr W36
 have f45 := f35.other W36 (Ne.symm ne6)
 refine own_go (fun _ k => st36 _ k) ?_
 show own_G _ _ _ (T36.setTop (mkF m 41 #[.val (.ref p0), .val (.ref b5)] [])) _ _ _ _
 exact own_endV X36 hx hlk Bd.returns (hb hby d62_41) (by decide) (by decide) (Q := (Q62 Z p0 zc fm va kv ds mm h0 n0)) (by rw [e36]; exact ⟨b5, kb5, rfl, N36, K36_0, sz_b5_0, f44, f38, f39, f40, f41, f42, f45⟩)
theorem d68_0 : own_d B68 0 (.iload_n 1) 1 := by decide +kernel
theorem d68_1 : own_d B68 1 (.aload_n 0) 1 := by decide +kernel
theorem d68_2 : own_d B68 2 (.invokestatic 67) 3 := by decide +kernel
theorem d68_5 : own_d B68 5 (.aload_n 0) 1 := by decide +kernel
theorem d68_6 : own_d B68 6 (.iload_n 1) 1 := by decide +kernel
theorem d68_7 : own_d B68 7 (.iload_n 2) 1 := by decide +kernel
theorem d68_8 : own_d B68 8 (.invokestatic 111) 3 := by decide +kernel
theorem d68_11 : own_d B68 11 (.return_) 1 := by decide +kernel
theorem ef_68 (m : MethodId) (p0 : Addr) (p2 : Int32) (j : Nat) : entryFrame m #[(.ref p0), (.int (Int32.ofNat j)), (.int p2)] 3 = mkF m 0 #[.val (.ref p0), .val (.int (Int32.ofNat j)), .val (.int p2)] [] := by first | (simp [entryFrame, mkF, argsToLocals, Value.category]; done) | rfl
def Q68 (Z : State) (p0 : Addr) (p2 : Int32) (j : Nat) (mm : Nat) (kb : ClassId) (ds : List Int32) (zc : Int32) (fm : Value) (h0 : Heap) (n0 : Nat) (v : Option Value) (h : Heap) (L : List Loc) : Prop := v = none ∧ Fr n0 L ∧ Keep h0 h [p0] ∧ Arv Z h p0 kb .byte (Int32.ofNat (2 * mm)) (own_w (ds ++ [p2])) (.int 0)
theorem rm68 (l : Launch) (Z : State) (a0 : Array Value) (hw : ∀ d ∈ tables_1, d.before a0 Z = true) (ws : List Jvm.Cond) (p0 : Addr) (p2 : Int32) (j : Nat) (mm : Nat) (kb : ClassId) (ds : List Int32) (zc : Int32) (fm : Value) (h0 : Heap) (n0 : Nat) (Z0 : n0 ≤ h0.size) (P_Old : Old Z n0 h0) (HA : own_Z Z zc fm) (P_V_p0 : Arv Z h0 p0 kb .byte (Int32.ofNat (2 * mm)) (own_w ds) (.int 0)) (hm : mm ≤ 22) (hjd : ds.length = j) (hjm : j < mm) (g_p0 : n0 ≤ p0) :
   own_M l Z Y49 jdk_52_method_71_code 3 none ws ({ frames := 3, cells := 0, slots := 0, locals := 40 } : Room) #[(.ref p0), (.int (Int32.ofNat j)), (.int p2)] h0 (Q68 Z p0 p2 j mm kb ds zc fm h0 n0) := by
 refine own_body (C := "java/lang/StringUTF16") rfl (plainFor_of_name pn_2) (fun p e s m below meth c s₁ Bd hx hby hml hown hlk hZ X0 e0 => ?_)
 have N0 := Fr.nil n0
 obtain ⟨Zcs, hcs, Zsi, hfm, Zad, Zhi, Zlo⟩ := id HA
 have K0 : Keep h0 h0 [p0] := Keep.refl h0 [p0]
 refine own_go (fun _ k => castTop (ef_68 m p0 p2 j) (XS.iloadN X0.here hx rfl (hb hby d68_0) rfl (XS.aloadN X0.here hx rfl (hb hby d68_1) rfl rfl k))) ?_
 obtain ⟨_, _, ⟨T1, L1, k1, n1⟩, -, X1, ⟨Lc1, hQ1, l1, y1, z1⟩, st1⟩ := Jvm.LawKit.callS X0 hx (y := Y10) hown (mvT hZ (own_h hw 290 rfl)) (mvT hZ (own_h hw 291 rfl)) (mvT hZ (own_h hw 56 rfl)) (mvT hZ (own_h hw 292 rfl)) (by decide) (backOf (W := 0) (rm61 l Z a0 hw [] p0 j mm kb ds zc fm h0 n0 Z0 P_Old HA P_V_p0 (by assumption) hjm) hZ (own_h hw 292 rfl) (own_h hw 56 rfl) (by decide) (by decide)) (g := (mkF m 2 #[.val (.ref p0), .val (.int (Int32.ofNat j)), .val (.int p2)] [(.ref p0), (.int (Int32.ofNat j))])) rfl (by rw [hml]; rfl) (argsL := [(.int (Int32.ofNat j)), (.ref p0)]) (rest := []) (lenOf pd_4 rfl) rfl (own_r0 _) (hb hby d68_2) (fun _ _ => ⟨rfl, e0, (by decide : 0 + 0 ≤ _), (by decide : 0 + 0 ≤ _)⟩)
 dsimp only [Pt.U, Pt.locs, Pt.cells, Pt.slots] at X1 l1 y1 z1 st1 hQ1
 rw [l1] at X1
 subst y1 z1
 obtain ⟨rfl, Nq1, eh1⟩ := hQ1
 have N1 := Fr.app N0 Nq1
 refine own_go (fun _ k => st1 _ (XS.aloadN X1.here hx rfl (hb hby d68_5) rfl rfl (XS.iloadN X1.here hx rfl (hb hby d68_6) rfl (XS.iloadN X1.here hx rfl (hb hby d68_7) rfl k)))) ?_
 obtain ⟨_, _, ⟨T2, L2, k2, n2⟩, -, X2, ⟨Lc2, hQ2, l2, y2, z2⟩, st2⟩ := Jvm.LawKit.callS X1 hx (y := Y8) hown (mvT hZ (own_h hw 255 rfl)) (mvT hZ (own_h hw 256 rfl)) (mvT hZ (own_h hw 56 rfl)) (mvT hZ (own_h hw 257 rfl)) (by decide) (backOf (W := 0) (rm52 l Z a0 hw [] p0 p2 j mm kb ds zc fm h0 n0 Z0 P_Old HA P_V_p0 (by assumption) (by assumption) (by assumption) g_p0) hZ (own_h hw 257 rfl) (own_h hw 56 rfl) (by decide) (by decide)) (g := (mkF m 8 #[.val (.ref p0), .val (.int (Int32.ofNat j)), .val (.int p2)] [(.int p2), (.int (Int32.ofNat j)), (.ref p0)])) rfl (by rw [hml]; rfl) (argsL := [(.ref p0), (.int (Int32.ofNat j)), (.int p2)]) (rest := []) (lenOf pd_16 rfl) rfl (own_r0 _) (hb hby d68_8) (fun _ _ => ⟨rfl, eh1, (by decide : 0 + 0 ≤ _), (by decide : 0 + 0 ≤ _)⟩)
 dsimp only [Pt.U, Pt.locs, Pt.cells, Pt.slots] at X2 l2 y2 z2 st2 hQ2
 rw [l2] at X2
 subst y2 z2
 obtain ⟨rfl, Nq2, Kq2, r2_0⟩ := hQ2
 have N2 := Fr.app N1 Nq2
 have f3 := P_Old.keep Kq2 (allS g_p0 all0)
 have Zs2 := Nat.le_trans Z0 Kq2.1
 have K2_0 := K0.trans Kq2 (allS (Or.inl (List.mem_of_getElem? (i := 0) rfl)) all0)
 refine own_go (fun _ k => st2 _ k) ?_
 show own_G _ _ _ (T2.setTop (mkF m 11 #[.val (.ref p0), .val (.int (Int32.ofNat j)), .val (.int p2)] [])) _ _ _ _
 exact own_endV X2 hx hlk Bd.returns (hb hby d68_11) (by decide) (by decide) (Q := (Q68 Z p0 p2 j mm kb ds zc fm h0 n0)) ⟨rfl, N2, K2_0, r2_0⟩
theorem d36_0 : own_d B36 0 (.aload_n 0) 1 := by decide +kernel
theorem d36_1 : own_d B36 1 (.aload_n 0) 1 := by decide +kernel
theorem d36_2 : own_d B36 2 (.getfield 79) 3 := by decide +kernel
theorem d36_5 : own_d B36 5 (.iconst 1) 1 := by decide +kernel
theorem d36_6 : own_d B36 6 (.iadd) 1 := by decide +kernel
theorem d36_7 : own_d B36 7 (.invokevirtual 100) 3 := by decide +kernel
theorem d36_10 : own_d B36 10 (.aload_n 0) 1 := by decide +kernel
theorem d36_11 : own_d B36 11 (.invokevirtual 83) 3 := by decide +kernel
theorem d36_14 : own_d B36 14 (.ifCond .eq 31) 3 := by decide +kernel
theorem d36_17 : own_d B36 17 (.iload_n 1) 1 := by decide +kernel
theorem d36_18 : own_d B36 18 (.invokestatic 191) 3 := by decide +kernel
theorem d36_21 : own_d B36 21 (.ifCond .eq 24) 3 := by decide +kernel
theorem d36_24 : own_d B36 24 (.aload_n 0) 1 := by decide +kernel
theorem d36_25 : own_d B36 25 (.getfield 15) 3 := by decide +kernel
theorem d36_28 : own_d B36 28 (.aload_n 0) 1 := by decide +kernel
theorem d36_29 : own_d B36 29 (.dup) 1 := by decide +kernel
theorem d36_30 : own_d B36 30 (.getfield 79) 3 := by decide +kernel
theorem d36_33 : own_d B36 33 (.dup_x1) 1 := by decide +kernel
theorem d36_34 : own_d B36 34 (.iconst 1) 1 := by decide +kernel
theorem d36_35 : own_d B36 35 (.iadd) 1 := by decide +kernel
theorem d36_36 : own_d B36 36 (.putfield 79) 3 := by decide +kernel
theorem d36_39 : own_d B36 39 (.iload_n 1) 1 := by decide +kernel
theorem d36_40 : own_d B36 40 (.i2b) 1 := by decide +kernel
theorem d36_41 : own_d B36 41 (.bastore) 1 := by decide +kernel
theorem d36_42 : own_d B36 42 (.goto 33) 3 := by decide +kernel
theorem d36_45 : own_d B36 45 (.aload_n 0) 1 := by decide +kernel
theorem d36_46 : own_d B36 46 (.invokevirtual 83) 3 := by decide +kernel
theorem d36_49 : own_d B36 49 (.ifCond .eq 7) 3 := by decide +kernel
theorem d36_52 : own_d B36 52 (.aload_n 0) 1 := by decide +kernel
theorem d36_53 : own_d B36 53 (.invokevirtual 195) 3 := by decide +kernel
theorem d36_56 : own_d B36 56 (.aload_n 0) 1 := by decide +kernel
theorem d36_57 : own_d B36 57 (.getfield 15) 3 := by decide +kernel
theorem d36_60 : own_d B36 60 (.aload_n 0) 1 := by decide +kernel
theorem d36_61 : own_d B36 61 (.dup) 1 := by decide +kernel
theorem d36_62 : own_d B36 62 (.getfield 79) 3 := by decide +kernel
theorem d36_65 : own_d B36 65 (.dup_x1) 1 := by decide +kernel
theorem d36_66 : own_d B36 66 (.iconst 1) 1 := by decide +kernel
theorem d36_67 : own_d B36 67 (.iadd) 1 := by decide +kernel
theorem d36_68 : own_d B36 68 (.putfield 79) 3 := by decide +kernel
theorem d36_71 : own_d B36 71 (.iload_n 1) 1 := by decide +kernel
theorem d36_72 : own_d B36 72 (.invokestatic 197) 3 := by decide +kernel
theorem d36_75 : own_d B36 75 (.aload_n 0) 1 := by decide +kernel
theorem d36_76 : own_d B36 76 (.areturn) 1 := by decide +kernel
theorem pd_24 : parseMethodDescriptor "(C)Z" = some ⟨[.char], some .boolean⟩ := by decide +kernel
theorem pd_25 : parseMethodDescriptor "()V" = some ⟨[], none⟩ := by decide +kernel
theorem ef_36 (m : MethodId) (p0 : Addr) (p1 : Int32) : entryFrame m #[(.ref p0), (.int p1)] 2 = mkF m 0 #[.val (.ref p0), .val (.int p1)] [] := by first | (simp [entryFrame, mkF, argsToLocals, Value.category]; done) | rfl
def Q36 (Z : State) (p0 : Addr) (p1 : Int32) (zc : Int32) (fm : Value) (va : Addr) (kv : ClassId) (bo : Int32) (ds : List Int32) (mm : Nat) (h0 : Heap) (n0 : Nat) (v : Option Value) (h : Heap) (L : List Loc) : Prop := ∃ (va2 : Addr) (kv2 : ClassId) (bo2 : Int32), v = some (.ref p0) ∧ Fr n0 L ∧ Keep h0 h [p0, va] ∧ Exa Z h p0 "java/lang/StringBuilder" ∧ Fld Z h p0 "java/lang/AbstractStringBuilder" "value" "[B" (.ref va2) ∧ Fld Z h p0 "java/lang/AbstractStringBuilder" "coder" "B" (.int bo2) ∧ Fld Z h p0 "java/lang/AbstractStringBuilder" "count" "I" (.int (Int32.ofNat (ds ++ [p1]).length)) ∧ Fld Z h p0 "java/lang/AbstractStringBuilder" "maybeLatin1" "Z" (.int 0) ∧ Exa Z h va2 "[B" ∧ Arv Z h va2 kv2 .byte (own_cap bo2 mm) (own_sv bo2 (ds ++ [p1])) (.int 0) ∧ own_BK bo2 (ds ++ [p1]) mm ∧ (va2 = va ∨ h0.size ≤ va2)
theorem rm36 (l : Launch) (Z : State) (a0 : Array Value) (hw : ∀ d ∈ tables_1, d.before a0 Z = true) (ws : List Jvm.Cond) (p0 : Addr) (p1 : Int32) (zc : Int32) (fm : Value) (va : Addr) (kv : ClassId) (bo : Int32) (ds : List Int32) (mm : Nat) (h0 : Heap) (n0 : Nat) (Z0 : n0 ≤ h0.size) (P_Old : Old Z n0 h0) (HA : own_Z Z zc fm) (P_E_p0 : Exa Z h0 p0 "java/lang/StringBuilder") (P_F_p0_value : Fld Z h0 p0 "java/lang/AbstractStringBuilder" "value" "[B" (.ref va)) (P_F_p0_coder : Fld Z h0 p0 "java/lang/AbstractStringBuilder" "coder" "B" (.int bo)) (P_F_p0_count : Fld Z h0 p0 "java/lang/AbstractStringBuilder" "count" "I" (.int (Int32.ofNat ds.length))) (P_F_p0_maybeLatin1 : Fld Z h0 p0 "java/lang/AbstractStringBuilder" "maybeLatin1" "Z" (.int 0)) (P_E_va : Exa Z h0 va "[B") (P_V_va : Arv Z h0 va kv .byte (own_cap bo mm) (own_sv bo ds) (.int 0)) (hB : own_BK bo ds mm) (hdm : ds.length < mm) (hr1 : own_r p1) (g_p0 : n0 ≤ p0) (g_va : n0 ≤ va) :
   own_M l Z Y50 jdk_68_method_31_code 2 (some (.object "java/lang/AbstractStringBuilder")) ws ({ frames := 6, cells := 1, slots := 10, locals := 89 } : Room) #[(.ref p0), (.int p1)] h0 (Q36 Z p0 p1 zc fm va kv bo ds mm h0 n0) := by
 refine own_body (C := "java/lang/AbstractStringBuilder") rfl (plainFor_of_name pn_4) (fun p e s m below meth c s₁ Bd hx hby hml hown hlk hZ X0 e0 => ?_)
 have N0 := Fr.nil n0
 obtain ⟨Zcs, hcs, Zsi, hfm, Zad, Zhi, Zlo⟩ := id HA
 have K0 : Keep h0 h0 [p0, va] := Keep.refl h0 [p0, va]
 refine own_go (fun _ k => castTop (ef_36 m p0 p1) (XS.aloadN X0.here hx rfl (hb hby d36_0) rfl rfl (XS.aloadN X0.here hx rfl (hb hby d36_1) rfl rfl k))) ?_
 obtain ⟨T1, X1, e1, st1⟩ := getF X0 hx hZ hown (host := "") (Or.inl (own_h hw 145 rfl)) Via.refl e0 P_F_p0_count (g := (mkF m 2 #[.val (.ref p0), .val (.int p1)] [(.ref p0), (.ref p0)])) rfl rfl (hb hby d36_2)
 refine own_go (fun _ k => st1 _ (XS.iconst X1.here hx rfl (hb hby d36_5) k)) ?_
 show own_G _ _ _ (T1.setTop (mkF m 6 #[.val (.ref p0), .val (.int p1)] [(.int 1), (.int (Int32.ofNat ds.length)), (.ref p0)])) _ _ _ _
 refine own_go (fun _ k => XS.iadd X1.here hx rfl (hb hby d36_6) rfl k) ?_
 rw [own_inc ds.length]
 show own_G _ _ _ (T1.setTop (mkF m 7 #[.val (.ref p0), .val (.int p1)] [(.int (Int32.ofNat (ds.length + 1))), (.ref p0)])) _ _ _ _
 obtain ⟨cq2, q2, q2'⟩ := P_E_p0.cell
 obtain ⟨_, _, ⟨T2, L2, k2, n2⟩, -, X2, ⟨Lc2, hQ2, l2, y2, z2⟩, st2⟩ := X1.privateBack hx (y := Y44) hown (mvT hZ (own_h hw 147 rfl)) (mvT hZ (own_h hw 148 rfl)) (own_selp (mvT hZ (own_h hw 150 rfl)) rfl (Cond.privateMethod_at (mvP hZ (own_h hw 149 rfl) (args := #[]))) (mvT hZ (own_h hw 148 rfl)) (by decide)) (Cond.privateMethod_at (mvP hZ (own_h hw 149 rfl) (args := #[]))) (mvT hZ (own_h hw 151 rfl)) (by decide) (backOf (W := 0) (rm29 l Z a0 hw [] p0 va kv bo ds mm (ds.length + 1) h0 n0 Z0 P_F_p0_value P_F_p0_coder P_V_va hB hdm) hZ (own_h hw 151 rfl) (own_h hw 115 rfl) (by decide) (by decide)) (g := (mkF m 7 #[.val (.ref p0), .val (.int p1)] [(.int (Int32.ofNat (ds.length + 1))), (.ref p0)])) rfl (by rw [hml]; rfl) (Steps.refl _) (a := p0) (by rw [e1]; exact q2) q2' (argsL := [(.int (Int32.ofNat (ds.length + 1)))]) (rest := []) (lenOf pd_21 rfl) rfl (own_r0 _) (hb hby d36_7) (fun _ _ => ⟨rfl, e1, (by decide : 0 + 0 ≤ _), (by decide : 0 + 0 ≤ _)⟩)
 dsimp only [Pt.U, Pt.locs, Pt.cells, Pt.slots] at X2 l2 y2 z2 st2 hQ2
 rw [l2] at X2
 subst y2 z2
 obtain ⟨rfl, Nq2, eh2⟩ := hQ2
 have N2 := Fr.app N0 Nq2
 refine own_go (fun _ k => st2.trans k) ?_
 show own_G _ _ _ (T2.setTop (mkF m 10 #[.val (.ref p0), .val (.int p1)] [])) _ _ _ _
 rcases hB.1 with ⟨ebo, h255b⟩ | ebo
 · have co3a : Fld Z h0 p0 "java/lang/AbstractStringBuilder" "coder" "B" (.int 0) := own_f ebo P_F_p0_coder
   have co3b : Arv Z h0 va kv .byte (Int32.ofNat mm) (own_l1 ds) (.int 0) := own_v0 ebo P_V_va
   show own_G _ _ _ (T2.setTop (mkF m 10 #[.val (.ref p0), .val (.int p1)] [])) _ _ _ _
   refine own_go (fun _ k => XS.aloadN X2.here hx rfl (hb hby d36_10) rfl rfl k) ?_
   obtain ⟨cq4, kq4, q4a, q4b, q4c⟩ := isOf hZ eh2 P_E_p0
   obtain ⟨_, _, ⟨T4, L4, k4, n4⟩, -, X4, ⟨Lc4, hQ4, l4, y4, z4⟩, st4⟩ := X2.virtualBack hx (y := Y38) (z := Y38) hown (mvT hZ (own_h hw 158 rfl)) (mvT hZ (own_h hw 159 rfl)) (notFace_of_selects (args := #[]) (mvT hZ (own_h hw 161 rfl))) (mvT hZ (own_h hw 161 rfl)) (mvT hZ (own_h hw 160 rfl)) (by decide) (backOf (W := 0) (rm31a l Z a0 hw [] p0 zc fm h0 n0 Z0 P_Old HA co3a) hZ (own_h hw 162 rfl) (own_h hw 115 rfl) (by decide) (by decide)) q4a q4c (g := (mkF m 11 #[.val (.ref p0), .val (.int p1)] [(.ref p0)])) rfl (by rw [hml]; rfl) (Steps.refl _) (argsL := []) (rest := []) (lenOf pd_7 rfl) rfl (own_r0 _) (hb hby d36_11) (fun _ _ => ⟨rfl, eh2, (by decide : 0 + 0 ≤ _), (by decide : 0 + 0 ≤ _)⟩)
   dsimp only [Pt.U, Pt.locs, Pt.cells, Pt.slots] at X4 l4 y4 z4 st4 hQ4
   rw [l4] at X4
   subst y4 z4
   obtain ⟨rfl, Nq4, eh4⟩ := hQ4
   have N4 := Fr.app N2 Nq4
   refine own_go (fun _ k => st4.trans k) ?_
   show own_G _ _ _ (T4.setTop (mkF m 14 #[.val (.ref p0), .val (.int p1)] [(.int 1)])) _ _ _ _
   have hc5 : ¬ ((1 : Int32) = (0 : Int32)) := (by decide)
   refine own_go (fun _ k => XS.ifNo X4.here hx rfl (hb hby d36_14) rfl ((if0 _ _).trans (feq hc5).1) (XS.iloadN X4.here hx rfl (hb hby d36_17) rfl k)) ?_
   obtain ⟨_, _, ⟨T6, L6, k6, n6⟩, -, X6, ⟨Lc6, hQ6, l6, y6, z6⟩, st6⟩ := Jvm.LawKit.callS X4 hx (y := Y39) hown (mvT hZ (own_h hw 189 rfl)) (mvT hZ (own_h hw 190 rfl)) (mvT hZ (own_h hw 30 rfl)) (mvT hZ (own_h hw 191 rfl)) (by decide) (backOf (W := 0) (rm37 l Z a0 hw [] p1 h0 n0) hZ (own_h hw 191 rfl) (own_h hw 30 rfl) (by decide) (by decide)) (g := (mkF m 18 #[.val (.ref p0), .val (.int p1)] [(.int p1)])) rfl (by rw [hml]; rfl) (argsL := [(.int p1)]) (rest := []) (lenOf pd_24 rfl) rfl (own_r0 _) (hb hby d36_18) (fun _ _ => ⟨rfl, eh4, (by decide : 0 + 0 ≤ _), (by decide : 0 + 0 ≤ _)⟩)
   dsimp only [Pt.U, Pt.locs, Pt.cells, Pt.slots] at X6 l6 y6 z6 st6 hQ6
   rw [l6] at X6
   subst y6 z6
   obtain ⟨rfl, Nq6, eh6⟩ := hQ6
   have N6 := Fr.app N4 Nq6
   refine own_go (fun _ k => st6 _ k) ?_
   show own_G _ _ _ (T6.setTop (mkF m 21 #[.val (.ref p0), .val (.int p1)] [(.int (own_can p1))])) _ _ _ _
   by_cases hc7 : (own_can p1) = (0 : Int32)
   · refine own_go (fun _ k => XS.ifYes X6.here hx rfl (pc0 := 21) (pc' := 45) rfl (hb hby d36_21) rfl ((if0 _ _).trans (teq hc7).1) (by decide) (by decide) (XS.aloadN X6.here hx rfl (hb hby d36_45) rfl rfl k)) ?_
     obtain ⟨cq8, kq8, q8a, q8b, q8c⟩ := isOf hZ eh6 P_E_p0
     obtain ⟨_, _, ⟨T8, L8, k8, n8⟩, -, X8, ⟨Lc8, hQ8, l8, y8, z8⟩, st8⟩ := X6.virtualBack hx (y := Y38) (z := Y38) hown (mvT hZ (own_h hw 158 rfl)) (mvT hZ (own_h hw 159 rfl)) (notFace_of_selects (args := #[]) (mvT hZ (own_h hw 161 rfl))) (mvT hZ (own_h hw 161 rfl)) (mvT hZ (own_h hw 160 rfl)) (by decide) (backOf (W := 0) (rm31a l Z a0 hw [] p0 zc fm h0 n0 Z0 P_Old HA co3a) hZ (own_h hw 162 rfl) (own_h hw 115 rfl) (by decide) (by decide)) q8a q8c (g := (mkF m 46 #[.val (.ref p0), .val (.int p1)] [(.ref p0)])) rfl (by rw [hml]; rfl) (Steps.refl _) (argsL := []) (rest := []) (lenOf pd_7 rfl) rfl (own_r0 _) (hb hby d36_46) (fun _ _ => ⟨rfl, eh6, (by decide : 0 + 0 ≤ _), (by decide : 0 + 0 ≤ _)⟩)
     dsimp only [Pt.U, Pt.locs, Pt.cells, Pt.slots] at X8 l8 y8 z8 st8 hQ8
     rw [l8] at X8
     subst y8 z8
     obtain ⟨rfl, Nq8, eh8⟩ := hQ8
     have N8 := Fr.app N6 Nq8
     refine own_go (fun _ k => st8.trans k) ?_
     show own_G _ _ _ (T8.setTop (mkF m 49 #[.val (.ref p0), .val (.int p1)] [(.int 1)])) _ _ _ _
     have hc9 : ¬ ((1 : Int32) = (0 : Int32)) := (by decide)
     refine own_go (fun _ k => XS.ifNo X8.here hx rfl (hb hby d36_49) rfl ((if0 _ _).trans (feq hc9).1) (XS.aloadN X8.here hx rfl (hb hby d36_52) rfl rfl k)) ?_
     obtain ⟨cq10, q10, q10'⟩ := P_E_p0.cell
     obtain ⟨_, _, ⟨T10, L10, k10, n10⟩, -, X10, ⟨Lc10, hQ10, l10, y10, z10⟩, st10⟩ := X8.privateBack hx (y := Y48) hown (mvT hZ (own_h hw 294 rfl)) (mvT hZ (own_h hw 295 rfl)) (own_selp (mvT hZ (own_h hw 150 rfl)) rfl (Cond.privateMethod_at (mvP hZ (own_h hw 296 rfl) (args := #[]))) (mvT hZ (own_h hw 295 rfl)) (by decide)) (Cond.privateMethod_at (mvP hZ (own_h hw 296 rfl) (args := #[]))) (mvT hZ (own_h hw 298 rfl)) (by decide) (backOf (W := 0) (rm62 l Z a0 hw [] p0 zc fm va kv ds mm h0 n0 Z0 P_Old HA P_E_p0 P_F_p0_value co3a P_F_p0_count P_F_p0_maybeLatin1 co3b hB.2.2 (Nat.le_of_lt hdm) hB.2.1 h255b g_p0) hZ (own_h hw 298 rfl) (own_h hw 115 rfl) (by decide) (by decide)) (g := (mkF m 53 #[.val (.ref p0), .val (.int p1)] [(.ref p0)])) rfl (by rw [hml]; rfl) (Steps.refl _) (a := p0) (by rw [eh8]; exact q10) q10' (argsL := []) (rest := []) (lenOf pd_25 rfl) rfl (own_r0 _) (hb hby d36_53) (fun _ _ => ⟨rfl, eh8, (by decide : 0 + 1 ≤ _), (by decide : 0 + 10 ≤ _)⟩)
     dsimp only [Pt.U, Pt.locs, Pt.cells, Pt.slots] at X10 l10 y10 z10 st10 hQ10
     rw [l10] at X10
     subst y10 z10
     obtain ⟨b10, kb10, rfl, Nq10, Kq10, r10_0, r10_1, r10_2, r10_3, r10_4, r10_5, r10_6, r10_7⟩ := hQ10
     have N10 := Fr.app N8 Nq10
     have ne11 := Nat.ne_of_lt (Nat.lt_of_lt_of_le P_E_p0.lt r10_0)
     have ne12 := Nat.ne_of_lt (Nat.lt_of_lt_of_le P_E_va.lt r10_0)
     have gg_b10 := Nat.le_trans Z0 r10_0
     have sz_b10_0 := Nat.le_trans K0.1 r10_0
     have f13 := P_Old.keep Kq10 (allS g_p0 all0)
     have f14 := P_E_p0.keep Kq10
     have f15 := P_E_va.keep Kq10
     have f16 := co3b.keep Kq10 (ninS (ne_exa P_E_va P_E_p0 (by decide)) nin0)
     have Zs10 := Nat.le_trans Z0 Kq10.1
     have K10_0 := K0.trans Kq10 (allS (Or.inl (List.mem_of_getElem? (i := 0) rfl)) all0)
     refine own_go (fun _ k => st10.trans (XS.aloadN X10.here hx rfl (hb hby d36_56) rfl rfl k)) ?_
     obtain ⟨T17, X17, e17, st17⟩ := getF X10 hx hZ hown (host := "") (Or.inl (own_h hw 119 rfl)) Via.refl rfl r10_3 (g := (mkF m 57 #[.val (.ref p0), .val (.int p1)] [(.ref p0)])) rfl rfl (hb hby d36_57)
     refine own_go (fun _ k => st17 _ (XS.aloadN X17.here hx rfl (hb hby d36_60) rfl rfl (XS.dup X17.here hx rfl (hb hby d36_61) rfl rfl k))) ?_
     obtain ⟨T18, X18, e18, st18⟩ := getF X17 hx hZ hown (host := "") (Or.inl (own_h hw 145 rfl)) Via.refl e17 r10_5 (g := (mkF m 62 #[.val (.ref p0), .val (.int p1)] [(.ref p0), (.ref p0), (.ref b10)])) rfl rfl (hb hby d36_62)
     refine own_go (fun _ k => st18 _ (XS.dupX1 X18.here hx rfl (hb hby d36_65) rfl rfl rfl (XS.iconst X18.here hx rfl (hb hby d36_66) k))) ?_
     show own_G _ _ _ (T18.setTop (mkF m 67 #[.val (.ref p0), .val (.int p1)] [(.int 1), (.int (Int32.ofNat ds.length)), (.ref p0), (.int (Int32.ofNat ds.length)), (.ref b10)])) _ _ _ _
     refine own_go (fun _ k => XS.iadd X18.here hx rfl (hb hby d36_67) rfl k) ?_
     rw [own_inc ds.length]
     show own_G _ _ _ (T18.setTop (mkF m 68 #[.val (.ref p0), .val (.int p1)] [(.int (Int32.ofNat (ds.length + 1))), (.ref p0), (.int (Int32.ofNat ds.length)), (.ref b10)])) _ _ _ _
     obtain ⟨T19, h19, X19, e19, W19, st19⟩ := putF X18 hx hZ hown (host := "") (Or.inl (own_h hw 145 rfl)) Via.refl e18 r10_5 r10_2 (Or.inl (own_h hw 146 rfl)) (own_h hw 105 rfl) (ty := .int) (by decide) rfl rfl (g := (mkF m 68 #[.val (.ref p0), .val (.int p1)] [(.int (Int32.ofNat (ds.length + 1))), (.ref p0), (.int (Int32.ofNat ds.length)), (.ref b10)])) rfl rfl (hb hby d36_68)
     have N19 := Fr.snoc X19 N10 g_p0
     have Zs19 := Nat.le_trans Zs10 (Keep.of_wr W19).1
     have K19_0 := K10_0.wr W19 (Or.inl (List.mem_of_getElem? (i := 0) rfl))
     have f20 := f13.wr W19 g_p0
     have f21 := r10_2.wr W19
     have f22 := f15.wr W19
     have f23 := f16.other W19 (ne_exa f15 r10_2 (by decide))
     have f24 := r10_1.wr W19
     have f25 := r10_3.other W19 (Or.inr (slot_ne (Or.inl (own_h hw 120 rfl)) (Or.inl (own_h hw 146 rfl)) (by decide) (t := (.array .byte)) (t' := .int) (by decide) (by decide)))
     have f26 := r10_4.other W19 (Or.inr (slot_ne (Or.inl (own_h hw 122 rfl)) (Or.inl (own_h hw 146 rfl)) (by decide) (t := .byte) (t' := .int) (by decide) (by decide)))
     have f27 : Fld Z h19 p0 "java/lang/AbstractStringBuilder" "count" "I" (.int (Int32.ofNat (ds.length + 1))) := r10_5.same W19
     have f28 := r10_6.other W19 (Or.inr (slot_ne (Or.inl (own_h hw 319 rfl)) (Or.inl (own_h hw 146 rfl)) (by decide) (t := .boolean) (t' := .int) (by decide) (by decide)))
     have f29 := r10_7.other W19 (Ne.symm ne11)
     refine own_go (fun _ k => st19 _ (XS.iloadN X19.here hx rfl (hb hby d36_71) rfl k)) ?_
     obtain ⟨_, _, ⟨T30, L30, k30, n30⟩, -, X30, ⟨Lc30, hQ30, l30, y30, z30⟩, st30⟩ := Jvm.LawKit.callS X19 hx (y := Y49) hown (mvT hZ (own_h hw 315 rfl)) (mvT hZ (own_h hw 316 rfl)) (mvT hZ (own_h hw 56 rfl)) (mvT hZ (own_h hw 317 rfl)) (by decide) (backOf (W := 0) (rm68 l Z a0 hw [] b10 p1 ds.length mm kb10 ds zc fm h19 n0 Zs19 f20 HA f29 (by have := hB.2.2; omega) rfl hdm gg_b10) hZ (own_h hw 317 rfl) (own_h hw 56 rfl) (by decide) (by decide)) (g := (mkF m 72 #[.val (.ref p0), .val (.int p1)] [(.int p1), (.int (Int32.ofNat ds.length)), (.ref b10)])) rfl (by rw [hml]; rfl) (argsL := [(.ref b10), (.int (Int32.ofNat ds.length)), (.int p1)]) (rest := []) (lenOf pd_16 rfl) rfl (own_r0 _) (hb hby d36_72) (fun _ _ => ⟨rfl, e19, (by decide : 1 + 0 ≤ _), (by decide : 10 + 0 ≤ _)⟩)
     dsimp only [Pt.U, Pt.locs, Pt.cells, Pt.slots] at X30 l30 y30 z30 st30 hQ30
     rw [l30] at X30
     subst y30 z30
     obtain ⟨rfl, Nq30, Kq30, r30_0⟩ := hQ30
     have N30 := Fr.app N19 Nq30
     have f31 := f20.keep Kq30 (allS gg_b10 all0)
     have f32 := f21.keep Kq30
     have f33 := f22.keep Kq30
     have f34 := f23.keep Kq30 (ninS ne12 nin0)
     have f35 := f24.keep Kq30
     have f36 := f25.keep Kq30 (ninS ne11 nin0)
     have f37 := f26.keep Kq30 (ninS ne11 nin0)
     have f38 := f27.keep Kq30 (ninS ne11 nin0)
     have f39 := f28.keep Kq30 (ninS ne11 nin0)
     have Zs30 := Nat.le_trans Zs19 Kq30.1
     have K30_0 := K19_0.trans Kq30 (allS (Or.inr sz_b10_0) all0)
     refine own_go (fun _ k => st30 _ (XS.aloadN X30.here hx rfl (hb hby d36_75) rfl rfl k)) ?_
     show own_G _ _ _ (T30.setTop (mkF m 76 #[.val (.ref p0), .val (.int p1)] [(.ref p0)])) _ _ _ _
     exact own_endR X30 hx hlk Bd.returns rfl rfl rfl (hb hby d36_76) (by decide) (by decide) (Q := (Q36 Z p0 p1 zc fm va kv bo ds mm h0 n0)) ⟨b10, kb10, 1, rfl, N30, K30_0, f32, f36, f37, (by rw [own_al]; exact f38), f39, f35, own_v1r rfl r30_0, ⟨Or.inr rfl, own_ap hB.2.1 hr1, hB.2.2⟩, Or.inr sz_b10_0⟩
   · refine own_go (fun _ k => XS.ifNo X6.here hx rfl (hb hby d36_21) rfl ((if0 _ _).trans (feq hc7).1) (XS.aloadN X6.here hx rfl (hb hby d36_24) rfl rfl k)) ?_
     obtain ⟨T40, X40, e40, st40⟩ := getF X6 hx hZ hown (host := "") (Or.inl (own_h hw 119 rfl)) Via.refl eh6 P_F_p0_value (g := (mkF m 25 #[.val (.ref p0), .val (.int p1)] [(.ref p0)])) rfl rfl (hb hby d36_25)
     refine own_go (fun _ k => st40 _ (XS.aloadN X40.here hx rfl (hb hby d36_28) rfl rfl (XS.dup X40.here hx rfl (hb hby d36_29) rfl rfl k))) ?_
     obtain ⟨T41, X41, e41, st41⟩ := getF X40 hx hZ hown (host := "") (Or.inl (own_h hw 145 rfl)) Via.refl e40 P_F_p0_count (g := (mkF m 30 #[.val (.ref p0), .val (.int p1)] [(.ref p0), (.ref p0), (.ref va)])) rfl rfl (hb hby d36_30)
     refine own_go (fun _ k => st41 _ (XS.dupX1 X41.here hx rfl (hb hby d36_33) rfl rfl rfl (XS.iconst X41.here hx rfl (hb hby d36_34) k))) ?_
     show own_G _ _ _ (T41.setTop (mkF m 35 #[.val (.ref p0), .val (.int p1)] [(.int 1), (.int (Int32.ofNat ds.length)), (.ref p0), (.int (Int32.ofNat ds.length)), (.ref va)])) _ _ _ _
     refine own_go (fun _ k => XS.iadd X41.here hx rfl (hb hby d36_35) rfl k) ?_
     rw [own_inc ds.length]
     show own_G _ _ _ (T41.setTop (mkF m 36 #[.val (.ref p0), .val (.int p1)] [(.int (Int32.ofNat (ds.length + 1))), (.ref p0), (.int (Int32.ofNat ds.length)), (.ref va)])) _ _ _ _
     obtain ⟨T42, h42, X42, e42, W42, st42⟩ := putF X41 hx hZ hown (host := "") (Or.inl (own_h hw 145 rfl)) Via.refl e41 P_F_p0_count P_E_p0 (Or.inl (own_h hw 146 rfl)) (own_h hw 105 rfl) (ty := .int) (by decide) rfl rfl (g := (mkF m 36 #[.val (.ref p0), .val (.int p1)] [(.int (Int32.ofNat (ds.length + 1))), (.ref p0), (.int (Int32.ofNat ds.length)), (.ref va)])) rfl rfl (hb hby d36_36)
     have N42 := Fr.snoc X42 N6 g_p0
     have Zs42 := Nat.le_trans Z0 (Keep.of_wr W42).1
     have K42_0 := K0.wr W42 (Or.inl (List.mem_of_getElem? (i := 0) rfl))
     have f43 := P_Old.wr W42 g_p0
     have f44 := P_E_p0.wr W42
     have f45 := P_F_p0_value.other W42 (Or.inr (slot_ne (Or.inl (own_h hw 120 rfl)) (Or.inl (own_h hw 146 rfl)) (by decide) (t := (.array .byte)) (t' := .int) (by decide) (by decide)))
     have f46 := co3a.other W42 (Or.inr (slot_ne (Or.inl (own_h hw 122 rfl)) (Or.inl (own_h hw 146 rfl)) (by decide) (t := .byte) (t' := .int) (by decide) (by decide)))
     have f47 : Fld Z h42 p0 "java/lang/AbstractStringBuilder" "count" "I" (.int (Int32.ofNat (ds.length + 1))) := P_F_p0_count.same W42
     have f48 := P_F_p0_maybeLatin1.other W42 (Or.inr (slot_ne (Or.inl (own_h hw 319 rfl)) (Or.inl (own_h hw 146 rfl)) (by decide) (t := .boolean) (t' := .int) (by decide) (by decide)))
     have f49 := P_E_va.wr W42
     have f50 := co3b.other W42 (ne_exa P_E_va P_E_p0 (by decide))
     refine own_go (fun _ k => st42 _ (XS.iloadN X42.here hx rfl (hb hby d36_39) rfl (XS.i2b X42.here hx rfl (hb hby d36_40) rfl k))) ?_
     show own_G _ _ _ (T42.setTop (mkF m 41 #[.val (.ref p0), .val (.int p1)] [(.int p1.toInt8.toInt32), (.int (Int32.ofNat ds.length)), (.ref va)])) _ _ _ _
     have f52 : Arv Z h42 va kv .byte (Int32.ofNat mm) (own_l1 ds ++ [Value.int 0]) (.int 0) := (f50).pad (fun i_ => own_l1_pad ds i_)
     obtain ⟨cl51, Ar51, q51, S51, Ng51, H51, G51⟩ := id f52
     have in51 : ¬ ((Int32.ofNat ds.length) < 0 ∨ cl51.slots.size ≤ ((Int32.ofNat ds.length)).toNatClampNeg) := inb_of S51 (own_inb (n := mm) (by omega) (by have := hB.2.2; omega))
     obtain ⟨T51, h51, X51, e51, W51, st51⟩ := stB X42 hx hZ e42 Ar51 (j := (Int32.ofNat ds.length)) in51 (g := (mkF m 41 #[.val (.ref p0), .val (.int p1)] [(.int p1.toInt8.toInt32), (.int (Int32.ofNat ds.length)), (.ref va)])) rfl rfl (hb hby d36_41)
     have N51 := Fr.snoc X51 N42 g_va
     have Zs51 := Nat.le_trans Zs42 (Keep.of_wr W51).1
     have K51_0 := K42_0.wr W51 (Or.inl (List.mem_of_getElem? (i := 1) rfl))
     have f53 := f43.wr W51 g_va
     have f54 := f44.wr W51
     have f55 := f45.other W51 (Or.inl (ne_exa f44 f49 (by decide)))
     have f56 := f46.other W51 (Or.inl (ne_exa f44 f49 (by decide)))
     have f57 := f47.other W51 (Or.inl (ne_exa f44 f49 (by decide)))
     have f58 := f48.other W51 (Or.inl (ne_exa f44 f49 (by decide)))
     have f59 := f49.wr W51
     have f60 : Arv Z h51 va kv .byte (Int32.ofNat mm) (own_l1 (ds ++ [p1])) (.int 0) := (by have q := Arv.set Ar51 q51 S51 Ng51 H51 G51 (fits_nar_byte _) W51 (ds.length) (own_cl (ds.length) (by have := hB.2.2; omega)) (by rw [List.length_append, own_l1_len]; show _ < _ + 1; omega); rw [own_nb, own_l1_s _ _ rfl, ← own_l1_app] at q; exact q)
     refine own_go (fun _ k => st51 _ (XS.goto X51.here hx rfl (pc0 := 42) (pc' := 75) rfl (hb hby d36_42) (by decide) (by decide) (XS.aloadN X51.here hx rfl (hb hby d36_75) rfl rfl k))) ?_
     show own_G _ _ _ (T51.setTop (mkF m 76 #[.val (.ref p0), .val (.int p1)] [(.ref p0)])) _ _ _ _
     exact own_endR X51 hx hlk Bd.returns rfl rfl rfl (hb hby d36_76) (by decide) (by decide) (Q := (Q36 Z p0 p1 zc fm va kv bo ds mm h0 n0)) (by rw [e51]; exact ⟨va, kv, 0, rfl, N51, K51_0, f54, f55, f56, (by rw [own_al]; exact f57), f58, f59, own_v0r rfl f60, ⟨Or.inl ⟨rfl, own_ap h255b (own_canF hc7)⟩, own_ap hB.2.1 hr1, hB.2.2⟩, Or.inl rfl⟩)
 · have co3a : Fld Z h0 p0 "java/lang/AbstractStringBuilder" "coder" "B" (.int 1) := own_f ebo P_F_p0_coder
   have co3b : Arv Z h0 va kv .byte (Int32.ofNat (2 * mm)) (own_w ds) (.int 0) := own_v1 ebo P_V_va
   show own_G _ _ _ (T2.setTop (mkF m 10 #[.val (.ref p0), .val (.int p1)] [])) _ _ _ _
   refine own_go (fun _ k => XS.aloadN X2.here hx rfl (hb hby d36_10) rfl rfl k) ?_
   obtain ⟨cq61, kq61, q61a, q61b, q61c⟩ := isOf hZ eh2 P_E_p0
   obtain ⟨_, _, ⟨T61, L61, k61, n61⟩, -, X61, ⟨Lc61, hQ61, l61, y61, z61⟩, st61⟩ := X2.virtualBack hx (y := Y38) (z := Y38) hown (mvT hZ (own_h hw 158 rfl)) (mvT hZ (own_h hw 159 rfl)) (notFace_of_selects (args := #[]) (mvT hZ (own_h hw 161 rfl))) (mvT hZ (own_h hw 161 rfl)) (mvT hZ (own_h hw 160 rfl)) (by decide) (backOf (W := 0) (rm31b l Z a0 hw [] p0 zc fm h0 n0 Z0 P_Old HA co3a) hZ (own_h hw 162 rfl) (own_h hw 115 rfl) (by decide) (by decide)) q61a q61c (g := (mkF m 11 #[.val (.ref p0), .val (.int p1)] [(.ref p0)])) rfl (by rw [hml]; rfl) (Steps.refl _) (argsL := []) (rest := []) (lenOf pd_7 rfl) rfl (own_r0 _) (hb hby d36_11) (fun _ _ => ⟨rfl, eh2, (by decide : 0 + 0 ≤ _), (by decide : 0 + 0 ≤ _)⟩)
   dsimp only [Pt.U, Pt.locs, Pt.cells, Pt.slots] at X61 l61 y61 z61 st61 hQ61
   rw [l61] at X61
   subst y61 z61
   obtain ⟨rfl, Nq61, eh61⟩ := hQ61
   have N61 := Fr.app N2 Nq61
   refine own_go (fun _ k => st61.trans k) ?_
   show own_G _ _ _ (T61.setTop (mkF m 14 #[.val (.ref p0), .val (.int p1)] [(.int 0)])) _ _ _ _
   have hc62 : (0 : Int32) = (0 : Int32) := (by decide)
   refine own_go (fun _ k => XS.ifYes X61.here hx rfl (pc0 := 14) (pc' := 45) rfl (hb hby d36_14) rfl ((if0 _ _).trans (teq hc62).1) (by decide) (by decide) (XS.aloadN X61.here hx rfl (hb hby d36_45) rfl rfl k)) ?_
   obtain ⟨cq63, kq63, q63a, q63b, q63c⟩ := isOf hZ eh61 P_E_p0
   obtain ⟨_, _, ⟨T63, L63, k63, n63⟩, -, X63, ⟨Lc63, hQ63, l63, y63, z63⟩, st63⟩ := X61.virtualBack hx (y := Y38) (z := Y38) hown (mvT hZ (own_h hw 158 rfl)) (mvT hZ (own_h hw 159 rfl)) (notFace_of_selects (args := #[]) (mvT hZ (own_h hw 161 rfl))) (mvT hZ (own_h hw 161 rfl)) (mvT hZ (own_h hw 160 rfl)) (by decide) (backOf (W := 0) (rm31b l Z a0 hw [] p0 zc fm h0 n0 Z0 P_Old HA co3a) hZ (own_h hw 162 rfl) (own_h hw 115 rfl) (by decide) (by decide)) q63a q63c (g := (mkF m 46 #[.val (.ref p0), .val (.int p1)] [(.ref p0)])) rfl (by rw [hml]; rfl) (Steps.refl _) (argsL := []) (rest := []) (lenOf pd_7 rfl) rfl (own_r0 _) (hb hby d36_46) (fun _ _ => ⟨rfl, eh61, (by decide : 0 + 0 ≤ _), (by decide : 0 + 0 ≤ _)⟩)
   dsimp only [Pt.U, Pt.locs, Pt.cells, Pt.slots] at X63 l63 y63 z63 st63 hQ63
   rw [l63] at X63
   subst y63 z63
   obtain ⟨rfl, Nq63, eh63⟩ := hQ63
   have N63 := Fr.app N61 Nq63
   refine own_go (fun _ k => st63.trans k) ?_
   show own_G _ _ _ (T63.setTop (mkF m 49 #[.val (.ref p0), .val (.int p1)] [(.int 0)])) _ _ _ _
   have hc64 : (0 : Int32) = (0 : Int32) := (by decide)
   refine own_go (fun _ k => XS.ifYes X63.here hx rfl (pc0 := 49) (pc' := 56) rfl (hb hby d36_49) rfl ((if0 _ _).trans (teq hc64).1) (by decide) (by decide) (XS.aloadN X63.here hx rfl (hb hby d36_56) rfl rfl k)) ?_
   obtain ⟨T65, X65, e65, st65⟩ := getF X63 hx hZ hown (host := "") (Or.inl (own_h hw 119 rfl)) Via.refl eh63 P_F_p0_value (g := (mkF m 57 #[.val (.ref p0), .val (.int p1)] [(.ref p0)])) rfl rfl (hb hby d36_57)
   refine own_go (fun _ k => st65 _ (XS.aloadN X65.here hx rfl (hb hby d36_60) rfl rfl (XS.dup X65.here hx rfl (hb hby d36_61) rfl rfl k))) ?_
   obtain ⟨T66, X66, e66, st66⟩ := getF X65 hx hZ hown (host := "") (Or.inl (own_h hw 145 rfl)) Via.refl e65 P_F_p0_count (g := (mkF m 62 #[.val (.ref p0), .val (.int p1)] [(.ref p0), (.ref p0), (.ref va)])) rfl rfl (hb hby d36_62)
   refine own_go (fun _ k => st66 _ (XS.dupX1 X66.here hx rfl (hb hby d36_65) rfl rfl rfl (XS.iconst X66.here hx rfl (hb hby d36_66) k))) ?_
   show own_G _ _ _ (T66.setTop (mkF m 67 #[.val (.ref p0), .val (.int p1)] [(.int 1), (.int (Int32.ofNat ds.length)), (.ref p0), (.int (Int32.ofNat ds.length)), (.ref va)])) _ _ _ _
   refine own_go (fun _ k => XS.iadd X66.here hx rfl (hb hby d36_67) rfl k) ?_
   rw [own_inc ds.length]
   show own_G _ _ _ (T66.setTop (mkF m 68 #[.val (.ref p0), .val (.int p1)] [(.int (Int32.ofNat (ds.length + 1))), (.ref p0), (.int (Int32.ofNat ds.length)), (.ref va)])) _ _ _ _
   obtain ⟨T67, h67, X67, e67, W67, st67⟩ := putF X66 hx hZ hown (host := "") (Or.inl (own_h hw 145 rfl)) Via.refl e66 P_F_p0_count P_E_p0 (Or.inl (own_h hw 146 rfl)) (own_h hw 105 rfl) (ty := .int) (by decide) rfl rfl (g := (mkF m 68 #[.val (.ref p0), .val (.int p1)] [(.int (Int32.ofNat (ds.length + 1))), (.ref p0), (.int (Int32.ofNat ds.length)), (.ref va)])) rfl rfl (hb hby d36_68)
   have N67 := Fr.snoc X67 N63 g_p0
   have Zs67 := Nat.le_trans Z0 (Keep.of_wr W67).1
   have K67_0 := K0.wr W67 (Or.inl (List.mem_of_getElem? (i := 0) rfl))
   have f68 := P_Old.wr W67 g_p0
   have f69 := P_E_p0.wr W67
   have f70 := P_F_p0_value.other W67 (Or.inr (slot_ne (Or.inl (own_h hw 120 rfl)) (Or.inl (own_h hw 146 rfl)) (by decide) (t := (.array .byte)) (t' := .int) (by decide) (by decide)))
   have f71 := co3a.other W67 (Or.inr (slot_ne (Or.inl (own_h hw 122 rfl)) (Or.inl (own_h hw 146 rfl)) (by decide) (t := .byte) (t' := .int) (by decide) (by decide)))
   have f72 : Fld Z h67 p0 "java/lang/AbstractStringBuilder" "count" "I" (.int (Int32.ofNat (ds.length + 1))) := P_F_p0_count.same W67
   have f73 := P_F_p0_maybeLatin1.other W67 (Or.inr (slot_ne (Or.inl (own_h hw 319 rfl)) (Or.inl (own_h hw 146 rfl)) (by decide) (t := .boolean) (t' := .int) (by decide) (by decide)))
   have f74 := P_E_va.wr W67
   have f75 := co3b.other W67 (ne_exa P_E_va P_E_p0 (by decide))
   refine own_go (fun _ k => st67 _ (XS.iloadN X67.here hx rfl (hb hby d36_71) rfl k)) ?_
   obtain ⟨_, _, ⟨T76, L76, k76, n76⟩, -, X76, ⟨Lc76, hQ76, l76, y76, z76⟩, st76⟩ := Jvm.LawKit.callS X67 hx (y := Y49) hown (mvT hZ (own_h hw 315 rfl)) (mvT hZ (own_h hw 316 rfl)) (mvT hZ (own_h hw 56 rfl)) (mvT hZ (own_h hw 317 rfl)) (by decide) (backOf (W := 0) (rm68 l Z a0 hw [] va p1 ds.length mm kv ds zc fm h67 n0 Zs67 f68 HA f75 (by have := hB.2.2; omega) rfl hdm g_va) hZ (own_h hw 317 rfl) (own_h hw 56 rfl) (by decide) (by decide)) (g := (mkF m 72 #[.val (.ref p0), .val (.int p1)] [(.int p1), (.int (Int32.ofNat ds.length)), (.ref va)])) rfl (by rw [hml]; rfl) (argsL := [(.ref va), (.int (Int32.ofNat ds.length)), (.int p1)]) (rest := []) (lenOf pd_16 rfl) rfl (own_r0 _) (hb hby d36_72) (fun _ _ => ⟨rfl, e67, (by decide : 0 + 0 ≤ _), (by decide : 0 + 0 ≤ _)⟩)
   dsimp only [Pt.U, Pt.locs, Pt.cells, Pt.slots] at X76 l76 y76 z76 st76 hQ76
   rw [l76] at X76
   subst y76 z76
   obtain ⟨rfl, Nq76, Kq76, r76_0⟩ := hQ76
   have N76 := Fr.app N67 Nq76
   have f77 := f68.keep Kq76 (allS g_va all0)
   have f78 := f69.keep Kq76
   have f79 := f70.keep Kq76 (ninS (ne_exa f69 f74 (by decide)) nin0)
   have f80 := f71.keep Kq76 (ninS (ne_exa f69 f74 (by decide)) nin0)
   have f81 := f72.keep Kq76 (ninS (ne_exa f69 f74 (by decide)) nin0)
   have f82 := f73.keep Kq76 (ninS (ne_exa f69 f74 (by decide)) nin0)
   have f83 := f74.keep Kq76
   have Zs76 := Nat.le_trans Zs67 Kq76.1
   have K76_0 := K67_0.trans Kq76 (allS (Or.inl (List.mem_of_getElem? (i := 1) rfl)) all0)
   refine own_go (fun _ k => st76 _ (XS.aloadN X76.here hx rfl (hb hby d36_75) rfl rfl k)) ?_
   show own_G _ _ _ (T76.setTop (mkF m 76 #[.val (.ref p0), .val (.int p1)] [(.ref p0)])) _ _ _ _
   exact own_endR X76 hx hlk Bd.returns rfl rfl rfl (hb hby d36_76) (by decide) (by decide) (Q := (Q36 Z p0 p1 zc fm va kv bo ds mm h0 n0)) ⟨va, kv, 1, rfl, N76, K76_0, f78, f79, f80, (by rw [own_al]; exact f81), f82, f83, own_v1r rfl r76_0, ⟨Or.inr rfl, own_ap hB.2.1 hr1, hB.2.2⟩, Or.inl rfl⟩
theorem d35_0 : own_d B35 0 (.aload_n 0) 1 := by decide +kernel
theorem d35_1 : own_d B35 1 (.iload_n 1) 1 := by decide +kernel
theorem d35_2 : own_d B35 2 (.invokespecial 50) 3 := by decide +kernel
theorem d35_5 : own_d B35 5 (.pop) 1 := by decide +kernel
theorem d35_6 : own_d B35 6 (.aload_n 0) 1 := by decide +kernel
theorem d35_7 : own_d B35 7 (.areturn) 1 := by decide +kernel
theorem pd_26 : parseMethodDescriptor "(C)Ljava/lang/AbstractStringBuilder;" = some ⟨[.char], some (.object "java/lang/AbstractStringBuilder")⟩ := by decide +kernel
theorem ef_35 (m : MethodId) (p0 : Addr) (p1 : Int32) : entryFrame m #[(.ref p0), (.int p1)] 2 = mkF m 0 #[.val (.ref p0), .val (.int p1)] [] := by first | (simp [entryFrame, mkF, argsToLocals, Value.category]; done) | rfl
def Q35 (Z : State) (p0 : Addr) (p1 : Int32) (zc : Int32) (fm : Value) (va : Addr) (kv : ClassId) (bo : Int32) (ds : List Int32) (mm : Nat) (h0 : Heap) (n0 : Nat) (v : Option Value) (h : Heap) (L : List Loc) : Prop := ∃ (va2 : Addr) (kv2 : ClassId) (bo2 : Int32), v = some (.ref p0) ∧ Fr n0 L ∧ Keep h0 h [p0, va] ∧ Exa Z h p0 "java/lang/StringBuilder" ∧ Fld Z h p0 "java/lang/AbstractStringBuilder" "value" "[B" (.ref va2) ∧ Fld Z h p0 "java/lang/AbstractStringBuilder" "coder" "B" (.int bo2) ∧ Fld Z h p0 "java/lang/AbstractStringBuilder" "count" "I" (.int (Int32.ofNat (ds ++ [p1]).length)) ∧ Fld Z h p0 "java/lang/AbstractStringBuilder" "maybeLatin1" "Z" (.int 0) ∧ Exa Z h va2 "[B" ∧ Arv Z h va2 kv2 .byte (own_cap bo2 mm) (own_sv bo2 (ds ++ [p1])) (.int 0) ∧ own_BK bo2 (ds ++ [p1]) mm ∧ (va2 = va ∨ h0.size ≤ va2)
theorem rm35 (l : Launch) (Z : State) (a0 : Array Value) (hw : ∀ d ∈ tables_1, d.before a0 Z = true) (ws : List Jvm.Cond) (p0 : Addr) (p1 : Int32) (zc : Int32) (fm : Value) (va : Addr) (kv : ClassId) (bo : Int32) (ds : List Int32) (mm : Nat) (h0 : Heap) (n0 : Nat) (Z0 : n0 ≤ h0.size) (P_Old : Old Z n0 h0) (HA : own_Z Z zc fm) (P_E_p0 : Exa Z h0 p0 "java/lang/StringBuilder") (P_F_p0_value : Fld Z h0 p0 "java/lang/AbstractStringBuilder" "value" "[B" (.ref va)) (P_F_p0_coder : Fld Z h0 p0 "java/lang/AbstractStringBuilder" "coder" "B" (.int bo)) (P_F_p0_count : Fld Z h0 p0 "java/lang/AbstractStringBuilder" "count" "I" (.int (Int32.ofNat ds.length))) (P_F_p0_maybeLatin1 : Fld Z h0 p0 "java/lang/AbstractStringBuilder" "maybeLatin1" "Z" (.int 0)) (P_E_va : Exa Z h0 va "[B") (P_V_va : Arv Z h0 va kv .byte (own_cap bo mm) (own_sv bo ds) (.int 0)) (hB : own_BK bo ds mm) (hdm : ds.length < mm) (hr1 : own_r p1) (g_p0 : n0 ≤ p0) (g_va : n0 ≤ va) :
   own_M l Z Y51 jdk_67_method_14_code 2 (some (.object "java/lang/StringBuilder")) ws ({ frames := 7, cells := 1, slots := 10, locals := 102 } : Room) #[(.ref p0), (.int p1)] h0 (Q35 Z p0 p1 zc fm va kv bo ds mm h0 n0) := by
 refine own_body (C := "java/lang/StringBuilder") rfl (plainFor_of_name pn_5) (fun p e s m below meth c s₁ Bd hx hby hml hown hlk hZ X0 e0 => ?_)
 have N0 := Fr.nil n0
 obtain ⟨Zcs, hcs, Zsi, hfm, Zad, Zhi, Zlo⟩ := id HA
 have K0 : Keep h0 h0 [p0, va] := Keep.refl h0 [p0, va]
 refine own_go (fun _ k => castTop (ef_35 m p0 p1) (XS.aloadN X0.here hx rfl (hb hby d35_0) rfl rfl (XS.iloadN X0.here hx rfl (hb hby d35_1) rfl k))) ?_
 obtain ⟨_, _, ⟨T1, L1, k1, n1⟩, -, X1, ⟨Lc1, hQ1, l1, y1, z1⟩, st1⟩ := superBack X0 hx hZ (y := Y50) hown (own_h hw 185 rfl) (own_samem (own_h hw 150 rfl) rfl (own_h hw 186 rfl) (by decide)) (own_h hw 186 rfl) (own_h hw 130 rfl) (by decide) (backOf (W := 0) (rm36 l Z a0 hw [] p0 p1 zc fm va kv bo ds mm h0 n0 Z0 P_Old HA P_E_p0 P_F_p0_value P_F_p0_coder P_F_p0_count P_F_p0_maybeLatin1 P_E_va P_V_va hB hdm hr1 g_p0 g_va) hZ (own_h hw 188 rfl) (own_h hw 115 rfl) (by decide) (by decide)) e0 (Ins.self P_E_p0) (g := (mkF m 2 #[.val (.ref p0), .val (.int p1)] [(.int p1), (.ref p0)])) rfl (by rw [hml]; rfl) (own_h hw 188 rfl) (argsL := [(.int p1)]) (rest := []) (lenOf pd_26 rfl) rfl (own_r0 _) (hb hby d35_2) (fun _ _ => ⟨rfl, e0, (by decide : 0 + 1 ≤ _), (by decide : 0 + 10 ≤ _)⟩)
 dsimp only [Pt.U, Pt.locs, Pt.cells, Pt.slots] at X1 l1 y1 z1 st1 hQ1
 rw [l1] at X1
 subst y1 z1
 obtain ⟨va21, kv21, bo21, rfl, Nq1, Kq1, r1_0, r1_1, r1_2, r1_3, r1_4, r1_5, r1_6, r1_7, r1_8⟩ := hQ1
 have N1 := Fr.app N0 Nq1
 have f2 := P_Old.keep Kq1 (allS g_p0 (allS g_va all0))
 have f3 := P_E_p0.keep Kq1
 have f4 := P_E_va.keep Kq1
 have Zs1 := Nat.le_trans Z0 Kq1.1
 have K1_0 := K0.trans Kq1 (allS (Or.inl (List.mem_of_getElem? (i := 0) rfl)) (allS (Or.inl (List.mem_of_getElem? (i := 1) rfl)) all0))
 refine own_go (fun _ k => st1.trans (XS.pop X1.here hx rfl (hb hby d35_5) rfl rfl (XS.aloadN X1.here hx rfl (hb hby d35_6) rfl rfl k))) ?_
 show own_G _ _ _ (T1.setTop (mkF m 7 #[.val (.ref p0), .val (.int p1)] [(.ref p0)])) _ _ _ _
 exact own_endR X1 hx hlk Bd.returns rfl rfl rfl (hb hby d35_7) (by decide) (by decide) (Q := (Q35 Z p0 p1 zc fm va kv bo ds mm h0 n0)) ⟨va21, kv21, bo21, rfl, N1, K1_0, r1_0, r1_1, r1_2, r1_3, r1_4, r1_5, r1_6, r1_7, r1_8⟩
theorem d30_0 : own_d B30 0 (.aload_n 0) 1 := by decide +kernel
theorem d30_1 : own_d B30 1 (.invokevirtual 83) 3 := by decide +kernel
theorem d30_4 : own_d B30 4 (.ifCond .eq 141) 3 := by decide +kernel
theorem d30_7 : own_d B30 7 (.aload_n 1) 1 := by decide +kernel
theorem d30_8 : own_d B30 8 (.invokevirtual 400) 3 := by decide +kernel
theorem d30_11 : own_d B30 11 (.ifCond .eq 25) 3 := by decide +kernel
theorem d30_14 : own_d B30 14 (.aload_n 1) 1 := by decide +kernel
theorem d30_15 : own_d B30 15 (.invokevirtual 401) 3 := by decide +kernel
theorem d30_18 : own_d B30 18 (.iload_n 2) 1 := by decide +kernel
theorem d30_19 : own_d B30 19 (.aload_n 0) 1 := by decide +kernel
theorem d30_20 : own_d B30 20 (.getfield 15) 3 := by decide +kernel
theorem d30_23 : own_d B30 23 (.aload_n 0) 1 := by decide +kernel
theorem d30_24 : own_d B30 24 (.getfield 79) 3 := by decide +kernel
theorem d30_27 : own_d B30 27 (.iload_n 3) 1 := by decide +kernel
theorem d30_28 : own_d B30 28 (.iload_n 2) 1 := by decide +kernel
theorem d30_29 : own_d B30 29 (.isub) 1 := by decide +kernel
theorem d30_30 : own_d B30 30 (.invokestatic 309) 3 := by decide +kernel
theorem d30_33 : own_d B30 33 (.goto 161) 3 := by decide +kernel
theorem d30_36 : own_d B30 36 (.aload_n 0) 1 := by decide +kernel
theorem d30_37 : own_d B30 37 (.getfield 15) 3 := by decide +kernel
theorem d30_40 : own_d B30 40 (.astore 4) 2 := by decide +kernel
theorem d30_42 : own_d B30 42 (.iload_n 2) 1 := by decide +kernel
theorem d30_43 : own_d B30 43 (.istore 5) 2 := by decide +kernel
theorem d30_45 : own_d B30 45 (.aload_n 0) 1 := by decide +kernel
theorem d30_46 : own_d B30 46 (.getfield 79) 3 := by decide +kernel
theorem d30_49 : own_d B30 49 (.istore 6) 2 := by decide +kernel
theorem d30_51 : own_d B30 51 (.iload 5) 2 := by decide +kernel
theorem d30_53 : own_d B30 53 (.iload_n 3) 1 := by decide +kernel
theorem d30_54 : own_d B30 54 (.if_icmp .ge 88) 3 := by decide +kernel
theorem d30_57 : own_d B30 57 (.aload_n 1) 1 := by decide +kernel
theorem d30_58 : own_d B30 58 (.iload 5) 2 := by decide +kernel
theorem d30_60 : own_d B30 60 (.invokevirtual 404) 3 := by decide +kernel
theorem d30_63 : own_d B30 63 (.istore 7) 2 := by decide +kernel
theorem d30_65 : own_d B30 65 (.iload 7) 2 := by decide +kernel
theorem d30_67 : own_d B30 67 (.invokestatic 191) 3 := by decide +kernel
theorem d30_70 : own_d B30 70 (.ifCond .eq 17) 3 := by decide +kernel
theorem d30_73 : own_d B30 73 (.aload 4) 2 := by decide +kernel
theorem d30_75 : own_d B30 75 (.iload 6) 2 := by decide +kernel
theorem d30_77 : own_d B30 77 (.iinc 6 1) 3 := by decide +kernel
theorem d30_80 : own_d B30 80 (.iload 7) 2 := by decide +kernel
theorem d30_82 : own_d B30 82 (.i2b) 1 := by decide +kernel
theorem d30_83 : own_d B30 83 (.bastore) 1 := by decide +kernel
theorem d30_84 : own_d B30 84 (.goto 52) 3 := by decide +kernel
theorem d30_87 : own_d B30 87 (.aload_n 0) 1 := by decide +kernel
theorem d30_88 : own_d B30 88 (.iload 6) 2 := by decide +kernel
theorem d30_90 : own_d B30 90 (.putfield 79) 3 := by decide +kernel
theorem d30_93 : own_d B30 93 (.aload_n 0) 1 := by decide +kernel
theorem d30_94 : own_d B30 94 (.invokevirtual 195) 3 := by decide +kernel
theorem d30_97 : own_d B30 97 (.aload_n 1) 1 := by decide +kernel
theorem d30_98 : own_d B30 98 (.invokevirtual 401) 3 := by decide +kernel
theorem d30_101 : own_d B30 101 (.iload 5) 2 := by decide +kernel
theorem d30_103 : own_d B30 103 (.iconst 1) 1 := by decide +kernel
theorem d30_104 : own_d B30 104 (.ishl) 1 := by decide +kernel
theorem d30_105 : own_d B30 105 (.aload_n 0) 1 := by decide +kernel
theorem d30_106 : own_d B30 106 (.getfield 15) 3 := by decide +kernel
theorem d30_109 : own_d B30 109 (.iload 6) 2 := by decide +kernel
theorem d30_111 : own_d B30 111 (.iconst 1) 1 := by decide +kernel
theorem d30_112 : own_d B30 112 (.ishl) 1 := by decide +kernel
theorem d30_113 : own_d B30 113 (.iload_n 3) 1 := by decide +kernel
theorem d30_114 : own_d B30 114 (.iload 5) 2 := by decide +kernel
theorem d30_116 : own_d B30 116 (.isub) 1 := by decide +kernel
theorem d30_117 : own_d B30 117 (.iconst 1) 1 := by decide +kernel
theorem d30_118 : own_d B30 118 (.ishl) 1 := by decide +kernel
theorem d30_119 : own_d B30 119 (.invokestatic 309) 3 := by decide +kernel
theorem d30_122 : own_d B30 122 (.aload_n 0) 1 := by decide +kernel
theorem d30_123 : own_d B30 123 (.dup) 1 := by decide +kernel
theorem d30_124 : own_d B30 124 (.getfield 79) 3 := by decide +kernel
theorem d30_127 : own_d B30 127 (.iload_n 3) 1 := by decide +kernel
theorem d30_128 : own_d B30 128 (.iload 5) 2 := by decide +kernel
theorem d30_130 : own_d B30 130 (.isub) 1 := by decide +kernel
theorem d30_131 : own_d B30 131 (.iadd) 1 := by decide +kernel
theorem d30_132 : own_d B30 132 (.putfield 79) 3 := by decide +kernel
theorem d30_135 : own_d B30 135 (.return_) 1 := by decide +kernel
theorem d30_136 : own_d B30 136 (.iinc 5 1) 3 := by decide +kernel
theorem d30_139 : own_d B30 139 (.goto (-88)) 3 := by decide +kernel
theorem d30_142 : own_d B30 142 (.goto 52) 3 := by decide +kernel
theorem d30_194 : own_d B30 194 (.aload_n 0) 1 := by decide +kernel
theorem d30_195 : own_d B30 195 (.dup) 1 := by decide +kernel
theorem d30_196 : own_d B30 196 (.getfield 79) 3 := by decide +kernel
theorem d30_199 : own_d B30 199 (.iload_n 3) 1 := by decide +kernel
theorem d30_200 : own_d B30 200 (.iload_n 2) 1 := by decide +kernel
theorem d30_201 : own_d B30 201 (.isub) 1 := by decide +kernel
theorem d30_202 : own_d B30 202 (.iadd) 1 := by decide +kernel
theorem d30_203 : own_d B30 203 (.putfield 79) 3 := by decide +kernel
theorem d30_206 : own_d B30 206 (.return_) 1 := by decide +kernel
theorem pd_27 : parseMethodDescriptor "()[B" = some ⟨[], some (.array .byte)⟩ := by decide +kernel
theorem pd_28 : parseMethodDescriptor "(I)C" = some ⟨[.int], some .char⟩ := by decide +kernel
theorem ef_30 (m : MethodId) (p0 : Addr) (p1 : Addr) (n : Nat) : entryFrame m #[(.ref p0), (.ref p1), (.int 0), (.int (Int32.ofNat n))] 8 = mkF m 0 #[.val (.ref p0), .val (.ref p1), .val (.int 0), .val (.int (Int32.ofNat n)), .unset, .unset, .unset, .unset] [] := by first | (simp [entryFrame, mkF, argsToLocals, Value.category]; done) | rfl
def Q30 (Z : State) (p0 : Addr) (p1 : Addr) (zc : Int32) (fm : Value) (co : Int32) (t : Addr) (kb : ClassId) (cs : List Int32) (va : Addr) (kv : ClassId) (mm : Nat) (n : Nat) (h0 : Heap) (n0 : Nat) (v : Option Value) (h : Heap) (L : List Loc) : Prop := ∃ (va2 : Addr) (kv2 : ClassId) (bo2 : Int32), v = none ∧ Fr n0 L ∧ Keep h0 h [p0, va] ∧ Exa Z h p0 "java/lang/StringBuilder" ∧ Fld Z h p0 "java/lang/AbstractStringBuilder" "value" "[B" (.ref va2) ∧ Fld Z h p0 "java/lang/AbstractStringBuilder" "coder" "B" (.int bo2) ∧ Fld Z h p0 "java/lang/AbstractStringBuilder" "count" "I" (.int (Int32.ofNat (cs.take n).length)) ∧ Fld Z h p0 "java/lang/AbstractStringBuilder" "maybeLatin1" "Z" (.int 0) ∧ Exa Z h va2 "[B" ∧ Arv Z h va2 kv2 .byte (own_cap bo2 mm) (own_sv bo2 (cs.take n)) (.int 0) ∧ own_BK bo2 (cs.take n) mm ∧ (va2 = va ∨ h0.size ≤ va2)
theorem rm30 (l : Launch) (Z : State) (a0 : Array Value) (hw : ∀ d ∈ tables_1, d.before a0 Z = true) (ws : List Jvm.Cond) (p0 : Addr) (p1 : Addr) (zc : Int32) (fm : Value) (co : Int32) (t : Addr) (kb : ClassId) (cs : List Int32) (va : Addr) (kv : ClassId) (mm : Nat) (n : Nat) (h0 : Heap) (n0 : Nat) (Z0 : n0 ≤ h0.size) (P_Old : Old Z n0 h0) (HA : own_Z Z zc fm) (P_E_p1 : Exa Z h0 p1 "java/lang/String") (P_F_p1_coder : Fld Z h0 p1 "java/lang/String" "coder" "B" (.int co)) (P_F_p1_value : Fld Z h0 p1 "java/lang/String" "value" "[B" (.ref t)) (P_V_t : Arv Z h0 t kb .byte (own_cap co cs.length) (own_sv co cs) (.int 0)) (hs : own_OK co cs) (P_E_p0 : Exa Z h0 p0 "java/lang/StringBuilder") (P_F_p0_value : Fld Z h0 p0 "java/lang/AbstractStringBuilder" "value" "[B" (.ref va)) (P_F_p0_coder : Fld Z h0 p0 "java/lang/AbstractStringBuilder" "coder" "B" (.int 0)) (P_F_p0_count : Fld Z h0 p0 "java/lang/AbstractStringBuilder" "count" "I" (.int 0)) (P_F_p0_maybeLatin1 : Fld Z h0 p0 "java/lang/AbstractStringBuilder" "maybeLatin1" "Z" (.int 0)) (P_E_va : Exa Z h0 va "[B") (P_V_va : Arv Z h0 va kv .byte (Int32.ofNat mm) (own_l1 []) (.int 0)) (hm5 : mm ≤ 5) (hnmm : n ≤ mm) (hnc : n ≤ cs.length) (g_p0 : n0 ≤ p0) (g_va : n0 ≤ va) (ntv : t ≠ va) :
   own_M l Z Y52 jdk_68_method_75_code 8 none ws ({ frames := 6, cells := 5, slots := 50, locals := 89 } : Room) #[(.ref p0), (.ref p1), (.int 0), (.int (Int32.ofNat n))] h0 (Q30 Z p0 p1 zc fm co t kb cs va kv mm n h0 n0) := by
 refine own_body (C := "java/lang/AbstractStringBuilder") rfl (plainFor_of_name pn_4) (fun p e s m below meth c s₁ Bd hx hby hml hown hlk hZ X0 e0 => ?_)
 have hnm := (name_of_methodNamed Bd.named Bd.method).1
 have N0 := Fr.nil n0
 obtain ⟨Zcs, hcs, Zsi, hfm, Zad, Zhi, Zlo⟩ := id HA
 have K0 : Keep h0 h0 [p0, va] := Keep.refl h0 [p0, va]
 refine own_go (fun _ k => castTop (ef_30 m p0 p1 n) k) ?_
 show own_G _ _ _ (s₁.setTop (mkF m 0 #[.val (.ref p0), .val (.ref p1), .val (.int 0), .val (.int (Int32.ofNat n)), .unset, .unset, .unset, .unset] [])) _ _ _ _
 rcases hs.1 with ⟨eco, h255c⟩ | eco
 · have co1a : Fld Z h0 p1 "java/lang/String" "coder" "B" (.int 0) := own_f eco P_F_p1_coder
   have co1b : Arv Z h0 t kb .byte (Int32.ofNat cs.length) (own_l1 cs) (.int 0) := own_v0 eco P_V_t
   show own_G _ _ _ (s₁.setTop (mkF m 0 #[.val (.ref p0), .val (.ref p1), .val (.int 0), .val (.int (Int32.ofNat n)), .unset, .unset, .unset, .unset] [])) _ _ _ _
   refine own_go (fun _ k => XS.aloadN X0.here hx rfl (hb hby d30_0) rfl rfl k) ?_
   obtain ⟨cq2, kq2, q2a, q2b, q2c⟩ := isOf hZ e0 P_E_p0
   obtain ⟨_, _, ⟨T2, L2, k2, n2⟩, -, X2, ⟨Lc2, hQ2, l2, y2, z2⟩, st2⟩ := X0.virtualBack hx (y := Y38) (z := Y38) hown (mvT hZ (own_h hw 158 rfl)) (mvT hZ (own_h hw 159 rfl)) (notFace_of_selects (args := #[]) (mvT hZ (own_h hw 161 rfl))) (mvT hZ (own_h hw 161 rfl)) (mvT hZ (own_h hw 160 rfl)) (by decide) (backOf (W := 0) (rm31a l Z a0 hw [] p0 zc fm h0 n0 Z0 P_Old HA P_F_p0_coder) hZ (own_h hw 162 rfl) (own_h hw 115 rfl) (by decide) (by decide)) q2a q2c (g := (mkF m 1 #[.val (.ref p0), .val (.ref p1), .val (.int 0), .val (.int (Int32.ofNat n)), .unset, .unset, .unset, .unset] [(.ref p0)])) rfl (by rw [hml]; rfl) (Steps.refl _) (argsL := []) (rest := []) (lenOf pd_7 rfl) rfl (own_r0 _) (hb hby d30_1) (fun _ _ => ⟨rfl, e0, (by decide : 0 + 0 ≤ _), (by decide : 0 + 0 ≤ _)⟩)
   dsimp only [Pt.U, Pt.locs, Pt.cells, Pt.slots] at X2 l2 y2 z2 st2 hQ2
   rw [l2] at X2
   subst y2 z2
   obtain ⟨rfl, Nq2, eh2⟩ := hQ2
   have N2 := Fr.app N0 Nq2
   refine own_go (fun _ k => st2.trans k) ?_
   show own_G _ _ _ (T2.setTop (mkF m 4 #[.val (.ref p0), .val (.ref p1), .val (.int 0), .val (.int (Int32.ofNat n)), .unset, .unset, .unset, .unset] [(.int 1)])) _ _ _ _
   have hc3 : ¬ ((1 : Int32) = (0 : Int32)) := (by decide)
   refine own_go (fun _ k => XS.ifNo X2.here hx rfl (hb hby d30_4) rfl ((if0 _ _).trans (feq hc3).1) (XS.aloadN X2.here hx rfl (hb hby d30_7) rfl rfl k)) ?_
   obtain ⟨cq4, kq4, q4a, q4b, q4c⟩ := isOf hZ eh2 P_E_p1
   obtain ⟨_, _, ⟨T4, L4, k4, n4⟩, -, X4, ⟨Lc4, hQ4, l4, y4, z4⟩, st4⟩ := X2.virtualBack hx (y := Y13) (z := Y13) hown (mvT hZ (own_h hw 163 rfl)) (mvT hZ (own_h hw 21 rfl)) (notFace_of_selects (args := #[]) (mvT hZ (own_h hw 23 rfl))) (mvT hZ (own_h hw 23 rfl)) (mvT hZ (own_h hw 22 rfl)) (by decide) (backOf (W := 0) (rm3a l Z a0 hw [] p1 zc fm h0 n0 Z0 P_Old HA co1a) hZ (own_h hw 24 rfl) (own_h hw 8 rfl) (by decide) (by decide)) q4a q4c (g := (mkF m 8 #[.val (.ref p0), .val (.ref p1), .val (.int 0), .val (.int (Int32.ofNat n)), .unset, .unset, .unset, .unset] [(.ref p1)])) rfl (by rw [hml]; rfl) (Steps.refl _) (argsL := []) (rest := []) (lenOf pd_7 rfl) rfl (own_r0 _) (hb hby d30_8) (fun _ _ => ⟨rfl, eh2, (by decide : 0 + 0 ≤ _), (by decide : 0 + 0 ≤ _)⟩)
   dsimp only [Pt.U, Pt.locs, Pt.cells, Pt.slots] at X4 l4 y4 z4 st4 hQ4
   rw [l4] at X4
   subst y4 z4
   obtain ⟨rfl, Nq4, eh4⟩ := hQ4
   have N4 := Fr.app N2 Nq4
   refine own_go (fun _ k => st4.trans k) ?_
   show own_G _ _ _ (T4.setTop (mkF m 11 #[.val (.ref p0), .val (.ref p1), .val (.int 0), .val (.int (Int32.ofNat n)), .unset, .unset, .unset, .unset] [(.int 1)])) _ _ _ _
   have hc5 : ¬ ((1 : Int32) = (0 : Int32)) := (by decide)
   refine own_go (fun _ k => XS.ifNo X4.here hx rfl (hb hby d30_11) rfl ((if0 _ _).trans (feq hc5).1) (XS.aloadN X4.here hx rfl (hb hby d30_14) rfl rfl k)) ?_
   obtain ⟨cq6, kq6, q6a, q6b, q6c⟩ := isOf hZ eh4 P_E_p1
   obtain ⟨_, _, ⟨T6, L6, k6, n6⟩, -, X6, ⟨Lc6, hQ6, l6, y6, z6⟩, st6⟩ := X4.virtualBack hx (y := Y40) (z := Y40) hown (mvT hZ (own_h hw 164 rfl)) (mvT hZ (own_h hw 165 rfl)) (notFace_of_selects (args := #[]) (mvT hZ (own_h hw 167 rfl))) (mvT hZ (own_h hw 167 rfl)) (mvT hZ (own_h hw 166 rfl)) (by decide) (backOf (W := 0) (rm32 l Z a0 hw [] p1 t h0 n0 Z0 P_F_p1_value) hZ (own_h hw 168 rfl) (own_h hw 8 rfl) (by decide) (by decide)) q6a q6c (g := (mkF m 15 #[.val (.ref p0), .val (.ref p1), .val (.int 0), .val (.int (Int32.ofNat n)), .unset, .unset, .unset, .unset] [(.ref p1)])) rfl (by rw [hml]; rfl) (Steps.refl _) (argsL := []) (rest := []) (lenOf pd_27 rfl) rfl (own_r0 _) (hb hby d30_15) (fun _ _ => ⟨rfl, eh4, (by decide : 0 + 0 ≤ _), (by decide : 0 + 0 ≤ _)⟩)
   dsimp only [Pt.U, Pt.locs, Pt.cells, Pt.slots] at X6 l6 y6 z6 st6 hQ6
   rw [l6] at X6
   subst y6 z6
   obtain ⟨rfl, Nq6, eh6⟩ := hQ6
   have N6 := Fr.app N4 Nq6
   refine own_go (fun _ k => st6.trans (XS.iloadN X6.here hx rfl (hb hby d30_18) rfl (XS.aloadN X6.here hx rfl (hb hby d30_19) rfl rfl k))) ?_
   obtain ⟨T7, X7, e7, st7⟩ := getF X6 hx hZ hown (host := "") (Or.inl (own_h hw 119 rfl)) Via.refl eh6 P_F_p0_value (g := (mkF m 20 #[.val (.ref p0), .val (.ref p1), .val (.int 0), .val (.int (Int32.ofNat n)), .unset, .unset, .unset, .unset] [(.ref p0), (.int 0), (.ref t)])) rfl rfl (hb hby d30_20)
   refine own_go (fun _ k => st7 _ (XS.aloadN X7.here hx rfl (hb hby d30_23) rfl rfl k)) ?_
   obtain ⟨T8, X8, e8, st8⟩ := getF X7 hx hZ hown (host := "") (Or.inl (own_h hw 145 rfl)) Via.refl e7 P_F_p0_count (g := (mkF m 24 #[.val (.ref p0), .val (.ref p1), .val (.int 0), .val (.int (Int32.ofNat n)), .unset, .unset, .unset, .unset] [(.ref p0), (.ref va), (.int 0), (.ref t)])) rfl rfl (hb hby d30_24)
   refine own_go (fun _ k => st8 _ (XS.iloadN X8.here hx rfl (hb hby d30_27) rfl (XS.iloadN X8.here hx rfl (hb hby d30_28) rfl k))) ?_
   show own_G _ _ _ (T8.setTop (mkF m 29 #[.val (.ref p0), .val (.ref p1), .val (.int 0), .val (.int (Int32.ofNat n)), .unset, .unset, .unset, .unset] [(.int 0), (.int (Int32.ofNat n)), (.int 0), (.ref va), (.int 0), (.ref t)])) _ _ _ _
   refine own_go (fun _ k => XS.isub X8.here hx rfl (hb hby d30_29) rfl k) ?_
   rw [own_sub0]
   show own_G _ _ _ (T8.setTop (mkF m 30 #[.val (.ref p0), .val (.ref p1), .val (.int 0), .val (.int (Int32.ofNat n)), .unset, .unset, .unset, .unset] [(.int (Int32.ofNat n)), (.int 0), (.ref va), (.int 0), (.ref t)])) _ _ _ _
   have f10 : Arv Z h0 va kv .byte (Int32.ofNat mm) ([] ++ List.replicate mm (Value.int 0)) (.int 0) := (P_V_va).pad (fun i_ => pad_rep [] (Value.int 0) mm i_)
   obtain ⟨T9, h9, Lq9, X9, e9, N9, Kq9, A9, st9⟩ := cpA X8 hx hZ hown (own_h hw 169 rfl) (own_h hw 172 rfl) (own_h hw 170 rfl) (own_h hw 171 rfl) e8 co1b f10 (Or.inl ⟨rfl, rfl⟩) (by decide) (by decide) (own_nn n (by omega)) (by rw [own_cl0, own_cl n (by omega), own_cl cs.length (by have := hs.2.2; omega)]; omega) (by rw [own_cl0, own_cl n (by omega), own_cl mm (by omega)]; omega) rfl (by rw [own_cl0, own_cl n (by omega), List.length_append, List.length_replicate]; omega) N6 g_va (g := (mkF m 30 #[.val (.ref p0), .val (.ref p1), .val (.int 0), .val (.int (Int32.ofNat n)), .unset, .unset, .unset, .unset] [(.int (Int32.ofNat n)), (.int 0), (.ref va), (.int 0), (.ref t)])) rfl (by rw [hml]; rfl) rfl (hb hby d30_30) (by decide) (W := 0) (own_r0 _) (by decide)
   have f11 := P_Old.keep Kq9 (allS g_va all0)
   have f12 := P_E_p1.keep Kq9
   have f13 := co1a.keep Kq9 (ninS (ne_exa P_E_p1 P_E_va (by decide)) nin0)
   have f14 := P_F_p1_value.keep Kq9 (ninS (ne_exa P_E_p1 P_E_va (by decide)) nin0)
   have f15 := co1b.keep Kq9 (ninS ntv nin0)
   have f16 := P_E_p0.keep Kq9
   have f17 := P_F_p0_value.keep Kq9 (ninS (ne_exa P_E_p0 P_E_va (by decide)) nin0)
   have f18 := P_F_p0_coder.keep Kq9 (ninS (ne_exa P_E_p0 P_E_va (by decide)) nin0)
   have f19 := P_F_p0_count.keep Kq9 (ninS (ne_exa P_E_p0 P_E_va (by decide)) nin0)
   have f20 := P_F_p0_maybeLatin1.keep Kq9 (ninS (ne_exa P_E_p0 P_E_va (by decide)) nin0)
   have f21 := P_E_va.keep Kq9
   have Zs9 := Nat.le_trans Z0 Kq9.1
   have K9_0 := K0.trans Kq9 (allS (Or.inl (List.mem_of_getElem? (i := 1) rfl)) all0)
   have f22 : Arv Z h9 va kv .byte (Int32.ofNat mm) (own_l1 (cs.take n)) (.int 0) := A9.pad (fun i_ => by rw [own_l1_take]; exact own_cpa (own_l1 cs) (.int 0) mm n hnmm (by omega) i_)
   refine own_go (fun _ k => st9 _ (XS.goto X9.here hx rfl (pc0 := 33) (pc' := 194) rfl (hb hby d30_33) (by decide) (by decide) (XS.aloadN X9.here hx rfl (hb hby d30_194) rfl rfl (XS.dup X9.here hx rfl (hb hby d30_195) rfl rfl k)))) ?_
   obtain ⟨T23, X23, e23, st23⟩ := getF X9 hx hZ hown (host := "") (Or.inl (own_h hw 145 rfl)) Via.refl e9 f19 (g := (mkF m 196 #[.val (.ref p0), .val (.ref p1), .val (.int 0), .val (.int (Int32.ofNat n)), .unset, .unset, .unset, .unset] [(.ref p0), (.ref p0)])) rfl rfl (hb hby d30_196)
   refine own_go (fun _ k => st23 _ (XS.iloadN X23.here hx rfl (hb hby d30_199) rfl (XS.iloadN X23.here hx rfl (hb hby d30_200) rfl k))) ?_
   show own_G _ _ _ (T23.setTop (mkF m 201 #[.val (.ref p0), .val (.ref p1), .val (.int 0), .val (.int (Int32.ofNat n)), .unset, .unset, .unset, .unset] [(.int 0), (.int (Int32.ofNat n)), (.int 0), (.ref p0)])) _ _ _ _
   refine own_go (fun _ k => XS.isub X23.here hx rfl (hb hby d30_201) rfl k) ?_
   rw [own_sub0]
   show own_G _ _ _ (T23.setTop (mkF m 202 #[.val (.ref p0), .val (.ref p1), .val (.int 0), .val (.int (Int32.ofNat n)), .unset, .unset, .unset, .unset] [(.int (Int32.ofNat n)), (.int 0), (.ref p0)])) _ _ _ _
   refine own_go (fun _ k => XS.iadd X23.here hx rfl (hb hby d30_202) rfl k) ?_
   rw [own_0add]
   show own_G _ _ _ (T23.setTop (mkF m 203 #[.val (.ref p0), .val (.ref p1), .val (.int 0), .val (.int (Int32.ofNat n)), .unset, .unset, .unset, .unset] [(.int (Int32.ofNat n)), (.ref p0)])) _ _ _ _
   obtain ⟨T24, h24, X24, e24, W24, st24⟩ := putF X23 hx hZ hown (host := "") (Or.inl (own_h hw 145 rfl)) Via.refl e23 f19 f16 (Or.inl (own_h hw 146 rfl)) (own_h hw 105 rfl) (ty := .int) (by decide) rfl rfl (g := (mkF m 203 #[.val (.ref p0), .val (.ref p1), .val (.int 0), .val (.int (Int32.ofNat n)), .unset, .unset, .unset, .unset] [(.int (Int32.ofNat n)), (.ref p0)])) rfl rfl (hb hby d30_203)
   have N24 := Fr.snoc X24 N9 g_p0
   have Zs24 := Nat.le_trans Zs9 (Keep.of_wr W24).1
   have K24_0 := K9_0.wr W24 (Or.inl (List.mem_of_getElem? (i := 0) rfl))
   have f25 := f11.wr W24 g_p0
   have f26 := f12.wr W24
   have f27 := f13.other W24 (Or.inl (ne_exa f12 f16 (by decide)))
   have f28 := f14.other W24 (Or.inl (ne_exa f12 f16 (by decide)))
   have f29 := f15.other W24 (Ne.symm (by obtain ⟨c_, A_, -⟩ := f15; exact ne_arr f16 (own_h hw 105 rfl) A_))
   have f30 := f16.wr W24
   have f31 := f17.other W24 (Or.inr (slot_ne (Or.inl (own_h hw 120 rfl)) (Or.inl (own_h hw 146 rfl)) (by decide) (t := (.array .byte)) (t' := .int) (by decide) (by decide)))
   have f32 := f18.other W24 (Or.inr (slot_ne (Or.inl (own_h hw 122 rfl)) (Or.inl (own_h hw 146 rfl)) (by decide) (t := .byte) (t' := .int) (by decide) (by decide)))
   have f33 : Fld Z h24 p0 "java/lang/AbstractStringBuilder" "count" "I" (.int (Int32.ofNat n)) := f19.same W24
   have f34 := f20.other W24 (Or.inr (slot_ne (Or.inl (own_h hw 319 rfl)) (Or.inl (own_h hw 146 rfl)) (by decide) (t := .boolean) (t' := .int) (by decide) (by decide)))
   have f35 := f21.wr W24
   have f36 := f22.other W24 (ne_exa f21 f16 (by decide))
   refine own_go (fun _ k => st24 _ k) ?_
   show own_G _ _ _ (T24.setTop (mkF m 206 #[.val (.ref p0), .val (.ref p1), .val (.int 0), .val (.int (Int32.ofNat n)), .unset, .unset, .unset, .unset] [])) _ _ _ _
   exact own_endV X24 hx hlk Bd.returns (hb hby d30_206) (by decide) (by decide) (Q := (Q30 Z p0 p1 zc fm co t kb cs va kv mm n h0 n0)) (by rw [e24]; exact ⟨va, kv, 0, rfl, N24, K24_0, f30, f31, f32, (by rw [own_tl cs n hnc]; exact f33), f34, f35, own_v0r rfl f36, ⟨Or.inl ⟨rfl, own_tk n h255c⟩, own_tk n hs.2.1, hm5⟩, Or.inl rfl⟩)
 · have co1a : Fld Z h0 p1 "java/lang/String" "coder" "B" (.int 1) := own_f eco P_F_p1_coder
   have co1b : Arv Z h0 t kb .byte (Int32.ofNat (2 * cs.length)) (own_w cs) (.int 0) := own_v1 eco P_V_t
   show own_G _ _ _ (s₁.setTop (mkF m 0 #[.val (.ref p0), .val (.ref p1), .val (.int 0), .val (.int (Int32.ofNat n)), .unset, .unset, .unset, .unset] [])) _ _ _ _
   refine own_go (fun _ k => XS.aloadN X0.here hx rfl (hb hby d30_0) rfl rfl k) ?_
   obtain ⟨cq37, kq37, q37a, q37b, q37c⟩ := isOf hZ e0 P_E_p0
   obtain ⟨_, _, ⟨T37, L37, k37, n37⟩, -, X37, ⟨Lc37, hQ37, l37, y37, z37⟩, st37⟩ := X0.virtualBack hx (y := Y38) (z := Y38) hown (mvT hZ (own_h hw 158 rfl)) (mvT hZ (own_h hw 159 rfl)) (notFace_of_selects (args := #[]) (mvT hZ (own_h hw 161 rfl))) (mvT hZ (own_h hw 161 rfl)) (mvT hZ (own_h hw 160 rfl)) (by decide) (backOf (W := 0) (rm31a l Z a0 hw [] p0 zc fm h0 n0 Z0 P_Old HA P_F_p0_coder) hZ (own_h hw 162 rfl) (own_h hw 115 rfl) (by decide) (by decide)) q37a q37c (g := (mkF m 1 #[.val (.ref p0), .val (.ref p1), .val (.int 0), .val (.int (Int32.ofNat n)), .unset, .unset, .unset, .unset] [(.ref p0)])) rfl (by rw [hml]; rfl) (Steps.refl _) (argsL := []) (rest := []) (lenOf pd_7 rfl) rfl (own_r0 _) (hb hby d30_1) (fun _ _ => ⟨rfl, e0, (by decide : 0 + 0 ≤ _), (by decide : 0 + 0 ≤ _)⟩)
   dsimp only [Pt.U, Pt.locs, Pt.cells, Pt.slots] at X37 l37 y37 z37 st37 hQ37
   rw [l37] at X37
   subst y37 z37
   obtain ⟨rfl, Nq37, eh37⟩ := hQ37
   have N37 := Fr.app N0 Nq37
   refine own_go (fun _ k => st37.trans k) ?_
   show own_G _ _ _ (T37.setTop (mkF m 4 #[.val (.ref p0), .val (.ref p1), .val (.int 0), .val (.int (Int32.ofNat n)), .unset, .unset, .unset, .unset] [(.int 1)])) _ _ _ _
   have hc38 : ¬ ((1 : Int32) = (0 : Int32)) := (by decide)
   refine own_go (fun _ k => XS.ifNo X37.here hx rfl (hb hby d30_4) rfl ((if0 _ _).trans (feq hc38).1) (XS.aloadN X37.here hx rfl (hb hby d30_7) rfl rfl k)) ?_
   obtain ⟨cq39, kq39, q39a, q39b, q39c⟩ := isOf hZ eh37 P_E_p1
   obtain ⟨_, _, ⟨T39, L39, k39, n39⟩, -, X39, ⟨Lc39, hQ39, l39, y39, z39⟩, st39⟩ := X37.virtualBack hx (y := Y13) (z := Y13) hown (mvT hZ (own_h hw 163 rfl)) (mvT hZ (own_h hw 21 rfl)) (notFace_of_selects (args := #[]) (mvT hZ (own_h hw 23 rfl))) (mvT hZ (own_h hw 23 rfl)) (mvT hZ (own_h hw 22 rfl)) (by decide) (backOf (W := 0) (rm3b l Z a0 hw [] p1 zc fm h0 n0 Z0 P_Old HA co1a) hZ (own_h hw 24 rfl) (own_h hw 8 rfl) (by decide) (by decide)) q39a q39c (g := (mkF m 8 #[.val (.ref p0), .val (.ref p1), .val (.int 0), .val (.int (Int32.ofNat n)), .unset, .unset, .unset, .unset] [(.ref p1)])) rfl (by rw [hml]; rfl) (Steps.refl _) (argsL := []) (rest := []) (lenOf pd_7 rfl) rfl (own_r0 _) (hb hby d30_8) (fun _ _ => ⟨rfl, eh37, (by decide : 0 + 0 ≤ _), (by decide : 0 + 0 ≤ _)⟩)
   dsimp only [Pt.U, Pt.locs, Pt.cells, Pt.slots] at X39 l39 y39 z39 st39 hQ39
   rw [l39] at X39
   subst y39 z39
   obtain ⟨rfl, Nq39, eh39⟩ := hQ39
   have N39 := Fr.app N37 Nq39
   refine own_go (fun _ k => st39.trans k) ?_
   show own_G _ _ _ (T39.setTop (mkF m 11 #[.val (.ref p0), .val (.ref p1), .val (.int 0), .val (.int (Int32.ofNat n)), .unset, .unset, .unset, .unset] [(.int 0)])) _ _ _ _
   have hc40 : (0 : Int32) = (0 : Int32) := (by decide)
   refine own_go (fun _ k => XS.ifYes X39.here hx rfl (pc0 := 11) (pc' := 36) rfl (hb hby d30_11) rfl ((if0 _ _).trans (teq hc40).1) (by decide) (by decide) (XS.aloadN X39.here hx rfl (hb hby d30_36) rfl rfl k)) ?_
   obtain ⟨T41, X41, e41, st41⟩ := getF X39 hx hZ hown (host := "") (Or.inl (own_h hw 119 rfl)) Via.refl eh39 P_F_p0_value (g := (mkF m 37 #[.val (.ref p0), .val (.ref p1), .val (.int 0), .val (.int (Int32.ofNat n)), .unset, .unset, .unset, .unset] [(.ref p0)])) rfl rfl (hb hby d30_37)
   refine own_go (fun _ k => st41 _ (XS.astore X41.here hx rfl (hb hby d30_40) rfl rfl (l' := #[.val (.ref p0), .val (.ref p1), .val (.int 0), .val (.int (Int32.ofNat n)), .val (.ref va), .unset, .unset, .unset]) rfl (XS.iloadN X41.here hx rfl (hb hby d30_42) rfl (XS.istore X41.here hx rfl (hb hby d30_43) rfl (l' := #[.val (.ref p0), .val (.ref p1), .val (.int 0), .val (.int (Int32.ofNat n)), .val (.ref va), .val (.int 0), .unset, .unset]) rfl (XS.aloadN X41.here hx rfl (hb hby d30_45) rfl rfl k))))) ?_
   obtain ⟨T42, X42, e42, st42⟩ := getF X41 hx hZ hown (host := "") (Or.inl (own_h hw 145 rfl)) Via.refl e41 P_F_p0_count (g := (mkF m 46 #[.val (.ref p0), .val (.ref p1), .val (.int 0), .val (.int (Int32.ofNat n)), .val (.ref va), .val (.int 0), .unset, .unset] [(.ref p0)])) rfl rfl (hb hby d30_46)
   refine own_go (fun _ k => st42 _ (XS.istore X42.here hx rfl (hb hby d30_49) rfl (l' := #[.val (.ref p0), .val (.ref p1), .val (.int 0), .val (.int (Int32.ofNat n)), .val (.ref va), .val (.int 0), .val (.int 0), .unset]) rfl k)) ?_
   show own_G _ _ _ (T42.setTop (mkF m 51 #[.val (.ref p0), .val (.ref p1), .val (.int 0), .val (.int (Int32.ofNat n)), .val (.ref va), .val (.int 0), .val (.int 0), .unset] [])) _ _ _ _
   have loop : ∀ (f i : Nat) (hif : i + f = n) (T : State) (Lc : List Loc) (hp : Heap) (cz sz : Nat) (hv : ∀ c ∈ cs.take i, ¬ (255 : Int32) < c) (l7 : Slot) (ok7 : own_ok l7) (X : Stand p l e ({ frames := 6, cells := 5, slots := 50, locals := 89 } : Room) s m #[(.ref p0), (.ref p1), (.int 0), (.int (Int32.ofNat n))] below meth c T Lc cz sz) (eT : T.heap = hp) (Nn : Fr n0 Lc) (Zp : n0 ≤ hp.size) (Kp : Keep h0 hp [p0, va]) (hcz : cz + f * 1 + 0 ≤ 5) (hsz : sz + f * 10 + 0 ≤ 50) (J0 : Old Z n0 hp) (J1 : Exa Z hp p1 "java/lang/String") (J2 : Fld Z hp p1 "java/lang/String" "coder" "B" (.int 1)) (J3 : Fld Z hp p1 "java/lang/String" "value" "[B" (.ref t)) (J4 : Arv Z hp t kb .byte (Int32.ofNat (2 * cs.length)) (own_w cs) (.int 0)) (J5 : Exa Z hp p0 "java/lang/StringBuilder") (J6 : Fld Z hp p0 "java/lang/AbstractStringBuilder" "value" "[B" (.ref va)) (J7 : Fld Z hp p0 "java/lang/AbstractStringBuilder" "coder" "B" (.int 0)) (J8 : Fld Z hp p0 "java/lang/AbstractStringBuilder" "count" "I" (.int 0)) (J9 : Fld Z hp p0 "java/lang/AbstractStringBuilder" "maybeLatin1" "Z" (.int 0)) (J10 : Exa Z hp va "[B") (J11 : Arv Z hp va kv .byte (Int32.ofNat mm) (own_l1 (cs.take i)) (.int 0)), own_G p.tables e below (T.setTop (mkF m 51 #[.val (.ref p0), .val (.ref p1), .val (.int 0), .val (.int (Int32.ofNat n)), .val (.ref va), .val (.int (Int32.ofNat i)), .val (.int (Int32.ofNat i)), l7] [])) s ({ frames := 6, cells := 5, slots := 50, locals := 89 } : Room).cells ({ frames := 6, cells := 5, slots := 50, locals := 89 } : Room).slots (Q30 Z p0 p1 zc fm co t kb cs va kv mm n h0 n0) := by
     intro f
     induction f with
     | zero =>
       intro i hif T Lc hp cz sz hv l7 ok7 X eT Nn Zp Kp hcz hsz J0 J1 J2 J3 J4 J5 J6 J7 J8 J9 J10 J11
       have hin : n = i := by omega
       subst hin
       refine own_go (fun _ k => XS.iload X.here hx rfl (hb hby d30_51) rfl (XS.iloadN X.here hx rfl (hb hby d30_53) rfl k)) ?_
       show own_G _ _ _ (T.setTop (mkF m 54 #[.val (.ref p0), .val (.ref p1), .val (.int 0), .val (.int (Int32.ofNat n)), .val (.ref va), .val (.int (Int32.ofNat n)), .val (.int (Int32.ofNat n)), l7] [(.int (Int32.ofNat n)), (.int (Int32.ofNat n))])) _ _ _ _
       have hc122 : ¬ ((Int32.ofNat n) < (Int32.ofNat n)) := (own_irr _)
       refine own_go (fun _ k => XS.icmpYes X.here hx rfl (pc0 := 54) (pc' := 142) rfl (hb hby d30_54) rfl (flt hc122).2.1 (by decide) (by decide) (XS.goto X.here hx rfl (pc0 := 142) (pc' := 194) rfl (hb hby d30_142) (by decide) (by decide) (XS.aloadN X.here hx rfl (hb hby d30_194) rfl rfl (XS.dup X.here hx rfl (hb hby d30_195) rfl rfl k)))) ?_
       obtain ⟨T123, X123, e123, st123⟩ := getF X hx hZ hown (host := "") (Or.inl (own_h hw 145 rfl)) Via.refl eT J8 (g := (mkF m 196 #[.val (.ref p0), .val (.ref p1), .val (.int 0), .val (.int (Int32.ofNat n)), .val (.ref va), .val (.int (Int32.ofNat n)), .val (.int (Int32.ofNat n)), l7] [(.ref p0), (.ref p0)])) rfl rfl (hb hby d30_196)
       refine own_go (fun _ k => st123 _ (XS.iloadN X123.here hx rfl (hb hby d30_199) rfl (XS.iloadN X123.here hx rfl (hb hby d30_200) rfl k))) ?_
       show own_G _ _ _ (T123.setTop (mkF m 201 #[.val (.ref p0), .val (.ref p1), .val (.int 0), .val (.int (Int32.ofNat n)), .val (.ref va), .val (.int (Int32.ofNat n)), .val (.int (Int32.ofNat n)), l7] [(.int 0), (.int (Int32.ofNat n)), (.int 0), (.ref p0)])) _ _ _ _
       refine own_go (fun _ k => XS.isub X123.here hx rfl (hb hby d30_201) rfl k) ?_
       rw [own_sub0]
       show own_G _ _ _ (T123.setTop (mkF m 202 #[.val (.ref p0), .val (.ref p1), .val (.int 0), .val (.int (Int32.ofNat n)), .val (.ref va), .val (.int (Int32.ofNat n)), .val (.int (Int32.ofNat n)), l7] [(.int (Int32.ofNat n)), (.int 0), (.ref p0)])) _ _ _ _
       refine own_go (fun _ k => XS.iadd X123.here hx rfl (hb hby d30_202) rfl k) ?_
       rw [own_0add]
       show own_G _ _ _ (T123.setTop (mkF m 203 #[.val (.ref p0), .val (.ref p1), .val (.int 0), .val (.int (Int32.ofNat n)), .val (.ref va), .val (.int (Int32.ofNat n)), .val (.int (Int32.ofNat n)), l7] [(.int (Int32.ofNat n)), (.ref p0)])) _ _ _ _
       obtain ⟨T124, h124, X124, e124, W124, st124⟩ := putF X123 hx hZ hown (host := "") (Or.inl (own_h hw 145 rfl)) Via.refl e123 J8 J5 (Or.inl (own_h hw 146 rfl)) (own_h hw 105 rfl) (ty := .int) (by decide) rfl rfl (g := (mkF m 203 #[.val (.ref p0), .val (.ref p1), .val (.int 0), .val (.int (Int32.ofNat n)), .val (.ref va), .val (.int (Int32.ofNat n)), .val (.int (Int32.ofNat n)), l7] [(.int (Int32.ofNat n)), (.ref p0)])) rfl rfl (hb hby d30_203)
       have N124 := Fr.snoc X124 Nn g_p0
       have Zs124 := Nat.le_trans Zp (Keep.of_wr W124).1
       have K124_0 := Kp.wr W124 (Or.inl (List.mem_of_getElem? (i := 0) rfl))
       have f125 := J0.wr W124 g_p0
       have f126 := J1.wr W124
       have f127 := J2.other W124 (Or.inl (ne_exa J1 J5 (by decide)))
       have f128 := J3.other W124 (Or.inl (ne_exa J1 J5 (by decide)))
       have f129 := J4.other W124 (Ne.symm (by obtain ⟨c_, A_, -⟩ := J4; exact ne_arr J5 (own_h hw 105 rfl) A_))
       have f130 := J5.wr W124
       have f131 := J6.other W124 (Or.inr (slot_ne (Or.inl (own_h hw 120 rfl)) (Or.inl (own_h hw 146 rfl)) (by decide) (t := (.array .byte)) (t' := .int) (by decide) (by decide)))
       have f132 := J7.other W124 (Or.inr (slot_ne (Or.inl (own_h hw 122 rfl)) (Or.inl (own_h hw 146 rfl)) (by decide) (t := .byte) (t' := .int) (by decide) (by decide)))
       have f133 : Fld Z h124 p0 "java/lang/AbstractStringBuilder" "count" "I" (.int (Int32.ofNat n)) := J8.same W124
       have f134 := J9.other W124 (Or.inr (slot_ne (Or.inl (own_h hw 319 rfl)) (Or.inl (own_h hw 146 rfl)) (by decide) (t := .boolean) (t' := .int) (by decide) (by decide)))
       have f135 := J10.wr W124
       have f136 := J11.other W124 (ne_exa J10 J5 (by decide))
       refine own_go (fun _ k => st124 _ k) ?_
       show own_G _ _ _ (T124.setTop (mkF m 206 #[.val (.ref p0), .val (.ref p1), .val (.int 0), .val (.int (Int32.ofNat n)), .val (.ref va), .val (.int (Int32.ofNat n)), .val (.int (Int32.ofNat n)), l7] [])) _ _ _ _
       exact own_endV X124 hx hlk Bd.returns (hb hby d30_206) (by first | decide | omega | (dsimp only [Pt.cells, Pt.slots]; omega)) (by first | decide | omega | (dsimp only [Pt.cells, Pt.slots]; omega)) (Q := (Q30 Z p0 p1 zc fm co t kb cs va kv mm n h0 n0)) (by rw [e124]; exact ⟨va, kv, 0, rfl, N124, K124_0, f130, f131, f132, (by rw [own_tl cs n hnc]; exact f133), f134, f135, own_v0r rfl f136, ⟨Or.inl ⟨rfl, hv⟩, own_tk n hs.2.1, hm5⟩, Or.inl rfl⟩)
     | succ f ih =>
       intro i hif T Lc hp cz sz hv l7 ok7 X eT Nn Zp Kp hcz hsz J0 J1 J2 J3 J4 J5 J6 J7 J8 J9 J10 J11
       have hin : i < n := by omega
       refine own_go (fun _ k => XS.iload X.here hx rfl (hb hby d30_51) rfl (XS.iloadN X.here hx rfl (hb hby d30_53) rfl k)) ?_
       show own_G _ _ _ (T.setTop (mkF m 54 #[.val (.ref p0), .val (.ref p1), .val (.int 0), .val (.int (Int32.ofNat n)), .val (.ref va), .val (.int (Int32.ofNat i)), .val (.int (Int32.ofNat i)), l7] [(.int (Int32.ofNat n)), (.int (Int32.ofNat i))])) _ _ _ _
       have hc43 : (Int32.ofNat i) < (Int32.ofNat n) := (own_ltI i n (by omega) (by omega)).mpr hin
       refine own_go (fun _ k => XS.icmpNo X.here hx rfl (hb hby d30_54) rfl (tlt hc43).2.1 (XS.aloadN X.here hx rfl (hb hby d30_57) rfl rfl (XS.iload X.here hx rfl (hb hby d30_58) rfl k))) ?_
       obtain ⟨cq44, kq44, q44a, q44b, q44c⟩ := isOf hZ eT J1
       obtain ⟨_, _, ⟨T44, L44, k44, n44⟩, -, X44, ⟨Lc44, hQ44, l44, y44, z44⟩, st44⟩ := X.virtualBack hx (y := Y16) (z := Y16) hown (mvT hZ (own_h hw 286 rfl)) (mvT hZ (own_h hw 16 rfl)) (notFace_of_selects (args := #[]) (mvT hZ (own_h hw 18 rfl))) (mvT hZ (own_h hw 18 rfl)) (mvT hZ (own_h hw 17 rfl)) (by decide) (backOf (W := 0) (rm2 l Z a0 hw [] p1 i zc fm co t kb cs hp n0 Zp J0 HA J1 (own_fr eco J2) J3 (own_v1r eco J4) hs (by omega)) hZ (own_h hw 19 rfl) (own_h hw 8 rfl) (by decide) (by decide)) q44a q44c (g := (mkF m 60 #[.val (.ref p0), .val (.ref p1), .val (.int 0), .val (.int (Int32.ofNat n)), .val (.ref va), .val (.int (Int32.ofNat i)), .val (.int (Int32.ofNat i)), l7] [(.int (Int32.ofNat i)), (.ref p1)])) rfl (by rw [hml]; rfl) (Steps.refl _) (argsL := [(.int (Int32.ofNat i))]) (rest := []) (lenOf pd_28 rfl) rfl (own_r0 _) (hb hby d30_60) (fun _ _ => ⟨rfl, eT, (by first | decide | omega | (dsimp only [Pt.cells, Pt.slots]; omega)), (by first | decide | omega | (dsimp only [Pt.cells, Pt.slots]; omega))⟩)
       dsimp only [Pt.U, Pt.locs, Pt.cells, Pt.slots] at X44 l44 y44 z44 st44 hQ44
       rw [l44] at X44
       subst y44 z44
       obtain ⟨rfl, Nq44, eh44⟩ := hQ44
       have N44 := Fr.app Nn Nq44
       refine own_go (fun _ k => st44.trans (XS.istore X44.here hx rfl (hb hby d30_63) rfl (l' := #[.val (.ref p0), .val (.ref p1), .val (.int 0), .val (.int (Int32.ofNat n)), .val (.ref va), .val (.int (Int32.ofNat i)), .val (.int (Int32.ofNat i)), .val (.int (cs.getD i 0))]) (by rcases ok7 with h_ | ⟨z_, h_⟩ | ⟨a_, h_⟩ <;> rw [h_] <;> rfl) (XS.iload X44.here hx rfl (hb hby d30_65) rfl k))) ?_
       obtain ⟨_, _, ⟨T45, L45, k45, n45⟩, -, X45, ⟨Lc45, hQ45, l45, y45, z45⟩, st45⟩ := Jvm.LawKit.callS X44 hx (y := Y39) hown (mvT hZ (own_h hw 189 rfl)) (mvT hZ (own_h hw 190 rfl)) (mvT hZ (own_h hw 30 rfl)) (mvT hZ (own_h hw 191 rfl)) (by decide) (backOf (W := 0) (rm37 l Z a0 hw [] (cs.getD i 0) hp n0) hZ (own_h hw 191 rfl) (own_h hw 30 rfl) (by decide) (by decide)) (g := (mkF m 67 #[.val (.ref p0), .val (.ref p1), .val (.int 0), .val (.int (Int32.ofNat n)), .val (.ref va), .val (.int (Int32.ofNat i)), .val (.int (Int32.ofNat i)), .val (.int (cs.getD i 0))] [(.int (cs.getD i 0))])) rfl (by rw [hml]; rfl) (argsL := [(.int (cs.getD i 0))]) (rest := []) (lenOf pd_24 rfl) rfl (own_r0 _) (hb hby d30_67) (fun _ _ => ⟨rfl, eh44, (by first | decide | omega | (dsimp only [Pt.cells, Pt.slots]; omega)), (by first | decide | omega | (dsimp only [Pt.cells, Pt.slots]; omega))⟩)
       dsimp only [Pt.U, Pt.locs, Pt.cells, Pt.slots] at X45 l45 y45 z45 st45 hQ45
       rw [l45] at X45
       subst y45 z45
       obtain ⟨rfl, Nq45, eh45⟩ := hQ45
       have N45 := Fr.app N44 Nq45
       refine own_go (fun _ k => st45 _ k) ?_
       show own_G _ _ _ (T45.setTop (mkF m 70 #[.val (.ref p0), .val (.ref p1), .val (.int 0), .val (.int (Int32.ofNat n)), .val (.ref va), .val (.int (Int32.ofNat i)), .val (.int (Int32.ofNat i)), .val (.int (cs.getD i 0))] [(.int (own_can (cs.getD i 0)))])) _ _ _ _
       by_cases hc46 : (own_can (cs.getD i 0)) = (0 : Int32)
       · refine own_go (fun _ k => XS.ifYes X45.here hx rfl (pc0 := 70) (pc' := 87) rfl (hb hby d30_70) rfl ((if0 _ _).trans (teq hc46).1) (by decide) (by decide) (XS.aloadN X45.here hx rfl (hb hby d30_87) rfl rfl (XS.iload X45.here hx rfl (hb hby d30_88) rfl k))) ?_
         obtain ⟨T47, h47, X47, e47, W47, st47⟩ := putF X45 hx hZ hown (host := "") (Or.inl (own_h hw 145 rfl)) Via.refl eh45 J8 J5 (Or.inl (own_h hw 146 rfl)) (own_h hw 105 rfl) (ty := .int) (by decide) rfl rfl (g := (mkF m 90 #[.val (.ref p0), .val (.ref p1), .val (.int 0), .val (.int (Int32.ofNat n)), .val (.ref va), .val (.int (Int32.ofNat i)), .val (.int (Int32.ofNat i)), .val (.int (cs.getD i 0))] [(.int (Int32.ofNat i)), (.ref p0)])) rfl rfl (hb hby d30_90)
         have N47 := Fr.snoc X47 N45 g_p0
         have Zs47 := Nat.le_trans Zp (Keep.of_wr W47).1
         have K47_0 := Kp.wr W47 (Or.inl (List.mem_of_getElem? (i := 0) rfl))
         have f48 := J0.wr W47 g_p0
         have f49 := J1.wr W47
         have f50 := J2.other W47 (Or.inl (ne_exa J1 J5 (by decide)))
         have f51 := J3.other W47 (Or.inl (ne_exa J1 J5 (by decide)))
         have f52 := J4.other W47 (Ne.symm (by obtain ⟨c_, A_, -⟩ := J4; exact ne_arr J5 (own_h hw 105 rfl) A_))
         have f53 := J5.wr W47
         have f54 := J6.other W47 (Or.inr (slot_ne (Or.inl (own_h hw 120 rfl)) (Or.inl (own_h hw 146 rfl)) (by decide) (t := (.array .byte)) (t' := .int) (by decide) (by decide)))
         have f55 := J7.other W47 (Or.inr (slot_ne (Or.inl (own_h hw 122 rfl)) (Or.inl (own_h hw 146 rfl)) (by decide) (t := .byte) (t' := .int) (by decide) (by decide)))
         have f56 : Fld Z h47 p0 "java/lang/AbstractStringBuilder" "count" "I" (.int (Int32.ofNat i)) := J8.same W47
         have f57 := J9.other W47 (Or.inr (slot_ne (Or.inl (own_h hw 319 rfl)) (Or.inl (own_h hw 146 rfl)) (by decide) (t := .boolean) (t' := .int) (by decide) (by decide)))
         have f58 := J10.wr W47
         have f59 := J11.other W47 (ne_exa J10 J5 (by decide))
         refine own_go (fun _ k => st47 _ (XS.aloadN X47.here hx rfl (hb hby d30_93) rfl rfl k)) ?_
         obtain ⟨cq60, q60, q60'⟩ := f53.cell
         obtain ⟨_, _, ⟨T60, L60, k60, n60⟩, -, X60, ⟨Lc60, hQ60, l60, y60, z60⟩, st60⟩ := X47.privateBack hx (y := Y48) hown (mvT hZ (own_h hw 294 rfl)) (mvT hZ (own_h hw 295 rfl)) (own_selp (mvT hZ (own_h hw 150 rfl)) rfl (Cond.privateMethod_at (mvP hZ (own_h hw 296 rfl) (args := #[]))) (mvT hZ (own_h hw 295 rfl)) (by decide)) (Cond.privateMethod_at (mvP hZ (own_h hw 296 rfl) (args := #[]))) (mvT hZ (own_h hw 298 rfl)) (by decide) (backOf (W := 0) (rm62 l Z a0 hw [] p0 zc fm va kv (cs.take i) mm h47 n0 Zs47 f48 HA f53 f54 f55 (by rw [own_tl cs i (by omega)]; exact f56) f57 f59 hm5 (by rw [own_tl cs i (by omega)]; omega) (own_tk i hs.2.1) hv g_p0) hZ (own_h hw 298 rfl) (own_h hw 115 rfl) (by decide) (by decide)) (g := (mkF m 94 #[.val (.ref p0), .val (.ref p1), .val (.int 0), .val (.int (Int32.ofNat n)), .val (.ref va), .val (.int (Int32.ofNat i)), .val (.int (Int32.ofNat i)), .val (.int (cs.getD i 0))] [(.ref p0)])) rfl (by rw [hml]; rfl) (Steps.refl _) (a := p0) (by rw [e47]; exact q60) q60' (argsL := []) (rest := []) (lenOf pd_25 rfl) rfl (own_r0 _) (hb hby d30_94) (fun _ _ => ⟨rfl, e47, (by first | decide | omega | (dsimp only [Pt.cells, Pt.slots]; omega)), (by first | decide | omega | (dsimp only [Pt.cells, Pt.slots]; omega))⟩)
         dsimp only [Pt.U, Pt.locs, Pt.cells, Pt.slots] at X60 l60 y60 z60 st60 hQ60
         rw [l60] at X60
         subst y60 z60
         obtain ⟨b60, kb60, rfl, Nq60, Kq60, r60_0, r60_1, r60_2, r60_3, r60_4, r60_5, r60_6, r60_7⟩ := hQ60
         have N60 := Fr.app N47 Nq60
         have ne61 := Nat.ne_of_lt (Nat.lt_of_lt_of_le f49.lt r60_0)
         have ne62 := Nat.ne_of_lt (Nat.lt_of_lt_of_le f52.lt r60_0)
         have ne63 := Nat.ne_of_lt (Nat.lt_of_lt_of_le f53.lt r60_0)
         have ne64 := Nat.ne_of_lt (Nat.lt_of_lt_of_le f58.lt r60_0)
         have gg_b60 := Nat.le_trans Zs47 r60_0
         have sz_b60_0 := Nat.le_trans K47_0.1 r60_0
         have f65 := f48.keep Kq60 (allS g_p0 all0)
         have f66 := f49.keep Kq60
         have f67 := f50.keep Kq60 (ninS (ne_exa f49 f53 (by decide)) nin0)
         have f68 := f51.keep Kq60 (ninS (ne_exa f49 f53 (by decide)) nin0)
         have f69 := f52.keep Kq60 (ninS (Ne.symm (by obtain ⟨c_, A_, -⟩ := f52; exact ne_arr f53 (own_h hw 105 rfl) A_)) nin0)
         have f70 := f53.keep Kq60
         have f71 := f58.keep Kq60
         have f72 := f59.keep Kq60 (ninS (ne_exa f58 f53 (by decide)) nin0)
         have Zs60 := Nat.le_trans Zs47 Kq60.1
         have K60_0 := K47_0.trans Kq60 (allS (Or.inl (List.mem_of_getElem? (i := 0) rfl)) all0)
         refine own_go (fun _ k => st60.trans (XS.aloadN X60.here hx rfl (hb hby d30_97) rfl rfl k)) ?_
         obtain ⟨cq73, kq73, q73a, q73b, q73c⟩ := isOf hZ rfl f66
         obtain ⟨_, _, ⟨T73, L73, k73, n73⟩, -, X73, ⟨Lc73, hQ73, l73, y73, z73⟩, st73⟩ := X60.virtualBack hx (y := Y40) (z := Y40) hown (mvT hZ (own_h hw 164 rfl)) (mvT hZ (own_h hw 165 rfl)) (notFace_of_selects (args := #[]) (mvT hZ (own_h hw 167 rfl))) (mvT hZ (own_h hw 167 rfl)) (mvT hZ (own_h hw 166 rfl)) (by decide) (backOf (W := 0) (rm32 l Z a0 hw [] p1 t T60.heap n0 Zs60 f68) hZ (own_h hw 168 rfl) (own_h hw 8 rfl) (by decide) (by decide)) q73a q73c (g := (mkF m 98 #[.val (.ref p0), .val (.ref p1), .val (.int 0), .val (.int (Int32.ofNat n)), .val (.ref va), .val (.int (Int32.ofNat i)), .val (.int (Int32.ofNat i)), .val (.int (cs.getD i 0))] [(.ref p1)])) rfl (by rw [hml]; rfl) (Steps.refl _) (argsL := []) (rest := []) (lenOf pd_27 rfl) rfl (own_r0 _) (hb hby d30_98) (fun _ _ => ⟨rfl, rfl, (by first | decide | omega | (dsimp only [Pt.cells, Pt.slots]; omega)), (by first | decide | omega | (dsimp only [Pt.cells, Pt.slots]; omega))⟩)
         dsimp only [Pt.U, Pt.locs, Pt.cells, Pt.slots] at X73 l73 y73 z73 st73 hQ73
         rw [l73] at X73
         subst y73 z73
         obtain ⟨rfl, Nq73, eh73⟩ := hQ73
         have N73 := Fr.app N60 Nq73
         refine own_go (fun _ k => st73.trans (XS.iload X73.here hx rfl (hb hby d30_101) rfl (XS.iconst X73.here hx rfl (hb hby d30_103) k))) ?_
         show own_G _ _ _ (T73.setTop (mkF m 104 #[.val (.ref p0), .val (.ref p1), .val (.int 0), .val (.int (Int32.ofNat n)), .val (.ref va), .val (.int (Int32.ofNat i)), .val (.int (Int32.ofNat i)), .val (.int (cs.getD i 0))] [(.int 1), (.int (Int32.ofNat i)), (.ref t)])) _ _ _ _
         refine own_go (fun _ k => XS.ishl X73.here hx rfl (hb hby d30_104) rfl k) ?_
         rw [own_shl1 i (by omega)]
         show own_G _ _ _ (T73.setTop (mkF m 105 #[.val (.ref p0), .val (.ref p1), .val (.int 0), .val (.int (Int32.ofNat n)), .val (.ref va), .val (.int (Int32.ofNat i)), .val (.int (Int32.ofNat i)), .val (.int (cs.getD i 0))] [(.int (Int32.ofNat (2 * i))), (.ref t)])) _ _ _ _
         refine own_go (fun _ k => XS.aloadN X73.here hx rfl (hb hby d30_105) rfl rfl k) ?_
         obtain ⟨T74, X74, e74, st74⟩ := getF X73 hx hZ hown (host := "") (Or.inl (own_h hw 119 rfl)) Via.refl eh73 r60_3 (g := (mkF m 106 #[.val (.ref p0), .val (.ref p1), .val (.int 0), .val (.int (Int32.ofNat n)), .val (.ref va), .val (.int (Int32.ofNat i)), .val (.int (Int32.ofNat i)), .val (.int (cs.getD i 0))] [(.ref p0), (.int (Int32.ofNat (2 * i))), (.ref t)])) rfl rfl (hb hby d30_106)
         refine own_go (fun _ k => st74 _ (XS.iload X74.here hx rfl (hb hby d30_109) rfl (XS.iconst X74.here hx rfl (hb hby d30_111) k))) ?_
         show own_G _ _ _ (T74.setTop (mkF m 112 #[.val (.ref p0), .val (.ref p1), .val (.int 0), .val (.int (Int32.ofNat n)), .val (.ref va), .val (.int (Int32.ofNat i)), .val (.int (Int32.ofNat i)), .val (.int (cs.getD i 0))] [(.int 1), (.int (Int32.ofNat i)), (.ref b60), (.int (Int32.ofNat (2 * i))), (.ref t)])) _ _ _ _
         refine own_go (fun _ k => XS.ishl X74.here hx rfl (hb hby d30_112) rfl k) ?_
         rw [own_shl1 i (by omega)]
         show own_G _ _ _ (T74.setTop (mkF m 113 #[.val (.ref p0), .val (.ref p1), .val (.int 0), .val (.int (Int32.ofNat n)), .val (.ref va), .val (.int (Int32.ofNat i)), .val (.int (Int32.ofNat i)), .val (.int (cs.getD i 0))] [(.int (Int32.ofNat (2 * i))), (.ref b60), (.int (Int32.ofNat (2 * i))), (.ref t)])) _ _ _ _
         refine own_go (fun _ k => XS.iloadN X74.here hx rfl (hb hby d30_113) rfl (XS.iload X74.here hx rfl (hb hby d30_114) rfl k)) ?_
         show own_G _ _ _ (T74.setTop (mkF m 116 #[.val (.ref p0), .val (.ref p1), .val (.int 0), .val (.int (Int32.ofNat n)), .val (.ref va), .val (.int (Int32.ofNat i)), .val (.int (Int32.ofNat i)), .val (.int (cs.getD i 0))] [(.int (Int32.ofNat i)), (.int (Int32.ofNat n)), (.int (Int32.ofNat (2 * i))), (.ref b60), (.int (Int32.ofNat (2 * i))), (.ref t)])) _ _ _ _
         refine own_go (fun _ k => XS.isub X74.here hx rfl (hb hby d30_116) rfl k) ?_
         rw [own_subn n i (by omega) (by omega)]
         show own_G _ _ _ (T74.setTop (mkF m 117 #[.val (.ref p0), .val (.ref p1), .val (.int 0), .val (.int (Int32.ofNat n)), .val (.ref va), .val (.int (Int32.ofNat i)), .val (.int (Int32.ofNat i)), .val (.int (cs.getD i 0))] [(.int (Int32.ofNat (n - i))), (.int (Int32.ofNat (2 * i))), (.ref b60), (.int (Int32.ofNat (2 * i))), (.ref t)])) _ _ _ _
         refine own_go (fun _ k => XS.iconst X74.here hx rfl (hb hby d30_117) k) ?_
         show own_G _ _ _ (T74.setTop (mkF m 118 #[.val (.ref p0), .val (.ref p1), .val (.int 0), .val (.int (Int32.ofNat n)), .val (.ref va), .val (.int (Int32.ofNat i)), .val (.int (Int32.ofNat i)), .val (.int (cs.getD i 0))] [(.int 1), (.int (Int32.ofNat (n - i))), (.int (Int32.ofNat (2 * i))), (.ref b60), (.int (Int32.ofNat (2 * i))), (.ref t)])) _ _ _ _
         refine own_go (fun _ k => XS.ishl X74.here hx rfl (hb hby d30_118) rfl k) ?_
         rw [own_shl1 (n - i) (by omega)]
         show own_G _ _ _ (T74.setTop (mkF m 119 #[.val (.ref p0), .val (.ref p1), .val (.int 0), .val (.int (Int32.ofNat n)), .val (.ref va), .val (.int (Int32.ofNat i)), .val (.int (Int32.ofNat i)), .val (.int (cs.getD i 0))] [(.int (Int32.ofNat (2 * (n - i)))), (.int (Int32.ofNat (2 * i))), (.ref b60), (.int (Int32.ofNat (2 * i))), (.ref t)])) _ _ _ _
         have f76 : Arv Z T60.heap b60 kb60 .byte (Int32.ofNat (2 * mm)) ((own_w (cs.take i)) ++ List.replicate (2 * mm) (Value.int 0)) (.int 0) := (r60_7).pad (fun i_ => pad_rep (own_w (cs.take i)) (Value.int 0) (2 * mm) i_)
         obtain ⟨T75, h75, Lq75, X75, e75, N75, Kq75, A75, st75⟩ := cpA X74 hx hZ hown (own_h hw 169 rfl) (own_h hw 172 rfl) (own_h hw 170 rfl) (own_h hw 171 rfl) e74 f69 f76 (Or.inl ⟨rfl, rfl⟩) (own_nn _ (by omega)) (own_nn _ (by omega)) (own_nn _ (by omega)) (by rw [own_cl (2 * i) (by omega), own_cl (2 * (n - i)) (by omega), own_cl (2 * cs.length) (by have := hs.2.2; omega)]; omega) (by rw [own_cl (2 * i) (by omega), own_cl (2 * (n - i)) (by omega), own_cl (2 * mm) (by omega)]; omega) rfl (by rw [own_cl (2 * i) (by omega), own_cl (2 * (n - i)) (by omega), List.length_append, List.length_replicate]; omega) N73 gg_b60 (g := (mkF m 119 #[.val (.ref p0), .val (.ref p1), .val (.int 0), .val (.int (Int32.ofNat n)), .val (.ref va), .val (.int (Int32.ofNat i)), .val (.int (Int32.ofNat i)), .val (.int (cs.getD i 0))] [(.int (Int32.ofNat (2 * (n - i)))), (.int (Int32.ofNat (2 * i))), (.ref b60), (.int (Int32.ofNat (2 * i))), (.ref t)])) rfl (by rw [hml]; rfl) rfl (hb hby d30_119) (by decide) (W := 0) (own_r0 _) (by decide)
         have f77 := f65.keep Kq75 (allS gg_b60 all0)
         have f78 := f66.keep Kq75
         have f79 := f67.keep Kq75 (ninS ne61 nin0)
         have f80 := f68.keep Kq75 (ninS ne61 nin0)
         have f81 := f69.keep Kq75 (ninS ne62 nin0)
         have f82 := r60_2.keep Kq75
         have f83 := f71.keep Kq75
         have f84 := f72.keep Kq75 (ninS ne64 nin0)
         have f85 := r60_1.keep Kq75
         have f86 := r60_3.keep Kq75 (ninS ne63 nin0)
         have f87 := r60_4.keep Kq75 (ninS ne63 nin0)
         have f88 := r60_5.keep Kq75 (ninS ne63 nin0)
         have f89 := r60_6.keep Kq75 (ninS ne63 nin0)
         have Zs75 := Nat.le_trans Zs60 Kq75.1
         have K75_0 := K60_0.trans Kq75 (allS (Or.inr sz_b60_0) all0)
         have f90 : Arv Z h75 b60 kb60 .byte (Int32.ofNat (2 * mm)) (own_w (cs.take n)) (.int 0) := A75.pad (fun i_ => own_cpb cs (2 * mm) i n (by omega) (by omega) (by omega) i_)
         refine own_go (fun _ k => st75 _ (XS.aloadN X75.here hx rfl (hb hby d30_122) rfl rfl (XS.dup X75.here hx rfl (hb hby d30_123) rfl rfl k))) ?_
         obtain ⟨T91, X91, e91, st91⟩ := getF X75 hx hZ hown (host := "") (Or.inl (own_h hw 145 rfl)) Via.refl e75 f88 (g := (mkF m 124 #[.val (.ref p0), .val (.ref p1), .val (.int 0), .val (.int (Int32.ofNat n)), .val (.ref va), .val (.int (Int32.ofNat i)), .val (.int (Int32.ofNat i)), .val (.int (cs.getD i 0))] [(.ref p0), (.ref p0)])) rfl rfl (hb hby d30_124)
         refine own_go (fun _ k => st91 _ (XS.iloadN X91.here hx rfl (hb hby d30_127) rfl (XS.iload X91.here hx rfl (hb hby d30_128) rfl k))) ?_
         show own_G _ _ _ (T91.setTop (mkF m 130 #[.val (.ref p0), .val (.ref p1), .val (.int 0), .val (.int (Int32.ofNat n)), .val (.ref va), .val (.int (Int32.ofNat i)), .val (.int (Int32.ofNat i)), .val (.int (cs.getD i 0))] [(.int (Int32.ofNat i)), (.int (Int32.ofNat n)), (.int (Int32.ofNat (cs.take i).length)), (.ref p0)])) _ _ _ _
         refine own_go (fun _ k => XS.isub X91.here hx rfl (hb hby d30_130) rfl k) ?_
         rw [own_subn n i (by omega) (by omega)]
         show own_G _ _ _ (T91.setTop (mkF m 131 #[.val (.ref p0), .val (.ref p1), .val (.int 0), .val (.int (Int32.ofNat n)), .val (.ref va), .val (.int (Int32.ofNat i)), .val (.int (Int32.ofNat i)), .val (.int (cs.getD i 0))] [(.int (Int32.ofNat (n - i))), (.int (Int32.ofNat (cs.take i).length)), (.ref p0)])) _ _ _ _
         refine own_go (fun _ k => XS.iadd X91.here hx rfl (hb hby d30_131) rfl k) ?_
         rw [own_addn, own_tl cs i (by omega), Nat.add_sub_cancel' (Nat.le_of_lt hin)]
         show own_G _ _ _ (T91.setTop (mkF m 132 #[.val (.ref p0), .val (.ref p1), .val (.int 0), .val (.int (Int32.ofNat n)), .val (.ref va), .val (.int (Int32.ofNat i)), .val (.int (Int32.ofNat i)), .val (.int (cs.getD i 0))] [(.int (Int32.ofNat n)), (.ref p0)])) _ _ _ _
         obtain ⟨T92, h92, X92, e92, W92, st92⟩ := putF X91 hx hZ hown (host := "") (Or.inl (own_h hw 145 rfl)) Via.refl e91 f88 f82 (Or.inl (own_h hw 146 rfl)) (own_h hw 105 rfl) (ty := .int) (by decide) rfl rfl (g := (mkF m 132 #[.val (.ref p0), .val (.ref p1), .val (.int 0), .val (.int (Int32.ofNat n)), .val (.ref va), .val (.int (Int32.ofNat i)), .val (.int (Int32.ofNat i)), .val (.int (cs.getD i 0))] [(.int (Int32.ofNat n)), (.ref p0)])) rfl rfl (hb hby d30_132)
         have N92 := Fr.snoc X92 N75 g_p0
         have Zs92 := Nat.le_trans Zs75 (Keep.of_wr W92).1
         have K92_0 := K75_0.wr W92 (Or.inl (List.mem_of_getElem? (i := 0) rfl))
         have f93 := f77.wr W92 g_p0
         have f94 := f78.wr W92
         have f95 := f79.other W92 (Or.inl (ne_exa f78 f82 (by decide)))
         have f96 := f80.other W92 (Or.inl (ne_exa f78 f82 (by decide)))
         have f97 := f81.other W92 (Ne.symm (by obtain ⟨c_, A_, -⟩ := f81; exact ne_arr f82 (own_h hw 105 rfl) A_))
         have f98 := f82.wr W92
         have f99 := f83.wr W92
         have f100 := f84.other W92 (ne_exa f83 f82 (by decide))
         have f101 := f85.wr W92
         have f102 := f86.other W92 (Or.inr (slot_ne (Or.inl (own_h hw 120 rfl)) (Or.inl (own_h hw 146 rfl)) (by decide) (t := (.array .byte)) (t' := .int) (by decide) (by decide)))
         have f103 := f87.other W92 (Or.inr (slot_ne (Or.inl (own_h hw 122 rfl)) (Or.inl (own_h hw 146 rfl)) (by decide) (t := .byte) (t' := .int) (by decide) (by decide)))
         have f104 : Fld Z h92 p0 "java/lang/AbstractStringBuilder" "count" "I" (.int (Int32.ofNat n)) := f88.same W92
         have f105 := f89.other W92 (Or.inr (slot_ne (Or.inl (own_h hw 319 rfl)) (Or.inl (own_h hw 146 rfl)) (by decide) (t := .boolean) (t' := .int) (by decide) (by decide)))
         have f106 := f90.other W92 (Ne.symm ne63)
         refine own_go (fun _ k => st92 _ k) ?_
         show own_G _ _ _ (T92.setTop (mkF m 135 #[.val (.ref p0), .val (.ref p1), .val (.int 0), .val (.int (Int32.ofNat n)), .val (.ref va), .val (.int (Int32.ofNat i)), .val (.int (Int32.ofNat i)), .val (.int (cs.getD i 0))] [])) _ _ _ _
         exact own_endV X92 hx hlk Bd.returns (hb hby d30_135) (by first | decide | omega | (dsimp only [Pt.cells, Pt.slots]; omega)) (by first | decide | omega | (dsimp only [Pt.cells, Pt.slots]; omega)) (Q := (Q30 Z p0 p1 zc fm co t kb cs va kv mm n h0 n0)) (by rw [e92]; exact ⟨b60, kb60, 1, rfl, N92, K92_0, f98, f102, f103, (by rw [own_tl cs n hnc]; exact f104), f105, f101, own_v1r rfl f106, ⟨Or.inr rfl, own_tk n hs.2.1, hm5⟩, Or.inr sz_b60_0⟩)
       · refine own_go (fun _ k => XS.ifNo X45.here hx rfl (hb hby d30_70) rfl ((if0 _ _).trans (feq hc46).1) (XS.aload X45.here hx rfl (hb hby d30_73) rfl rfl (XS.iload X45.here hx rfl (hb hby d30_75) rfl k))) ?_
         show own_G _ _ _ (T45.setTop (mkF m 77 #[.val (.ref p0), .val (.ref p1), .val (.int 0), .val (.int (Int32.ofNat n)), .val (.ref va), .val (.int (Int32.ofNat i)), .val (.int (Int32.ofNat i)), .val (.int (cs.getD i 0))] [(.int (Int32.ofNat i)), (.ref va)])) _ _ _ _
         refine own_go (fun _ k => XS.iinc X45.here hx rfl (hb hby d30_77) rfl (l' := #[.val (.ref p0), .val (.ref p1), .val (.int 0), .val (.int (Int32.ofNat n)), .val (.ref va), .val (.int (Int32.ofNat i)), .val (.int ((Int32.ofNat i) + (1 : Int32))), .val (.int (cs.getD i 0))]) rfl k) ?_
         rw [own_inc i]
         show own_G _ _ _ (T45.setTop (mkF m 80 #[.val (.ref p0), .val (.ref p1), .val (.int 0), .val (.int (Int32.ofNat n)), .val (.ref va), .val (.int (Int32.ofNat i)), .val (.int (Int32.ofNat (i + 1))), .val (.int (cs.getD i 0))] [(.int (Int32.ofNat i)), (.ref va)])) _ _ _ _
         refine own_go (fun _ k => XS.iload X45.here hx rfl (hb hby d30_80) rfl (XS.i2b X45.here hx rfl (hb hby d30_82) rfl k)) ?_
         show own_G _ _ _ (T45.setTop (mkF m 83 #[.val (.ref p0), .val (.ref p1), .val (.int 0), .val (.int (Int32.ofNat n)), .val (.ref va), .val (.int (Int32.ofNat i)), .val (.int (Int32.ofNat (i + 1))), .val (.int (cs.getD i 0))] [(.int (cs.getD i 0).toInt8.toInt32), (.int (Int32.ofNat i)), (.ref va)])) _ _ _ _
         have f108 : Arv Z hp va kv .byte (Int32.ofNat mm) (own_l1 (cs.take i) ++ [Value.int 0]) (.int 0) := (J11).pad (fun i_ => own_l1_pad (cs.take i) i_)
         obtain ⟨cl107, Ar107, q107, S107, Ng107, H107, G107⟩ := id f108
         have in107 : ¬ ((Int32.ofNat i) < 0 ∨ cl107.slots.size ≤ ((Int32.ofNat i)).toNatClampNeg) := inb_of S107 (own_inb (n := mm) (by omega) (by omega))
         obtain ⟨T107, h107, X107, e107, W107, st107⟩ := stB X45 hx hZ eh45 Ar107 (j := (Int32.ofNat i)) in107 (g := (mkF m 83 #[.val (.ref p0), .val (.ref p1), .val (.int 0), .val (.int (Int32.ofNat n)), .val (.ref va), .val (.int (Int32.ofNat i)), .val (.int (Int32.ofNat (i + 1))), .val (.int (cs.getD i 0))] [(.int (cs.getD i 0).toInt8.toInt32), (.int (Int32.ofNat i)), (.ref va)])) rfl rfl (hb hby d30_83)
         have N107 := Fr.snoc X107 N45 g_va
         have Zs107 := Nat.le_trans Zp (Keep.of_wr W107).1
         have K107_0 := Kp.wr W107 (Or.inl (List.mem_of_getElem? (i := 1) rfl))
         have f109 := J0.wr W107 g_va
         have f110 := J1.wr W107
         have f111 := J2.other W107 (Or.inl (ne_exa J1 J10 (by decide)))
         have f112 := J3.other W107 (Or.inl (ne_exa J1 J10 (by decide)))
         have f113 := J4.other W107 ntv
         have f114 := J5.wr W107
         have f115 := J6.other W107 (Or.inl (ne_exa J5 J10 (by decide)))
         have f116 := J7.other W107 (Or.inl (ne_exa J5 J10 (by decide)))
         have f117 := J8.other W107 (Or.inl (ne_exa J5 J10 (by decide)))
         have f118 := J9.other W107 (Or.inl (ne_exa J5 J10 (by decide)))
         have f119 := J10.wr W107
         have f120 : Arv Z h107 va kv .byte (Int32.ofNat mm) (own_l1 ((cs.take i) ++ [(cs.getD i 0)])) (.int 0) := (by have q := Arv.set Ar107 q107 S107 Ng107 H107 G107 (fits_nar_byte _) W107 (i) (own_cl (i) (by omega)) (by rw [List.length_append, own_l1_len, (own_tl cs i (by omega))]; show _ < _ + 1; omega); rw [own_nb, own_l1_s _ _ (own_tl cs i (by omega)), ← own_l1_app] at q; exact q)
         refine own_go (fun _ k => st107 _ (XS.goto X107.here hx rfl (pc0 := 84) (pc' := 136) rfl (hb hby d30_84) (by decide) (by decide) k)) ?_
         show own_G _ _ _ (T107.setTop (mkF m 136 #[.val (.ref p0), .val (.ref p1), .val (.int 0), .val (.int (Int32.ofNat n)), .val (.ref va), .val (.int (Int32.ofNat i)), .val (.int (Int32.ofNat (i + 1))), .val (.int (cs.getD i 0))] [])) _ _ _ _
         refine own_go (fun _ k => XS.iinc X107.here hx rfl (hb hby d30_136) rfl (l' := #[.val (.ref p0), .val (.ref p1), .val (.int 0), .val (.int (Int32.ofNat n)), .val (.ref va), .val (.int ((Int32.ofNat i) + (1 : Int32))), .val (.int (Int32.ofNat (i + 1))), .val (.int (cs.getD i 0))]) rfl k) ?_
         rw [own_inc i]
         show own_G _ _ _ (T107.setTop (mkF m 139 #[.val (.ref p0), .val (.ref p1), .val (.int 0), .val (.int (Int32.ofNat n)), .val (.ref va), .val (.int (Int32.ofNat (i + 1))), .val (.int (Int32.ofNat (i + 1))), .val (.int (cs.getD i 0))] [])) _ _ _ _
         refine own_go (fun _ k => XS.goto X107.here hx rfl (pc0 := 139) (pc' := 51) rfl (hb hby d30_139) (by decide) (by decide) k) ?_
         show own_G _ _ _ (T107.setTop (mkF m 51 #[.val (.ref p0), .val (.ref p1), .val (.int 0), .val (.int (Int32.ofNat n)), .val (.ref va), .val (.int (Int32.ofNat (i + 1))), .val (.int (Int32.ofNat (i + 1))), .val (.int (cs.getD i 0))] [])) _ _ _ _
         have f121 : Arv Z h107 va kv .byte (Int32.ofNat mm) (own_l1 (cs.take (i + 1))) (.int 0) := (by have q := f120; rw [own_tks cs i (by omega)] at q; exact q)
         exact ih (i + 1) (by omega) _ _ _ _ _ (own_tkn hv (own_canF hc46) (by omega)) (.val (.int (cs.getD i 0))) (Or.inr (Or.inl ⟨_, rfl⟩)) X107 e107 N107 Zs107 K107_0 (by omega) (by omega) f109 f110 f111 f112 f113 f114 f115 f116 f117 f118 f119 f121
   exact loop n 0 (by omega) _ _ _ _ _ own_tk0 .unset (Or.inl rfl) X42 e42 N39 Z0 K0 (by omega) (by omega) P_Old P_E_p1 co1a P_F_p1_value co1b P_E_p0 P_F_p0_value P_F_p0_coder P_F_p0_count P_F_p0_maybeLatin1 P_E_va P_V_va
theorem d27_0 : own_d B27 0 (.aload_n 1) 1 := by decide +kernel
theorem d27_1 : own_d B27 1 (.ifnonnull 6) 3 := by decide +kernel
theorem d27_7 : own_d B27 7 (.iload_n 2) 1 := by decide +kernel
theorem d27_8 : own_d B27 8 (.iload_n 3) 1 := by decide +kernel
theorem d27_9 : own_d B27 9 (.aload_n 1) 1 := by decide +kernel
theorem d27_10 : own_d B27 10 (.invokeinterface 47 1) 5 := by decide +kernel
theorem d27_15 : own_d B27 15 (.getstatic 183) 3 := by decide +kernel
theorem d27_18 : own_d B27 18 (.invokestatic 161) 3 := by decide +kernel
theorem d27_21 : own_d B27 21 (.pop) 1 := by decide +kernel
theorem d27_22 : own_d B27 22 (.iload_n 3) 1 := by decide +kernel
theorem d27_23 : own_d B27 23 (.iload_n 2) 1 := by decide +kernel
theorem d27_24 : own_d B27 24 (.isub) 1 := by decide +kernel
theorem d27_25 : own_d B27 25 (.istore 4) 2 := by decide +kernel
theorem d27_27 : own_d B27 27 (.aload_n 0) 1 := by decide +kernel
theorem d27_28 : own_d B27 28 (.aload_n 0) 1 := by decide +kernel
theorem d27_29 : own_d B27 29 (.getfield 79) 3 := by decide +kernel
theorem d27_32 : own_d B27 32 (.iload 4) 2 := by decide +kernel
theorem d27_34 : own_d B27 34 (.iadd) 1 := by decide +kernel
theorem d27_35 : own_d B27 35 (.invokevirtual 100) 3 := by decide +kernel
theorem d27_38 : own_d B27 38 (.aload_n 1) 1 := by decide +kernel
theorem d27_39 : own_d B27 39 (.instanceof 1) 3 := by decide +kernel
theorem d27_42 : own_d B27 42 (.ifCond .eq 16) 3 := by decide +kernel
theorem d27_45 : own_d B27 45 (.aload_n 0) 1 := by decide +kernel
theorem d27_46 : own_d B27 46 (.aload_n 1) 1 := by decide +kernel
theorem d27_47 : own_d B27 47 (.checkcast 1) 3 := by decide +kernel
theorem d27_50 : own_d B27 50 (.iload_n 2) 1 := by decide +kernel
theorem d27_51 : own_d B27 51 (.iload_n 3) 1 := by decide +kernel
theorem d27_52 : own_d B27 52 (.invokevirtual 232) 3 := by decide +kernel
theorem d27_55 : own_d B27 55 (.goto 10) 3 := by decide +kernel
theorem d27_65 : own_d B27 65 (.aload_n 0) 1 := by decide +kernel
theorem d27_66 : own_d B27 66 (.areturn) 1 := by decide +kernel
theorem pd_29 : parseMethodDescriptor "(Ljava/lang/String;II)V" = some ⟨[(.object "java/lang/String"), .int, .int], none⟩ := by decide +kernel
theorem ef_27 (m : MethodId) (p0 : Addr) (p1 : Addr) (n : Nat) : entryFrame m #[(.ref p0), (.ref p1), (.int 0), (.int (Int32.ofNat n))] 5 = mkF m 0 #[.val (.ref p0), .val (.ref p1), .val (.int 0), .val (.int (Int32.ofNat n)), .unset] [] := by first | (simp [entryFrame, mkF, argsToLocals, Value.category]; done) | rfl
def Q27 (Z : State) (p0 : Addr) (p1 : Addr) (im : Value) (zc : Int32) (fm : Value) (co : Int32) (t : Addr) (kb : ClassId) (cs : List Int32) (va : Addr) (kv : ClassId) (mm : Nat) (n : Nat) (h0 : Heap) (n0 : Nat) (v : Option Value) (h : Heap) (L : List Loc) : Prop := ∃ (va2 : Addr) (kv2 : ClassId) (bo2 : Int32), v = some (.ref p0) ∧ Fr n0 L ∧ Keep h0 h [p0, va] ∧ Exa Z h p0 "java/lang/StringBuilder" ∧ Fld Z h p0 "java/lang/AbstractStringBuilder" "value" "[B" (.ref va2) ∧ Fld Z h p0 "java/lang/AbstractStringBuilder" "coder" "B" (.int bo2) ∧ Fld Z h p0 "java/lang/AbstractStringBuilder" "count" "I" (.int (Int32.ofNat (cs.take n).length)) ∧ Fld Z h p0 "java/lang/AbstractStringBuilder" "maybeLatin1" "Z" (.int 0) ∧ Exa Z h va2 "[B" ∧ Arv Z h va2 kv2 .byte (own_cap bo2 mm) (own_sv bo2 (cs.take n)) (.int 0) ∧ own_BK bo2 (cs.take n) mm ∧ (va2 = va ∨ h0.size ≤ va2)
theorem rm27 (l : Launch) (Z : State) (a0 : Array Value) (hw : ∀ d ∈ tables_1, d.before a0 Z = true) (ws : List Jvm.Cond) (p0 : Addr) (p1 : Addr) (im : Value) (zc : Int32) (fm : Value) (co : Int32) (t : Addr) (kb : ClassId) (cs : List Int32) (va : Addr) (kv : ClassId) (mm : Nat) (n : Nat) (h0 : Heap) (n0 : Nat) (Z0 : n0 ≤ h0.size) (Zio : Sta Z Z.heap "jdk/internal/util/Preconditions" "IOOBE_FORMATTER" "Ljava/util/function/BiFunction;" im) (him : im.isRef = true) (P_Old : Old Z n0 h0) (HA : own_Z Z zc fm) (P_E_p1 : Exa Z h0 p1 "java/lang/String") (P_F_p1_coder : Fld Z h0 p1 "java/lang/String" "coder" "B" (.int co)) (P_F_p1_value : Fld Z h0 p1 "java/lang/String" "value" "[B" (.ref t)) (P_V_t : Arv Z h0 t kb .byte (own_cap co cs.length) (own_sv co cs) (.int 0)) (hs : own_OK co cs) (P_E_p0 : Exa Z h0 p0 "java/lang/StringBuilder") (P_F_p0_value : Fld Z h0 p0 "java/lang/AbstractStringBuilder" "value" "[B" (.ref va)) (P_F_p0_coder : Fld Z h0 p0 "java/lang/AbstractStringBuilder" "coder" "B" (.int 0)) (P_F_p0_count : Fld Z h0 p0 "java/lang/AbstractStringBuilder" "count" "I" (.int 0)) (P_F_p0_maybeLatin1 : Fld Z h0 p0 "java/lang/AbstractStringBuilder" "maybeLatin1" "Z" (.int 0)) (P_E_va : Exa Z h0 va "[B") (P_V_va : Arv Z h0 va kv .byte (Int32.ofNat mm) (own_l1 []) (.int 0)) (hm5 : mm ≤ 5) (hnmm : n ≤ mm) (hnc : n ≤ cs.length) (g_p0 : n0 ≤ p0) (g_va : n0 ≤ va) (ntv : t ≠ va) :
   own_M l Z Y53 jdk_68_method_27_code 5 (some (.object "java/lang/AbstractStringBuilder")) ws ({ frames := 7, cells := 5, slots := 50, locals := 108 } : Room) #[(.ref p0), (.ref p1), (.int 0), (.int (Int32.ofNat n))] h0 (Q27 Z p0 p1 im zc fm co t kb cs va kv mm n h0 n0) := by
 refine own_body (C := "java/lang/AbstractStringBuilder") rfl (plainFor_of_name pn_4) (fun p e s m below meth c s₁ Bd hx hby hml hown hlk hZ X0 e0 => ?_)
 have hnm := (name_of_methodNamed Bd.named Bd.method).1
 have N0 := Fr.nil n0
 obtain ⟨Zcs, hcs, Zsi, hfm, Zad, Zhi, Zlo⟩ := id HA
 have K0 : Keep h0 h0 [p0, va] := Keep.refl h0 [p0, va]
 refine own_go (fun _ k => castTop (ef_27 m p0 p1 n) (XS.aloadN X0.here hx rfl (hb hby d27_0) rfl rfl (XS.ifnonnullYes X0.here hx rfl (pc0 := 1) (pc' := 7) rfl (hb hby d27_1) rfl (by decide) (by decide) (XS.iloadN X0.here hx rfl (hb hby d27_7) rfl (XS.iloadN X0.here hx rfl (hb hby d27_8) rfl (XS.aloadN X0.here hx rfl (hb hby d27_9) rfl rfl k)))))) ?_
 obtain ⟨cq1, kq1, q1a, q1b, q1c⟩ := isOf hZ e0 P_E_p1
 obtain ⟨_, _, ⟨T1, L1, k1, n1⟩, -, X1, ⟨Lc1, hQ1, l1, y1, z1⟩, st1⟩ := X0.interfaceBack hx (xi := Y54) (y := Y15) hown (mvT hZ (own_h hw 133 rfl)) (mvT hZ (own_h hw 134 rfl)) (mvT hZ (own_h hw 135 rfl)) (mvT hZ (own_h hw 136 rfl)) (mvT hZ (own_h hw 80 rfl)) (mvT hZ (own_h hw 137 rfl)) (mvT hZ (own_h hw 138 rfl)) (mvT hZ (own_h hw 139 rfl)) (by decide) (backOf (W := 2) (rm17 l Z a0 hw [] p1 zc fm co t kb cs h0 n0 Z0 P_Old HA P_E_p1 P_F_p1_coder P_F_p1_value P_V_t hs) hZ (own_h hw 82 rfl) (own_h hw 8 rfl) (by decide) (by decide)) q1a q1b q1c (g := (mkF m 10 #[.val (.ref p0), .val (.ref p1), .val (.int 0), .val (.int (Int32.ofNat n)), .unset] [(.ref p1), (.int (Int32.ofNat n)), (.int 0)])) rfl (by rw [hml]; rfl) (Steps.refl _) (argsL := []) (rest := [(.int (Int32.ofNat n)), (.int 0)]) (lenOf pd_13 rfl) rfl (own_r0 _) (hb hby d27_10) (fun _ _ => ⟨rfl, e0, (by decide : 0 + 0 ≤ _), (by decide : 0 + 0 ≤ _)⟩)
 dsimp only [Pt.U, Pt.locs, Pt.cells, Pt.slots] at X1 l1 y1 z1 st1 hQ1
 rw [l1] at X1
 subst y1 z1
 obtain ⟨rfl, Nq1, eh1⟩ := hQ1
 have N1 := Fr.app N0 Nq1
 refine own_go (fun _ k => st1.trans k) ?_
 obtain ⟨T2, X2, e2, st2⟩ := getS2 X1 hx hZ hown (host := "") (Or.inl (own_h hw 140 rfl)) Via.refl eh1 (Zio.ext P_Old.2) (g := (mkF m 15 #[.val (.ref p0), .val (.ref p1), .val (.int 0), .val (.int (Int32.ofNat n)), .unset] [(.int (Int32.ofNat cs.length)), (.int (Int32.ofNat n)), (.int 0)])) rfl (hb hby d27_15)
 refine own_go (fun _ k => st2 _ k) ?_
 obtain ⟨_, _, ⟨T3, L3, k3, n3⟩, -, X3, ⟨Lc3, hQ3, l3, y3, z3⟩, st3⟩ := Jvm.LawKit.callS X2 hx (y := Y3) hown (mvT hZ (own_h hw 142 rfl)) (mvT hZ (own_h hw 143 rfl)) (mvT hZ (own_h hw 36 rfl)) (mvT hZ (own_h hw 144 rfl)) (by decide) (backOf (W := 0) (rm28 l Z a0 hw [] (0 : Int32) (Int32.ofNat n) (Int32.ofNat cs.length) im  h0 n0 Z0 (by decide) (own_nn n (by omega)) (own_nlt hnc hs.2.2) him) hZ (own_h hw 144 rfl) (own_h hw 36 rfl) (by decide) (by decide)) (g := (mkF m 18 #[.val (.ref p0), .val (.ref p1), .val (.int 0), .val (.int (Int32.ofNat n)), .unset] [im, (.int (Int32.ofNat cs.length)), (.int (Int32.ofNat n)), (.int 0)])) rfl (by rw [hml]; rfl) (argsL := [(.int 0), (.int (Int32.ofNat n)), (.int (Int32.ofNat cs.length)), im]) (rest := []) (lenOf pd_1 rfl) rfl (own_r0 _) (hb hby d27_18) (fun _ _ => ⟨rfl, e2, (by decide : 0 + 0 ≤ _), (by decide : 0 + 0 ≤ _)⟩)
 dsimp only [Pt.U, Pt.locs, Pt.cells, Pt.slots] at X3 l3 y3 z3 st3 hQ3
 rw [l3] at X3
 subst y3 z3
 obtain ⟨rfl, Nq3, eh3⟩ := hQ3
 have N3 := Fr.app N1 Nq3
 refine own_go (fun _ k => st3 _ (XS.pop X3.here hx rfl (hb hby d27_21) rfl rfl (XS.iloadN X3.here hx rfl (hb hby d27_22) rfl (XS.iloadN X3.here hx rfl (hb hby d27_23) rfl k)))) ?_
 show own_G _ _ _ (T3.setTop (mkF m 24 #[.val (.ref p0), .val (.ref p1), .val (.int 0), .val (.int (Int32.ofNat n)), .unset] [(.int 0), (.int (Int32.ofNat n))])) _ _ _ _
 refine own_go (fun _ k => XS.isub X3.here hx rfl (hb hby d27_24) rfl k) ?_
 rw [own_sub0]
 show own_G _ _ _ (T3.setTop (mkF m 25 #[.val (.ref p0), .val (.ref p1), .val (.int 0), .val (.int (Int32.ofNat n)), .unset] [(.int (Int32.ofNat n))])) _ _ _ _
 refine own_go (fun _ k => XS.istore X3.here hx rfl (hb hby d27_25) rfl (l' := #[.val (.ref p0), .val (.ref p1), .val (.int 0), .val (.int (Int32.ofNat n)), .val (.int (Int32.ofNat n))]) rfl (XS.aloadN X3.here hx rfl (hb hby d27_27) rfl rfl (XS.aloadN X3.here hx rfl (hb hby d27_28) rfl rfl k))) ?_
 obtain ⟨T4, X4, e4, st4⟩ := getF X3 hx hZ hown (host := "") (Or.inl (own_h hw 145 rfl)) Via.refl eh3 P_F_p0_count (g := (mkF m 29 #[.val (.ref p0), .val (.ref p1), .val (.int 0), .val (.int (Int32.ofNat n)), .val (.int (Int32.ofNat n))] [(.ref p0), (.ref p0)])) rfl rfl (hb hby d27_29)
 refine own_go (fun _ k => st4 _ (XS.iload X4.here hx rfl (hb hby d27_32) rfl k)) ?_
 show own_G _ _ _ (T4.setTop (mkF m 34 #[.val (.ref p0), .val (.ref p1), .val (.int 0), .val (.int (Int32.ofNat n)), .val (.int (Int32.ofNat n))] [(.int (Int32.ofNat n)), (.int 0), (.ref p0)])) _ _ _ _
 refine own_go (fun _ k => XS.iadd X4.here hx rfl (hb hby d27_34) rfl k) ?_
 rw [own_0add]
 show own_G _ _ _ (T4.setTop (mkF m 35 #[.val (.ref p0), .val (.ref p1), .val (.int 0), .val (.int (Int32.ofNat n)), .val (.int (Int32.ofNat n))] [(.int (Int32.ofNat n)), (.ref p0)])) _ _ _ _
 obtain ⟨cq5, q5, q5'⟩ := P_E_p0.cell
 obtain ⟨_, _, ⟨T5, L5, k5, n5⟩, -, X5, ⟨Lc5, hQ5, l5, y5, z5⟩, st5⟩ := X4.privateBack hx (y := Y44) hown (mvT hZ (own_h hw 147 rfl)) (mvT hZ (own_h hw 148 rfl)) (own_selp (mvT hZ (own_h hw 150 rfl)) rfl (Cond.privateMethod_at (mvP hZ (own_h hw 149 rfl) (args := #[]))) (mvT hZ (own_h hw 148 rfl)) (by decide)) (Cond.privateMethod_at (mvP hZ (own_h hw 149 rfl) (args := #[]))) (mvT hZ (own_h hw 151 rfl)) (by decide) (backOf (W := 0) (rm29 l Z a0 hw [] p0 va kv (0 : Int32) ([]) mm n h0 n0 Z0 P_F_p0_value P_F_p0_coder (own_v0r rfl P_V_va) (own_BK0 hm5) hnmm) hZ (own_h hw 151 rfl) (own_h hw 115 rfl) (by decide) (by decide)) (g := (mkF m 35 #[.val (.ref p0), .val (.ref p1), .val (.int 0), .val (.int (Int32.ofNat n)), .val (.int (Int32.ofNat n))] [(.int (Int32.ofNat n)), (.ref p0)])) rfl (by rw [hml]; rfl) (Steps.refl _) (a := p0) (by rw [e4]; exact q5) q5' (argsL := [(.int (Int32.ofNat n))]) (rest := []) (lenOf pd_21 rfl) rfl (own_r0 _) (hb hby d27_35) (fun _ _ => ⟨rfl, e4, (by decide : 0 + 0 ≤ _), (by decide : 0 + 0 ≤ _)⟩)
 dsimp only [Pt.U, Pt.locs, Pt.cells, Pt.slots] at X5 l5 y5 z5 st5 hQ5
 rw [l5] at X5
 subst y5 z5
 obtain ⟨rfl, Nq5, eh5⟩ := hQ5
 have N5 := Fr.app N3 Nq5
 refine own_go (fun _ k => st5.trans (XS.aloadN X5.here hx rfl (hb hby d27_38) rfl rfl k)) ?_
 obtain ⟨T6, X6, e6, st6⟩ := instY X5 hx hZ hown (own_h hw 152 rfl) eh5 (Ins.self P_E_p1) (g := (mkF m 39 #[.val (.ref p0), .val (.ref p1), .val (.int 0), .val (.int (Int32.ofNat n)), .val (.int (Int32.ofNat n))] [(.ref p1)])) rfl rfl (hb hby d27_39)
 refine own_go (fun _ k => st6 _ k) ?_
 show own_G _ _ _ (T6.setTop (mkF m 42 #[.val (.ref p0), .val (.ref p1), .val (.int 0), .val (.int (Int32.ofNat n)), .val (.int (Int32.ofNat n))] [(.int 1)])) _ _ _ _
 have hc7 : ¬ ((1 : Int32) = (0 : Int32)) := (by decide)
 refine own_go (fun _ k => XS.ifNo X6.here hx rfl (hb hby d27_42) rfl ((if0 _ _).trans (feq hc7).1) (XS.aloadN X6.here hx rfl (hb hby d27_45) rfl rfl (XS.aloadN X6.here hx rfl (hb hby d27_46) rfl rfl k))) ?_
 obtain ⟨T8, X8, e8, st8⟩ := castY X6 hx hZ hown (own_h hw 152 rfl) e6 (Ins.self P_E_p1) (g := (mkF m 47 #[.val (.ref p0), .val (.ref p1), .val (.int 0), .val (.int (Int32.ofNat n)), .val (.int (Int32.ofNat n))] [(.ref p1), (.ref p0)])) rfl rfl (hb hby d27_47)
 refine own_go (fun _ k => st8 _ (XS.iloadN X8.here hx rfl (hb hby d27_50) rfl (XS.iloadN X8.here hx rfl (hb hby d27_51) rfl k))) ?_
 obtain ⟨cq9, q9, q9'⟩ := P_E_p0.cell
 obtain ⟨_, _, ⟨T9, L9, k9, n9⟩, -, X9, ⟨Lc9, hQ9, l9, y9, z9⟩, st9⟩ := X8.privateBack hx (y := Y52) hown (mvT hZ (own_h hw 153 rfl)) (mvT hZ (own_h hw 154 rfl)) (own_selp (mvT hZ (own_h hw 150 rfl)) rfl (Cond.privateMethod_at (mvP hZ (own_h hw 155 rfl) (args := #[]))) (mvT hZ (own_h hw 154 rfl)) (by decide)) (Cond.privateMethod_at (mvP hZ (own_h hw 155 rfl) (args := #[]))) (mvT hZ (own_h hw 157 rfl)) (by decide) (backOf (W := 0) (rm30 l Z a0 hw [] p0 p1 zc fm co t kb cs va kv mm n h0 n0 Z0 P_Old HA P_E_p1 P_F_p1_coder P_F_p1_value P_V_t hs P_E_p0 P_F_p0_value P_F_p0_coder P_F_p0_count P_F_p0_maybeLatin1 P_E_va P_V_va hm5 hnmm hnc g_p0 g_va ntv) hZ (own_h hw 157 rfl) (own_h hw 115 rfl) (by decide) (by decide)) (g := (mkF m 52 #[.val (.ref p0), .val (.ref p1), .val (.int 0), .val (.int (Int32.ofNat n)), .val (.int (Int32.ofNat n))] [(.int (Int32.ofNat n)), (.int 0), (.ref p1), (.ref p0)])) rfl (by rw [hml]; rfl) (Steps.refl _) (a := p0) (by rw [e8]; exact q9) q9' (argsL := [(.ref p1), (.int 0), (.int (Int32.ofNat n))]) (rest := []) (lenOf pd_29 rfl) rfl (own_r0 _) (hb hby d27_52) (fun _ _ => ⟨rfl, e8, (by decide : 0 + 5 ≤ _), (by decide : 0 + 50 ≤ _)⟩)
 dsimp only [Pt.U, Pt.locs, Pt.cells, Pt.slots] at X9 l9 y9 z9 st9 hQ9
 rw [l9] at X9
 subst y9 z9
 obtain ⟨va29, kv29, bo29, rfl, Nq9, Kq9, r9_0, r9_1, r9_2, r9_3, r9_4, r9_5, r9_6, r9_7, r9_8⟩ := hQ9
 have N9 := Fr.app N5 Nq9
 have f10 := P_Old.keep Kq9 (allS g_p0 (allS g_va all0))
 have f11 := P_E_p1.keep Kq9
 have f12 := P_F_p1_coder.keep Kq9 (ninS (ne_exa P_E_p1 P_E_p0 (by decide)) (ninS (ne_exa P_E_p1 P_E_va (by decide)) nin0))
 have f13 := P_F_p1_value.keep Kq9 (ninS (ne_exa P_E_p1 P_E_p0 (by decide)) (ninS (ne_exa P_E_p1 P_E_va (by decide)) nin0))
 have f14 := P_V_t.keep Kq9 (ninS (Ne.symm (by obtain ⟨c_, A_, -⟩ := P_V_t; exact ne_arr P_E_p0 (own_h hw 105 rfl) A_)) (ninS ntv nin0))
 have f15 := P_E_p0.keep Kq9
 have f16 := P_E_va.keep Kq9
 have Zs9 := Nat.le_trans Z0 Kq9.1
 have K9_0 := K0.trans Kq9 (allS (Or.inl (List.mem_of_getElem? (i := 0) rfl)) (allS (Or.inl (List.mem_of_getElem? (i := 1) rfl)) all0))
 refine own_go (fun _ k => st9.trans (XS.goto X9.here hx rfl (pc0 := 55) (pc' := 65) rfl (hb hby d27_55) (by decide) (by decide) (XS.aloadN X9.here hx rfl (hb hby d27_65) rfl rfl k))) ?_
 show own_G _ _ _ (T9.setTop (mkF m 66 #[.val (.ref p0), .val (.ref p1), .val (.int 0), .val (.int (Int32.ofNat n)), .val (.int (Int32.ofNat n))] [(.ref p0)])) _ _ _ _
 exact own_endR X9 hx hlk Bd.returns rfl rfl rfl (hb hby d27_66) (by decide) (by decide) (Q := (Q27 Z p0 p1 im zc fm co t kb cs va kv mm n h0 n0)) ⟨va29, kv29, bo29, rfl, N9, K9_0, r9_0, r9_1, r9_2, r9_3, r9_4, r9_5, r9_6, r9_7, r9_8⟩
theorem d26_0 : own_d B26 0 (.aload_n 0) 1 := by decide +kernel
theorem d26_1 : own_d B26 1 (.aload_n 1) 1 := by decide +kernel
theorem d26_2 : own_d B26 2 (.iload_n 2) 1 := by decide +kernel
theorem d26_3 : own_d B26 3 (.iload_n 3) 1 := by decide +kernel
theorem d26_4 : own_d B26 4 (.invokespecial 38) 3 := by decide +kernel
theorem d26_7 : own_d B26 7 (.pop) 1 := by decide +kernel
theorem d26_8 : own_d B26 8 (.aload_n 0) 1 := by decide +kernel
theorem d26_9 : own_d B26 9 (.areturn) 1 := by decide +kernel
theorem pd_30 : parseMethodDescriptor "(Ljava/lang/CharSequence;II)Ljava/lang/AbstractStringBuilder;" = some ⟨[(.object "java/lang/CharSequence"), .int, .int], some (.object "java/lang/AbstractStringBuilder")⟩ := by decide +kernel
theorem ef_26 (m : MethodId) (p0 : Addr) (p1 : Addr) (n : Nat) : entryFrame m #[(.ref p0), (.ref p1), (.int 0), (.int (Int32.ofNat n))] 4 = mkF m 0 #[.val (.ref p0), .val (.ref p1), .val (.int 0), .val (.int (Int32.ofNat n))] [] := by first | (simp [entryFrame, mkF, argsToLocals, Value.category]; done) | rfl
def Q26 (Z : State) (p0 : Addr) (p1 : Addr) (im : Value) (zc : Int32) (fm : Value) (co : Int32) (t : Addr) (kb : ClassId) (cs : List Int32) (va : Addr) (kv : ClassId) (mm : Nat) (n : Nat) (h0 : Heap) (n0 : Nat) (v : Option Value) (h : Heap) (L : List Loc) : Prop := ∃ (va2 : Addr) (kv2 : ClassId) (bo2 : Int32), v = some (.ref p0) ∧ Fr n0 L ∧ Keep h0 h [p0, va] ∧ Exa Z h p0 "java/lang/StringBuilder" ∧ Fld Z h p0 "java/lang/AbstractStringBuilder" "value" "[B" (.ref va2) ∧ Fld Z h p0 "java/lang/AbstractStringBuilder" "coder" "B" (.int bo2) ∧ Fld Z h p0 "java/lang/AbstractStringBuilder" "count" "I" (.int (Int32.ofNat (cs.take n).length)) ∧ Fld Z h p0 "java/lang/AbstractStringBuilder" "maybeLatin1" "Z" (.int 0) ∧ Exa Z h va2 "[B" ∧ Arv Z h va2 kv2 .byte (own_cap bo2 mm) (own_sv bo2 (cs.take n)) (.int 0) ∧ own_BK bo2 (cs.take n) mm ∧ (va2 = va ∨ h0.size ≤ va2)
theorem rm26 (l : Launch) (Z : State) (a0 : Array Value) (hw : ∀ d ∈ tables_1, d.before a0 Z = true) (ws : List Jvm.Cond) (p0 : Addr) (p1 : Addr) (im : Value) (zc : Int32) (fm : Value) (co : Int32) (t : Addr) (kb : ClassId) (cs : List Int32) (va : Addr) (kv : ClassId) (mm : Nat) (n : Nat) (h0 : Heap) (n0 : Nat) (Z0 : n0 ≤ h0.size) (Zio : Sta Z Z.heap "jdk/internal/util/Preconditions" "IOOBE_FORMATTER" "Ljava/util/function/BiFunction;" im) (him : im.isRef = true) (P_Old : Old Z n0 h0) (HA : own_Z Z zc fm) (P_E_p1 : Exa Z h0 p1 "java/lang/String") (P_F_p1_coder : Fld Z h0 p1 "java/lang/String" "coder" "B" (.int co)) (P_F_p1_value : Fld Z h0 p1 "java/lang/String" "value" "[B" (.ref t)) (P_V_t : Arv Z h0 t kb .byte (own_cap co cs.length) (own_sv co cs) (.int 0)) (hs : own_OK co cs) (P_E_p0 : Exa Z h0 p0 "java/lang/StringBuilder") (P_F_p0_value : Fld Z h0 p0 "java/lang/AbstractStringBuilder" "value" "[B" (.ref va)) (P_F_p0_coder : Fld Z h0 p0 "java/lang/AbstractStringBuilder" "coder" "B" (.int 0)) (P_F_p0_count : Fld Z h0 p0 "java/lang/AbstractStringBuilder" "count" "I" (.int 0)) (P_F_p0_maybeLatin1 : Fld Z h0 p0 "java/lang/AbstractStringBuilder" "maybeLatin1" "Z" (.int 0)) (P_E_va : Exa Z h0 va "[B") (P_V_va : Arv Z h0 va kv .byte (Int32.ofNat mm) (own_l1 []) (.int 0)) (hm5 : mm ≤ 5) (hnmm : n ≤ mm) (hnc : n ≤ cs.length) (g_p0 : n0 ≤ p0) (g_va : n0 ≤ va) (ntv : t ≠ va) :
   own_M l Z Y55 jdk_67_method_10_code 4 (some (.object "java/lang/StringBuilder")) ws ({ frames := 8, cells := 5, slots := 50, locals := 124 } : Room) #[(.ref p0), (.ref p1), (.int 0), (.int (Int32.ofNat n))] h0 (Q26 Z p0 p1 im zc fm co t kb cs va kv mm n h0 n0) := by
 refine own_body (C := "java/lang/StringBuilder") rfl (plainFor_of_name pn_5) (fun p e s m below meth c s₁ Bd hx hby hml hown hlk hZ X0 e0 => ?_)
 have hnm := (name_of_methodNamed Bd.named Bd.method).1
 have N0 := Fr.nil n0
 obtain ⟨Zcs, hcs, Zsi, hfm, Zad, Zhi, Zlo⟩ := id HA
 have K0 : Keep h0 h0 [p0, va] := Keep.refl h0 [p0, va]
 refine own_go (fun _ k => castTop (ef_26 m p0 p1 n) (XS.aloadN X0.here hx rfl (hb hby d26_0) rfl rfl (XS.aloadN X0.here hx rfl (hb hby d26_1) rfl rfl (XS.iloadN X0.here hx rfl (hb hby d26_2) rfl (XS.iloadN X0.here hx rfl (hb hby d26_3) rfl k))))) ?_
 obtain ⟨_, _, ⟨T1, L1, k1, n1⟩, -, X1, ⟨Lc1, hQ1, l1, y1, z1⟩, st1⟩ := superBack X0 hx hZ (y := Y53) hown (own_h hw 128 rfl) (own_samem (own_h hw 150 rfl) rfl (own_h hw 129 rfl) (by decide)) (own_h hw 129 rfl) (own_h hw 130 rfl) (by decide) (backOf (W := 0) (rm27 l Z a0 hw [] p0 p1 im zc fm co t kb cs va kv mm n h0 n0 Z0 Zio him P_Old HA P_E_p1 P_F_p1_coder P_F_p1_value P_V_t hs P_E_p0 P_F_p0_value P_F_p0_coder P_F_p0_count P_F_p0_maybeLatin1 P_E_va P_V_va hm5 hnmm hnc g_p0 g_va ntv) hZ (own_h hw 132 rfl) (own_h hw 115 rfl) (by decide) (by decide)) e0 (Ins.self P_E_p0) (g := (mkF m 4 #[.val (.ref p0), .val (.ref p1), .val (.int 0), .val (.int (Int32.ofNat n))] [(.int (Int32.ofNat n)), (.int 0), (.ref p1), (.ref p0)])) rfl (by rw [hml]; rfl) (own_h hw 132 rfl) (argsL := [(.ref p1), (.int 0), (.int (Int32.ofNat n))]) (rest := []) (lenOf pd_30 rfl) rfl (own_r0 _) (hb hby d26_4) (fun _ _ => ⟨rfl, e0, (by decide : 0 + 5 ≤ _), (by decide : 0 + 50 ≤ _)⟩)
 dsimp only [Pt.U, Pt.locs, Pt.cells, Pt.slots] at X1 l1 y1 z1 st1 hQ1
 rw [l1] at X1
 subst y1 z1
 obtain ⟨va21, kv21, bo21, rfl, Nq1, Kq1, r1_0, r1_1, r1_2, r1_3, r1_4, r1_5, r1_6, r1_7, r1_8⟩ := hQ1
 have N1 := Fr.app N0 Nq1
 have f2 := P_Old.keep Kq1 (allS g_p0 (allS g_va all0))
 have f3 := P_E_p1.keep Kq1
 have f4 := P_F_p1_coder.keep Kq1 (ninS (ne_exa P_E_p1 P_E_p0 (by decide)) (ninS (ne_exa P_E_p1 P_E_va (by decide)) nin0))
 have f5 := P_F_p1_value.keep Kq1 (ninS (ne_exa P_E_p1 P_E_p0 (by decide)) (ninS (ne_exa P_E_p1 P_E_va (by decide)) nin0))
 have f6 := P_V_t.keep Kq1 (ninS (Ne.symm (by obtain ⟨c_, A_, -⟩ := P_V_t; exact ne_arr P_E_p0 (own_h hw 105 rfl) A_)) (ninS ntv nin0))
 have f7 := P_E_p0.keep Kq1
 have f8 := P_E_va.keep Kq1
 have Zs1 := Nat.le_trans Z0 Kq1.1
 have K1_0 := K0.trans Kq1 (allS (Or.inl (List.mem_of_getElem? (i := 0) rfl)) (allS (Or.inl (List.mem_of_getElem? (i := 1) rfl)) all0))
 refine own_go (fun _ k => st1.trans (XS.pop X1.here hx rfl (hb hby d26_7) rfl rfl (XS.aloadN X1.here hx rfl (hb hby d26_8) rfl rfl k))) ?_
 show own_G _ _ _ (T1.setTop (mkF m 9 #[.val (.ref p0), .val (.ref p1), .val (.int 0), .val (.int (Int32.ofNat n))] [(.ref p0)])) _ _ _ _
 exact own_endR X1 hx hlk Bd.returns rfl rfl rfl (hb hby d26_9) (by decide) (by decide) (Q := (Q26 Z p0 p1 im zc fm co t kb cs va kv mm n h0 n0)) ⟨va21, kv21, bo21, rfl, N1, K1_0, r1_0, r1_1, r1_2, r1_3, r1_4, r1_5, r1_6, r1_7, r1_8⟩
theorem d71_0 : own_d B71 0 (.iload_n 1) 1 := by decide +kernel
theorem d71_1 : own_d B71 1 (.iload_n 0) 1 := by decide +kernel
theorem d71_2 : own_d B71 2 (.if_icmp .ge 35) 3 := by decide +kernel
theorem d71_37 : own_d B71 37 (.return_) 1 := by decide +kernel
theorem pn_6 : plainName "java/util/Arrays" = true := by first | (simp [plainName, overriddenIn]; done) | decide +kernel
theorem ef_71 (m : MethodId) (qn : Nat) : entryFrame m #[(.int 0), (.int (Int32.ofNat qn))] 2 = mkF m 0 #[.val (.int 0), .val (.int (Int32.ofNat qn))] [] := by first | (simp [entryFrame, mkF, argsToLocals, Value.category]; done) | rfl
def Q71 (Z : State) (qn : Nat) (h0 : Heap) (n0 : Nat) (v : Option Value) (h : Heap) (L : List Loc) : Prop := v = none ∧ Fr n0 L ∧ h = h0
theorem rm71 (l : Launch) (Z : State) (a0 : Array Value) (hw : ∀ d ∈ tables_1, d.before a0 Z = true) (ws : List Jvm.Cond) (qn : Nat) (h0 : Heap) (n0 : Nat) (Z0 : n0 ≤ h0.size) (hq22 : qn ≤ 22) :
   own_M l Z Y56 jdk_65_method_131_code 2 none ws ({ frames := 0, cells := 0, slots := 0, locals := 0 } : Room) #[(.int 0), (.int (Int32.ofNat qn))] h0 (Q71 Z qn h0 n0) := by
 refine own_body (C := "java/util/Arrays") rfl (plainFor_of_name pn_6) (fun p e s m below meth c s₁ Bd hx hby hml hown hlk hZ X0 e0 => ?_)
 have N0 := Fr.nil n0
 refine own_go (fun _ k => castTop (ef_71 m qn) (XS.iloadN X0.here hx rfl (hb hby d71_0) rfl (XS.iloadN X0.here hx rfl (hb hby d71_1) rfl k))) ?_
 show own_G _ _ _ (s₁.setTop (mkF m 2 #[.val (.int 0), .val (.int (Int32.ofNat qn))] [(.int 0), (.int (Int32.ofNat qn))])) _ _ _ _
 have hc1 : ¬ ((Int32.ofNat qn) < (0 : Int32)) := (own_nn qn (by omega))
 refine own_go (fun _ k => XS.icmpYes X0.here hx rfl (pc0 := 2) (pc' := 37) rfl (hb hby d71_2) rfl (flt hc1).2.1 (by decide) (by decide) k) ?_
 show own_G _ _ _ (s₁.setTop (mkF m 37 #[.val (.int 0), .val (.int (Int32.ofNat qn))] [])) _ _ _ _
 exact own_endV X0 hx hlk Bd.returns (hb hby d71_37) (by decide) (by decide) (Q := (Q71 Z qn h0 n0)) (by rw [e0]; exact ⟨rfl, N0, rfl⟩)
theorem d70_0 : own_d B70 0 (.iload_n 1) 1 := by decide +kernel
theorem d70_1 : own_d B70 1 (.iload_n 2) 1 := by decide +kernel
theorem d70_2 : own_d B70 2 (.invokestatic 343) 3 := by decide +kernel
theorem d70_5 : own_d B70 5 (.iload_n 2) 1 := by decide +kernel
theorem d70_6 : own_d B70 6 (.iload_n 1) 1 := by decide +kernel
theorem d70_7 : own_d B70 7 (.isub) 1 := by decide +kernel
theorem d70_8 : own_d B70 8 (.istore_n 3) 1 := by decide +kernel
theorem d70_9 : own_d B70 9 (.iload_n 3) 1 := by decide +kernel
theorem d70_10 : own_d B70 10 (.newarray .byte) 2 := by decide +kernel
theorem d70_12 : own_d B70 12 (.astore 4) 2 := by decide +kernel
theorem d70_14 : own_d B70 14 (.aload_n 0) 1 := by decide +kernel
theorem d70_15 : own_d B70 15 (.iload_n 1) 1 := by decide +kernel
theorem d70_16 : own_d B70 16 (.aload 4) 2 := by decide +kernel
theorem d70_18 : own_d B70 18 (.iconst 0) 1 := by decide +kernel
theorem d70_19 : own_d B70 19 (.aload_n 0) 1 := by decide +kernel
theorem d70_20 : own_d B70 20 (.arraylength) 1 := by decide +kernel
theorem d70_21 : own_d B70 21 (.iload_n 1) 1 := by decide +kernel
theorem d70_22 : own_d B70 22 (.isub) 1 := by decide +kernel
theorem d70_23 : own_d B70 23 (.iload_n 3) 1 := by decide +kernel
theorem d70_24 : own_d B70 24 (.invokestatic 304) 3 := by decide +kernel
theorem d70_27 : own_d B70 27 (.invokestatic 150) 3 := by decide +kernel
theorem d70_30 : own_d B70 30 (.aload 4) 2 := by decide +kernel
theorem d70_32 : own_d B70 32 (.areturn) 1 := by decide +kernel
theorem ef_70 (m : MethodId) (p0 : Addr) (qn : Nat) : entryFrame m #[(.ref p0), (.int 0), (.int (Int32.ofNat qn))] 5 = mkF m 0 #[.val (.ref p0), .val (.int 0), .val (.int (Int32.ofNat qn)), .unset, .unset] [] := by first | (simp [entryFrame, mkF, argsToLocals, Value.category]; done) | rfl
def Q70 (Z : State) (p0 : Addr) (qn : Nat) (mm : Nat) (kb : ClassId) (vs : List Value) (h0 : Heap) (n0 : Nat) (v : Option Value) (h : Heap) (L : List Loc) : Prop := ∃ (b : Addr) (kb2 : ClassId), v = some (.ref b) ∧ Fr n0 L ∧ Keep h0 h [] ∧ h0.size ≤ b ∧ Arv Z h b kb2 .byte (Int32.ofNat qn) vs (.int 0)
theorem rm70 (l : Launch) (Z : State) (a0 : Array Value) (hw : ∀ d ∈ tables_1, d.before a0 Z = true) (ws : List Jvm.Cond) (p0 : Addr) (qn : Nat) (mm : Nat) (kb : ClassId) (vs : List Value) (h0 : Heap) (n0 : Nat) (Z0 : n0 ≤ h0.size) (P_V_p0 : Arv Z h0 p0 kb .byte (Int32.ofNat mm) vs (.int 0)) (hM : mm ≤ 10) (hvq : vs.length = qn) (hqM : qn < mm) :
   own_M l Z Y57 jdk_65_method_133_code 5 (some (.array .byte)) ws ({ frames := 1, cells := 1, slots := 10, locals := 18 } : Room) #[(.ref p0), (.int 0), (.int (Int32.ofNat qn))] h0 (Q70 Z p0 qn mm kb vs h0 n0) := by
 refine own_body (C := "java/util/Arrays") rfl (plainFor_of_name pn_6) (fun p e s m below meth c s₁ Bd hx hby hml hown hlk hZ X0 e0 => ?_)
 have N0 := Fr.nil n0
 have K0 : Keep h0 h0 [] := Keep.refl h0 []
 refine own_go (fun _ k => castTop (ef_70 m p0 qn) (XS.iloadN X0.here hx rfl (hb hby d70_0) rfl (XS.iloadN X0.here hx rfl (hb hby d70_1) rfl k))) ?_
 obtain ⟨_, _, ⟨T1, L1, k1, n1⟩, -, X1, ⟨Lc1, hQ1, l1, y1, z1⟩, st1⟩ := Jvm.LawKit.callS X0 hx (y := Y56) hown (mvT hZ (own_h hw 326 rfl)) (mvT hZ (own_h hw 327 rfl)) (mvT hZ (own_h hw 220 rfl)) (mvT hZ (own_h hw 328 rfl)) (by decide) (backOf (W := 0) (rm71 l Z a0 hw []  qn h0 n0 Z0 (by omega)) hZ (own_h hw 328 rfl) (own_h hw 220 rfl) (by decide) (by decide)) (g := (mkF m 2 #[.val (.ref p0), .val (.int 0), .val (.int (Int32.ofNat qn)), .unset, .unset] [(.int (Int32.ofNat qn)), (.int 0)])) rfl (by rw [hml]; rfl) (argsL := [(.int 0), (.int (Int32.ofNat qn))]) (rest := []) (lenOf pd_3 rfl) rfl (own_r0 _) (hb hby d70_2) (fun _ _ => ⟨rfl, e0, (by decide : 0 + 0 ≤ _), (by decide : 0 + 0 ≤ _)⟩)
 dsimp only [Pt.U, Pt.locs, Pt.cells, Pt.slots] at X1 l1 y1 z1 st1 hQ1
 rw [l1] at X1
 subst y1 z1
 obtain ⟨rfl, Nq1, eh1⟩ := hQ1
 have N1 := Fr.app N0 Nq1
 refine own_go (fun _ k => st1 _ (XS.iloadN X1.here hx rfl (hb hby d70_5) rfl (XS.iloadN X1.here hx rfl (hb hby d70_6) rfl k))) ?_
 show own_G _ _ _ (T1.setTop (mkF m 7 #[.val (.ref p0), .val (.int 0), .val (.int (Int32.ofNat qn)), .unset, .unset] [(.int 0), (.int (Int32.ofNat qn))])) _ _ _ _
 refine own_go (fun _ k => XS.isub X1.here hx rfl (hb hby d70_7) rfl k) ?_
 rw [own_sub0]
 show own_G _ _ _ (T1.setTop (mkF m 8 #[.val (.ref p0), .val (.int 0), .val (.int (Int32.ofNat qn)), .unset, .unset] [(.int (Int32.ofNat qn))])) _ _ _ _
 refine own_go (fun _ k => XS.istoreN X1.here hx rfl (hb hby d70_8) rfl (l' := #[.val (.ref p0), .val (.int 0), .val (.int (Int32.ofNat qn)), .val (.int (Int32.ofNat qn)), .unset]) rfl (XS.iloadN X1.here hx rfl (hb hby d70_9) rfl k)) ?_
 obtain ⟨T2, h2, k2, X2, e2, E2, A2, st2⟩ := newP X1 hx hZ (own_h hw 10 rfl) eh1 (g := (mkF m 10 #[.val (.ref p0), .val (.int 0), .val (.int (Int32.ofNat qn)), .val (.int (Int32.ofNat qn)), .unset] [(.int (Int32.ofNat qn))])) rfl (hb hby d70_10) rfl (own_nn qn (by omega)) (cap := 10) (by rw [own_cl qn (by omega)]; omega) (by decide) (by decide) (by decide)
 obtain ⟨b2, g2⟩ : ∃ z, z = h0.size := ⟨_, rfl⟩
 rw [← g2] at A2 st2
 have ne3 := Nat.ne_of_lt (Nat.lt_of_lt_of_le P_V_p0.lt (Nat.le_of_eq g2.symm))
 have gg2 := Nat.le_trans Z0 (Nat.le_of_eq g2.symm)
 have sz2_0 := Nat.le_trans K0.1 (Nat.le_of_eq g2.symm)
 have Zs2 := Nat.le_trans Z0 E2.1
 have K2_0 := K0.ext E2
 have f4 := P_V_p0.ext E2
 have f5 : Arv Z h2 b2 k2 .byte (Int32.ofNat qn) [] (.int 0) := Arv.new A2 (own_nn qn (by omega))
 refine own_go (fun _ k => st2 _ (XS.astore X2.here hx rfl (hb hby d70_12) rfl rfl (l' := #[.val (.ref p0), .val (.int 0), .val (.int (Int32.ofNat qn)), .val (.int (Int32.ofNat qn)), .val (.ref b2)]) rfl (XS.aloadN X2.here hx rfl (hb hby d70_14) rfl rfl (XS.iloadN X2.here hx rfl (hb hby d70_15) rfl (XS.aload X2.here hx rfl (hb hby d70_16) rfl rfl (XS.iconst X2.here hx rfl (hb hby d70_18) (XS.aloadN X2.here hx rfl (hb hby d70_19) rfl rfl k))))))) ?_
 obtain ⟨cl6, Ar6, -, S6, Ng6, -, -⟩ := id f4
 refine own_go (fun _ k => X2.arraylength hx (by rw [e2]; exact Ar6.1) (State.isArrayOf_alike hZ.alike Ar6.2.1) (g := (mkF m 20 #[.val (.ref p0), .val (.int 0), .val (.int (Int32.ofNat qn)), .val (.int (Int32.ofNat qn)), .val (.ref b2)] [(.ref p0), (.int 0), (.ref b2), (.int 0), (.ref p0)])) rfl rfl (hb hby d70_20) _ k) ?_
 rw [len_of S6 Ng6]
 show own_G _ _ _ (T2.setTop (mkF m 21 #[.val (.ref p0), .val (.int 0), .val (.int (Int32.ofNat qn)), .val (.int (Int32.ofNat qn)), .val (.ref b2)] [(.int (Int32.ofNat mm)), (.int 0), (.ref b2), (.int 0), (.ref p0)])) _ _ _ _
 refine own_go (fun _ k => XS.iloadN X2.here hx rfl (hb hby d70_21) rfl k) ?_
 show own_G _ _ _ (T2.setTop (mkF m 22 #[.val (.ref p0), .val (.int 0), .val (.int (Int32.ofNat qn)), .val (.int (Int32.ofNat qn)), .val (.ref b2)] [(.int 0), (.int (Int32.ofNat mm)), (.int 0), (.ref b2), (.int 0), (.ref p0)])) _ _ _ _
 refine own_go (fun _ k => XS.isub X2.here hx rfl (hb hby d70_22) rfl k) ?_
 rw [own_sub0]
 show own_G _ _ _ (T2.setTop (mkF m 23 #[.val (.ref p0), .val (.int 0), .val (.int (Int32.ofNat qn)), .val (.int (Int32.ofNat qn)), .val (.ref b2)] [(.int (Int32.ofNat mm)), (.int 0), (.ref b2), (.int 0), (.ref p0)])) _ _ _ _
 refine own_go (fun _ k => XS.iloadN X2.here hx rfl (hb hby d70_23) rfl k) ?_
 obtain ⟨_, _, ⟨T7, L7, k7, n7⟩, -, X7, ⟨Lc7, hQ7, l7, y7, z7⟩, st7⟩ := Jvm.LawKit.callS X2 hx (y := Y18) hown (mvT hZ (own_h hw 329 rfl)) (mvT hZ (own_h hw 99 rfl)) (mvT hZ (own_h hw 96 rfl)) (mvT hZ (own_h hw 100 rfl)) (by decide) (backOf (W := 4) (rm22b l Z a0 hw []  mm qn h2 n0 Zs2 ((own_ltI qn mm (by omega) (by omega)).mpr hqM)) hZ (own_h hw 100 rfl) (own_h hw 96 rfl) (by decide) (by decide)) (g := (mkF m 24 #[.val (.ref p0), .val (.int 0), .val (.int (Int32.ofNat qn)), .val (.int (Int32.ofNat qn)), .val (.ref b2)] [(.int (Int32.ofNat qn)), (.int (Int32.ofNat mm)), (.int 0), (.ref b2), (.int 0), (.ref p0)])) rfl (by rw [hml]; rfl) (argsL := [(.int (Int32.ofNat mm)), (.int (Int32.ofNat qn))]) (rest := [(.int 0), (.ref b2), (.int 0), (.ref p0)]) (lenOf pd_9 rfl) rfl (own_r0 _) (hb hby d70_24) (fun _ _ => ⟨rfl, e2, (by decide : 1 + 0 ≤ _), (by decide : 10 + 0 ≤ _)⟩)
 dsimp only [Pt.U, Pt.locs, Pt.cells, Pt.slots] at X7 l7 y7 z7 st7 hQ7
 rw [l7] at X7
 subst y7 z7
 obtain ⟨rfl, Nq7, eh7⟩ := hQ7
 have N7 := Fr.app N1 Nq7
 refine own_go (fun _ k => st7 _ k) ?_
 show own_G _ _ _ (T7.setTop (mkF m 27 #[.val (.ref p0), .val (.int 0), .val (.int (Int32.ofNat qn)), .val (.int (Int32.ofNat qn)), .val (.ref b2)] [(.int (Int32.ofNat qn)), (.int 0), (.ref b2), (.int 0), (.ref p0)])) _ _ _ _
 have f9 : Arv Z h2 b2 k2 .byte (Int32.ofNat qn) ([] ++ List.replicate qn (Value.int 0)) (.int 0) := (f5).pad (fun i_ => pad_rep [] (Value.int 0) qn i_)
 obtain ⟨T8, h8, Lq8, X8, e8, N8, Kq8, A8, st8⟩ := cpA X7 hx hZ hown (own_h hw 330 rfl) (own_h hw 172 rfl) (own_h hw 170 rfl) (own_h hw 171 rfl) eh7 f4 f9 (Or.inl ⟨rfl, rfl⟩) (by decide) (by decide) (own_nn qn (by omega)) (by rw [own_cl0, own_cl qn (by omega), own_cl mm (by omega)]; omega) (by rw [own_cl0, own_cl qn (by omega)]; omega) rfl (by rw [own_cl0, own_cl qn (by omega), List.length_append, List.length_replicate]; omega) N7 gg2 (g := (mkF m 27 #[.val (.ref p0), .val (.int 0), .val (.int (Int32.ofNat qn)), .val (.int (Int32.ofNat qn)), .val (.ref b2)] [(.int (Int32.ofNat qn)), (.int 0), (.ref b2), (.int 0), (.ref p0)])) rfl (by rw [hml]; rfl) rfl (hb hby d70_27) (by decide) (W := 0) (own_r0 _) (by decide)
 have f10 := f4.keep Kq8 (ninS ne3 nin0)
 have Zs8 := Nat.le_trans Zs2 Kq8.1
 have K8_0 := K2_0.trans Kq8 (allS (Or.inr sz2_0) all0)
 have f11 : Arv Z h8 b2 k2 .byte (Int32.ofNat qn) (vs.take qn) (.int 0) := A8.pad (fun i_ => own_cpa vs (.int 0) qn qn (Nat.le_refl _) (by omega) i_)
 refine own_go (fun _ k => st8 _ (XS.aload X8.here hx rfl (hb hby d70_30) rfl rfl k)) ?_
 show own_G _ _ _ (T8.setTop (mkF m 32 #[.val (.ref p0), .val (.int 0), .val (.int (Int32.ofNat qn)), .val (.int (Int32.ofNat qn)), .val (.ref b2)] [(.ref b2)])) _ _ _ _
 exact own_endR X8 hx hlk Bd.returns rfl rfl rfl (hb hby d70_32) (by decide) (by decide) (Q := (Q70 Z p0 qn mm kb vs h0 n0)) (by rw [e8]; exact ⟨b2, k2, rfl, N8, K8_0, sz2_0, (by have q := f11; rw [List.take_of_length_le (by omega)] at q; exact q)⟩)
theorem d44_0 : own_d B44 0 (.iload_n 1) 1 := by decide +kernel
theorem d44_1 : own_d B44 1 (.ifCond .ne 9) 3 := by decide +kernel
theorem d44_4 : own_d B44 4 (.iload_n 2) 1 := by decide +kernel
theorem d44_5 : own_d B44 5 (.aload_n 0) 1 := by decide +kernel
theorem d44_6 : own_d B44 6 (.arraylength) 1 := by decide +kernel
theorem d44_7 : own_d B44 7 (.if_icmp .eq 10) 3 := by decide +kernel
theorem d44_10 : own_d B44 10 (.aload_n 0) 1 := by decide +kernel
theorem d44_11 : own_d B44 11 (.iload_n 1) 1 := by decide +kernel
theorem d44_12 : own_d B44 12 (.iload_n 2) 1 := by decide +kernel
theorem d44_13 : own_d B44 13 (.invokestatic 339) 3 := by decide +kernel
theorem d44_16 : own_d B44 16 (.areturn) 1 := by decide +kernel
theorem d44_17 : own_d B44 17 (.aload_n 0) 1 := by decide +kernel
theorem d44_18 : own_d B44 18 (.invokevirtual 310) 3 := by decide +kernel
theorem d44_21 : own_d B44 21 (.checkcast 311) 3 := by decide +kernel
theorem d44_24 : own_d B44 24 (.areturn) 1 := by decide +kernel
theorem pd_31 : parseMethodDescriptor "([BII)[B" = some ⟨[(.array .byte), .int, .int], some (.array .byte)⟩ := by decide +kernel
theorem ef_44 (m : MethodId) (p0 : Addr) (qn : Nat) : entryFrame m #[(.ref p0), (.int 0), (.int (Int32.ofNat qn))] 3 = mkF m 0 #[.val (.ref p0), .val (.int 0), .val (.int (Int32.ofNat qn))] [] := by first | (simp [entryFrame, mkF, argsToLocals, Value.category]; done) | rfl
def Q44 (Z : State) (p0 : Addr) (qn : Nat) (mm : Nat) (kb : ClassId) (vs : List Value) (h0 : Heap) (n0 : Nat) (v : Option Value) (h : Heap) (L : List Loc) : Prop := ∃ (b : Addr) (kb2 : ClassId), v = some (.ref b) ∧ Fr n0 L ∧ Keep h0 h [] ∧ h0.size ≤ b ∧ Arv Z h b kb2 .byte (Int32.ofNat qn) vs (.int 0)
theorem rm44 (l : Launch) (Z : State) (a0 : Array Value) (hw : ∀ d ∈ tables_1, d.before a0 Z = true) (ws : List Jvm.Cond) (p0 : Addr) (qn : Nat) (mm : Nat) (kb : ClassId) (vs : List Value) (h0 : Heap) (n0 : Nat) (Z0 : n0 ≤ h0.size) (P_E_p0 : Exa Z h0 p0 "[B") (P_V_p0 : Arv Z h0 p0 kb .byte (Int32.ofNat mm) vs (.int 0)) (hM : mm ≤ 10) (hvq : vs.length = qn) (hqM : qn ≤ mm) :
   own_M l Z Y58 jdk_65_method_132_code 3 (some (.array .byte)) ws ({ frames := 2, cells := 1, slots := 10, locals := 34 } : Room) #[(.ref p0), (.int 0), (.int (Int32.ofNat qn))] h0 (Q44 Z p0 qn mm kb vs h0 n0) := by
 refine own_body (C := "java/util/Arrays") rfl (plainFor_of_name pn_6) (fun p e s m below meth c s₁ Bd hx hby hml hown hlk hZ X0 e0 => ?_)
 have N0 := Fr.nil n0
 have K0 : Keep h0 h0 [] := Keep.refl h0 []
 refine own_go (fun _ k => castTop (ef_44 m p0 qn) (XS.iloadN X0.here hx rfl (hb hby d44_0) rfl k)) ?_
 show own_G _ _ _ (s₁.setTop (mkF m 1 #[.val (.ref p0), .val (.int 0), .val (.int (Int32.ofNat qn))] [(.int 0)])) _ _ _ _
 have hc1 : (0 : Int32) = (0 : Int32) := (by decide)
 refine own_go (fun _ k => XS.ifNo X0.here hx rfl (hb hby d44_1) rfl ((if0 _ _).trans (teq hc1).2) (XS.iloadN X0.here hx rfl (hb hby d44_4) rfl (XS.aloadN X0.here hx rfl (hb hby d44_5) rfl rfl k))) ?_
 obtain ⟨cl2, Ar2, -, S2, Ng2, -, -⟩ := id P_V_p0
 refine own_go (fun _ k => X0.arraylength hx (by rw [e0]; exact Ar2.1) (State.isArrayOf_alike hZ.alike Ar2.2.1) (g := (mkF m 6 #[.val (.ref p0), .val (.int 0), .val (.int (Int32.ofNat qn))] [(.ref p0), (.int (Int32.ofNat qn))])) rfl rfl (hb hby d44_6) _ k) ?_
 rw [len_of S2 Ng2]
 show own_G _ _ _ (s₁.setTop (mkF m 7 #[.val (.ref p0), .val (.int 0), .val (.int (Int32.ofNat qn))] [(.int (Int32.ofNat mm)), (.int (Int32.ofNat qn))])) _ _ _ _
 by_cases hc3 : (Int32.ofNat qn) = (Int32.ofNat mm)
 · refine own_go (fun _ k => XS.icmpYes X0.here hx rfl (pc0 := 7) (pc' := 17) rfl (hb hby d44_7) rfl (teq hc3).1 (by decide) (by decide) (XS.aloadN X0.here hx rfl (hb hby d44_17) rfl rfl k)) ?_
   obtain ⟨T4, h4, X4, e4, E4, A4, D4, st4⟩ := cloneH X0 hx hZ hown (own_h hw 222 rfl) (own_h hw 223 rfl) (own_h hw 227 rfl) (own_h hw 225 rfl) (own_h hw 226 rfl) (own_h hw 228 rfl) e0 (Arv.arh P_V_p0) P_E_p0 (g := (mkF m 18 #[.val (.ref p0), .val (.int 0), .val (.int (Int32.ofNat qn))] [(.ref p0)])) rfl (by rw [hml]; rfl) rfl (hb hby d44_18) (by decide) (W := 0) (cap := 10) (own_r0 _) (by decide) (by rw [own_cl mm (by omega)]; omega) (by decide) (by decide)
   obtain ⟨b4, g4⟩ : ∃ z, z = h0.size := ⟨_, rfl⟩
   rw [← g4] at A4 D4 st4
   have ne5 := Nat.ne_of_lt (Nat.lt_of_lt_of_le P_E_p0.lt (Nat.le_of_eq g4.symm))
   have gg4 := Nat.le_trans Z0 (Nat.le_of_eq g4.symm)
   have sz4_0 := Nat.le_trans K0.1 (Nat.le_of_eq g4.symm)
   have Zs4 := Nat.le_trans Z0 E4.1
   have K4_0 := K0.ext E4
   have f6 := P_E_p0.ext E4
   have f7 := P_V_p0.ext E4
   have f8 : Arv Z h4 b4 kb .byte (Int32.ofNat mm) vs (.int 0) := A4
   have f9 : Exa Z h4 b4 "[B" := D4
   refine own_go (fun _ k => st4 _ k) ?_
   obtain ⟨T10, X10, e10, st10⟩ := castY X4 hx hZ hown (own_h hw 229 rfl) e4 (Ins.self f9) (g := (mkF m 21 #[.val (.ref p0), .val (.int 0), .val (.int (Int32.ofNat qn))] [(.ref b4)])) rfl rfl (hb hby d44_21)
   refine own_go (fun _ k => st10 _ k) ?_
   show own_G _ _ _ (T10.setTop (mkF m 24 #[.val (.ref p0), .val (.int 0), .val (.int (Int32.ofNat qn))] [(.ref b4)])) _ _ _ _
   exact own_endR X10 hx hlk Bd.returns rfl rfl rfl (hb hby d44_24) (by decide) (by decide) (Q := (Q44 Z p0 qn mm kb vs h0 n0)) (by rw [e10]; exact ⟨b4, kb, rfl, N0, K4_0, sz4_0, (by rw [hc3]; exact f8)⟩)
 · refine own_go (fun _ k => XS.icmpNo X0.here hx rfl (hb hby d44_7) rfl (feq hc3).1 (XS.aloadN X0.here hx rfl (hb hby d44_10) rfl rfl (XS.iloadN X0.here hx rfl (hb hby d44_11) rfl (XS.iloadN X0.here hx rfl (hb hby d44_12) rfl k)))) ?_
   obtain ⟨_, _, ⟨T11, L11, k11, n11⟩, -, X11, ⟨Lc11, hQ11, l11, y11, z11⟩, st11⟩ := Jvm.LawKit.callS X0 hx (y := Y57) hown (mvT hZ (own_h hw 323 rfl)) (mvT hZ (own_h hw 324 rfl)) (mvT hZ (own_h hw 220 rfl)) (mvT hZ (own_h hw 325 rfl)) (by decide) (backOf (W := 0) (rm70 l Z a0 hw [] p0 qn mm kb vs h0 n0 Z0 P_V_p0 hM hvq (Nat.lt_of_le_of_ne hqM (fun q => hc3 (by rw [q])))) hZ (own_h hw 325 rfl) (own_h hw 220 rfl) (by decide) (by decide)) (g := (mkF m 13 #[.val (.ref p0), .val (.int 0), .val (.int (Int32.ofNat qn))] [(.int (Int32.ofNat qn)), (.int 0), (.ref p0)])) rfl (by rw [hml]; rfl) (argsL := [(.ref p0), (.int 0), (.int (Int32.ofNat qn))]) (rest := []) (lenOf pd_31 rfl) rfl (own_r0 _) (hb hby d44_13) (fun _ _ => ⟨rfl, e0, (by decide : 0 + 1 ≤ _), (by decide : 0 + 10 ≤ _)⟩)
   dsimp only [Pt.U, Pt.locs, Pt.cells, Pt.slots] at X11 l11 y11 z11 st11 hQ11
   rw [l11] at X11
   subst y11 z11
   obtain ⟨b11, kb211, rfl, Nq11, Kq11, r11_0, r11_1⟩ := hQ11
   have N11 := Fr.app N0 Nq11
   have ne12 := Nat.ne_of_lt (Nat.lt_of_lt_of_le P_E_p0.lt r11_0)
   have gg_b11 := Nat.le_trans Z0 r11_0
   have sz_b11_0 := Nat.le_trans K0.1 r11_0
   have f13 := P_E_p0.keep Kq11
   have f14 := P_V_p0.keep Kq11 nin0
   have Zs11 := Nat.le_trans Z0 Kq11.1
   have K11_0 := K0.trans Kq11 all0
   refine own_go (fun _ k => st11 _ k) ?_
   show own_G _ _ _ (T11.setTop (mkF m 16 #[.val (.ref p0), .val (.int 0), .val (.int (Int32.ofNat qn))] [(.ref b11)])) _ _ _ _
   exact own_endR X11 hx hlk Bd.returns rfl rfl rfl (hb hby d44_16) (by decide) (by decide) (Q := (Q44 Z p0 qn mm kb vs h0 n0)) ⟨b11, kb211, rfl, N11, K11_0, r11_0, r11_1⟩
theorem d40_0 : own_d B40 0 (.aload_n 0) 1 := by decide +kernel
theorem d40_1 : own_d B40 1 (.invokespecial 1) 3 := by decide +kernel
theorem d40_4 : own_d B40 4 (.aload_n 1) 1 := by decide +kernel
theorem d40_5 : own_d B40 5 (.invokevirtual 552) 3 := by decide +kernel
theorem d40_8 : own_d B40 8 (.astore_n 3) 1 := by decide +kernel
theorem d40_9 : own_d B40 9 (.aload_n 1) 1 := by decide +kernel
theorem d40_10 : own_d B40 10 (.invokevirtual 549) 3 := by decide +kernel
theorem d40_13 : own_d B40 13 (.istore 4) 2 := by decide +kernel
theorem d40_15 : own_d B40 15 (.aload_n 1) 1 := by decide +kernel
theorem d40_16 : own_d B40 16 (.invokevirtual 1047) 3 := by decide +kernel
theorem d40_19 : own_d B40 19 (.ifCond .eq 22) 3 := by decide +kernel
theorem d40_22 : own_d B40 22 (.aload_n 0) 1 := by decide +kernel
theorem d40_23 : own_d B40 23 (.iconst 0) 1 := by decide +kernel
theorem d40_24 : own_d B40 24 (.putfield 15) 3 := by decide +kernel
theorem d40_27 : own_d B40 27 (.aload_n 0) 1 := by decide +kernel
theorem d40_28 : own_d B40 28 (.aload_n 3) 1 := by decide +kernel
theorem d40_29 : own_d B40 29 (.iconst 0) 1 := by decide +kernel
theorem d40_30 : own_d B40 30 (.iload 4) 2 := by decide +kernel
theorem d40_32 : own_d B40 32 (.invokestatic 54) 3 := by decide +kernel
theorem d40_35 : own_d B40 35 (.putfield 9) 3 := by decide +kernel
theorem d40_38 : own_d B40 38 (.goto 59) 3 := by decide +kernel
theorem d40_41 : own_d B40 41 (.getstatic 38) 3 := by decide +kernel
theorem d40_44 : own_d B40 44 (.ifCond .eq 35) 3 := by decide +kernel
theorem d40_47 : own_d B40 47 (.aload_n 1) 1 := by decide +kernel
theorem d40_48 : own_d B40 48 (.getfield 1048) 3 := by decide +kernel
theorem d40_51 : own_d B40 51 (.ifCond .eq 28) 3 := by decide +kernel
theorem d40_79 : own_d B40 79 (.aload_n 0) 1 := by decide +kernel
theorem d40_80 : own_d B40 80 (.iconst 1) 1 := by decide +kernel
theorem d40_81 : own_d B40 81 (.putfield 15) 3 := by decide +kernel
theorem d40_84 : own_d B40 84 (.aload_n 0) 1 := by decide +kernel
theorem d40_85 : own_d B40 85 (.aload_n 3) 1 := by decide +kernel
theorem d40_86 : own_d B40 86 (.iconst 0) 1 := by decide +kernel
theorem d40_87 : own_d B40 87 (.iload 4) 2 := by decide +kernel
theorem d40_89 : own_d B40 89 (.iconst 1) 1 := by decide +kernel
theorem d40_90 : own_d B40 90 (.ishl) 1 := by decide +kernel
theorem d40_91 : own_d B40 91 (.invokestatic 54) 3 := by decide +kernel
theorem d40_94 : own_d B40 94 (.putfield 9) 3 := by decide +kernel
theorem d40_97 : own_d B40 97 (.return_) 1 := by decide +kernel
theorem ef_40 (m : MethodId) (p0 : Addr) (p1 : Addr) : entryFrame m #[(.ref p0), (.ref p1), .null] 5 = mkF m 0 #[.val (.ref p0), .val (.ref p1), .val .null, .unset, .unset] [] := by first | (simp [entryFrame, mkF, argsToLocals, Value.category]; done) | rfl
def Q40 (Z : State) (p0 : Addr) (p1 : Addr) (zc : Int32) (fm : Value) (va : Addr) (kv : ClassId) (bo : Int32) (ds : List Int32) (mm : Nat) (h0 : Heap) (n0 : Nat) (v : Option Value) (h : Heap) (L : List Loc) : Prop := ∃ (t : Addr) (kb : ClassId), v = none ∧ Fr n0 L ∧ Keep h0 h [p0] ∧ Exa Z h p0 "java/lang/String" ∧ Fld Z h p0 "java/lang/String" "coder" "B" (.int bo) ∧ Fld Z h p0 "java/lang/String" "value" "[B" (.ref t) ∧ Arv Z h t kb .byte (own_cap bo ds.length) (own_sv bo ds) (.int 0) ∧ h0.size ≤ t
theorem rm40 (l : Launch) (Z : State) (a0 : Array Value) (hw : ∀ d ∈ tables_1, d.before a0 Z = true) (ws : List Jvm.Cond) (p0 : Addr) (p1 : Addr) (zc : Int32) (fm : Value) (va : Addr) (kv : ClassId) (bo : Int32) (ds : List Int32) (mm : Nat) (h0 : Heap) (n0 : Nat) (Z0 : n0 ≤ h0.size) (P_E_p0 : Exa Z h0 p0 "java/lang/String") (P_F_p0_value : Fld Z h0 p0 "java/lang/String" "value" "[B" .null) (P_F_p0_coder : Fld Z h0 p0 "java/lang/String" "coder" "B" (.int 0)) (g_p0 : n0 ≤ p0) (P_Old : Old Z n0 h0) (HA : own_Z Z zc fm) (P_E_p1 : Exa Z h0 p1 "java/lang/StringBuilder") (P_F_p1_value : Fld Z h0 p1 "java/lang/AbstractStringBuilder" "value" "[B" (.ref va)) (P_F_p1_coder : Fld Z h0 p1 "java/lang/AbstractStringBuilder" "coder" "B" (.int bo)) (P_F_p1_count : Fld Z h0 p1 "java/lang/AbstractStringBuilder" "count" "I" (.int (Int32.ofNat ds.length))) (P_F_p1_maybeLatin1 : Fld Z h0 p1 "java/lang/AbstractStringBuilder" "maybeLatin1" "Z" (.int 0)) (P_E_va : Exa Z h0 va "[B") (P_V_va : Arv Z h0 va kv .byte (own_cap bo mm) (own_sv bo ds) (.int 0)) (hB : own_BK bo ds mm) (hdm : ds.length ≤ mm) :
   own_M l Z Y59 jdk_42_method_150_code 5 none ws ({ frames := 3, cells := 1, slots := 10, locals := 49 } : Room) #[(.ref p0), (.ref p1), .null] h0 (Q40 Z p0 p1 zc fm va kv bo ds mm h0 n0) := by
 refine own_body (C := "java/lang/String") rfl (plainFor_of_name pn_1) (fun p e s m below meth c s₁ Bd hx hby hml hown hlk hZ X0 e0 => ?_)
 have hnm := (name_of_methodNamed Bd.named Bd.method).1
 have N0 := Fr.nil n0
 obtain ⟨Zcs, hcs, Zsi, hfm, Zad, Zhi, Zlo⟩ := id HA
 have K0 : Keep h0 h0 [p0] := Keep.refl h0 [p0]
 refine own_go (fun _ k => castTop (ef_40 m p0 p1) (XS.aloadN X0.here hx rfl (hb hby d40_0) rfl rfl k)) ?_
 obtain ⟨T1, X1, e1, st1⟩ := initO X0 hx hZ hown (own_h hw 51 rfl) (own_h hw 52 rfl) (own_h hw 53 rfl) e0 (g := (mkF m 1 #[.val (.ref p0), .val (.ref p1), .val .null, .unset, .unset] [(.ref p0)])) rfl (by rw [hml]; rfl) rfl (hb hby d40_1) (by decide) (W := 0) (own_r0 _) (by decide)
 refine own_go (fun _ k => st1 _ (XS.aloadN X1.here hx rfl (hb hby d40_4) rfl rfl k)) ?_
 obtain ⟨cq2, kq2, q2a, q2b, q2c⟩ := isOf hZ e1 P_E_p1
 obtain ⟨_, _, ⟨T2, L2, k2, n2⟩, -, X2, ⟨Lc2, hQ2, l2, y2, z2⟩, st2⟩ := X1.virtualBack hx (y := Y41) (z := Y41) hown (mvT hZ (own_h hw 204 rfl)) (mvT hZ (own_h hw 205 rfl)) (notFace_of_selects (args := #[]) (mvT hZ (own_h hw 207 rfl))) (mvT hZ (own_h hw 207 rfl)) (mvT hZ (own_h hw 206 rfl)) (by decide) (backOf (W := 0) (rm41 l Z a0 hw [] p1 va h0 n0 Z0 P_F_p1_value) hZ (own_h hw 208 rfl) (own_h hw 115 rfl) (by decide) (by decide)) q2a q2c (g := (mkF m 5 #[.val (.ref p0), .val (.ref p1), .val .null, .unset, .unset] [(.ref p1)])) rfl (by rw [hml]; rfl) (Steps.refl _) (argsL := []) (rest := []) (lenOf pd_27 rfl) rfl (own_r0 _) (hb hby d40_5) (fun _ _ => ⟨rfl, e1, (by decide : 0 + 0 ≤ _), (by decide : 0 + 0 ≤ _)⟩)
 dsimp only [Pt.U, Pt.locs, Pt.cells, Pt.slots] at X2 l2 y2 z2 st2 hQ2
 rw [l2] at X2
 subst y2 z2
 obtain ⟨rfl, Nq2, eh2⟩ := hQ2
 have N2 := Fr.app N0 Nq2
 refine own_go (fun _ k => st2.trans (XS.astoreN X2.here hx rfl (hb hby d40_8) rfl rfl (l' := #[.val (.ref p0), .val (.ref p1), .val .null, .val (.ref va), .unset]) rfl (XS.aloadN X2.here hx rfl (hb hby d40_9) rfl rfl k))) ?_
 obtain ⟨cq3, kq3, q3a, q3b, q3c⟩ := isOf hZ eh2 P_E_p1
 obtain ⟨_, _, ⟨T3, L3, k3, n3⟩, -, X3, ⟨Lc3, hQ3, l3, y3, z3⟩, st3⟩ := X2.virtualBack hx (y := Y42) (z := Y43) hown (mvT hZ (own_h hw 209 rfl)) (mvT hZ (own_h hw 210 rfl)) (own_nf (args := #[]) (mvT hZ (own_h hw 150 rfl)) rfl) (mvT hZ (own_h hw 212 rfl)) (mvT hZ (own_h hw 213 rfl)) (by decide) (backOf (W := 0) (rm42 l Z a0 hw [] p1 (Int32.ofNat ds.length) h0 n0 Z0 P_E_p1 P_F_p1_count) hZ (own_h hw 214 rfl) (own_h hw 106 rfl) (by decide) (by decide)) q3a q3c (g := (mkF m 10 #[.val (.ref p0), .val (.ref p1), .val .null, .val (.ref va), .unset] [(.ref p1)])) rfl (by rw [hml]; rfl) (Steps.refl _) (argsL := []) (rest := []) (lenOf pd_13 rfl) rfl (own_r0 _) (hb hby d40_10) (fun _ _ => ⟨rfl, eh2, (by decide : 0 + 0 ≤ _), (by decide : 0 + 0 ≤ _)⟩)
 dsimp only [Pt.U, Pt.locs, Pt.cells, Pt.slots] at X3 l3 y3 z3 st3 hQ3
 rw [l3] at X3
 subst y3 z3
 obtain ⟨rfl, Nq3, eh3⟩ := hQ3
 have N3 := Fr.app N2 Nq3
 refine own_go (fun _ k => st3.trans (XS.istore X3.here hx rfl (hb hby d40_13) rfl (l' := #[.val (.ref p0), .val (.ref p1), .val .null, .val (.ref va), .val (.int (Int32.ofNat ds.length))]) rfl k)) ?_
 show own_G _ _ _ (T3.setTop (mkF m 15 #[.val (.ref p0), .val (.ref p1), .val .null, .val (.ref va), .val (.int (Int32.ofNat ds.length))] [])) _ _ _ _
 rcases hB.1 with ⟨ebo, h255b⟩ | ebo
 · have co4a : Fld Z h0 p1 "java/lang/AbstractStringBuilder" "coder" "B" (.int 0) := own_f ebo P_F_p1_coder
   have co4b : Arv Z h0 va kv .byte (Int32.ofNat mm) (own_l1 ds) (.int 0) := own_v0 ebo P_V_va
   show own_G _ _ _ (T3.setTop (mkF m 15 #[.val (.ref p0), .val (.ref p1), .val .null, .val (.ref va), .val (.int (Int32.ofNat ds.length))] [])) _ _ _ _
   refine own_go (fun _ k => XS.aloadN X3.here hx rfl (hb hby d40_15) rfl rfl k) ?_
   obtain ⟨cq5, kq5, q5a, q5b, q5c⟩ := isOf hZ eh3 P_E_p1
   obtain ⟨_, _, ⟨T5, L5, k5, n5⟩, -, X5, ⟨Lc5, hQ5, l5, y5, z5⟩, st5⟩ := X3.virtualBack hx (y := Y38) (z := Y38) hown (mvT hZ (own_h hw 217 rfl)) (mvT hZ (own_h hw 159 rfl)) (notFace_of_selects (args := #[]) (mvT hZ (own_h hw 161 rfl))) (mvT hZ (own_h hw 161 rfl)) (mvT hZ (own_h hw 160 rfl)) (by decide) (backOf (W := 0) (rm31a l Z a0 hw [] p1 zc fm h0 n0 Z0 P_Old HA co4a) hZ (own_h hw 162 rfl) (own_h hw 115 rfl) (by decide) (by decide)) q5a q5c (g := (mkF m 16 #[.val (.ref p0), .val (.ref p1), .val .null, .val (.ref va), .val (.int (Int32.ofNat ds.length))] [(.ref p1)])) rfl (by rw [hml]; rfl) (Steps.refl _) (argsL := []) (rest := []) (lenOf pd_7 rfl) rfl (own_r0 _) (hb hby d40_16) (fun _ _ => ⟨rfl, eh3, (by decide : 0 + 0 ≤ _), (by decide : 0 + 0 ≤ _)⟩)
   dsimp only [Pt.U, Pt.locs, Pt.cells, Pt.slots] at X5 l5 y5 z5 st5 hQ5
   rw [l5] at X5
   subst y5 z5
   obtain ⟨rfl, Nq5, eh5⟩ := hQ5
   have N5 := Fr.app N3 Nq5
   refine own_go (fun _ k => st5.trans k) ?_
   show own_G _ _ _ (T5.setTop (mkF m 19 #[.val (.ref p0), .val (.ref p1), .val .null, .val (.ref va), .val (.int (Int32.ofNat ds.length))] [(.int 1)])) _ _ _ _
   have hc6 : ¬ ((1 : Int32) = (0 : Int32)) := (by decide)
   refine own_go (fun _ k => XS.ifNo X5.here hx rfl (hb hby d40_19) rfl ((if0 _ _).trans (feq hc6).1) (XS.aloadN X5.here hx rfl (hb hby d40_22) rfl rfl (XS.iconst X5.here hx rfl (hb hby d40_23) k))) ?_
   obtain ⟨T7, h7, X7, e7, W7, st7⟩ := putFN X5 hx hZ hown (own_h hw 26 rfl) Via.refl eh5 P_F_p0_coder P_E_p0 (Or.inr ⟨(own_h hw 12 rfl), rfl, hnm⟩) (own_h hw 9 rfl) (ty := .byte) (v' := (.int 0)) (by decide) rfl rfl (g := (mkF m 24 #[.val (.ref p0), .val (.ref p1), .val .null, .val (.ref va), .val (.int (Int32.ofNat ds.length))] [(.int 0), (.ref p0)])) rfl rfl (hb hby d40_24)
   have N7 := Fr.snoc X7 N5 g_p0
   have Zs7 := Nat.le_trans Z0 (Keep.of_wr W7).1
   have K7_0 := K0.wr W7 (Or.inl (List.mem_of_getElem? (i := 0) rfl))
   have f8 := P_E_p0.wr W7
   have f9 := P_F_p0_value.other W7 (Or.inr (slot_ne (Or.inr (own_h hw 11 rfl)) (Or.inr (own_h hw 12 rfl)) (by decide) (t := (.array .byte)) (t' := .byte) (by decide) (by decide)))
   have f10 : Fld Z h7 p0 "java/lang/String" "coder" "B" (.int 0) := P_F_p0_coder.same W7
   have f11 := P_Old.wr W7 g_p0
   have f12 := P_E_p1.wr W7
   have f13 := P_F_p1_value.other W7 (Or.inl (ne_exa P_E_p1 P_E_p0 (by decide)))
   have f14 := co4a.other W7 (Or.inl (ne_exa P_E_p1 P_E_p0 (by decide)))
   have f15 := P_F_p1_count.other W7 (Or.inl (ne_exa P_E_p1 P_E_p0 (by decide)))
   have f16 := P_F_p1_maybeLatin1.other W7 (Or.inl (ne_exa P_E_p1 P_E_p0 (by decide)))
   have f17 := P_E_va.wr W7
   have f18 := co4b.other W7 (ne_exa P_E_va P_E_p0 (by decide))
   refine own_go (fun _ k => st7 _ (XS.aloadN X7.here hx rfl (hb hby d40_27) rfl rfl (XS.aloadN X7.here hx rfl (hb hby d40_28) rfl rfl (XS.iconst X7.here hx rfl (hb hby d40_29) (XS.iload X7.here hx rfl (hb hby d40_30) rfl k))))) ?_
   obtain ⟨_, _, ⟨T19, L19, k19, n19⟩, -, X19, ⟨Lc19, hQ19, l19, y19, z19⟩, st19⟩ := Jvm.LawKit.callS X7 hx (y := Y58) hown (mvT hZ (own_h hw 218 rfl)) (mvT hZ (own_h hw 219 rfl)) (mvT hZ (own_h hw 220 rfl)) (mvT hZ (own_h hw 221 rfl)) (by decide) (backOf (W := 1) (rm44 l Z a0 hw [] va ds.length mm kv (own_l1 ds) h7 n0 Zs7 f17 f18 (by have := hB.2.2; omega) (own_l1_len ds) hdm) hZ (own_h hw 221 rfl) (own_h hw 220 rfl) (by decide) (by decide)) (g := (mkF m 32 #[.val (.ref p0), .val (.ref p1), .val .null, .val (.ref va), .val (.int (Int32.ofNat ds.length))] [(.int (Int32.ofNat ds.length)), (.int 0), (.ref va), (.ref p0)])) rfl (by rw [hml]; rfl) (argsL := [(.ref va), (.int 0), (.int (Int32.ofNat ds.length))]) (rest := [(.ref p0)]) (lenOf pd_31 rfl) rfl (own_r0 _) (hb hby d40_32) (fun _ _ => ⟨rfl, e7, (by decide : 0 + 1 ≤ _), (by decide : 0 + 10 ≤ _)⟩)
   dsimp only [Pt.U, Pt.locs, Pt.cells, Pt.slots] at X19 l19 y19 z19 st19 hQ19
   rw [l19] at X19
   subst y19 z19
   obtain ⟨b19, kb219, rfl, Nq19, Kq19, r19_0, r19_1⟩ := hQ19
   have N19 := Fr.app N7 Nq19
   have ne20 := Nat.ne_of_lt (Nat.lt_of_lt_of_le f8.lt r19_0)
   have ne21 := Nat.ne_of_lt (Nat.lt_of_lt_of_le f12.lt r19_0)
   have ne22 := Nat.ne_of_lt (Nat.lt_of_lt_of_le f17.lt r19_0)
   have gg_b19 := Nat.le_trans Zs7 r19_0
   have sz_b19_0 := Nat.le_trans K7_0.1 r19_0
   have f23 := f8.keep Kq19
   have f24 := f9.keep Kq19 nin0
   have f25 := f10.keep Kq19 nin0
   have f26 := f11.keep Kq19 all0
   have f27 := f12.keep Kq19
   have f28 := f13.keep Kq19 nin0
   have f29 := f14.keep Kq19 nin0
   have f30 := f15.keep Kq19 nin0
   have f31 := f16.keep Kq19 nin0
   have f32 := f17.keep Kq19
   have f33 := f18.keep Kq19 nin0
   have Zs19 := Nat.le_trans Zs7 Kq19.1
   have K19_0 := K7_0.trans Kq19 all0
   refine own_go (fun _ k => st19 _ k) ?_
   obtain ⟨T34, h34, X34, e34, W34, st34⟩ := putF X19 hx hZ hown (host := "") (Or.inl (own_h hw 27 rfl)) Via.refl rfl f24 f23 (Or.inr ⟨(own_h hw 11 rfl), rfl, hnm⟩) (own_h hw 9 rfl) (ty := (.array .byte)) (by decide) rfl rfl (g := (mkF m 35 #[.val (.ref p0), .val (.ref p1), .val .null, .val (.ref va), .val (.int (Int32.ofNat ds.length))] [(.ref b19), (.ref p0)])) rfl rfl (hb hby d40_35)
   have N34 := Fr.snoc X34 N19 g_p0
   have Zs34 := Nat.le_trans Zs19 (Keep.of_wr W34).1
   have K34_0 := K19_0.wr W34 (Or.inl (List.mem_of_getElem? (i := 0) rfl))
   have f35 := f23.wr W34
   have f36 : Fld Z h34 p0 "java/lang/String" "value" "[B" (.ref b19) := f24.same W34
   have f37 := f25.other W34 (Or.inr (slot_ne (Or.inr (own_h hw 12 rfl)) (Or.inr (own_h hw 11 rfl)) (by decide) (t := .byte) (t' := (.array .byte)) (by decide) (by decide)))
   have f38 := f26.wr W34 g_p0
   have f39 := f27.wr W34
   have f40 := f28.other W34 (Or.inl (ne_exa f27 f23 (by decide)))
   have f41 := f29.other W34 (Or.inl (ne_exa f27 f23 (by decide)))
   have f42 := f30.other W34 (Or.inl (ne_exa f27 f23 (by decide)))
   have f43 := f31.other W34 (Or.inl (ne_exa f27 f23 (by decide)))
   have f44 := f32.wr W34
   have f45 := f33.other W34 (ne_exa f32 f23 (by decide))
   have f46 := r19_1.other W34 (Ne.symm ne20)
   refine own_go (fun _ k => st34 _ (XS.goto X34.here hx rfl (pc0 := 38) (pc' := 97) rfl (hb hby d40_38) (by decide) (by decide) k)) ?_
   show own_G _ _ _ (T34.setTop (mkF m 97 #[.val (.ref p0), .val (.ref p1), .val .null, .val (.ref va), .val (.int (Int32.ofNat ds.length))] [])) _ _ _ _
   exact own_endV X34 hx hlk Bd.returns (hb hby d40_97) (by decide) (by decide) (Q := (Q40 Z p0 p1 zc fm va kv bo ds mm h0 n0)) (by rw [e34]; exact ⟨b19, kb219, rfl, N34, K34_0, f35, (own_fr ebo f37), f36, (own_v0r ebo f46), sz_b19_0⟩)
 · have co4a : Fld Z h0 p1 "java/lang/AbstractStringBuilder" "coder" "B" (.int 1) := own_f ebo P_F_p1_coder
   have co4b : Arv Z h0 va kv .byte (Int32.ofNat (2 * mm)) (own_w ds) (.int 0) := own_v1 ebo P_V_va
   show own_G _ _ _ (T3.setTop (mkF m 15 #[.val (.ref p0), .val (.ref p1), .val .null, .val (.ref va), .val (.int (Int32.ofNat ds.length))] [])) _ _ _ _
   refine own_go (fun _ k => XS.aloadN X3.here hx rfl (hb hby d40_15) rfl rfl k) ?_
   obtain ⟨cq47, kq47, q47a, q47b, q47c⟩ := isOf hZ eh3 P_E_p1
   obtain ⟨_, _, ⟨T47, L47, k47, n47⟩, -, X47, ⟨Lc47, hQ47, l47, y47, z47⟩, st47⟩ := X3.virtualBack hx (y := Y38) (z := Y38) hown (mvT hZ (own_h hw 217 rfl)) (mvT hZ (own_h hw 159 rfl)) (notFace_of_selects (args := #[]) (mvT hZ (own_h hw 161 rfl))) (mvT hZ (own_h hw 161 rfl)) (mvT hZ (own_h hw 160 rfl)) (by decide) (backOf (W := 0) (rm31b l Z a0 hw [] p1 zc fm h0 n0 Z0 P_Old HA co4a) hZ (own_h hw 162 rfl) (own_h hw 115 rfl) (by decide) (by decide)) q47a q47c (g := (mkF m 16 #[.val (.ref p0), .val (.ref p1), .val .null, .val (.ref va), .val (.int (Int32.ofNat ds.length))] [(.ref p1)])) rfl (by rw [hml]; rfl) (Steps.refl _) (argsL := []) (rest := []) (lenOf pd_7 rfl) rfl (own_r0 _) (hb hby d40_16) (fun _ _ => ⟨rfl, eh3, (by decide : 0 + 0 ≤ _), (by decide : 0 + 0 ≤ _)⟩)
   dsimp only [Pt.U, Pt.locs, Pt.cells, Pt.slots] at X47 l47 y47 z47 st47 hQ47
   rw [l47] at X47
   subst y47 z47
   obtain ⟨rfl, Nq47, eh47⟩ := hQ47
   have N47 := Fr.app N3 Nq47
   refine own_go (fun _ k => st47.trans k) ?_
   show own_G _ _ _ (T47.setTop (mkF m 19 #[.val (.ref p0), .val (.ref p1), .val .null, .val (.ref va), .val (.int (Int32.ofNat ds.length))] [(.int 0)])) _ _ _ _
   have hc48 : (0 : Int32) = (0 : Int32) := (by decide)
   refine own_go (fun _ k => XS.ifYes X47.here hx rfl (pc0 := 19) (pc' := 41) rfl (hb hby d40_19) rfl ((if0 _ _).trans (teq hc48).1) (by decide) (by decide) k) ?_
   obtain ⟨T49, X49, e49, st49⟩ := getS2 X47 hx hZ hown (host := "") (Or.inl (own_h hw 25 rfl)) Via.refl eh47 (Zcs.ext P_Old.2) (g := (mkF m 41 #[.val (.ref p0), .val (.ref p1), .val .null, .val (.ref va), .val (.int (Int32.ofNat ds.length))] [])) rfl (hb hby d40_41)
   refine own_go (fun _ k => st49 _ k) ?_
   show own_G _ _ _ (T49.setTop (mkF m 44 #[.val (.ref p0), .val (.ref p1), .val .null, .val (.ref va), .val (.int (Int32.ofNat ds.length))] [(.int zc)])) _ _ _ _
   have hc50 : ¬ (zc = (0 : Int32)) := hcs
   refine own_go (fun _ k => XS.ifNo X49.here hx rfl (hb hby d40_44) rfl ((if0 _ _).trans (feq hc50).1) (XS.aloadN X49.here hx rfl (hb hby d40_47) rfl rfl k)) ?_
   obtain ⟨T51, X51, e51, st51⟩ := getF X49 hx hZ hown (host := "") (Or.inl (own_h hw 318 rfl)) Via.refl e49 P_F_p1_maybeLatin1 (g := (mkF m 48 #[.val (.ref p0), .val (.ref p1), .val .null, .val (.ref va), .val (.int (Int32.ofNat ds.length))] [(.ref p1)])) rfl rfl (hb hby d40_48)
   refine own_go (fun _ k => st51 _ k) ?_
   show own_G _ _ _ (T51.setTop (mkF m 51 #[.val (.ref p0), .val (.ref p1), .val .null, .val (.ref va), .val (.int (Int32.ofNat ds.length))] [(.int 0)])) _ _ _ _
   have hc52 : (0 : Int32) = (0 : Int32) := (by decide)
   refine own_go (fun _ k => XS.ifYes X51.here hx rfl (pc0 := 51) (pc' := 79) rfl (hb hby d40_51) rfl ((if0 _ _).trans (teq hc52).1) (by decide) (by decide) (XS.aloadN X51.here hx rfl (hb hby d40_79) rfl rfl (XS.iconst X51.here hx rfl (hb hby d40_80) k))) ?_
   obtain ⟨T53, h53, X53, e53, W53, st53⟩ := putFN X51 hx hZ hown (own_h hw 26 rfl) Via.refl e51 P_F_p0_coder P_E_p0 (Or.inr ⟨(own_h hw 12 rfl), rfl, hnm⟩) (own_h hw 9 rfl) (ty := .byte) (v' := (.int 1)) (by decide) rfl rfl (g := (mkF m 81 #[.val (.ref p0), .val (.ref p1), .val .null, .val (.ref va), .val (.int (Int32.ofNat ds.length))] [(.int 1), (.ref p0)])) rfl rfl (hb hby d40_81)
   have N53 := Fr.snoc X53 N47 g_p0
   have Zs53 := Nat.le_trans Z0 (Keep.of_wr W53).1
   have K53_0 := K0.wr W53 (Or.inl (List.mem_of_getElem? (i := 0) rfl))
   have f54 := P_E_p0.wr W53
   have f55 := P_F_p0_value.other W53 (Or.inr (slot_ne (Or.inr (own_h hw 11 rfl)) (Or.inr (own_h hw 12 rfl)) (by decide) (t := (.array .byte)) (t' := .byte) (by decide) (by decide)))
   have f56 : Fld Z h53 p0 "java/lang/String" "coder" "B" (.int 1) := P_F_p0_coder.same W53
   have f57 := P_Old.wr W53 g_p0
   have f58 := P_E_p1.wr W53
   have f59 := P_F_p1_value.other W53 (Or.inl (ne_exa P_E_p1 P_E_p0 (by decide)))
   have f60 := co4a.other W53 (Or.inl (ne_exa P_E_p1 P_E_p0 (by decide)))
   have f61 := P_F_p1_count.other W53 (Or.inl (ne_exa P_E_p1 P_E_p0 (by decide)))
   have f62 := P_F_p1_maybeLatin1.other W53 (Or.inl (ne_exa P_E_p1 P_E_p0 (by decide)))
   have f63 := P_E_va.wr W53
   have f64 := co4b.other W53 (ne_exa P_E_va P_E_p0 (by decide))
   refine own_go (fun _ k => st53 _ (XS.aloadN X53.here hx rfl (hb hby d40_84) rfl rfl (XS.aloadN X53.here hx rfl (hb hby d40_85) rfl rfl (XS.iconst X53.here hx rfl (hb hby d40_86) (XS.iload X53.here hx rfl (hb hby d40_87) rfl (XS.iconst X53.here hx rfl (hb hby d40_89) k)))))) ?_
   show own_G _ _ _ (T53.setTop (mkF m 90 #[.val (.ref p0), .val (.ref p1), .val .null, .val (.ref va), .val (.int (Int32.ofNat ds.length))] [(.int 1), (.int (Int32.ofNat ds.length)), (.int 0), (.ref va), (.ref p0)])) _ _ _ _
   refine own_go (fun _ k => XS.ishl X53.here hx rfl (hb hby d40_90) rfl k) ?_
   rw [own_shl1 ds.length (by have := hB.2.2; omega)]
   show own_G _ _ _ (T53.setTop (mkF m 91 #[.val (.ref p0), .val (.ref p1), .val .null, .val (.ref va), .val (.int (Int32.ofNat ds.length))] [(.int (Int32.ofNat (2 * ds.length))), (.int 0), (.ref va), (.ref p0)])) _ _ _ _
   obtain ⟨_, _, ⟨T65, L65, k65, n65⟩, -, X65, ⟨Lc65, hQ65, l65, y65, z65⟩, st65⟩ := Jvm.LawKit.callS X53 hx (y := Y58) hown (mvT hZ (own_h hw 218 rfl)) (mvT hZ (own_h hw 219 rfl)) (mvT hZ (own_h hw 220 rfl)) (mvT hZ (own_h hw 221 rfl)) (by decide) (backOf (W := 1) (rm44 l Z a0 hw [] va (2 * ds.length) (2 * mm) kv (own_w ds) h53 n0 Zs53 f63 f64 (by have := hB.2.2; omega) (own_w_len ds) (by omega)) hZ (own_h hw 221 rfl) (own_h hw 220 rfl) (by decide) (by decide)) (g := (mkF m 91 #[.val (.ref p0), .val (.ref p1), .val .null, .val (.ref va), .val (.int (Int32.ofNat ds.length))] [(.int (Int32.ofNat (2 * ds.length))), (.int 0), (.ref va), (.ref p0)])) rfl (by rw [hml]; rfl) (argsL := [(.ref va), (.int 0), (.int (Int32.ofNat (2 * ds.length)))]) (rest := [(.ref p0)]) (lenOf pd_31 rfl) rfl (own_r0 _) (hb hby d40_91) (fun _ _ => ⟨rfl, e53, (by decide : 0 + 1 ≤ _), (by decide : 0 + 10 ≤ _)⟩)
   dsimp only [Pt.U, Pt.locs, Pt.cells, Pt.slots] at X65 l65 y65 z65 st65 hQ65
   rw [l65] at X65
   subst y65 z65
   obtain ⟨b65, kb265, rfl, Nq65, Kq65, r65_0, r65_1⟩ := hQ65
   have N65 := Fr.app N53 Nq65
   have ne66 := Nat.ne_of_lt (Nat.lt_of_lt_of_le f54.lt r65_0)
   have ne67 := Nat.ne_of_lt (Nat.lt_of_lt_of_le f58.lt r65_0)
   have ne68 := Nat.ne_of_lt (Nat.lt_of_lt_of_le f63.lt r65_0)
   have gg_b65 := Nat.le_trans Zs53 r65_0
   have sz_b65_0 := Nat.le_trans K53_0.1 r65_0
   have f69 := f54.keep Kq65
   have f70 := f55.keep Kq65 nin0
   have f71 := f56.keep Kq65 nin0
   have f72 := f57.keep Kq65 all0
   have f73 := f58.keep Kq65
   have f74 := f59.keep Kq65 nin0
   have f75 := f60.keep Kq65 nin0
   have f76 := f61.keep Kq65 nin0
   have f77 := f62.keep Kq65 nin0
   have f78 := f63.keep Kq65
   have f79 := f64.keep Kq65 nin0
   have Zs65 := Nat.le_trans Zs53 Kq65.1
   have K65_0 := K53_0.trans Kq65 all0
   refine own_go (fun _ k => st65 _ k) ?_
   obtain ⟨T80, h80, X80, e80, W80, st80⟩ := putF X65 hx hZ hown (host := "") (Or.inl (own_h hw 27 rfl)) Via.refl rfl f70 f69 (Or.inr ⟨(own_h hw 11 rfl), rfl, hnm⟩) (own_h hw 9 rfl) (ty := (.array .byte)) (by decide) rfl rfl (g := (mkF m 94 #[.val (.ref p0), .val (.ref p1), .val .null, .val (.ref va), .val (.int (Int32.ofNat ds.length))] [(.ref b65), (.ref p0)])) rfl rfl (hb hby d40_94)
   have N80 := Fr.snoc X80 N65 g_p0
   have Zs80 := Nat.le_trans Zs65 (Keep.of_wr W80).1
   have K80_0 := K65_0.wr W80 (Or.inl (List.mem_of_getElem? (i := 0) rfl))
   have f81 := f69.wr W80
   have f82 : Fld Z h80 p0 "java/lang/String" "value" "[B" (.ref b65) := f70.same W80
   have f83 := f71.other W80 (Or.inr (slot_ne (Or.inr (own_h hw 12 rfl)) (Or.inr (own_h hw 11 rfl)) (by decide) (t := .byte) (t' := (.array .byte)) (by decide) (by decide)))
   have f84 := f72.wr W80 g_p0
   have f85 := f73.wr W80
   have f86 := f74.other W80 (Or.inl (ne_exa f73 f69 (by decide)))
   have f87 := f75.other W80 (Or.inl (ne_exa f73 f69 (by decide)))
   have f88 := f76.other W80 (Or.inl (ne_exa f73 f69 (by decide)))
   have f89 := f77.other W80 (Or.inl (ne_exa f73 f69 (by decide)))
   have f90 := f78.wr W80
   have f91 := f79.other W80 (ne_exa f78 f69 (by decide))
   have f92 := r65_1.other W80 (Ne.symm ne66)
   refine own_go (fun _ k => st80 _ k) ?_
   show own_G _ _ _ (T80.setTop (mkF m 97 #[.val (.ref p0), .val (.ref p1), .val .null, .val (.ref va), .val (.int (Int32.ofNat ds.length))] [])) _ _ _ _
   exact own_endV X80 hx hlk Bd.returns (hb hby d40_97) (by decide) (by decide) (Q := (Q40 Z p0 p1 zc fm va kv bo ds mm h0 n0)) (by rw [e80]; exact ⟨b65, kb265, rfl, N80, K80_0, f81, (own_fr ebo f83), f82, (own_v1r ebo f92), sz_b65_0⟩)
theorem d39_0 : own_d B39 0 (.aload_n 0) 1 := by decide +kernel
theorem d39_1 : own_d B39 1 (.aload_n 1) 1 := by decide +kernel
theorem d39_2 : own_d B39 2 (.aconst_null) 1 := by decide +kernel
theorem d39_3 : own_d B39 3 (.invokespecial 489) 3 := by decide +kernel
theorem d39_6 : own_d B39 6 (.return_) 1 := by decide +kernel
theorem pd_32 : parseMethodDescriptor "(Ljava/lang/AbstractStringBuilder;Ljava/lang/Void;)V" = some ⟨[(.object "java/lang/AbstractStringBuilder"), (.object "java/lang/Void")], none⟩ := by decide +kernel
theorem ef_39 (m : MethodId) (p0 : Addr) (p1 : Addr) : entryFrame m #[(.ref p0), (.ref p1)] 2 = mkF m 0 #[.val (.ref p0), .val (.ref p1)] [] := by first | (simp [entryFrame, mkF, argsToLocals, Value.category]; done) | rfl
def Q39 (Z : State) (p0 : Addr) (p1 : Addr) (zc : Int32) (fm : Value) (va : Addr) (kv : ClassId) (bo : Int32) (ds : List Int32) (mm : Nat) (h0 : Heap) (n0 : Nat) (v : Option Value) (h : Heap) (L : List Loc) : Prop := ∃ (t : Addr) (kb : ClassId), v = none ∧ Fr n0 L ∧ Keep h0 h [p0] ∧ Exa Z h p0 "java/lang/String" ∧ Fld Z h p0 "java/lang/String" "coder" "B" (.int bo) ∧ Fld Z h p0 "java/lang/String" "value" "[B" (.ref t) ∧ Arv Z h t kb .byte (own_cap bo ds.length) (own_sv bo ds) (.int 0) ∧ h0.size ≤ t
theorem rm39 (l : Launch) (Z : State) (a0 : Array Value) (hw : ∀ d ∈ tables_1, d.before a0 Z = true) (ws : List Jvm.Cond) (p0 : Addr) (p1 : Addr) (zc : Int32) (fm : Value) (va : Addr) (kv : ClassId) (bo : Int32) (ds : List Int32) (mm : Nat) (h0 : Heap) (n0 : Nat) (Z0 : n0 ≤ h0.size) (P_E_p0 : Exa Z h0 p0 "java/lang/String") (P_F_p0_value : Fld Z h0 p0 "java/lang/String" "value" "[B" .null) (P_F_p0_coder : Fld Z h0 p0 "java/lang/String" "coder" "B" (.int 0)) (g_p0 : n0 ≤ p0) (P_Old : Old Z n0 h0) (HA : own_Z Z zc fm) (P_E_p1 : Exa Z h0 p1 "java/lang/StringBuilder") (P_F_p1_value : Fld Z h0 p1 "java/lang/AbstractStringBuilder" "value" "[B" (.ref va)) (P_F_p1_coder : Fld Z h0 p1 "java/lang/AbstractStringBuilder" "coder" "B" (.int bo)) (P_F_p1_count : Fld Z h0 p1 "java/lang/AbstractStringBuilder" "count" "I" (.int (Int32.ofNat ds.length))) (P_F_p1_maybeLatin1 : Fld Z h0 p1 "java/lang/AbstractStringBuilder" "maybeLatin1" "Z" (.int 0)) (P_E_va : Exa Z h0 va "[B") (P_V_va : Arv Z h0 va kv .byte (own_cap bo mm) (own_sv bo ds) (.int 0)) (hB : own_BK bo ds mm) (hdm : ds.length ≤ mm) :
   own_M l Z Y60 jdk_42_method_53_code 2 none ws ({ frames := 4, cells := 1, slots := 10, locals := 65 } : Room) #[(.ref p0), (.ref p1)] h0 (Q39 Z p0 p1 zc fm va kv bo ds mm h0 n0) := by
 refine own_body (C := "java/lang/String") rfl (plainFor_of_name pn_1) (fun p e s m below meth c s₁ Bd hx hby hml hown hlk hZ X0 e0 => ?_)
 have N0 := Fr.nil n0
 obtain ⟨Zcs, hcs, Zsi, hfm, Zad, Zhi, Zlo⟩ := id HA
 have K0 : Keep h0 h0 [p0] := Keep.refl h0 [p0]
 refine own_go (fun _ k => castTop (ef_39 m p0 p1) (XS.aloadN X0.here hx rfl (hb hby d39_0) rfl rfl (XS.aloadN X0.here hx rfl (hb hby d39_1) rfl rfl (XS.aconstNull X0.here hx rfl (hb hby d39_2) k)))) ?_
 obtain ⟨_, _, ⟨T1, L1, k1, n1⟩, -, X1, ⟨Lc1, hQ1, l1, y1, z1⟩, st1⟩ := X0.specialBack hx (y := Y59) rfl hown (mvT hZ (own_h hw 201 rfl)) (mvT hZ (own_h hw 202 rfl)) (mvT hZ (own_h hw 203 rfl)) (by decide) (backOf (W := 0) (rm40 l Z a0 hw [] p0 p1 zc fm va kv bo ds mm h0 n0 Z0 P_E_p0 P_F_p0_value P_F_p0_coder g_p0 P_Old HA P_E_p1 P_F_p1_value P_F_p1_coder P_F_p1_count P_F_p1_maybeLatin1 P_E_va P_V_va hB hdm) hZ (own_h hw 203 rfl) (own_h hw 8 rfl) (by decide) (by decide)) (g := (mkF m 3 #[.val (.ref p0), .val (.ref p1)] [.null, (.ref p1), (.ref p0)])) rfl (by rw [hml]; rfl) (Steps.refl _) (a := p0) (argsL := [(.ref p1), .null]) (rest := []) (lenOf pd_32 rfl) rfl (own_r0 _) (hb hby d39_3) (fun _ _ => ⟨rfl, e0, (by decide : 0 + 1 ≤ _), (by decide : 0 + 10 ≤ _)⟩)
 dsimp only [Pt.U, Pt.locs, Pt.cells, Pt.slots] at X1 l1 y1 z1 st1 hQ1
 rw [l1] at X1
 subst y1 z1
 obtain ⟨t1, kb1, rfl, Nq1, Kq1, r1_0, r1_1, r1_2, r1_3, r1_4⟩ := hQ1
 have N1 := Fr.app N0 Nq1
 have ne2 := Nat.ne_of_lt (Nat.lt_of_lt_of_le P_E_p0.lt r1_4)
 have ne3 := Nat.ne_of_lt (Nat.lt_of_lt_of_le P_E_p1.lt r1_4)
 have ne4 := Nat.ne_of_lt (Nat.lt_of_lt_of_le P_E_va.lt r1_4)
 have gg_t1 := Nat.le_trans Z0 r1_4
 have sz_t1_0 := Nat.le_trans K0.1 r1_4
 have f5 := P_E_p0.keep Kq1
 have f6 := P_Old.keep Kq1 (allS g_p0 all0)
 have f7 := P_E_p1.keep Kq1
 have f8 := P_F_p1_value.keep Kq1 (ninS (ne_exa P_E_p1 P_E_p0 (by decide)) nin0)
 have f9 := P_F_p1_coder.keep Kq1 (ninS (ne_exa P_E_p1 P_E_p0 (by decide)) nin0)
 have f10 := P_F_p1_count.keep Kq1 (ninS (ne_exa P_E_p1 P_E_p0 (by decide)) nin0)
 have f11 := P_F_p1_maybeLatin1.keep Kq1 (ninS (ne_exa P_E_p1 P_E_p0 (by decide)) nin0)
 have f12 := P_E_va.keep Kq1
 have f13 := P_V_va.keep Kq1 (ninS (ne_exa P_E_va P_E_p0 (by decide)) nin0)
 have Zs1 := Nat.le_trans Z0 Kq1.1
 have K1_0 := K0.trans Kq1 (allS (Or.inl (List.mem_of_getElem? (i := 0) rfl)) all0)
 refine own_go (fun _ k => st1.trans k) ?_
 show own_G _ _ _ (T1.setTop (mkF m 6 #[.val (.ref p0), .val (.ref p1)] [])) _ _ _ _
 exact own_endV X1 hx hlk Bd.returns (hb hby d39_6) (by decide) (by decide) (Q := (Q39 Z p0 p1 zc fm va kv bo ds mm h0 n0)) ⟨t1, kb1, rfl, N1, K1_0, r1_0, r1_1, r1_2, r1_3, r1_4⟩
theorem d38_0 : own_d B38 0 (.new 18) 3 := by decide +kernel
theorem d38_3 : own_d B38 3 (.dup) 1 := by decide +kernel
theorem d38_4 : own_d B38 4 (.aload_n 0) 1 := by decide +kernel
theorem d38_5 : own_d B38 5 (.invokespecial 137) 3 := by decide +kernel
theorem d38_8 : own_d B38 8 (.areturn) 1 := by decide +kernel
theorem pd_33 : parseMethodDescriptor "(Ljava/lang/StringBuilder;)V" = some ⟨[(.object "java/lang/StringBuilder")], none⟩ := by decide +kernel
theorem ef_38 (m : MethodId) (p0 : Addr) : entryFrame m #[(.ref p0)] 1 = mkF m 0 #[.val (.ref p0)] [] := by first | (simp [entryFrame, mkF, argsToLocals, Value.category]; done) | rfl
def Q38 (Z : State) (p0 : Addr) (zc : Int32) (fm : Value) (va : Addr) (kv : ClassId) (bo : Int32) (ds : List Int32) (mm : Nat) (h0 : Heap) (n0 : Nat) (v : Option Value) (h : Heap) (L : List Loc) : Prop := ∃ (b : Addr) (t : Addr) (kb : ClassId), v = some (.ref b) ∧ Fr n0 L ∧ Keep h0 h [] ∧ Exa Z h b "java/lang/String" ∧ Fld Z h b "java/lang/String" "coder" "B" (.int bo) ∧ Fld Z h b "java/lang/String" "value" "[B" (.ref t) ∧ Arv Z h t kb .byte (own_cap bo ds.length) (own_sv bo ds) (.int 0)
theorem rm38 (l : Launch) (Z : State) (a0 : Array Value) (hw : ∀ d ∈ tables_1, d.before a0 Z = true) (ws : List Jvm.Cond) (p0 : Addr) (zc : Int32) (fm : Value) (va : Addr) (kv : ClassId) (bo : Int32) (ds : List Int32) (mm : Nat) (h0 : Heap) (n0 : Nat) (Z0 : n0 ≤ h0.size) (P_Old : Old Z n0 h0) (HA : own_Z Z zc fm) (P_E_p0 : Exa Z h0 p0 "java/lang/StringBuilder") (P_F_p0_value : Fld Z h0 p0 "java/lang/AbstractStringBuilder" "value" "[B" (.ref va)) (P_F_p0_coder : Fld Z h0 p0 "java/lang/AbstractStringBuilder" "coder" "B" (.int bo)) (P_F_p0_count : Fld Z h0 p0 "java/lang/AbstractStringBuilder" "count" "I" (.int (Int32.ofNat ds.length))) (P_F_p0_maybeLatin1 : Fld Z h0 p0 "java/lang/AbstractStringBuilder" "maybeLatin1" "Z" (.int 0)) (P_E_va : Exa Z h0 va "[B") (P_V_va : Arv Z h0 va kv .byte (own_cap bo mm) (own_sv bo ds) (.int 0)) (hB : own_BK bo ds mm) (hdm : ds.length ≤ mm) :
   own_M l Z Y61 jdk_67_method_42_code 1 (some (.object "java/lang/String")) ws ({ frames := 5, cells := 2, slots := 14, locals := 79 } : Room) #[(.ref p0)] h0 (Q38 Z p0 zc fm va kv bo ds mm h0 n0) := by
 refine own_body (C := "java/lang/StringBuilder") rfl (plainFor_of_name pn_5) (fun p e s m below meth c s₁ Bd hx hby hml hown hlk hZ X0 e0 => ?_)
 have N0 := Fr.nil n0
 obtain ⟨Zcs, hcs, Zsi, hfm, Zad, Zhi, Zlo⟩ := id HA
 have K0 : Keep h0 h0 [] := Keep.refl h0 []
 refine own_go (fun _ k => castTop (ef_38 m p0) k) ?_
 obtain ⟨T1, h1, X1, e1, E1, A1, D1, -, st1⟩ := newO X0 hx hZ hown (own_h hw 197 rfl) (own_h hw 9 rfl) (own_h hw 8 rfl) e0 (g := (mkF m 0 #[.val (.ref p0)] [])) rfl (hb hby d38_0) (by decide) (by decide)
 obtain ⟨b1, g1⟩ : ∃ z, z = h0.size := ⟨_, rfl⟩
 rw [← g1] at A1 D1 st1
 have ne2 := Nat.ne_of_lt (Nat.lt_of_lt_of_le P_E_p0.lt (Nat.le_of_eq g1.symm))
 have ne3 := Nat.ne_of_lt (Nat.lt_of_lt_of_le P_E_va.lt (Nat.le_of_eq g1.symm))
 have gg1 := Nat.le_trans Z0 (Nat.le_of_eq g1.symm)
 have sz1_0 := Nat.le_trans K0.1 (Nat.le_of_eq g1.symm)
 have Zs1 := Nat.le_trans Z0 E1.1
 have K1_0 := K0.ext E1
 have f4 := P_Old.ext E1
 have f5 := P_E_p0.ext E1
 have f6 := P_F_p0_value.ext E1
 have f7 := P_F_p0_coder.ext E1
 have f8 := P_F_p0_count.ext E1
 have f9 := P_F_p0_maybeLatin1.ext E1
 have f10 := P_E_va.ext E1
 have f11 := P_V_va.ext E1
 have f12 : Exa Z h1 b1 "java/lang/String" := A1
 have f13 : Fld Z h1 b1 "java/lang/String" "value" "[B" .null := D1 (Or.inr (own_h hw 11 rfl)) (ty := (.array .byte)) (by decide)
 have f14 : Fld Z h1 b1 "java/lang/String" "coder" "B" (.int 0) := D1 (Or.inr (own_h hw 12 rfl)) (ty := .byte) (by decide)
 refine own_go (fun _ k => st1 _ (XS.dup X1.here hx rfl (hb hby d38_3) rfl rfl (XS.aloadN X1.here hx rfl (hb hby d38_4) rfl rfl k))) ?_
 obtain ⟨_, _, ⟨T15, L15, k15, n15⟩, -, X15, ⟨Lc15, hQ15, l15, y15, z15⟩, st15⟩ := X1.specialBack hx (y := Y60) rfl hown (mvT hZ (own_h hw 198 rfl)) (mvT hZ (own_h hw 199 rfl)) (mvT hZ (own_h hw 200 rfl)) (by decide) (backOf (W := 1) (rm39 l Z a0 hw [] b1 p0 zc fm va kv bo ds mm h1 n0 Zs1 f12 f13 f14 gg1 f4 HA f5 f6 f7 f8 f9 f10 f11 hB hdm) hZ (own_h hw 200 rfl) (own_h hw 8 rfl) (by decide) (by decide)) (g := (mkF m 5 #[.val (.ref p0)] [(.ref p0), (.ref b1), (.ref b1)])) rfl (by rw [hml]; rfl) (Steps.refl _) (a := b1) (argsL := [(.ref p0)]) (rest := [(.ref b1)]) (lenOf pd_33 rfl) rfl (own_r0 _) (hb hby d38_5) (fun _ _ => ⟨rfl, e1, (by decide : 1 + 1 ≤ _), (by decide : 4 + 10 ≤ _)⟩)
 dsimp only [Pt.U, Pt.locs, Pt.cells, Pt.slots] at X15 l15 y15 z15 st15 hQ15
 rw [l15] at X15
 subst y15 z15
 obtain ⟨t15, kb15, rfl, Nq15, Kq15, r15_0, r15_1, r15_2, r15_3, r15_4⟩ := hQ15
 have N15 := Fr.app N0 Nq15
 have ne16 := Nat.ne_of_lt (Nat.lt_of_lt_of_le f5.lt r15_4)
 have ne17 := Nat.ne_of_lt (Nat.lt_of_lt_of_le f10.lt r15_4)
 have ne18 := Nat.ne_of_lt (Nat.lt_of_lt_of_le f12.lt r15_4)
 have gg_t15 := Nat.le_trans Zs1 r15_4
 have sz_t15_0 := Nat.le_trans K1_0.1 r15_4
 have f19 := f4.keep Kq15 (allS gg1 all0)
 have f20 := f5.keep Kq15
 have f21 := f6.keep Kq15 (ninS ne2 nin0)
 have f22 := f7.keep Kq15 (ninS ne2 nin0)
 have f23 := f8.keep Kq15 (ninS ne2 nin0)
 have f24 := f9.keep Kq15 (ninS ne2 nin0)
 have f25 := f10.keep Kq15
 have f26 := f11.keep Kq15 (ninS ne3 nin0)
 have f27 := f12.keep Kq15
 have Zs15 := Nat.le_trans Zs1 Kq15.1
 have K15_0 := K1_0.trans Kq15 (allS (Or.inr sz1_0) all0)
 refine own_go (fun _ k => st15.trans k) ?_
 show own_G _ _ _ (T15.setTop (mkF m 8 #[.val (.ref p0)] [(.ref b1)])) _ _ _ _
 exact own_endR X15 hx hlk Bd.returns rfl rfl rfl (hb hby d38_8) (by decide) (by decide) (Q := (Q38 Z p0 zc fm va kv bo ds mm h0 n0)) ⟨b1, t15, kb15, rfl, N15, K15_0, r15_0, r15_1, r15_2, r15_3⟩
theorem d34_0 : own_d B34 0 (.iload_n 0) 1 := by decide +kernel
theorem d34_1 : own_d B34 1 (.bipush 48) 2 := by decide +kernel
theorem d34_3 : own_d B34 3 (.if_icmp .lt 14) 3 := by decide +kernel
theorem d34_6 : own_d B34 6 (.iload_n 0) 1 := by decide +kernel
theorem d34_7 : own_d B34 7 (.bipush 57) 2 := by decide +kernel
theorem d34_9 : own_d B34 9 (.if_icmp .gt 8) 3 := by decide +kernel
theorem d34_12 : own_d B34 12 (.iload_n 0) 1 := by decide +kernel
theorem d34_13 : own_d B34 13 (.bipush 48) 2 := by decide +kernel
theorem d34_15 : own_d B34 15 (.isub) 1 := by decide +kernel
theorem d34_16 : own_d B34 16 (.ireturn) 1 := by decide +kernel
theorem d34_17 : own_d B34 17 (.iload_n 0) 1 := by decide +kernel
theorem d34_18 : own_d B34 18 (.bipush 65) 2 := by decide +kernel
theorem d34_20 : own_d B34 20 (.if_icmp .lt 17) 3 := by decide +kernel
theorem d34_23 : own_d B34 23 (.iload_n 0) 1 := by decide +kernel
theorem d34_24 : own_d B34 24 (.bipush 70) 2 := by decide +kernel
theorem d34_26 : own_d B34 26 (.if_icmp .gt 11) 3 := by decide +kernel
theorem d34_29 : own_d B34 29 (.iload_n 0) 1 := by decide +kernel
theorem d34_30 : own_d B34 30 (.bipush 65) 2 := by decide +kernel
theorem d34_32 : own_d B34 32 (.isub) 1 := by decide +kernel
theorem d34_33 : own_d B34 33 (.bipush 10) 2 := by decide +kernel
theorem d34_35 : own_d B34 35 (.iadd) 1 := by decide +kernel
theorem d34_36 : own_d B34 36 (.ireturn) 1 := by decide +kernel
theorem d34_37 : own_d B34 37 (.iload_n 0) 1 := by decide +kernel
theorem d34_38 : own_d B34 38 (.bipush 97) 2 := by decide +kernel
theorem d34_40 : own_d B34 40 (.if_icmp .lt 17) 3 := by decide +kernel
theorem d34_43 : own_d B34 43 (.iload_n 0) 1 := by decide +kernel
theorem d34_44 : own_d B34 44 (.bipush 102) 2 := by decide +kernel
theorem d34_46 : own_d B34 46 (.if_icmp .gt 11) 3 := by decide +kernel
theorem d34_49 : own_d B34 49 (.iload_n 0) 1 := by decide +kernel
theorem d34_50 : own_d B34 50 (.bipush 97) 2 := by decide +kernel
theorem d34_52 : own_d B34 52 (.isub) 1 := by decide +kernel
theorem d34_53 : own_d B34 53 (.bipush 10) 2 := by decide +kernel
theorem d34_55 : own_d B34 55 (.iadd) 1 := by decide +kernel
theorem d34_56 : own_d B34 56 (.ireturn) 1 := by decide +kernel
theorem d34_57 : own_d B34 57 (.iconst (-1)) 1 := by decide +kernel
theorem d34_58 : own_d B34 58 (.ireturn) 1 := by decide +kernel
def own_hexd_57 (p0 : Int32)  : Int32 := (-1 : Int32)
def own_hexd_37 (p0 : Int32)  : Int32 := (if p0 < (97 : Int32) then (own_hexd_57 p0 ) else (if (102 : Int32) < p0 then (own_hexd_57 p0 ) else ((p0 - (97 : Int32)) + (10 : Int32))))
def own_hexd_17 (p0 : Int32)  : Int32 := (if p0 < (65 : Int32) then (own_hexd_37 p0 ) else (if (70 : Int32) < p0 then (own_hexd_37 p0 ) else ((p0 - (65 : Int32)) + (10 : Int32))))
def own_hexd (p0 : Int32) : Int32 := (if p0 < (48 : Int32) then (own_hexd_17 p0 ) else (if (57 : Int32) < p0 then (own_hexd_17 p0 ) else (p0 - (48 : Int32))))
theorem pn_7 : plainName "com/example/amid2/amid2/PercentEncoding" = true := by first | (simp [plainName, overriddenIn]; done) | decide +kernel
theorem ef_34 (m : MethodId) (p0 : Int32) : entryFrame m #[(.int p0)] 1 = mkF m 0 #[.val (.int p0)] [] := by first | (simp [entryFrame, mkF, argsToLocals, Value.category]; done) | rfl
theorem rm34 (l : Launch) (Z : State) (a0 : Array Value) (hw : ∀ d ∈ tables_1, d.before a0 Z = true) (ws : List Jvm.Cond) (p0 : Int32) (h0 : Heap) (n0 : Nat) :
   MetFree l Y62 (head1 (Jvm.Cond.code Y62 prog_14_method_5_code 1 (some .int) :: ws) ({ frames := 0, cells := 0, slots := 0, locals := 0 } : Room)) (fun a U => a = #[(.int p0)] ∧ Z.Warmed39 U.vm ∧ U.heap = h0) (fun _ _ _ _ _ => True) (fun _ U o U' => ∃ v L, o = .returned v ∧ (own_P n0 h0 (some (.int (own_hexd p0)))) v U'.heap L ∧ FrameEnd U o U' L ({ frames := 0, cells := 0, slots := 0, locals := 0 } : Room).cells ({ frames := 0, cells := 0, slots := 0, locals := 0 } : Room).slots) := by
 refine MetFree.of_bodySF (plainFor_of_name pn_7) hisR ?_
 intro p e s m args below meth c s₁ Bd hml0 hP hK
 obtain ⟨rfl, hZ, hh⟩ := hP
 have hx := Bd.exec
 have hby := Bd.bytes
 have hml : c.maxLocals = 1 := hml0
 have hown : s.vm.findClass "com/example/amid2/amid2/PercentEncoding" = some m.cls := findClass_of_methodNamed Bd.named
 have hnm := (name_of_methodNamed Bd.named Bd.method).1
 have hlk : meth.locks = false := BodyLoose.notSynchronized Bd
 have X0 : Stand p l e ({ frames := 0, cells := 0, slots := 0, locals := 0 } : Room) s m #[(.int p0)] below meth c s₁ [] 0 0 := Stand.of_body Bd
 have e0 : s₁.heap = h0 := by rw [← hh, Bd.state]; rfl
 have N0 := Fr.nil n0
 have J57 : ∀ (T : State) (Lc : List Loc) (X : Stand p l e ({ frames := 0, cells := 0, slots := 0, locals := 0 } : Room) s m #[(.int p0)] below meth c T Lc 0 0) (eT : T.heap = h0) (N : Fr n0 Lc)  , own_G p.tables e below (T.setTop (mkF m 57 #[.val (.int p0)] [])) s ({ frames := 0, cells := 0, slots := 0, locals := 0 } : Room).cells ({ frames := 0, cells := 0, slots := 0, locals := 0 } : Room).slots (own_P n0 h0 (some (.int (own_hexd_57 p0 )))) := by
   intro T Lc X eT N  
   show own_G _ _ _ _ _ _ _ (own_P n0 h0 (some (.int ((-1 : Int32)))))
   refine own_go (fun _ k => XS.iconst X.here hx rfl (hb hby d34_57) k) ?_
   show own_G _ _ _ (T.setTop (mkF m 58 #[.val (.int p0)] [(.int (-1))])) _ _ _ _
   exact own_endI X hx hlk Bd.returns (hb hby d34_58) (by decide) (by decide) ⟨rfl, N, eT⟩
 have J37 : ∀ (T : State) (Lc : List Loc) (X : Stand p l e ({ frames := 0, cells := 0, slots := 0, locals := 0 } : Room) s m #[(.int p0)] below meth c T Lc 0 0) (eT : T.heap = h0) (N : Fr n0 Lc)  , own_G p.tables e below (T.setTop (mkF m 37 #[.val (.int p0)] [])) s ({ frames := 0, cells := 0, slots := 0, locals := 0 } : Room).cells ({ frames := 0, cells := 0, slots := 0, locals := 0 } : Room).slots (own_P n0 h0 (some (.int (own_hexd_37 p0 )))) := by
   intro T Lc X eT N  
   show own_G _ _ _ _ _ _ _ (own_P n0 h0 (some (.int ((if p0 < (97 : Int32) then (own_hexd_57 p0 ) else (if (102 : Int32) < p0 then (own_hexd_57 p0 ) else ((p0 - (97 : Int32)) + (10 : Int32))))))))
   refine own_go (fun _ k => XS.iloadN X.here hx rfl (hb hby d34_37) rfl (XS.bipush X.here hx rfl (hb hby d34_38) k)) ?_
   show own_G _ _ _ (T.setTop (mkF m 40 #[.val (.int p0)] [(.int 97), (.int p0)])) _ _ _ _
   by_cases hc1 : p0 < (97 : Int32)
   · refine own_itI hc1 ?_
     refine own_go (fun _ k => XS.icmpYes X.here hx rfl (pc0 := 40) (pc' := 57) rfl (hb hby d34_40) rfl (tlt hc1).1 (by decide) (by decide) k) ?_
     show own_G _ _ _ (T.setTop (mkF m 57 #[.val (.int p0)] [])) _ _ _ _
     exact J57 _ _ X eT N  
   · refine own_ifI hc1 ?_
     refine own_go (fun _ k => XS.icmpNo X.here hx rfl (hb hby d34_40) rfl (flt hc1).1 (XS.iloadN X.here hx rfl (hb hby d34_43) rfl (XS.bipush X.here hx rfl (hb hby d34_44) k))) ?_
     show own_G _ _ _ (T.setTop (mkF m 46 #[.val (.int p0)] [(.int 102), (.int p0)])) _ _ _ _
     by_cases hc2 : (102 : Int32) < p0
     · refine own_itI hc2 ?_
       refine own_go (fun _ k => XS.icmpYes X.here hx rfl (pc0 := 46) (pc' := 57) rfl (hb hby d34_46) rfl (tlt hc2).2.2.1 (by decide) (by decide) k) ?_
       show own_G _ _ _ (T.setTop (mkF m 57 #[.val (.int p0)] [])) _ _ _ _
       exact J57 _ _ X eT N  
     · refine own_ifI hc2 ?_
       refine own_go (fun _ k => XS.icmpNo X.here hx rfl (hb hby d34_46) rfl (flt hc2).2.2.1 (XS.iloadN X.here hx rfl (hb hby d34_49) rfl (XS.bipush X.here hx rfl (hb hby d34_50) (XS.isub X.here hx rfl (hb hby d34_52) rfl (XS.bipush X.here hx rfl (hb hby d34_53) (XS.iadd X.here hx rfl (hb hby d34_55) rfl k)))))) ?_
       show own_G _ _ _ (T.setTop (mkF m 56 #[.val (.int p0)] [(.int ((p0 - (97 : Int32)) + (10 : Int32)))])) _ _ _ _
       exact own_endI X hx hlk Bd.returns (hb hby d34_56) (by decide) (by decide) ⟨rfl, N, eT⟩
 have J17 : ∀ (T : State) (Lc : List Loc) (X : Stand p l e ({ frames := 0, cells := 0, slots := 0, locals := 0 } : Room) s m #[(.int p0)] below meth c T Lc 0 0) (eT : T.heap = h0) (N : Fr n0 Lc)  , own_G p.tables e below (T.setTop (mkF m 17 #[.val (.int p0)] [])) s ({ frames := 0, cells := 0, slots := 0, locals := 0 } : Room).cells ({ frames := 0, cells := 0, slots := 0, locals := 0 } : Room).slots (own_P n0 h0 (some (.int (own_hexd_17 p0 )))) := by
   intro T Lc X eT N  
   show own_G _ _ _ _ _ _ _ (own_P n0 h0 (some (.int ((if p0 < (65 : Int32) then (own_hexd_37 p0 ) else (if (70 : Int32) < p0 then (own_hexd_37 p0 ) else ((p0 - (65 : Int32)) + (10 : Int32))))))))
   refine own_go (fun _ k => XS.iloadN X.here hx rfl (hb hby d34_17) rfl (XS.bipush X.here hx rfl (hb hby d34_18) k)) ?_
   show own_G _ _ _ (T.setTop (mkF m 20 #[.val (.int p0)] [(.int 65), (.int p0)])) _ _ _ _
   by_cases hc3 : p0 < (65 : Int32)
   · refine own_itI hc3 ?_
     refine own_go (fun _ k => XS.icmpYes X.here hx rfl (pc0 := 20) (pc' := 37) rfl (hb hby d34_20) rfl (tlt hc3).1 (by decide) (by decide) k) ?_
     show own_G _ _ _ (T.setTop (mkF m 37 #[.val (.int p0)] [])) _ _ _ _
     exact J37 _ _ X eT N  
   · refine own_ifI hc3 ?_
     refine own_go (fun _ k => XS.icmpNo X.here hx rfl (hb hby d34_20) rfl (flt hc3).1 (XS.iloadN X.here hx rfl (hb hby d34_23) rfl (XS.bipush X.here hx rfl (hb hby d34_24) k))) ?_
     show own_G _ _ _ (T.setTop (mkF m 26 #[.val (.int p0)] [(.int 70), (.int p0)])) _ _ _ _
     by_cases hc4 : (70 : Int32) < p0
     · refine own_itI hc4 ?_
       refine own_go (fun _ k => XS.icmpYes X.here hx rfl (pc0 := 26) (pc' := 37) rfl (hb hby d34_26) rfl (tlt hc4).2.2.1 (by decide) (by decide) k) ?_
       show own_G _ _ _ (T.setTop (mkF m 37 #[.val (.int p0)] [])) _ _ _ _
       exact J37 _ _ X eT N  
     · refine own_ifI hc4 ?_
       refine own_go (fun _ k => XS.icmpNo X.here hx rfl (hb hby d34_26) rfl (flt hc4).2.2.1 (XS.iloadN X.here hx rfl (hb hby d34_29) rfl (XS.bipush X.here hx rfl (hb hby d34_30) (XS.isub X.here hx rfl (hb hby d34_32) rfl (XS.bipush X.here hx rfl (hb hby d34_33) (XS.iadd X.here hx rfl (hb hby d34_35) rfl k)))))) ?_
       show own_G _ _ _ (T.setTop (mkF m 36 #[.val (.int p0)] [(.int ((p0 - (65 : Int32)) + (10 : Int32)))])) _ _ _ _
       exact own_endI X hx hlk Bd.returns (hb hby d34_36) (by decide) (by decide) ⟨rfl, N, eT⟩
 show own_G p.tables e below (s₁.setTop (entryFrame m #[(.int p0)] 1)) s ({ frames := 0, cells := 0, slots := 0, locals := 0 } : Room).cells ({ frames := 0, cells := 0, slots := 0, locals := 0 } : Room).slots (own_P n0 h0 (some (.int ((if p0 < (48 : Int32) then (own_hexd_17 p0 ) else (if (57 : Int32) < p0 then (own_hexd_17 p0 ) else (p0 - (48 : Int32))))))))
 refine own_go (fun _ k => castTop (ef_34 m p0) k) ?_
 refine own_go (fun _ k => XS.iloadN X0.here hx rfl (hb hby d34_0) rfl (XS.bipush X0.here hx rfl (hb hby d34_1) k)) ?_
 show own_G _ _ _ (s₁.setTop (mkF m 3 #[.val (.int p0)] [(.int 48), (.int p0)])) _ _ _ _
 by_cases hc5 : p0 < (48 : Int32)
 · refine own_itI hc5 ?_
   refine own_go (fun _ k => XS.icmpYes X0.here hx rfl (pc0 := 3) (pc' := 17) rfl (hb hby d34_3) rfl (tlt hc5).1 (by decide) (by decide) k) ?_
   show own_G _ _ _ (s₁.setTop (mkF m 17 #[.val (.int p0)] [])) _ _ _ _
   exact J17 _ _ X0 e0 N0  
 · refine own_ifI hc5 ?_
   refine own_go (fun _ k => XS.icmpNo X0.here hx rfl (hb hby d34_3) rfl (flt hc5).1 (XS.iloadN X0.here hx rfl (hb hby d34_6) rfl (XS.bipush X0.here hx rfl (hb hby d34_7) k))) ?_
   show own_G _ _ _ (s₁.setTop (mkF m 9 #[.val (.int p0)] [(.int 57), (.int p0)])) _ _ _ _
   by_cases hc6 : (57 : Int32) < p0
   · refine own_itI hc6 ?_
     refine own_go (fun _ k => XS.icmpYes X0.here hx rfl (pc0 := 9) (pc' := 17) rfl (hb hby d34_9) rfl (tlt hc6).2.2.1 (by decide) (by decide) k) ?_
     show own_G _ _ _ (s₁.setTop (mkF m 17 #[.val (.int p0)] [])) _ _ _ _
     exact J17 _ _ X0 e0 N0  
   · refine own_ifI hc6 ?_
     refine own_go (fun _ k => XS.icmpNo X0.here hx rfl (hb hby d34_9) rfl (flt hc6).2.2.1 (XS.iloadN X0.here hx rfl (hb hby d34_12) rfl (XS.bipush X0.here hx rfl (hb hby d34_13) (XS.isub X0.here hx rfl (hb hby d34_15) rfl k)))) ?_
     show own_G _ _ _ (s₁.setTop (mkF m 16 #[.val (.int p0)] [(.int (p0 - (48 : Int32)))])) _ _ _ _
     exact own_endI X0 hx hlk Bd.returns (hb hby d34_16) (by decide) (by decide) ⟨rfl, N0, e0⟩
theorem d69_0 : own_d B69 0 (.iload_n 0) 1 := by decide +kernel
theorem d69_1 : own_d B69 1 (.bipush 65) 2 := by decide +kernel
theorem d69_3 : own_d B69 3 (.if_icmp .lt 9) 3 := by decide +kernel
theorem d69_6 : own_d B69 6 (.iload_n 0) 1 := by decide +kernel
theorem d69_7 : own_d B69 7 (.bipush 90) 2 := by decide +kernel
theorem d69_9 : own_d B69 9 (.if_icmp .le 51) 3 := by decide +kernel
theorem d69_12 : own_d B69 12 (.iload_n 0) 1 := by decide +kernel
theorem d69_13 : own_d B69 13 (.bipush 97) 2 := by decide +kernel
theorem d69_15 : own_d B69 15 (.if_icmp .lt 9) 3 := by decide +kernel
theorem d69_18 : own_d B69 18 (.iload_n 0) 1 := by decide +kernel
theorem d69_19 : own_d B69 19 (.bipush 122) 2 := by decide +kernel
theorem d69_21 : own_d B69 21 (.if_icmp .le 39) 3 := by decide +kernel
theorem d69_24 : own_d B69 24 (.iload_n 0) 1 := by decide +kernel
theorem d69_25 : own_d B69 25 (.bipush 48) 2 := by decide +kernel
theorem d69_27 : own_d B69 27 (.if_icmp .lt 9) 3 := by decide +kernel
theorem d69_30 : own_d B69 30 (.iload_n 0) 1 := by decide +kernel
theorem d69_31 : own_d B69 31 (.bipush 57) 2 := by decide +kernel
theorem d69_33 : own_d B69 33 (.if_icmp .le 27) 3 := by decide +kernel
theorem d69_36 : own_d B69 36 (.iload_n 0) 1 := by decide +kernel
theorem d69_37 : own_d B69 37 (.bipush 45) 2 := by decide +kernel
theorem d69_39 : own_d B69 39 (.if_icmp .eq 21) 3 := by decide +kernel
theorem d69_42 : own_d B69 42 (.iload_n 0) 1 := by decide +kernel
theorem d69_43 : own_d B69 43 (.bipush 46) 2 := by decide +kernel
theorem d69_45 : own_d B69 45 (.if_icmp .eq 15) 3 := by decide +kernel
theorem d69_48 : own_d B69 48 (.iload_n 0) 1 := by decide +kernel
theorem d69_49 : own_d B69 49 (.bipush 95) 2 := by decide +kernel
theorem d69_51 : own_d B69 51 (.if_icmp .eq 9) 3 := by decide +kernel
theorem d69_54 : own_d B69 54 (.iload_n 0) 1 := by decide +kernel
theorem d69_55 : own_d B69 55 (.bipush 126) 2 := by decide +kernel
theorem d69_57 : own_d B69 57 (.if_icmp .ne 7) 3 := by decide +kernel
theorem d69_60 : own_d B69 60 (.iconst 1) 1 := by decide +kernel
theorem d69_61 : own_d B69 61 (.goto 4) 3 := by decide +kernel
theorem d69_64 : own_d B69 64 (.iconst 0) 1 := by decide +kernel
theorem d69_65 : own_d B69 65 (.ireturn) 1 := by decide +kernel
def own_isu_65 (p0 : Int32) (w0 : Int32) : Int32 := (w0 &&& 1)
def own_isu_60 (p0 : Int32)  : Int32 := (own_isu_65 p0 (1 : Int32))
def own_isu_36 (p0 : Int32)  : Int32 := (if p0 = (45 : Int32) then (own_isu_60 p0 ) else (if p0 = (46 : Int32) then (own_isu_60 p0 ) else (if p0 = (95 : Int32) then (own_isu_60 p0 ) else (if p0 = (126 : Int32) then (own_isu_60 p0 ) else (own_isu_65 p0 (0 : Int32))))))
def own_isu_24 (p0 : Int32)  : Int32 := (if p0 < (48 : Int32) then (own_isu_36 p0 ) else (if (57 : Int32) < p0 then (own_isu_36 p0 ) else (own_isu_60 p0 )))
def own_isu_12 (p0 : Int32)  : Int32 := (if p0 < (97 : Int32) then (own_isu_24 p0 ) else (if (122 : Int32) < p0 then (own_isu_24 p0 ) else (own_isu_60 p0 )))
def own_isu (p0 : Int32) : Int32 := (if p0 < (65 : Int32) then (own_isu_12 p0 ) else (if (90 : Int32) < p0 then (own_isu_12 p0 ) else (own_isu_60 p0 )))
theorem ef_69 (m : MethodId) (p0 : Int32) : entryFrame m #[(.int p0)] 1 = mkF m 0 #[.val (.int p0)] [] := by first | (simp [entryFrame, mkF, argsToLocals, Value.category]; done) | rfl
theorem rm69 (l : Launch) (Z : State) (a0 : Array Value) (hw : ∀ d ∈ tables_1, d.before a0 Z = true) (ws : List Jvm.Cond) (p0 : Int32) (h0 : Heap) (n0 : Nat) :
   MetFree l Y63 (head1 (Jvm.Cond.code Y63 prog_14_method_2_code 1 (some .boolean) :: ws) ({ frames := 0, cells := 0, slots := 0, locals := 0 } : Room)) (fun a U => a = #[(.int p0)] ∧ Z.Warmed39 U.vm ∧ U.heap = h0) (fun _ _ _ _ _ => True) (fun _ U o U' => ∃ v L, o = .returned v ∧ (own_P n0 h0 (some (.int (own_isu p0)))) v U'.heap L ∧ FrameEnd U o U' L ({ frames := 0, cells := 0, slots := 0, locals := 0 } : Room).cells ({ frames := 0, cells := 0, slots := 0, locals := 0 } : Room).slots) := by
 refine MetFree.of_bodySF (plainFor_of_name pn_7) hisR ?_
 intro p e s m args below meth c s₁ Bd hml0 hP hK
 obtain ⟨rfl, hZ, hh⟩ := hP
 have hx := Bd.exec
 have hby := Bd.bytes
 have hml : c.maxLocals = 1 := hml0
 have hown : s.vm.findClass "com/example/amid2/amid2/PercentEncoding" = some m.cls := findClass_of_methodNamed Bd.named
 have hnm := (name_of_methodNamed Bd.named Bd.method).1
 have hlk : meth.locks = false := BodyLoose.notSynchronized Bd
 have X0 : Stand p l e ({ frames := 0, cells := 0, slots := 0, locals := 0 } : Room) s m #[(.int p0)] below meth c s₁ [] 0 0 := Stand.of_body Bd
 have e0 : s₁.heap = h0 := by rw [← hh, Bd.state]; rfl
 have N0 := Fr.nil n0
 have J65 : ∀ (T : State) (Lc : List Loc) (X : Stand p l e ({ frames := 0, cells := 0, slots := 0, locals := 0 } : Room) s m #[(.int p0)] below meth c T Lc 0 0) (eT : T.heap = h0) (N : Fr n0 Lc) (w0 : Int32) , own_G p.tables e below (T.setTop (mkF m 65 #[.val (.int p0)] [(.int w0)])) s ({ frames := 0, cells := 0, slots := 0, locals := 0 } : Room).cells ({ frames := 0, cells := 0, slots := 0, locals := 0 } : Room).slots (own_P n0 h0 (some (.int (own_isu_65 p0 w0)))) := by
   intro T Lc X eT N w0 
   show own_G _ _ _ _ _ _ _ (own_P n0 h0 (some (.int ((w0 &&& 1)))))
   exact own_endN X hx hlk (t := .boolean) Bd.returns (by simp) (hb hby d69_65) (by decide) (by decide) ⟨rfl, N, eT⟩
 have J60 : ∀ (T : State) (Lc : List Loc) (X : Stand p l e ({ frames := 0, cells := 0, slots := 0, locals := 0 } : Room) s m #[(.int p0)] below meth c T Lc 0 0) (eT : T.heap = h0) (N : Fr n0 Lc)  , own_G p.tables e below (T.setTop (mkF m 60 #[.val (.int p0)] [])) s ({ frames := 0, cells := 0, slots := 0, locals := 0 } : Room).cells ({ frames := 0, cells := 0, slots := 0, locals := 0 } : Room).slots (own_P n0 h0 (some (.int (own_isu_60 p0 )))) := by
   intro T Lc X eT N  
   show own_G _ _ _ _ _ _ _ (own_P n0 h0 (some (.int ((own_isu_65 p0 (1 : Int32))))))
   refine own_go (fun _ k => XS.iconst X.here hx rfl (hb hby d69_60) (XS.goto X.here hx rfl (pc0 := 61) (pc' := 65) rfl (hb hby d69_61) (by decide) (by decide) k)) ?_
   show own_G _ _ _ (T.setTop (mkF m 65 #[.val (.int p0)] [(.int 1)])) _ _ _ _
   exact J65 _ _ X eT N (1 : Int32) 
 have J36 : ∀ (T : State) (Lc : List Loc) (X : Stand p l e ({ frames := 0, cells := 0, slots := 0, locals := 0 } : Room) s m #[(.int p0)] below meth c T Lc 0 0) (eT : T.heap = h0) (N : Fr n0 Lc)  , own_G p.tables e below (T.setTop (mkF m 36 #[.val (.int p0)] [])) s ({ frames := 0, cells := 0, slots := 0, locals := 0 } : Room).cells ({ frames := 0, cells := 0, slots := 0, locals := 0 } : Room).slots (own_P n0 h0 (some (.int (own_isu_36 p0 )))) := by
   intro T Lc X eT N  
   show own_G _ _ _ _ _ _ _ (own_P n0 h0 (some (.int ((if p0 = (45 : Int32) then (own_isu_60 p0 ) else (if p0 = (46 : Int32) then (own_isu_60 p0 ) else (if p0 = (95 : Int32) then (own_isu_60 p0 ) else (if p0 = (126 : Int32) then (own_isu_60 p0 ) else (own_isu_65 p0 (0 : Int32))))))))))
   refine own_go (fun _ k => XS.iloadN X.here hx rfl (hb hby d69_36) rfl (XS.bipush X.here hx rfl (hb hby d69_37) k)) ?_
   show own_G _ _ _ (T.setTop (mkF m 39 #[.val (.int p0)] [(.int 45), (.int p0)])) _ _ _ _
   by_cases hc1 : p0 = (45 : Int32)
   · refine own_itI hc1 ?_
     refine own_go (fun _ k => XS.icmpYes X.here hx rfl (pc0 := 39) (pc' := 60) rfl (hb hby d69_39) rfl (teq hc1).1 (by decide) (by decide) k) ?_
     show own_G _ _ _ (T.setTop (mkF m 60 #[.val (.int p0)] [])) _ _ _ _
     exact J60 _ _ X eT N  
   · refine own_ifI hc1 ?_
     refine own_go (fun _ k => XS.icmpNo X.here hx rfl (hb hby d69_39) rfl (feq hc1).1 (XS.iloadN X.here hx rfl (hb hby d69_42) rfl (XS.bipush X.here hx rfl (hb hby d69_43) k))) ?_
     show own_G _ _ _ (T.setTop (mkF m 45 #[.val (.int p0)] [(.int 46), (.int p0)])) _ _ _ _
     by_cases hc2 : p0 = (46 : Int32)
     · refine own_itI hc2 ?_
       refine own_go (fun _ k => XS.icmpYes X.here hx rfl (pc0 := 45) (pc' := 60) rfl (hb hby d69_45) rfl (teq hc2).1 (by decide) (by decide) k) ?_
       show own_G _ _ _ (T.setTop (mkF m 60 #[.val (.int p0)] [])) _ _ _ _
       exact J60 _ _ X eT N  
     · refine own_ifI hc2 ?_
       refine own_go (fun _ k => XS.icmpNo X.here hx rfl (hb hby d69_45) rfl (feq hc2).1 (XS.iloadN X.here hx rfl (hb hby d69_48) rfl (XS.bipush X.here hx rfl (hb hby d69_49) k))) ?_
       show own_G _ _ _ (T.setTop (mkF m 51 #[.val (.int p0)] [(.int 95), (.int p0)])) _ _ _ _
       by_cases hc3 : p0 = (95 : Int32)
       · refine own_itI hc3 ?_
         refine own_go (fun _ k => XS.icmpYes X.here hx rfl (pc0 := 51) (pc' := 60) rfl (hb hby d69_51) rfl (teq hc3).1 (by decide) (by decide) k) ?_
         show own_G _ _ _ (T.setTop (mkF m 60 #[.val (.int p0)] [])) _ _ _ _
         exact J60 _ _ X eT N  
       · refine own_ifI hc3 ?_
         refine own_go (fun _ k => XS.icmpNo X.here hx rfl (hb hby d69_51) rfl (feq hc3).1 (XS.iloadN X.here hx rfl (hb hby d69_54) rfl (XS.bipush X.here hx rfl (hb hby d69_55) k))) ?_
         show own_G _ _ _ (T.setTop (mkF m 57 #[.val (.int p0)] [(.int 126), (.int p0)])) _ _ _ _
         by_cases hc4 : p0 = (126 : Int32)
         · refine own_itI hc4 ?_
           refine own_go (fun _ k => XS.icmpNo X.here hx rfl (hb hby d69_57) rfl (teq hc4).2 k) ?_
           show own_G _ _ _ (T.setTop (mkF m 60 #[.val (.int p0)] [])) _ _ _ _
           exact J60 _ _ X eT N  
         · refine own_ifI hc4 ?_
           refine own_go (fun _ k => XS.icmpYes X.here hx rfl (pc0 := 57) (pc' := 64) rfl (hb hby d69_57) rfl (feq hc4).2 (by decide) (by decide) (XS.iconst X.here hx rfl (hb hby d69_64) k)) ?_
           show own_G _ _ _ (T.setTop (mkF m 65 #[.val (.int p0)] [(.int 0)])) _ _ _ _
           exact J65 _ _ X eT N (0 : Int32) 
 have J24 : ∀ (T : State) (Lc : List Loc) (X : Stand p l e ({ frames := 0, cells := 0, slots := 0, locals := 0 } : Room) s m #[(.int p0)] below meth c T Lc 0 0) (eT : T.heap = h0) (N : Fr n0 Lc)  , own_G p.tables e below (T.setTop (mkF m 24 #[.val (.int p0)] [])) s ({ frames := 0, cells := 0, slots := 0, locals := 0 } : Room).cells ({ frames := 0, cells := 0, slots := 0, locals := 0 } : Room).slots (own_P n0 h0 (some (.int (own_isu_24 p0 )))) := by
   intro T Lc X eT N  
   show own_G _ _ _ _ _ _ _ (own_P n0 h0 (some (.int ((if p0 < (48 : Int32) then (own_isu_36 p0 ) else (if (57 : Int32) < p0 then (own_isu_36 p0 ) else (own_isu_60 p0 )))))))
   refine own_go (fun _ k => XS.iloadN X.here hx rfl (hb hby d69_24) rfl (XS.bipush X.here hx rfl (hb hby d69_25) k)) ?_
   show own_G _ _ _ (T.setTop (mkF m 27 #[.val (.int p0)] [(.int 48), (.int p0)])) _ _ _ _
   by_cases hc5 : p0 < (48 : Int32)
   · refine own_itI hc5 ?_
     refine own_go (fun _ k => XS.icmpYes X.here hx rfl (pc0 := 27) (pc' := 36) rfl (hb hby d69_27) rfl (tlt hc5).1 (by decide) (by decide) k) ?_
     show own_G _ _ _ (T.setTop (mkF m 36 #[.val (.int p0)] [])) _ _ _ _
     exact J36 _ _ X eT N  
   · refine own_ifI hc5 ?_
     refine own_go (fun _ k => XS.icmpNo X.here hx rfl (hb hby d69_27) rfl (flt hc5).1 (XS.iloadN X.here hx rfl (hb hby d69_30) rfl (XS.bipush X.here hx rfl (hb hby d69_31) k))) ?_
     show own_G _ _ _ (T.setTop (mkF m 33 #[.val (.int p0)] [(.int 57), (.int p0)])) _ _ _ _
     by_cases hc6 : (57 : Int32) < p0
     · refine own_itI hc6 ?_
       refine own_go (fun _ k => XS.icmpNo X.here hx rfl (hb hby d69_33) rfl (tlt hc6).2.2.2 k) ?_
       show own_G _ _ _ (T.setTop (mkF m 36 #[.val (.int p0)] [])) _ _ _ _
       exact J36 _ _ X eT N  
     · refine own_ifI hc6 ?_
       refine own_go (fun _ k => XS.icmpYes X.here hx rfl (pc0 := 33) (pc' := 60) rfl (hb hby d69_33) rfl (flt hc6).2.2.2 (by decide) (by decide) k) ?_
       show own_G _ _ _ (T.setTop (mkF m 60 #[.val (.int p0)] [])) _ _ _ _
       exact J60 _ _ X eT N  
 have J12 : ∀ (T : State) (Lc : List Loc) (X : Stand p l e ({ frames := 0, cells := 0, slots := 0, locals := 0 } : Room) s m #[(.int p0)] below meth c T Lc 0 0) (eT : T.heap = h0) (N : Fr n0 Lc)  , own_G p.tables e below (T.setTop (mkF m 12 #[.val (.int p0)] [])) s ({ frames := 0, cells := 0, slots := 0, locals := 0 } : Room).cells ({ frames := 0, cells := 0, slots := 0, locals := 0 } : Room).slots (own_P n0 h0 (some (.int (own_isu_12 p0 )))) := by
   intro T Lc X eT N  
   show own_G _ _ _ _ _ _ _ (own_P n0 h0 (some (.int ((if p0 < (97 : Int32) then (own_isu_24 p0 ) else (if (122 : Int32) < p0 then (own_isu_24 p0 ) else (own_isu_60 p0 )))))))
   refine own_go (fun _ k => XS.iloadN X.here hx rfl (hb hby d69_12) rfl (XS.bipush X.here hx rfl (hb hby d69_13) k)) ?_
   show own_G _ _ _ (T.setTop (mkF m 15 #[.val (.int p0)] [(.int 97), (.int p0)])) _ _ _ _
   by_cases hc7 : p0 < (97 : Int32)
   · refine own_itI hc7 ?_
     refine own_go (fun _ k => XS.icmpYes X.here hx rfl (pc0 := 15) (pc' := 24) rfl (hb hby d69_15) rfl (tlt hc7).1 (by decide) (by decide) k) ?_
     show own_G _ _ _ (T.setTop (mkF m 24 #[.val (.int p0)] [])) _ _ _ _
     exact J24 _ _ X eT N  
   · refine own_ifI hc7 ?_
     refine own_go (fun _ k => XS.icmpNo X.here hx rfl (hb hby d69_15) rfl (flt hc7).1 (XS.iloadN X.here hx rfl (hb hby d69_18) rfl (XS.bipush X.here hx rfl (hb hby d69_19) k))) ?_
     show own_G _ _ _ (T.setTop (mkF m 21 #[.val (.int p0)] [(.int 122), (.int p0)])) _ _ _ _
     by_cases hc8 : (122 : Int32) < p0
     · refine own_itI hc8 ?_
       refine own_go (fun _ k => XS.icmpNo X.here hx rfl (hb hby d69_21) rfl (tlt hc8).2.2.2 k) ?_
       show own_G _ _ _ (T.setTop (mkF m 24 #[.val (.int p0)] [])) _ _ _ _
       exact J24 _ _ X eT N  
     · refine own_ifI hc8 ?_
       refine own_go (fun _ k => XS.icmpYes X.here hx rfl (pc0 := 21) (pc' := 60) rfl (hb hby d69_21) rfl (flt hc8).2.2.2 (by decide) (by decide) k) ?_
       show own_G _ _ _ (T.setTop (mkF m 60 #[.val (.int p0)] [])) _ _ _ _
       exact J60 _ _ X eT N  
 show own_G p.tables e below (s₁.setTop (entryFrame m #[(.int p0)] 1)) s ({ frames := 0, cells := 0, slots := 0, locals := 0 } : Room).cells ({ frames := 0, cells := 0, slots := 0, locals := 0 } : Room).slots (own_P n0 h0 (some (.int ((if p0 < (65 : Int32) then (own_isu_12 p0 ) else (if (90 : Int32) < p0 then (own_isu_12 p0 ) else (own_isu_60 p0 )))))))
 refine own_go (fun _ k => castTop (ef_69 m p0) k) ?_
 refine own_go (fun _ k => XS.iloadN X0.here hx rfl (hb hby d69_0) rfl (XS.bipush X0.here hx rfl (hb hby d69_1) k)) ?_
 show own_G _ _ _ (s₁.setTop (mkF m 3 #[.val (.int p0)] [(.int 65), (.int p0)])) _ _ _ _
 by_cases hc9 : p0 < (65 : Int32)
 · refine own_itI hc9 ?_
   refine own_go (fun _ k => XS.icmpYes X0.here hx rfl (pc0 := 3) (pc' := 12) rfl (hb hby d69_3) rfl (tlt hc9).1 (by decide) (by decide) k) ?_
   show own_G _ _ _ (s₁.setTop (mkF m 12 #[.val (.int p0)] [])) _ _ _ _
   exact J12 _ _ X0 e0 N0  
 · refine own_ifI hc9 ?_
   refine own_go (fun _ k => XS.icmpNo X0.here hx rfl (hb hby d69_3) rfl (flt hc9).1 (XS.iloadN X0.here hx rfl (hb hby d69_6) rfl (XS.bipush X0.here hx rfl (hb hby d69_7) k))) ?_
   show own_G _ _ _ (s₁.setTop (mkF m 9 #[.val (.int p0)] [(.int 90), (.int p0)])) _ _ _ _
   by_cases hc10 : (90 : Int32) < p0
   · refine own_itI hc10 ?_
     refine own_go (fun _ k => XS.icmpNo X0.here hx rfl (hb hby d69_9) rfl (tlt hc10).2.2.2 k) ?_
     show own_G _ _ _ (s₁.setTop (mkF m 12 #[.val (.int p0)] [])) _ _ _ _
     exact J12 _ _ X0 e0 N0  
   · refine own_ifI hc10 ?_
     refine own_go (fun _ k => XS.icmpYes X0.here hx rfl (pc0 := 9) (pc' := 60) rfl (hb hby d69_9) rfl (flt hc10).2.2.2 (by decide) (by decide) k) ?_
     show own_G _ _ _ (s₁.setTop (mkF m 60 #[.val (.int p0)] [])) _ _ _ _
     exact J60 _ _ X0 e0 N0  
theorem d47_0 : own_d B47 0 (.iload_n 0) 1 := by decide +kernel
theorem d47_1 : own_d B47 1 (.bipush 48) 2 := by decide +kernel
theorem d47_3 : own_d B47 3 (.if_icmp .lt 14) 3 := by decide +kernel
theorem d47_6 : own_d B47 6 (.iload_n 0) 1 := by decide +kernel
theorem d47_7 : own_d B47 7 (.bipush 57) 2 := by decide +kernel
theorem d47_9 : own_d B47 9 (.if_icmp .gt 8) 3 := by decide +kernel
theorem d47_12 : own_d B47 12 (.iload_n 0) 1 := by decide +kernel
theorem d47_13 : own_d B47 13 (.bipush 48) 2 := by decide +kernel
theorem d47_15 : own_d B47 15 (.isub) 1 := by decide +kernel
theorem d47_16 : own_d B47 16 (.ireturn) 1 := by decide +kernel
theorem d47_17 : own_d B47 17 (.iload_n 0) 1 := by decide +kernel
theorem d47_18 : own_d B47 18 (.bipush 97) 2 := by decide +kernel
theorem d47_20 : own_d B47 20 (.if_icmp .lt 17) 3 := by decide +kernel
theorem d47_23 : own_d B47 23 (.iload_n 0) 1 := by decide +kernel
theorem d47_24 : own_d B47 24 (.bipush 102) 2 := by decide +kernel
theorem d47_26 : own_d B47 26 (.if_icmp .gt 11) 3 := by decide +kernel
theorem d47_29 : own_d B47 29 (.iload_n 0) 1 := by decide +kernel
theorem d47_30 : own_d B47 30 (.bipush 97) 2 := by decide +kernel
theorem d47_32 : own_d B47 32 (.isub) 1 := by decide +kernel
theorem d47_33 : own_d B47 33 (.bipush 10) 2 := by decide +kernel
theorem d47_35 : own_d B47 35 (.iadd) 1 := by decide +kernel
theorem d47_36 : own_d B47 36 (.ireturn) 1 := by decide +kernel
theorem d47_37 : own_d B47 37 (.iload_n 0) 1 := by decide +kernel
theorem d47_38 : own_d B47 38 (.bipush 65) 2 := by decide +kernel
theorem d47_40 : own_d B47 40 (.if_icmp .lt 17) 3 := by decide +kernel
theorem d47_43 : own_d B47 43 (.iload_n 0) 1 := by decide +kernel
theorem d47_44 : own_d B47 44 (.bipush 70) 2 := by decide +kernel
theorem d47_46 : own_d B47 46 (.if_icmp .gt 11) 3 := by decide +kernel
theorem d47_49 : own_d B47 49 (.iload_n 0) 1 := by decide +kernel
theorem d47_50 : own_d B47 50 (.bipush 65) 2 := by decide +kernel
theorem d47_52 : own_d B47 52 (.isub) 1 := by decide +kernel
theorem d47_53 : own_d B47 53 (.bipush 10) 2 := by decide +kernel
theorem d47_55 : own_d B47 55 (.iadd) 1 := by decide +kernel
theorem d47_56 : own_d B47 56 (.ireturn) 1 := by decide +kernel
theorem d47_57 : own_d B47 57 (.iconst (-1)) 1 := by decide +kernel
theorem d47_58 : own_d B47 58 (.ireturn) 1 := by decide +kernel
def own_hex_57 (p0 : Int32)  : Int32 := (-1 : Int32)
def own_hex_37 (p0 : Int32)  : Int32 := (if p0 < (65 : Int32) then (own_hex_57 p0 ) else (if (70 : Int32) < p0 then (own_hex_57 p0 ) else ((p0 - (65 : Int32)) + (10 : Int32))))
def own_hex_17 (p0 : Int32)  : Int32 := (if p0 < (97 : Int32) then (own_hex_37 p0 ) else (if (102 : Int32) < p0 then (own_hex_37 p0 ) else ((p0 - (97 : Int32)) + (10 : Int32))))
def own_hex (p0 : Int32) : Int32 := (if p0 < (48 : Int32) then (own_hex_17 p0 ) else (if (57 : Int32) < p0 then (own_hex_17 p0 ) else (p0 - (48 : Int32))))
theorem pn_8 : plainName "com/example/amid2/amid2/PercentEncodingDecodeUnreservedPinLaw" = true := by first | (simp [plainName, overriddenIn]; done) | decide +kernel
theorem ef_47 (m : MethodId) (p0 : Int32) : entryFrame m #[(.int p0)] 1 = mkF m 0 #[.val (.int p0)] [] := by first | (simp [entryFrame, mkF, argsToLocals, Value.category]; done) | rfl
theorem rm47 (l : Launch) (Z : State) (a0 : Array Value) (hw : ∀ d ∈ tables_1, d.before a0 Z = true) (ws : List Jvm.Cond) (p0 : Int32) (h0 : Heap) (n0 : Nat) :
   MetFree l Y64 (head1 (Jvm.Cond.code Y64 method_3_code 1 (some .int) :: ws) ({ frames := 0, cells := 0, slots := 0, locals := 0 } : Room)) (fun a U => a = #[(.int p0)] ∧ Z.Warmed39 U.vm ∧ U.heap = h0) (fun _ _ _ _ _ => True) (fun _ U o U' => ∃ v L, o = .returned v ∧ (own_P n0 h0 (some (.int (own_hex p0)))) v U'.heap L ∧ FrameEnd U o U' L ({ frames := 0, cells := 0, slots := 0, locals := 0 } : Room).cells ({ frames := 0, cells := 0, slots := 0, locals := 0 } : Room).slots) := by
 refine MetFree.of_bodySF (plainFor_of_name pn_8) hisR ?_
 intro p e s m args below meth c s₁ Bd hml0 hP hK
 obtain ⟨rfl, hZ, hh⟩ := hP
 have hx := Bd.exec
 have hby := Bd.bytes
 have hml : c.maxLocals = 1 := hml0
 have hown : s.vm.findClass "com/example/amid2/amid2/PercentEncodingDecodeUnreservedPinLaw" = some m.cls := findClass_of_methodNamed Bd.named
 have hnm := (name_of_methodNamed Bd.named Bd.method).1
 have hlk : meth.locks = false := BodyLoose.notSynchronized Bd
 have X0 : Stand p l e ({ frames := 0, cells := 0, slots := 0, locals := 0 } : Room) s m #[(.int p0)] below meth c s₁ [] 0 0 := Stand.of_body Bd
 have e0 : s₁.heap = h0 := by rw [← hh, Bd.state]; rfl
 have N0 := Fr.nil n0
 have J57 : ∀ (T : State) (Lc : List Loc) (X : Stand p l e ({ frames := 0, cells := 0, slots := 0, locals := 0 } : Room) s m #[(.int p0)] below meth c T Lc 0 0) (eT : T.heap = h0) (N : Fr n0 Lc)  , own_G p.tables e below (T.setTop (mkF m 57 #[.val (.int p0)] [])) s ({ frames := 0, cells := 0, slots := 0, locals := 0 } : Room).cells ({ frames := 0, cells := 0, slots := 0, locals := 0 } : Room).slots (own_P n0 h0 (some (.int (own_hex_57 p0 )))) := by
   intro T Lc X eT N  
   show own_G _ _ _ _ _ _ _ (own_P n0 h0 (some (.int ((-1 : Int32)))))
   refine own_go (fun _ k => XS.iconst X.here hx rfl (hb hby d47_57) k) ?_
   show own_G _ _ _ (T.setTop (mkF m 58 #[.val (.int p0)] [(.int (-1))])) _ _ _ _
   exact own_endI X hx hlk Bd.returns (hb hby d47_58) (by decide) (by decide) ⟨rfl, N, eT⟩
 have J37 : ∀ (T : State) (Lc : List Loc) (X : Stand p l e ({ frames := 0, cells := 0, slots := 0, locals := 0 } : Room) s m #[(.int p0)] below meth c T Lc 0 0) (eT : T.heap = h0) (N : Fr n0 Lc)  , own_G p.tables e below (T.setTop (mkF m 37 #[.val (.int p0)] [])) s ({ frames := 0, cells := 0, slots := 0, locals := 0 } : Room).cells ({ frames := 0, cells := 0, slots := 0, locals := 0 } : Room).slots (own_P n0 h0 (some (.int (own_hex_37 p0 )))) := by
   intro T Lc X eT N  
   show own_G _ _ _ _ _ _ _ (own_P n0 h0 (some (.int ((if p0 < (65 : Int32) then (own_hex_57 p0 ) else (if (70 : Int32) < p0 then (own_hex_57 p0 ) else ((p0 - (65 : Int32)) + (10 : Int32))))))))
   refine own_go (fun _ k => XS.iloadN X.here hx rfl (hb hby d47_37) rfl (XS.bipush X.here hx rfl (hb hby d47_38) k)) ?_
   show own_G _ _ _ (T.setTop (mkF m 40 #[.val (.int p0)] [(.int 65), (.int p0)])) _ _ _ _
   by_cases hc1 : p0 < (65 : Int32)
   · refine own_itI hc1 ?_
     refine own_go (fun _ k => XS.icmpYes X.here hx rfl (pc0 := 40) (pc' := 57) rfl (hb hby d47_40) rfl (tlt hc1).1 (by decide) (by decide) k) ?_
     show own_G _ _ _ (T.setTop (mkF m 57 #[.val (.int p0)] [])) _ _ _ _
     exact J57 _ _ X eT N  
   · refine own_ifI hc1 ?_
     refine own_go (fun _ k => XS.icmpNo X.here hx rfl (hb hby d47_40) rfl (flt hc1).1 (XS.iloadN X.here hx rfl (hb hby d47_43) rfl (XS.bipush X.here hx rfl (hb hby d47_44) k))) ?_
     show own_G _ _ _ (T.setTop (mkF m 46 #[.val (.int p0)] [(.int 70), (.int p0)])) _ _ _ _
     by_cases hc2 : (70 : Int32) < p0
     · refine own_itI hc2 ?_
       refine own_go (fun _ k => XS.icmpYes X.here hx rfl (pc0 := 46) (pc' := 57) rfl (hb hby d47_46) rfl (tlt hc2).2.2.1 (by decide) (by decide) k) ?_
       show own_G _ _ _ (T.setTop (mkF m 57 #[.val (.int p0)] [])) _ _ _ _
       exact J57 _ _ X eT N  
     · refine own_ifI hc2 ?_
       refine own_go (fun _ k => XS.icmpNo X.here hx rfl (hb hby d47_46) rfl (flt hc2).2.2.1 (XS.iloadN X.here hx rfl (hb hby d47_49) rfl (XS.bipush X.here hx rfl (hb hby d47_50) (XS.isub X.here hx rfl (hb hby d47_52) rfl (XS.bipush X.here hx rfl (hb hby d47_53) (XS.iadd X.here hx rfl (hb hby d47_55) rfl k)))))) ?_
       show own_G _ _ _ (T.setTop (mkF m 56 #[.val (.int p0)] [(.int ((p0 - (65 : Int32)) + (10 : Int32)))])) _ _ _ _
       exact own_endI X hx hlk Bd.returns (hb hby d47_56) (by decide) (by decide) ⟨rfl, N, eT⟩
 have J17 : ∀ (T : State) (Lc : List Loc) (X : Stand p l e ({ frames := 0, cells := 0, slots := 0, locals := 0 } : Room) s m #[(.int p0)] below meth c T Lc 0 0) (eT : T.heap = h0) (N : Fr n0 Lc)  , own_G p.tables e below (T.setTop (mkF m 17 #[.val (.int p0)] [])) s ({ frames := 0, cells := 0, slots := 0, locals := 0 } : Room).cells ({ frames := 0, cells := 0, slots := 0, locals := 0 } : Room).slots (own_P n0 h0 (some (.int (own_hex_17 p0 )))) := by
   intro T Lc X eT N  
   show own_G _ _ _ _ _ _ _ (own_P n0 h0 (some (.int ((if p0 < (97 : Int32) then (own_hex_37 p0 ) else (if (102 : Int32) < p0 then (own_hex_37 p0 ) else ((p0 - (97 : Int32)) + (10 : Int32))))))))
   refine own_go (fun _ k => XS.iloadN X.here hx rfl (hb hby d47_17) rfl (XS.bipush X.here hx rfl (hb hby d47_18) k)) ?_
   show own_G _ _ _ (T.setTop (mkF m 20 #[.val (.int p0)] [(.int 97), (.int p0)])) _ _ _ _
   by_cases hc3 : p0 < (97 : Int32)
   · refine own_itI hc3 ?_
     refine own_go (fun _ k => XS.icmpYes X.here hx rfl (pc0 := 20) (pc' := 37) rfl (hb hby d47_20) rfl (tlt hc3).1 (by decide) (by decide) k) ?_
     show own_G _ _ _ (T.setTop (mkF m 37 #[.val (.int p0)] [])) _ _ _ _
     exact J37 _ _ X eT N  
   · refine own_ifI hc3 ?_
     refine own_go (fun _ k => XS.icmpNo X.here hx rfl (hb hby d47_20) rfl (flt hc3).1 (XS.iloadN X.here hx rfl (hb hby d47_23) rfl (XS.bipush X.here hx rfl (hb hby d47_24) k))) ?_
     show own_G _ _ _ (T.setTop (mkF m 26 #[.val (.int p0)] [(.int 102), (.int p0)])) _ _ _ _
     by_cases hc4 : (102 : Int32) < p0
     · refine own_itI hc4 ?_
       refine own_go (fun _ k => XS.icmpYes X.here hx rfl (pc0 := 26) (pc' := 37) rfl (hb hby d47_26) rfl (tlt hc4).2.2.1 (by decide) (by decide) k) ?_
       show own_G _ _ _ (T.setTop (mkF m 37 #[.val (.int p0)] [])) _ _ _ _
       exact J37 _ _ X eT N  
     · refine own_ifI hc4 ?_
       refine own_go (fun _ k => XS.icmpNo X.here hx rfl (hb hby d47_26) rfl (flt hc4).2.2.1 (XS.iloadN X.here hx rfl (hb hby d47_29) rfl (XS.bipush X.here hx rfl (hb hby d47_30) (XS.isub X.here hx rfl (hb hby d47_32) rfl (XS.bipush X.here hx rfl (hb hby d47_33) (XS.iadd X.here hx rfl (hb hby d47_35) rfl k)))))) ?_
       show own_G _ _ _ (T.setTop (mkF m 36 #[.val (.int p0)] [(.int ((p0 - (97 : Int32)) + (10 : Int32)))])) _ _ _ _
       exact own_endI X hx hlk Bd.returns (hb hby d47_36) (by decide) (by decide) ⟨rfl, N, eT⟩
 show own_G p.tables e below (s₁.setTop (entryFrame m #[(.int p0)] 1)) s ({ frames := 0, cells := 0, slots := 0, locals := 0 } : Room).cells ({ frames := 0, cells := 0, slots := 0, locals := 0 } : Room).slots (own_P n0 h0 (some (.int ((if p0 < (48 : Int32) then (own_hex_17 p0 ) else (if (57 : Int32) < p0 then (own_hex_17 p0 ) else (p0 - (48 : Int32))))))))
 refine own_go (fun _ k => castTop (ef_47 m p0) k) ?_
 refine own_go (fun _ k => XS.iloadN X0.here hx rfl (hb hby d47_0) rfl (XS.bipush X0.here hx rfl (hb hby d47_1) k)) ?_
 show own_G _ _ _ (s₁.setTop (mkF m 3 #[.val (.int p0)] [(.int 48), (.int p0)])) _ _ _ _
 by_cases hc5 : p0 < (48 : Int32)
 · refine own_itI hc5 ?_
   refine own_go (fun _ k => XS.icmpYes X0.here hx rfl (pc0 := 3) (pc' := 17) rfl (hb hby d47_3) rfl (tlt hc5).1 (by decide) (by decide) k) ?_
   show own_G _ _ _ (s₁.setTop (mkF m 17 #[.val (.int p0)] [])) _ _ _ _
   exact J17 _ _ X0 e0 N0  
 · refine own_ifI hc5 ?_
   refine own_go (fun _ k => XS.icmpNo X0.here hx rfl (hb hby d47_3) rfl (flt hc5).1 (XS.iloadN X0.here hx rfl (hb hby d47_6) rfl (XS.bipush X0.here hx rfl (hb hby d47_7) k))) ?_
   show own_G _ _ _ (s₁.setTop (mkF m 9 #[.val (.int p0)] [(.int 57), (.int p0)])) _ _ _ _
   by_cases hc6 : (57 : Int32) < p0
   · refine own_itI hc6 ?_
     refine own_go (fun _ k => XS.icmpYes X0.here hx rfl (pc0 := 9) (pc' := 17) rfl (hb hby d47_9) rfl (tlt hc6).2.2.1 (by decide) (by decide) k) ?_
     show own_G _ _ _ (s₁.setTop (mkF m 17 #[.val (.int p0)] [])) _ _ _ _
     exact J17 _ _ X0 e0 N0  
   · refine own_ifI hc6 ?_
     refine own_go (fun _ k => XS.icmpNo X0.here hx rfl (hb hby d47_9) rfl (flt hc6).2.2.1 (XS.iloadN X0.here hx rfl (hb hby d47_12) rfl (XS.bipush X0.here hx rfl (hb hby d47_13) (XS.isub X0.here hx rfl (hb hby d47_15) rfl k)))) ?_
     show own_G _ _ _ (s₁.setTop (mkF m 16 #[.val (.int p0)] [(.int (p0 - (48 : Int32)))])) _ _ _ _
     exact own_endI X0 hx hlk Bd.returns (hb hby d47_16) (by decide) (by decide) ⟨rfl, N0, e0⟩
theorem d72_0 : own_d B72 0 (.iload_n 0) 1 := by decide +kernel
theorem d72_1 : own_d B72 1 (.bipush 65) 2 := by decide +kernel
theorem d72_3 : own_d B72 3 (.if_icmp .lt 11) 3 := by decide +kernel
theorem d72_6 : own_d B72 6 (.iload_n 0) 1 := by decide +kernel
theorem d72_7 : own_d B72 7 (.bipush 90) 2 := by decide +kernel
theorem d72_9 : own_d B72 9 (.if_icmp .gt 5) 3 := by decide +kernel
theorem d72_12 : own_d B72 12 (.iconst 1) 1 := by decide +kernel
theorem d72_13 : own_d B72 13 (.ireturn) 1 := by decide +kernel
theorem d72_14 : own_d B72 14 (.iload_n 0) 1 := by decide +kernel
theorem d72_15 : own_d B72 15 (.bipush 97) 2 := by decide +kernel
theorem d72_17 : own_d B72 17 (.if_icmp .lt 11) 3 := by decide +kernel
theorem d72_20 : own_d B72 20 (.iload_n 0) 1 := by decide +kernel
theorem d72_21 : own_d B72 21 (.bipush 122) 2 := by decide +kernel
theorem d72_23 : own_d B72 23 (.if_icmp .gt 5) 3 := by decide +kernel
theorem d72_26 : own_d B72 26 (.iconst 1) 1 := by decide +kernel
theorem d72_27 : own_d B72 27 (.ireturn) 1 := by decide +kernel
theorem d72_28 : own_d B72 28 (.iload_n 0) 1 := by decide +kernel
theorem d72_29 : own_d B72 29 (.bipush 48) 2 := by decide +kernel
theorem d72_31 : own_d B72 31 (.if_icmp .lt 11) 3 := by decide +kernel
theorem d72_34 : own_d B72 34 (.iload_n 0) 1 := by decide +kernel
theorem d72_35 : own_d B72 35 (.bipush 57) 2 := by decide +kernel
theorem d72_37 : own_d B72 37 (.if_icmp .gt 5) 3 := by decide +kernel
theorem d72_40 : own_d B72 40 (.iconst 1) 1 := by decide +kernel
theorem d72_41 : own_d B72 41 (.ireturn) 1 := by decide +kernel
theorem d72_42 : own_d B72 42 (.iload_n 0) 1 := by decide +kernel
theorem d72_43 : own_d B72 43 (.bipush 45) 2 := by decide +kernel
theorem d72_45 : own_d B72 45 (.if_icmp .eq 21) 3 := by decide +kernel
theorem d72_48 : own_d B72 48 (.iload_n 0) 1 := by decide +kernel
theorem d72_49 : own_d B72 49 (.bipush 46) 2 := by decide +kernel
theorem d72_51 : own_d B72 51 (.if_icmp .eq 15) 3 := by decide +kernel
theorem d72_54 : own_d B72 54 (.iload_n 0) 1 := by decide +kernel
theorem d72_55 : own_d B72 55 (.bipush 95) 2 := by decide +kernel
theorem d72_57 : own_d B72 57 (.if_icmp .eq 9) 3 := by decide +kernel
theorem d72_60 : own_d B72 60 (.iload_n 0) 1 := by decide +kernel
theorem d72_61 : own_d B72 61 (.bipush 126) 2 := by decide +kernel
theorem d72_63 : own_d B72 63 (.if_icmp .ne 7) 3 := by decide +kernel
theorem d72_66 : own_d B72 66 (.iconst 1) 1 := by decide +kernel
theorem d72_67 : own_d B72 67 (.goto 4) 3 := by decide +kernel
theorem d72_70 : own_d B72 70 (.iconst 0) 1 := by decide +kernel
theorem d72_71 : own_d B72 71 (.ireturn) 1 := by decide +kernel
def own_unr_71 (p0 : Int32) (w0 : Int32) : Int32 := (w0 &&& 1)
def own_unr_66 (p0 : Int32)  : Int32 := (own_unr_71 p0 (1 : Int32))
def own_unr_42 (p0 : Int32)  : Int32 := (if p0 = (45 : Int32) then (own_unr_66 p0 ) else (if p0 = (46 : Int32) then (own_unr_66 p0 ) else (if p0 = (95 : Int32) then (own_unr_66 p0 ) else (if p0 = (126 : Int32) then (own_unr_66 p0 ) else (own_unr_71 p0 (0 : Int32))))))
def own_unr_28 (p0 : Int32)  : Int32 := (if p0 < (48 : Int32) then (own_unr_42 p0 ) else (if (57 : Int32) < p0 then (own_unr_42 p0 ) else (1 : Int32)))
def own_unr_14 (p0 : Int32)  : Int32 := (if p0 < (97 : Int32) then (own_unr_28 p0 ) else (if (122 : Int32) < p0 then (own_unr_28 p0 ) else (1 : Int32)))
def own_unr (p0 : Int32) : Int32 := (if p0 < (65 : Int32) then (own_unr_14 p0 ) else (if (90 : Int32) < p0 then (own_unr_14 p0 ) else (1 : Int32)))
theorem ef_72 (m : MethodId) (p0 : Int32) : entryFrame m #[(.int p0)] 1 = mkF m 0 #[.val (.int p0)] [] := by first | (simp [entryFrame, mkF, argsToLocals, Value.category]; done) | rfl
theorem rm72 (l : Launch) (Z : State) (a0 : Array Value) (hw : ∀ d ∈ tables_1, d.before a0 Z = true) (ws : List Jvm.Cond) (p0 : Int32) (h0 : Heap) (n0 : Nat) :
   MetFree l Y65 (head1 (Jvm.Cond.code Y65 method_4_code 1 (some .boolean) :: ws) ({ frames := 0, cells := 0, slots := 0, locals := 0 } : Room)) (fun a U => a = #[(.int p0)] ∧ Z.Warmed39 U.vm ∧ U.heap = h0) (fun _ _ _ _ _ => True) (fun _ U o U' => ∃ v L, o = .returned v ∧ (own_P n0 h0 (some (.int (own_unr p0)))) v U'.heap L ∧ FrameEnd U o U' L ({ frames := 0, cells := 0, slots := 0, locals := 0 } : Room).cells ({ frames := 0, cells := 0, slots := 0, locals := 0 } : Room).slots) := by
 refine MetFree.of_bodySF (plainFor_of_name pn_8) hisR ?_
 intro p e s m args below meth c s₁ Bd hml0 hP hK
 obtain ⟨rfl, hZ, hh⟩ := hP
 have hx := Bd.exec
 have hby := Bd.bytes
 have hml : c.maxLocals = 1 := hml0
 have hown : s.vm.findClass "com/example/amid2/amid2/PercentEncodingDecodeUnreservedPinLaw" = some m.cls := findClass_of_methodNamed Bd.named
 have hnm := (name_of_methodNamed Bd.named Bd.method).1
 have hlk : meth.locks = false := BodyLoose.notSynchronized Bd
 have X0 : Stand p l e ({ frames := 0, cells := 0, slots := 0, locals := 0 } : Room) s m #[(.int p0)] below meth c s₁ [] 0 0 := Stand.of_body Bd
 have e0 : s₁.heap = h0 := by rw [← hh, Bd.state]; rfl
 have N0 := Fr.nil n0
 have J71 : ∀ (T : State) (Lc : List Loc) (X : Stand p l e ({ frames := 0, cells := 0, slots := 0, locals := 0 } : Room) s m #[(.int p0)] below meth c T Lc 0 0) (eT : T.heap = h0) (N : Fr n0 Lc) (w0 : Int32) , own_G p.tables e below (T.setTop (mkF m 71 #[.val (.int p0)] [(.int w0)])) s ({ frames := 0, cells := 0, slots := 0, locals := 0 } : Room).cells ({ frames := 0, cells := 0, slots := 0, locals := 0 } : Room).slots (own_P n0 h0 (some (.int (own_unr_71 p0 w0)))) := by
   intro T Lc X eT N w0 
   show own_G _ _ _ _ _ _ _ (own_P n0 h0 (some (.int ((w0 &&& 1)))))
   exact own_endN X hx hlk (t := .boolean) Bd.returns (by simp) (hb hby d72_71) (by decide) (by decide) ⟨rfl, N, eT⟩
 have J66 : ∀ (T : State) (Lc : List Loc) (X : Stand p l e ({ frames := 0, cells := 0, slots := 0, locals := 0 } : Room) s m #[(.int p0)] below meth c T Lc 0 0) (eT : T.heap = h0) (N : Fr n0 Lc)  , own_G p.tables e below (T.setTop (mkF m 66 #[.val (.int p0)] [])) s ({ frames := 0, cells := 0, slots := 0, locals := 0 } : Room).cells ({ frames := 0, cells := 0, slots := 0, locals := 0 } : Room).slots (own_P n0 h0 (some (.int (own_unr_66 p0 )))) := by
   intro T Lc X eT N  
   show own_G _ _ _ _ _ _ _ (own_P n0 h0 (some (.int ((own_unr_71 p0 (1 : Int32))))))
   refine own_go (fun _ k => XS.iconst X.here hx rfl (hb hby d72_66) (XS.goto X.here hx rfl (pc0 := 67) (pc' := 71) rfl (hb hby d72_67) (by decide) (by decide) k)) ?_
   show own_G _ _ _ (T.setTop (mkF m 71 #[.val (.int p0)] [(.int 1)])) _ _ _ _
   exact J71 _ _ X eT N (1 : Int32) 
 have J42 : ∀ (T : State) (Lc : List Loc) (X : Stand p l e ({ frames := 0, cells := 0, slots := 0, locals := 0 } : Room) s m #[(.int p0)] below meth c T Lc 0 0) (eT : T.heap = h0) (N : Fr n0 Lc)  , own_G p.tables e below (T.setTop (mkF m 42 #[.val (.int p0)] [])) s ({ frames := 0, cells := 0, slots := 0, locals := 0 } : Room).cells ({ frames := 0, cells := 0, slots := 0, locals := 0 } : Room).slots (own_P n0 h0 (some (.int (own_unr_42 p0 )))) := by
   intro T Lc X eT N  
   show own_G _ _ _ _ _ _ _ (own_P n0 h0 (some (.int ((if p0 = (45 : Int32) then (own_unr_66 p0 ) else (if p0 = (46 : Int32) then (own_unr_66 p0 ) else (if p0 = (95 : Int32) then (own_unr_66 p0 ) else (if p0 = (126 : Int32) then (own_unr_66 p0 ) else (own_unr_71 p0 (0 : Int32))))))))))
   refine own_go (fun _ k => XS.iloadN X.here hx rfl (hb hby d72_42) rfl (XS.bipush X.here hx rfl (hb hby d72_43) k)) ?_
   show own_G _ _ _ (T.setTop (mkF m 45 #[.val (.int p0)] [(.int 45), (.int p0)])) _ _ _ _
   by_cases hc1 : p0 = (45 : Int32)
   · refine own_itI hc1 ?_
     refine own_go (fun _ k => XS.icmpYes X.here hx rfl (pc0 := 45) (pc' := 66) rfl (hb hby d72_45) rfl (teq hc1).1 (by decide) (by decide) k) ?_
     show own_G _ _ _ (T.setTop (mkF m 66 #[.val (.int p0)] [])) _ _ _ _
     exact J66 _ _ X eT N  
   · refine own_ifI hc1 ?_
     refine own_go (fun _ k => XS.icmpNo X.here hx rfl (hb hby d72_45) rfl (feq hc1).1 (XS.iloadN X.here hx rfl (hb hby d72_48) rfl (XS.bipush X.here hx rfl (hb hby d72_49) k))) ?_
     show own_G _ _ _ (T.setTop (mkF m 51 #[.val (.int p0)] [(.int 46), (.int p0)])) _ _ _ _
     by_cases hc2 : p0 = (46 : Int32)
     · refine own_itI hc2 ?_
       refine own_go (fun _ k => XS.icmpYes X.here hx rfl (pc0 := 51) (pc' := 66) rfl (hb hby d72_51) rfl (teq hc2).1 (by decide) (by decide) k) ?_
       show own_G _ _ _ (T.setTop (mkF m 66 #[.val (.int p0)] [])) _ _ _ _
       exact J66 _ _ X eT N  
     · refine own_ifI hc2 ?_
       refine own_go (fun _ k => XS.icmpNo X.here hx rfl (hb hby d72_51) rfl (feq hc2).1 (XS.iloadN X.here hx rfl (hb hby d72_54) rfl (XS.bipush X.here hx rfl (hb hby d72_55) k))) ?_
       show own_G _ _ _ (T.setTop (mkF m 57 #[.val (.int p0)] [(.int 95), (.int p0)])) _ _ _ _
       by_cases hc3 : p0 = (95 : Int32)
       · refine own_itI hc3 ?_
         refine own_go (fun _ k => XS.icmpYes X.here hx rfl (pc0 := 57) (pc' := 66) rfl (hb hby d72_57) rfl (teq hc3).1 (by decide) (by decide) k) ?_
         show own_G _ _ _ (T.setTop (mkF m 66 #[.val (.int p0)] [])) _ _ _ _
         exact J66 _ _ X eT N  
       · refine own_ifI hc3 ?_
         refine own_go (fun _ k => XS.icmpNo X.here hx rfl (hb hby d72_57) rfl (feq hc3).1 (XS.iloadN X.here hx rfl (hb hby d72_60) rfl (XS.bipush X.here hx rfl (hb hby d72_61) k))) ?_
         show own_G _ _ _ (T.setTop (mkF m 63 #[.val (.int p0)] [(.int 126), (.int p0)])) _ _ _ _
         by_cases hc4 : p0 = (126 : Int32)
         · refine own_itI hc4 ?_
           refine own_go (fun _ k => XS.icmpNo X.here hx rfl (hb hby d72_63) rfl (teq hc4).2 k) ?_
           show own_G _ _ _ (T.setTop (mkF m 66 #[.val (.int p0)] [])) _ _ _ _
           exact J66 _ _ X eT N  
         · refine own_ifI hc4 ?_
           refine own_go (fun _ k => XS.icmpYes X.here hx rfl (pc0 := 63) (pc' := 70) rfl (hb hby d72_63) rfl (feq hc4).2 (by decide) (by decide) (XS.iconst X.here hx rfl (hb hby d72_70) k)) ?_
           show own_G _ _ _ (T.setTop (mkF m 71 #[.val (.int p0)] [(.int 0)])) _ _ _ _
           exact J71 _ _ X eT N (0 : Int32) 
 have J28 : ∀ (T : State) (Lc : List Loc) (X : Stand p l e ({ frames := 0, cells := 0, slots := 0, locals := 0 } : Room) s m #[(.int p0)] below meth c T Lc 0 0) (eT : T.heap = h0) (N : Fr n0 Lc)  , own_G p.tables e below (T.setTop (mkF m 28 #[.val (.int p0)] [])) s ({ frames := 0, cells := 0, slots := 0, locals := 0 } : Room).cells ({ frames := 0, cells := 0, slots := 0, locals := 0 } : Room).slots (own_P n0 h0 (some (.int (own_unr_28 p0 )))) := by
   intro T Lc X eT N  
   show own_G _ _ _ _ _ _ _ (own_P n0 h0 (some (.int ((if p0 < (48 : Int32) then (own_unr_42 p0 ) else (if (57 : Int32) < p0 then (own_unr_42 p0 ) else (1 : Int32)))))))
   refine own_go (fun _ k => XS.iloadN X.here hx rfl (hb hby d72_28) rfl (XS.bipush X.here hx rfl (hb hby d72_29) k)) ?_
   show own_G _ _ _ (T.setTop (mkF m 31 #[.val (.int p0)] [(.int 48), (.int p0)])) _ _ _ _
   by_cases hc5 : p0 < (48 : Int32)
   · refine own_itI hc5 ?_
     refine own_go (fun _ k => XS.icmpYes X.here hx rfl (pc0 := 31) (pc' := 42) rfl (hb hby d72_31) rfl (tlt hc5).1 (by decide) (by decide) k) ?_
     show own_G _ _ _ (T.setTop (mkF m 42 #[.val (.int p0)] [])) _ _ _ _
     exact J42 _ _ X eT N  
   · refine own_ifI hc5 ?_
     refine own_go (fun _ k => XS.icmpNo X.here hx rfl (hb hby d72_31) rfl (flt hc5).1 (XS.iloadN X.here hx rfl (hb hby d72_34) rfl (XS.bipush X.here hx rfl (hb hby d72_35) k))) ?_
     show own_G _ _ _ (T.setTop (mkF m 37 #[.val (.int p0)] [(.int 57), (.int p0)])) _ _ _ _
     by_cases hc6 : (57 : Int32) < p0
     · refine own_itI hc6 ?_
       refine own_go (fun _ k => XS.icmpYes X.here hx rfl (pc0 := 37) (pc' := 42) rfl (hb hby d72_37) rfl (tlt hc6).2.2.1 (by decide) (by decide) k) ?_
       show own_G _ _ _ (T.setTop (mkF m 42 #[.val (.int p0)] [])) _ _ _ _
       exact J42 _ _ X eT N  
     · refine own_ifI hc6 ?_
       refine own_go (fun _ k => XS.icmpNo X.here hx rfl (hb hby d72_37) rfl (flt hc6).2.2.1 (XS.iconst X.here hx rfl (hb hby d72_40) k)) ?_
       show own_G _ _ _ (T.setTop (mkF m 41 #[.val (.int p0)] [(.int 1)])) _ _ _ _
       exact own_endN X hx hlk (t := .boolean) Bd.returns (by simp) (hb hby d72_41) (by decide) (by decide) ⟨rfl, N, eT⟩
 have J14 : ∀ (T : State) (Lc : List Loc) (X : Stand p l e ({ frames := 0, cells := 0, slots := 0, locals := 0 } : Room) s m #[(.int p0)] below meth c T Lc 0 0) (eT : T.heap = h0) (N : Fr n0 Lc)  , own_G p.tables e below (T.setTop (mkF m 14 #[.val (.int p0)] [])) s ({ frames := 0, cells := 0, slots := 0, locals := 0 } : Room).cells ({ frames := 0, cells := 0, slots := 0, locals := 0 } : Room).slots (own_P n0 h0 (some (.int (own_unr_14 p0 )))) := by
   intro T Lc X eT N  
   show own_G _ _ _ _ _ _ _ (own_P n0 h0 (some (.int ((if p0 < (97 : Int32) then (own_unr_28 p0 ) else (if (122 : Int32) < p0 then (own_unr_28 p0 ) else (1 : Int32)))))))
   refine own_go (fun _ k => XS.iloadN X.here hx rfl (hb hby d72_14) rfl (XS.bipush X.here hx rfl (hb hby d72_15) k)) ?_
   show own_G _ _ _ (T.setTop (mkF m 17 #[.val (.int p0)] [(.int 97), (.int p0)])) _ _ _ _
   by_cases hc7 : p0 < (97 : Int32)
   · refine own_itI hc7 ?_
     refine own_go (fun _ k => XS.icmpYes X.here hx rfl (pc0 := 17) (pc' := 28) rfl (hb hby d72_17) rfl (tlt hc7).1 (by decide) (by decide) k) ?_
     show own_G _ _ _ (T.setTop (mkF m 28 #[.val (.int p0)] [])) _ _ _ _
     exact J28 _ _ X eT N  
   · refine own_ifI hc7 ?_
     refine own_go (fun _ k => XS.icmpNo X.here hx rfl (hb hby d72_17) rfl (flt hc7).1 (XS.iloadN X.here hx rfl (hb hby d72_20) rfl (XS.bipush X.here hx rfl (hb hby d72_21) k))) ?_
     show own_G _ _ _ (T.setTop (mkF m 23 #[.val (.int p0)] [(.int 122), (.int p0)])) _ _ _ _
     by_cases hc8 : (122 : Int32) < p0
     · refine own_itI hc8 ?_
       refine own_go (fun _ k => XS.icmpYes X.here hx rfl (pc0 := 23) (pc' := 28) rfl (hb hby d72_23) rfl (tlt hc8).2.2.1 (by decide) (by decide) k) ?_
       show own_G _ _ _ (T.setTop (mkF m 28 #[.val (.int p0)] [])) _ _ _ _
       exact J28 _ _ X eT N  
     · refine own_ifI hc8 ?_
       refine own_go (fun _ k => XS.icmpNo X.here hx rfl (hb hby d72_23) rfl (flt hc8).2.2.1 (XS.iconst X.here hx rfl (hb hby d72_26) k)) ?_
       show own_G _ _ _ (T.setTop (mkF m 27 #[.val (.int p0)] [(.int 1)])) _ _ _ _
       exact own_endN X hx hlk (t := .boolean) Bd.returns (by simp) (hb hby d72_27) (by decide) (by decide) ⟨rfl, N, eT⟩
 show own_G p.tables e below (s₁.setTop (entryFrame m #[(.int p0)] 1)) s ({ frames := 0, cells := 0, slots := 0, locals := 0 } : Room).cells ({ frames := 0, cells := 0, slots := 0, locals := 0 } : Room).slots (own_P n0 h0 (some (.int ((if p0 < (65 : Int32) then (own_unr_14 p0 ) else (if (90 : Int32) < p0 then (own_unr_14 p0 ) else (1 : Int32)))))))
 refine own_go (fun _ k => castTop (ef_72 m p0) k) ?_
 refine own_go (fun _ k => XS.iloadN X0.here hx rfl (hb hby d72_0) rfl (XS.bipush X0.here hx rfl (hb hby d72_1) k)) ?_
 show own_G _ _ _ (s₁.setTop (mkF m 3 #[.val (.int p0)] [(.int 65), (.int p0)])) _ _ _ _
 by_cases hc9 : p0 < (65 : Int32)
 · refine own_itI hc9 ?_
   refine own_go (fun _ k => XS.icmpYes X0.here hx rfl (pc0 := 3) (pc' := 14) rfl (hb hby d72_3) rfl (tlt hc9).1 (by decide) (by decide) k) ?_
   show own_G _ _ _ (s₁.setTop (mkF m 14 #[.val (.int p0)] [])) _ _ _ _
   exact J14 _ _ X0 e0 N0  
 · refine own_ifI hc9 ?_
   refine own_go (fun _ k => XS.icmpNo X0.here hx rfl (hb hby d72_3) rfl (flt hc9).1 (XS.iloadN X0.here hx rfl (hb hby d72_6) rfl (XS.bipush X0.here hx rfl (hb hby d72_7) k))) ?_
   show own_G _ _ _ (s₁.setTop (mkF m 9 #[.val (.int p0)] [(.int 90), (.int p0)])) _ _ _ _
   by_cases hc10 : (90 : Int32) < p0
   · refine own_itI hc10 ?_
     refine own_go (fun _ k => XS.icmpYes X0.here hx rfl (pc0 := 9) (pc' := 14) rfl (hb hby d72_9) rfl (tlt hc10).2.2.1 (by decide) (by decide) k) ?_
     show own_G _ _ _ (s₁.setTop (mkF m 14 #[.val (.int p0)] [])) _ _ _ _
     exact J14 _ _ X0 e0 N0  
   · refine own_ifI hc10 ?_
     refine own_go (fun _ k => XS.icmpNo X0.here hx rfl (hb hby d72_9) rfl (flt hc10).2.2.1 (XS.iconst X0.here hx rfl (hb hby d72_12) k)) ?_
     show own_G _ _ _ (s₁.setTop (mkF m 13 #[.val (.int p0)] [(.int 1)])) _ _ _ _
     exact own_endN X0 hx hlk (t := .boolean) Bd.returns (by simp) (hb hby d72_13) (by decide) (by decide) ⟨rfl, N0, e0⟩
theorem own_inc2 (i : Nat) : Int32.ofNat i + 2 = Int32.ofNat (i + 2) := by rw [Int32.ofNat_add]; rfl
theorem own_inc3 (i : Nat) : Int32.ofNat i + 3 = Int32.ofNat (i + 3) := by rw [Int32.ofNat_add]; rfl
theorem own_geN {a b : Nat} (h : ¬ Int32.ofNat a < Int32.ofNat b) (ha : a ≤ 40) (hb : b ≤ 40) : b ≤ a := by
 have q := mt (own_ltI a b (by omega) (by omega)).mpr h
 omega
theorem own_i2c (c : Int32) (h : own_r c) : c.toUInt32.toUInt16.toUInt32.toInt32 = c := own_rnar c h
theorem own_hexb (x : Int32) : -1 ≤ (own_hexd x).toInt ∧ (own_hexd x).toInt ≤ 15 := by
 have h48 : (48 : Int32).toInt = 48 := rfl
 have h57 : (57 : Int32).toInt = 57 := rfl
 have h65 : (65 : Int32).toInt = 65 := rfl
 have h70 : (70 : Int32).toInt = 70 := rfl
 have h97 : (97 : Int32).toInt = 97 := rfl
 have h102 : (102 : Int32).toInt = 102 := rfl
 have h10 : (10 : Int32).toInt = 10 := rfl
 have hm : (-1 : Int32).toInt = -1 := rfl
 have e1 := c_isub x 48
 have e2 := c_isub x 65
 have e3 := c_isub x 97
 have e4 := c_iadd (x - 65) 10
 have e5 := c_iadd (x - 97) 10
 have r1 := rng32 (x - 48)
 have r2 := rng32 (x - 65)
 have r3 := rng32 (x - 97)
 have r4 := rng32 (x - 65 + 10)
 have r5 := rng32 (x - 97 + 10)
 simp only [own_hexd, own_hexd_17, own_hexd_37, own_hexd_57, Int32.lt_iff_toInt_lt]
 repeat' split
 all_goals omega
theorem own_hh (x : Int32) : own_hexd x = own_hex x := by
 have h48 : (48 : Int32).toInt = 48 := rfl
 have h57 : (57 : Int32).toInt = 57 := rfl
 have h65 : (65 : Int32).toInt = 65 := rfl
 have h70 : (70 : Int32).toInt = 70 := rfl
 have h97 : (97 : Int32).toInt = 97 := rfl
 have h102 : (102 : Int32).toInt = 102 := rfl
 simp only [own_hexd, own_hexd_17, own_hexd_37, own_hexd_57, own_hex, own_hex_17, own_hex_37, own_hex_57, Int32.lt_iff_toInt_lt]
 repeat' split
 all_goals first | rfl | omega
def own_oct (cs : List Int32) (j : Nat) : Int32 := if cs.length < j + 2 then -1 else if own_hexd (cs.getD j 0) < 0 then -1 else if own_hexd (cs.getD (j + 1) 0) < 0 then -1 else own_hexd (cs.getD j 0) * 16 + own_hexd (cs.getD (j + 1) 0)
theorem own_hv16 (a b : Int32) (ha : 0 ≤ a.toInt ∧ a.toInt ≤ 15) (hb : 0 ≤ b.toInt ∧ b.toInt ≤ 15) : 0 ≤ (a * 16 + b).toInt ∧ (a * 16 + b).toInt ≤ 255 := by
 have h16 : (16 : Int32).toInt = 16 := rfl
 have e1 := c_imul a 16
 have e2 := c_iadd (a * 16) b
 have r1 := rng32 (a * 16)
 have r2 := rng32 (a * 16 + b)
 rw [h16] at e1
 omega
theorem own_nneg {x : Int32} (h : ¬ x < 0) : 0 ≤ x.toInt := by
 rw [Int32.lt_iff_toInt_lt] at h
 have : (0 : Int32).toInt = 0 := rfl
 omega
theorem own_oct8 (cs : List Int32) (j : Nat) (h : ¬ own_oct cs j < 0) : 0 ≤ (own_oct cs j).toInt ∧ (own_oct cs j).toInt ≤ 255 := by
 unfold own_oct at h ⊢
 split at h
 · exact absurd (by decide) h
 · split at h
   · exact absurd (by decide) h
   · split at h
     · exact absurd (by decide) h
     · rename_i h1 h2 h3
       rw [if_neg h1, if_neg h2, if_neg h3]
       exact own_hv16 _ _ ⟨own_nneg h2, (own_hexb _).2⟩ ⟨own_nneg h3, (own_hexb _).2⟩
theorem own_octl {cs : List Int32} {j : Nat} (h : ¬ own_oct cs j < 0) : j + 2 ≤ cs.length := by
 unfold own_oct at h
 split at h
 · exact absurd (by decide) h
 · omega
theorem own_r8 {x : Int32} (h : 0 ≤ x.toInt ∧ x.toInt ≤ 255) : own_r x := by
 unfold own_r
 rw [Int32.lt_iff_toInt_lt, Int32.lt_iff_toInt_lt]
 have h0 : (0 : Int32).toInt = 0 := rfl
 have h1 : (65535 : Int32).toInt = 65535 := rfl
 omega
theorem own_octr {cs : List Int32} {j : Nat} (h : ¬ own_oct cs j < 0) : own_r (own_oct cs j) := own_r8 (own_oct8 cs j h)
def own_tp (cs : List Int32) (i : Nat) : Bool := decide (cs.getD i 0 = 37) && (decide (¬ own_oct cs (i + 1) < 0) && decide (¬ own_isu (own_oct cs (i + 1)) = 0))
theorem own_trf1 {cs : List Int32} {i : Nat} (h : ¬ cs.getD i 0 = 37) : own_tp cs i = false := by unfold own_tp; rw [decide_eq_false h]; rfl
theorem own_trf2 {cs : List Int32} {i : Nat} (h : own_oct cs (i + 1) < 0) : own_tp cs i = false := by simp [own_tp, h]
theorem own_trf3 {cs : List Int32} {i : Nat} (h : own_isu (own_oct cs (i + 1)) = 0) : own_tp cs i = false := by simp [own_tp, h]
theorem own_trt {cs : List Int32} {i : Nat} (h : cs.getD i 0 = 37) (h2 : ¬ own_oct cs (i + 1) < 0) (h3 : ¬ own_isu (own_oct cs (i + 1)) = 0) : own_tp cs i = true := by unfold own_tp; rw [decide_eq_true h, decide_eq_true h2, decide_eq_true h3]; rfl
def own_D (cs : List Int32) : Nat → Nat → List Int32
 | 0, _ => []
 | f + 1, i => if i < cs.length then (if own_tp cs i = true then own_oct cs (i + 1) :: own_D cs f (i + 3) else cs.getD i 0 :: own_D cs f (i + 1)) else []
def own_DL (cs : List Int32) : List Int32 := own_D cs (cs.length + 1) 0
theorem own_Dx (cs : List Int32) (f i : Nat) (h : ¬ i < cs.length) : own_D cs f i = [] := by
 cases f with
 | zero => rfl
 | succ f => rw [own_D, if_neg h]
theorem own_D1 (cs : List Int32) (f i : Nat) (h : i < cs.length) (ht : own_tp cs i = false) : own_D cs (f + 1) i = cs.getD i 0 :: own_D cs f (i + 1) := by rw [own_D, if_pos h, if_neg (by rw [ht]; decide)]
theorem own_D3 (cs : List Int32) (f i : Nat) (h : i < cs.length) (ht : own_tp cs i = true) : own_D cs (f + 1) i = own_oct cs (i + 1) :: own_D cs f (i + 3) := by rw [own_D, if_pos h, if_pos ht]
theorem own_Df (cs : List Int32) : ∀ (f g i : Nat), cs.length < i + f → cs.length < i + g → own_D cs f i = own_D cs g i := by
 intro f
 induction f with
 | zero => intro g i h1 _; rw [own_Dx cs 0 i (by omega), own_Dx cs g i (by omega)]
 | succ f ih =>
   intro g i h1 h2
   by_cases hi : i < cs.length
   · cases g with
     | zero => exact absurd h2 (by omega)
     | succ g =>
       by_cases ht : own_tp cs i = true
       · rw [own_D3 cs f i hi ht, own_D3 cs g i hi ht, ih g (i + 3) (by omega) (by omega)]
       · have hf : own_tp cs i = false := by simpa using ht
         rw [own_D1 cs f i hi hf, own_D1 cs g i hi hf, ih g (i + 1) (by omega) (by omega)]
   · rw [own_Dx cs _ i hi, own_Dx cs g i hi]
theorem own_hv1 {cs ds : List Int32} {i : Nat} (hv : ∀ gg, cs.length < i + gg → ds ++ own_D cs gg i = own_DL cs) (hi : i < cs.length) (ht : own_tp cs i = false) : ∀ gg, cs.length < i + 1 + gg → (ds ++ [cs.getD i 0]) ++ own_D cs gg (i + 1) = own_DL cs := fun gg hg => by
 have q := hv (gg + 1) (by omega)
 rw [own_D1 cs gg i hi ht] at q
 rw [List.append_assoc]; exact q
theorem own_hv3 {cs ds : List Int32} {i : Nat} (hv : ∀ gg, cs.length < i + gg → ds ++ own_D cs gg i = own_DL cs) (hi : i < cs.length) (ht : own_tp cs i = true) : ∀ gg, cs.length < i + 3 + gg → (ds ++ [own_oct cs (i + 1)]) ++ own_D cs gg (i + 3) = own_DL cs := fun gg hg => by
 have q := hv (gg + 2 + 1) (by omega)
 rw [own_D3 cs (gg + 2) i hi ht, own_Df cs (gg + 2) gg (i + 3) (by omega) hg] at q
 rw [List.append_assoc]; exact q
theorem own_hvx {cs ds : List Int32} {i : Nat} (hv : ∀ gg, cs.length < i + gg → ds ++ own_D cs gg i = own_DL cs) (hi : ¬ i < cs.length) : ds = own_DL cs := by
 have q := hv (cs.length + 1) (by omega)
 rw [own_Dx cs _ i hi, List.append_nil] at q
 exact q
theorem own_hv0 {cs : List Int32} : ∀ (j : Nat), j ≤ cs.length → (∀ k, k < j → cs.getD k 0 ≠ 37) → ∀ gg, cs.length < j + gg → cs.take j ++ own_D cs gg j = own_DL cs := by
 intro j
 induction j with
 | zero => intro _ _ gg hg; rw [List.take_zero, List.nil_append]; exact own_Df cs gg (cs.length + 1) 0 hg (by omega)
 | succ j ih =>
   intro hj hp gg hg
   have q := ih (by omega) (fun k hk => hp k (by omega))
   have r := own_hv1 q (by omega) (own_trf1 (hp j (by omega))) gg hg
   rw [own_tks cs j (by omega)] at r
   exact r
theorem own_DLno (cs : List Int32) (h : ∀ k, k < cs.length → cs.getD k 0 ≠ 37) : own_DL cs = cs := by
 have q := own_hv0 (cs := cs) cs.length (Nat.le_refl _) h 1 (by omega)
 rw [own_Dx cs 1 cs.length (by omega), List.append_nil, List.take_length] at q
 exact q.symm
theorem own_vne {t va va2 N : Nat} (h : t ≠ va) (hl : t < N) (vv : va2 = va ∨ N ≤ va2) : t ≠ va2 := by omega
theorem own_vge {a va va2 N : Nat} (h : a ≤ va) (hn : a ≤ N) (vv : va2 = va ∨ N ≤ va2) : a ≤ va2 := by omega
/-! the law's own reckoning -/
def own_dv (xs : List Int32) (n j : Nat) : Int32 := if n < j + 3 then -1 else if xs.getD j 0 = 37 then (if own_hex (xs.getD (j + 1) 0) < 0 then -1 else if own_hex (xs.getD (j + 2) 0) < 0 then -1 else if own_unr (own_hex (xs.getD (j + 1) 0) * 16 + own_hex (xs.getD (j + 2) 0)) = 0 then -1 else own_hex (xs.getD (j + 1) 0) * 16 + own_hex (xs.getD (j + 2) 0)) else -1
def own_dcx (xs : List Int32) (n : Nat) (x : Int32) : Int32 := if x < 0 then -1 else own_dv xs n x.toNatClampNeg
def own_em (xs : List Int32) (n i : Nat) (es : List Int32) : List Int32 := if n ≤ i then es else if own_dcx xs n (Int32.ofNat i - 1) < 0 then (if own_dcx xs n (Int32.ofNat i - 2) < 0 then es ++ [if own_dcx xs n (Int32.ofNat i) < 0 then xs.getD i 0 else own_dcx xs n (Int32.ofNat i)] else es) else es
theorem own_em_len {xs : List Int32} {n i : Nat} {es : List Int32} (h : es.length ≤ i) : (own_em xs n i es).length ≤ i + 1 := by
 unfold own_em
 repeat' split
 all_goals first | omega | (rw [own_al]; omega)
theorem own_x4 {x : Int32} (h : ¬ x < 0) (h4 : x.toInt ≤ 4) : ∃ j : Nat, j ≤ 4 ∧ x = Int32.ofNat j := by
 have q := own_nneg h
 refine ⟨x.toInt.toNat, by omega, ?_⟩
 apply Int32.toInt_inj.mp
 rw [own_ix _ (by omega)]
 omega
theorem own_s4 (i : Nat) (h : i ≤ 4) : (Int32.ofNat i).toInt ≤ 4 ∧ (Int32.ofNat i - 1).toInt ≤ 4 ∧ (Int32.ofNat i - 2).toInt ≤ 4 := (by decide +kernel : ∀ k : Fin 5, (Int32.ofNat k.val).toInt ≤ 4 ∧ (Int32.ofNat k.val - 1).toInt ≤ 4 ∧ (Int32.ofNat k.val - 2).toInt ≤ 4) ⟨i, by omega⟩
theorem own_dv8 (xs : List Int32) (n j : Nat) (h : ¬ own_dv xs n j < 0) : 0 ≤ (own_dv xs n j).toInt ∧ (own_dv xs n j).toInt ≤ 255 := by
 unfold own_dv at h ⊢
 split at h
 · exact absurd (by decide) h
 · split at h
   · split at h
     · exact absurd (by decide) h
     · split at h
       · exact absurd (by decide) h
       · split at h
         · exact absurd (by decide) h
         · rename_i h1 h2 h3 h4 h5
           rw [if_neg h1, if_pos h2, if_neg h3, if_neg h4, if_neg h5]
           rw [← own_hh, ← own_hh]
           rw [← own_hh] at h3 h4
           exact own_hv16 _ _ ⟨own_nneg h3, (own_hexb _).2⟩ ⟨own_nneg h4, (own_hexb _).2⟩
   · exact absurd (by decide) h
theorem own_dcr {xs : List Int32} {n : Nat} {x : Int32} (h : ¬ own_dcx xs n x < 0) : own_r (own_dcx xs n x) := by
 unfold own_dcx at h ⊢
 split at h
 · exact absurd (by decide) h
 · rename_i h1
   rw [if_neg h1]
   exact own_r8 (own_dv8 _ _ _ h)
def own_hexs : List Int32 := [48, 49, 50, 51, 52, 53, 54, 55, 56, 57, 97, 98, 99, 100, 101, 102, 65, 66, 67, 68, 69, 70]
theorem own_hexok : own_OK 0 own_hexs := ⟨Or.inl ⟨rfl, by decide⟩, (by decide : ∀ c ∈ own_hexs, ¬ c < 0 ∧ ¬ (65535 : Int32) < c), by decide⟩
theorem own_l1h : own_l1 own_hexs = own_hexs.map Value.int := by
 have e : own_l1 own_hexs = (own_hexs.map own_lo).map Value.int := by unfold own_l1; rw [List.map_map]; rfl
 rw [e, (by decide +kernel : own_hexs.map own_lo = own_hexs)]
theorem own_vlit {Z : State} {h : Heap} {b : Addr} {k : ClassId} (G : Arv Z h b k .byte (22 : Int32) (own_hexs.map Value.int) (.int 0)) : Arv Z h b k .byte (own_cap 0 own_hexs.length) (own_sv 0 own_hexs) (.int 0) := own_v0r rfl (by rw [own_l1h]; exact G)
theorem own_rem22 (x : Int32) : ∃ i : Nat, i < own_hexs.length ∧ ((x.toUInt32 >>> ((2 : Int32) &&& 31).toUInt32).toInt32) % (22 : Int32) = Int32.ofNat i := by
 have h1 := c_iushr x 2 2 rfl (by decide)
 obtain ⟨y, hy⟩ : ∃ y, y = (x.toUInt32 >>> ((2 : Int32) &&& 31).toUInt32).toInt32 := ⟨_, rfl⟩
 rw [← hy] at h1 ⊢
 have h1' : y.toInt = (x.toInt % 4294967296) / 4 := h1
 have h2 := (c_irem y 22 22 rfl).1 (by omega)
 refine ⟨(y % 22).toInt.toNat, by show _ < 22; omega, ?_⟩
 apply Int32.toInt_inj.mp
 rw [own_ix _ (by omega)]
 omega
theorem own_n6 (x : Int32) : ∃ n : Nat, n ≤ 5 ∧ (x &&& (2147483647 : Int32)) % (6 : Int32) = Int32.ofNat n := by
 have h0 := c_and x 2147483647 (by decide)
 obtain ⟨y, hy⟩ : ∃ y, y = x &&& (2147483647 : Int32) := ⟨_, rfl⟩
 rw [← hy] at h0 ⊢
 have h2 := (c_irem y 6 6 rfl).1 h0.1
 refine ⟨(y % 6).toInt.toNat, by omega, ?_⟩
 apply Int32.toInt_inj.mp
 rw [own_ix _ (by omega)]
 omega
theorem own_all5 {P : Int32 → Prop} {x0 x1 x2 x3 x4 : Int32} (h0 : P x0) (h1 : P x1) (h2 : P x2) (h3 : P x3) (h4 : P x4) : ∀ c ∈ ([x0, x1, x2, x3, x4] : List Int32), P c := fun c hc => by
 simp only [List.mem_cons, List.not_mem_nil, or_false] at hc
 rcases hc with rfl | rfl | rfl | rfl | rfl <;> assumption
theorem own_tk5 (xs : List Int32) (n : Nat) (h : n ≤ 5) : (xs.take n).length ≤ 5 := by rw [List.length_take]; omega
theorem own_n5c {n : Nat} (h : n ≤ 5) : n = 0 ∨ n = 1 ∨ n = 2 ∨ n = 3 ∨ n = 4 ∨ n = 5 := by omega

theorem d33_0 : own_d B33 0 (.iload_n 1) 1 := by decide +kernel
theorem d33_1 : own_d B33 1 (.iconst 2) 1 := by decide +kernel
theorem d33_2 : own_d B33 2 (.iadd) 1 := by decide +kernel
theorem d33_3 : own_d B33 3 (.aload_n 0) 1 := by decide +kernel
theorem d33_4 : own_d B33 4 (.invokevirtual 15) 3 := by decide +kernel
theorem d33_7 : own_d B33 7 (.if_icmp .le 5) 3 := by decide +kernel
theorem d33_10 : own_d B33 10 (.iconst (-1)) 1 := by decide +kernel
theorem d33_11 : own_d B33 11 (.ireturn) 1 := by decide +kernel
theorem d33_12 : own_d B33 12 (.aload_n 0) 1 := by decide +kernel
theorem d33_13 : own_d B33 13 (.iload_n 1) 1 := by decide +kernel
theorem d33_14 : own_d B33 14 (.invokevirtual 26) 3 := by decide +kernel
theorem d33_17 : own_d B33 17 (.invokestatic 47) 3 := by decide +kernel
theorem d33_20 : own_d B33 20 (.istore_n 2) 1 := by decide +kernel
theorem d33_21 : own_d B33 21 (.aload_n 0) 1 := by decide +kernel
theorem d33_22 : own_d B33 22 (.iload_n 1) 1 := by decide +kernel
theorem d33_23 : own_d B33 23 (.iconst 1) 1 := by decide +kernel
theorem d33_24 : own_d B33 24 (.iadd) 1 := by decide +kernel
theorem d33_25 : own_d B33 25 (.invokevirtual 26) 3 := by decide +kernel
theorem d33_28 : own_d B33 28 (.invokestatic 47) 3 := by decide +kernel
theorem d33_31 : own_d B33 31 (.istore_n 3) 1 := by decide +kernel
theorem d33_32 : own_d B33 32 (.iload_n 2) 1 := by decide +kernel
theorem d33_33 : own_d B33 33 (.ifCond .lt 7) 3 := by decide +kernel
theorem d33_36 : own_d B33 36 (.iload_n 3) 1 := by decide +kernel
theorem d33_37 : own_d B33 37 (.ifCond .ge 7) 3 := by decide +kernel
theorem d33_40 : own_d B33 40 (.iconst (-1)) 1 := by decide +kernel
theorem d33_41 : own_d B33 41 (.goto 9) 3 := by decide +kernel
theorem d33_44 : own_d B33 44 (.iload_n 2) 1 := by decide +kernel
theorem d33_45 : own_d B33 45 (.bipush 16) 2 := by decide +kernel
theorem d33_47 : own_d B33 47 (.imul) 1 := by decide +kernel
theorem d33_48 : own_d B33 48 (.iload_n 3) 1 := by decide +kernel
theorem d33_49 : own_d B33 49 (.iadd) 1 := by decide +kernel
theorem d33_50 : own_d B33 50 (.ireturn) 1 := by decide +kernel
theorem pd_34 : parseMethodDescriptor "(C)I" = some ⟨[.char], some .int⟩ := by decide +kernel
theorem ef_33 (m : MethodId) (p0 : Addr) (j : Nat) : entryFrame m #[(.ref p0), (.int (Int32.ofNat j))] 4 = mkF m 0 #[.val (.ref p0), .val (.int (Int32.ofNat j)), .unset, .unset] [] := by first | (simp [entryFrame, mkF, argsToLocals, Value.category]; done) | rfl
def Q33 (Z : State) (p0 : Addr) (j : Nat) (zc : Int32) (fm : Value) (co : Int32) (t : Addr) (kb : ClassId) (cs : List Int32) (h0 : Heap) (n0 : Nat) (v : Option Value) (h : Heap) (L : List Loc) : Prop := v = some (.int (own_oct cs j)) ∧ Fr n0 L ∧ h = h0
theorem rm33 (l : Launch) (Z : State) (a0 : Array Value) (hw : ∀ d ∈ tables_1, d.before a0 Z = true) (ws : List Jvm.Cond) (p0 : Addr) (j : Nat) (zc : Int32) (fm : Value) (co : Int32) (t : Addr) (kb : ClassId) (cs : List Int32) (h0 : Heap) (n0 : Nat) (Z0 : n0 ≤ h0.size) (P_Old : Old Z n0 h0) (HA : own_Z Z zc fm) (P_E_p0 : Exa Z h0 p0 "java/lang/String") (P_F_p0_coder : Fld Z h0 p0 "java/lang/String" "coder" "B" (.int co)) (P_F_p0_value : Fld Z h0 p0 "java/lang/String" "value" "[B" (.ref t)) (P_V_t : Arv Z h0 t kb .byte (own_cap co cs.length) (own_sv co cs) (.int 0)) (hs : own_OK co cs) (hj22 : j ≤ 22) :
   own_M l Z Y66 prog_14_method_4_code 4 (some .int) ws ({ frames := 5, cells := 0, slots := 0, locals := 66 } : Room) #[(.ref p0), (.int (Int32.ofNat j))] h0 (Q33 Z p0 j zc fm co t kb cs h0 n0) := by
 refine own_body (C := "com/example/amid2/amid2/PercentEncoding") rfl (plainFor_of_name pn_7) (fun p e s m below meth c s₁ Bd hx hby hml hown hlk hZ X0 e0 => ?_)
 have N0 := Fr.nil n0
 obtain ⟨Zcs, hcs, Zsi, hfm, Zad, Zhi, Zlo⟩ := id HA
 refine own_go (fun _ k => castTop (ef_33 m p0 j) (XS.iloadN X0.here hx rfl (hb hby d33_0) rfl (XS.iconst X0.here hx rfl (hb hby d33_1) k))) ?_
 show own_G _ _ _ (s₁.setTop (mkF m 2 #[.val (.ref p0), .val (.int (Int32.ofNat j)), .unset, .unset] [(.int 2), (.int (Int32.ofNat j))])) _ _ _ _
 refine own_go (fun _ k => XS.iadd X0.here hx rfl (hb hby d33_2) rfl k) ?_
 rw [own_inc2 j]
 show own_G _ _ _ (s₁.setTop (mkF m 3 #[.val (.ref p0), .val (.int (Int32.ofNat j)), .unset, .unset] [(.int (Int32.ofNat (j + 2)))])) _ _ _ _
 refine own_go (fun _ k => XS.aloadN X0.here hx rfl (hb hby d33_3) rfl rfl k) ?_
 obtain ⟨cq1, kq1, q1a, q1b, q1c⟩ := isOf hZ e0 P_E_p0
 obtain ⟨_, _, ⟨T1, L1, k1, n1⟩, -, X1, ⟨Lc1, hQ1, l1, y1, z1⟩, st1⟩ := X0.virtualBack hx (y := Y15) (z := Y15) hown (mvT hZ (own_h hw 107 rfl)) (mvT hZ (own_h hw 79 rfl)) (notFace_of_selects (args := #[]) (mvT hZ (own_h hw 81 rfl))) (mvT hZ (own_h hw 81 rfl)) (mvT hZ (own_h hw 80 rfl)) (by decide) (backOf (W := 1) (rm17 l Z a0 hw [] p0 zc fm co t kb cs h0 n0 Z0 P_Old HA P_E_p0 P_F_p0_coder P_F_p0_value P_V_t hs) hZ (own_h hw 82 rfl) (own_h hw 8 rfl) (by decide) (by decide)) q1a q1c (g := (mkF m 4 #[.val (.ref p0), .val (.int (Int32.ofNat j)), .unset, .unset] [(.ref p0), (.int (Int32.ofNat (j + 2)))])) rfl (by rw [hml]; rfl) (Steps.refl _) (argsL := []) (rest := [(.int (Int32.ofNat (j + 2)))]) (lenOf pd_13 rfl) rfl (own_r0 _) (hb hby d33_4) (fun _ _ => ⟨rfl, e0, (by decide : 0 + 0 ≤ _), (by decide : 0 + 0 ≤ _)⟩)
 dsimp only [Pt.U, Pt.locs, Pt.cells, Pt.slots] at X1 l1 y1 z1 st1 hQ1
 rw [l1] at X1
 subst y1 z1
 obtain ⟨rfl, Nq1, eh1⟩ := hQ1
 have N1 := Fr.app N0 Nq1
 refine own_go (fun _ k => st1.trans k) ?_
 show own_G _ _ _ (T1.setTop (mkF m 7 #[.val (.ref p0), .val (.int (Int32.ofNat j)), .unset, .unset] [(.int (Int32.ofNat cs.length)), (.int (Int32.ofNat (j + 2)))])) _ _ _ _
 by_cases hc2 : (Int32.ofNat cs.length) < (Int32.ofNat (j + 2))
 · refine own_go (fun _ k => XS.icmpNo X1.here hx rfl (hb hby d33_7) rfl (tlt hc2).2.2.2 (XS.iconst X1.here hx rfl (hb hby d33_10) k)) ?_
   show own_G _ _ _ (T1.setTop (mkF m 11 #[.val (.ref p0), .val (.int (Int32.ofNat j)), .unset, .unset] [(.int (-1))])) _ _ _ _
   exact own_endI X1 hx hlk Bd.returns (hb hby d33_11) (by decide) (by decide) (Q := (Q33 Z p0 j zc fm co t kb cs h0 n0)) (by rw [eh1]; exact ⟨(by rw [own_oct, if_pos ((own_ltI cs.length (j + 2) (by have := hs.2.2; omega) (by omega)).mp hc2)]), N1, rfl⟩)
 · refine own_go (fun _ k => XS.icmpYes X1.here hx rfl (pc0 := 7) (pc' := 12) rfl (hb hby d33_7) rfl (flt hc2).2.2.2 (by decide) (by decide) (XS.aloadN X1.here hx rfl (hb hby d33_12) rfl rfl (XS.iloadN X1.here hx rfl (hb hby d33_13) rfl k))) ?_
   obtain ⟨cq3, kq3, q3a, q3b, q3c⟩ := isOf hZ eh1 P_E_p0
   obtain ⟨_, _, ⟨T3, L3, k3, n3⟩, -, X3, ⟨Lc3, hQ3, l3, y3, z3⟩, st3⟩ := X1.virtualBack hx (y := Y16) (z := Y16) hown (mvT hZ (own_h hw 173 rfl)) (mvT hZ (own_h hw 16 rfl)) (notFace_of_selects (args := #[]) (mvT hZ (own_h hw 18 rfl))) (mvT hZ (own_h hw 18 rfl)) (mvT hZ (own_h hw 17 rfl)) (by decide) (backOf (W := 0) (rm2 l Z a0 hw [] p0 j zc fm co t kb cs h0 n0 Z0 P_Old HA P_E_p0 P_F_p0_coder P_F_p0_value P_V_t hs (by have := own_geN hc2 (by have := hs.2.2; omega) (by omega); omega)) hZ (own_h hw 19 rfl) (own_h hw 8 rfl) (by decide) (by decide)) q3a q3c (g := (mkF m 14 #[.val (.ref p0), .val (.int (Int32.ofNat j)), .unset, .unset] [(.int (Int32.ofNat j)), (.ref p0)])) rfl (by rw [hml]; rfl) (Steps.refl _) (argsL := [(.int (Int32.ofNat j))]) (rest := []) (lenOf pd_28 rfl) rfl (own_r0 _) (hb hby d33_14) (fun _ _ => ⟨rfl, eh1, (by decide : 0 + 0 ≤ _), (by decide : 0 + 0 ≤ _)⟩)
   dsimp only [Pt.U, Pt.locs, Pt.cells, Pt.slots] at X3 l3 y3 z3 st3 hQ3
   rw [l3] at X3
   subst y3 z3
   obtain ⟨rfl, Nq3, eh3⟩ := hQ3
   have N3 := Fr.app N1 Nq3
   refine own_go (fun _ k => st3.trans k) ?_
   obtain ⟨_, _, ⟨T4, L4, k4, n4⟩, -, X4, ⟨Lc4, hQ4, l4, y4, z4⟩, st4⟩ := Jvm.LawKit.callS X3 hx (y := Y62) hown (mvT hZ (own_h hw 177 rfl)) (mvT hZ (own_h hw 178 rfl)) (mvT hZ (own_h hw 66 rfl)) (mvT hZ (own_h hw 179 rfl)) (by decide) (backOf (W := 0) (rm34 l Z a0 hw [] (cs.getD j 0) h0 n0) hZ (own_h hw 179 rfl) (own_h hw 66 rfl) (by decide) (by decide)) (g := (mkF m 17 #[.val (.ref p0), .val (.int (Int32.ofNat j)), .unset, .unset] [(.int (cs.getD j 0))])) rfl (by rw [hml]; rfl) (argsL := [(.int (cs.getD j 0))]) (rest := []) (lenOf pd_34 rfl) rfl (own_r0 _) (hb hby d33_17) (fun _ _ => ⟨rfl, eh3, (by decide : 0 + 0 ≤ _), (by decide : 0 + 0 ≤ _)⟩)
   dsimp only [Pt.U, Pt.locs, Pt.cells, Pt.slots] at X4 l4 y4 z4 st4 hQ4
   rw [l4] at X4
   subst y4 z4
   obtain ⟨rfl, Nq4, eh4⟩ := hQ4
   have N4 := Fr.app N3 Nq4
   refine own_go (fun _ k => st4 _ (XS.istoreN X4.here hx rfl (hb hby d33_20) rfl (l' := #[.val (.ref p0), .val (.int (Int32.ofNat j)), .val (.int (own_hexd (cs.getD j 0))), .unset]) rfl (XS.aloadN X4.here hx rfl (hb hby d33_21) rfl rfl (XS.iloadN X4.here hx rfl (hb hby d33_22) rfl (XS.iconst X4.here hx rfl (hb hby d33_23) k))))) ?_
   show own_G _ _ _ (T4.setTop (mkF m 24 #[.val (.ref p0), .val (.int (Int32.ofNat j)), .val (.int (own_hexd (cs.getD j 0))), .unset] [(.int 1), (.int (Int32.ofNat j)), (.ref p0)])) _ _ _ _
   refine own_go (fun _ k => XS.iadd X4.here hx rfl (hb hby d33_24) rfl k) ?_
   rw [own_inc j]
   show own_G _ _ _ (T4.setTop (mkF m 25 #[.val (.ref p0), .val (.int (Int32.ofNat j)), .val (.int (own_hexd (cs.getD j 0))), .unset] [(.int (Int32.ofNat (j + 1))), (.ref p0)])) _ _ _ _
   obtain ⟨cq5, kq5, q5a, q5b, q5c⟩ := isOf hZ eh4 P_E_p0
   obtain ⟨_, _, ⟨T5, L5, k5, n5⟩, -, X5, ⟨Lc5, hQ5, l5, y5, z5⟩, st5⟩ := X4.virtualBack hx (y := Y16) (z := Y16) hown (mvT hZ (own_h hw 173 rfl)) (mvT hZ (own_h hw 16 rfl)) (notFace_of_selects (args := #[]) (mvT hZ (own_h hw 18 rfl))) (mvT hZ (own_h hw 18 rfl)) (mvT hZ (own_h hw 17 rfl)) (by decide) (backOf (W := 0) (rm2 l Z a0 hw [] p0 (j + 1) zc fm co t kb cs h0 n0 Z0 P_Old HA P_E_p0 P_F_p0_coder P_F_p0_value P_V_t hs (by have := own_geN hc2 (by have := hs.2.2; omega) (by omega); omega)) hZ (own_h hw 19 rfl) (own_h hw 8 rfl) (by decide) (by decide)) q5a q5c (g := (mkF m 25 #[.val (.ref p0), .val (.int (Int32.ofNat j)), .val (.int (own_hexd (cs.getD j 0))), .unset] [(.int (Int32.ofNat (j + 1))), (.ref p0)])) rfl (by rw [hml]; rfl) (Steps.refl _) (argsL := [(.int (Int32.ofNat (j + 1)))]) (rest := []) (lenOf pd_28 rfl) rfl (own_r0 _) (hb hby d33_25) (fun _ _ => ⟨rfl, eh4, (by decide : 0 + 0 ≤ _), (by decide : 0 + 0 ≤ _)⟩)
   dsimp only [Pt.U, Pt.locs, Pt.cells, Pt.slots] at X5 l5 y5 z5 st5 hQ5
   rw [l5] at X5
   subst y5 z5
   obtain ⟨rfl, Nq5, eh5⟩ := hQ5
   have N5 := Fr.app N4 Nq5
   refine own_go (fun _ k => st5.trans k) ?_
   obtain ⟨_, _, ⟨T6, L6, k6, n6⟩, -, X6, ⟨Lc6, hQ6, l6, y6, z6⟩, st6⟩ := Jvm.LawKit.callS X5 hx (y := Y62) hown (mvT hZ (own_h hw 177 rfl)) (mvT hZ (own_h hw 178 rfl)) (mvT hZ (own_h hw 66 rfl)) (mvT hZ (own_h hw 179 rfl)) (by decide) (backOf (W := 0) (rm34 l Z a0 hw [] (cs.getD (j + 1) 0) h0 n0) hZ (own_h hw 179 rfl) (own_h hw 66 rfl) (by decide) (by decide)) (g := (mkF m 28 #[.val (.ref p0), .val (.int (Int32.ofNat j)), .val (.int (own_hexd (cs.getD j 0))), .unset] [(.int (cs.getD (j + 1) 0))])) rfl (by rw [hml]; rfl) (argsL := [(.int (cs.getD (j + 1) 0))]) (rest := []) (lenOf pd_34 rfl) rfl (own_r0 _) (hb hby d33_28) (fun _ _ => ⟨rfl, eh5, (by decide : 0 + 0 ≤ _), (by decide : 0 + 0 ≤ _)⟩)
   dsimp only [Pt.U, Pt.locs, Pt.cells, Pt.slots] at X6 l6 y6 z6 st6 hQ6
   rw [l6] at X6
   subst y6 z6
   obtain ⟨rfl, Nq6, eh6⟩ := hQ6
   have N6 := Fr.app N5 Nq6
   refine own_go (fun _ k => st6 _ (XS.istoreN X6.here hx rfl (hb hby d33_31) rfl (l' := #[.val (.ref p0), .val (.int (Int32.ofNat j)), .val (.int (own_hexd (cs.getD j 0))), .val (.int (own_hexd (cs.getD (j + 1) 0)))]) rfl (XS.iloadN X6.here hx rfl (hb hby d33_32) rfl k))) ?_
   show own_G _ _ _ (T6.setTop (mkF m 33 #[.val (.ref p0), .val (.int (Int32.ofNat j)), .val (.int (own_hexd (cs.getD j 0))), .val (.int (own_hexd (cs.getD (j + 1) 0)))] [(.int (own_hexd (cs.getD j 0)))])) _ _ _ _
   by_cases hc7 : (own_hexd (cs.getD j 0)) < (0 : Int32)
   · refine own_go (fun _ k => XS.ifYes X6.here hx rfl (pc0 := 33) (pc' := 40) rfl (hb hby d33_33) rfl ((if0 _ _).trans (tlt hc7).1) (by decide) (by decide) (XS.iconst X6.here hx rfl (hb hby d33_40) (XS.goto X6.here hx rfl (pc0 := 41) (pc' := 50) rfl (hb hby d33_41) (by decide) (by decide) k))) ?_
     show own_G _ _ _ (T6.setTop (mkF m 50 #[.val (.ref p0), .val (.int (Int32.ofNat j)), .val (.int (own_hexd (cs.getD j 0))), .val (.int (own_hexd (cs.getD (j + 1) 0)))] [(.int (-1))])) _ _ _ _
     exact own_endI X6 hx hlk Bd.returns (hb hby d33_50) (by decide) (by decide) (Q := (Q33 Z p0 j zc fm co t kb cs h0 n0)) (by rw [eh6]; exact ⟨(by rw [own_oct, if_neg (fun q => hc2 ((own_ltI cs.length (j + 2) (by have := hs.2.2; omega) (by omega)).mpr q)), if_pos hc7]), N6, rfl⟩)
   · refine own_go (fun _ k => XS.ifNo X6.here hx rfl (hb hby d33_33) rfl ((if0 _ _).trans (flt hc7).1) (XS.iloadN X6.here hx rfl (hb hby d33_36) rfl k)) ?_
     show own_G _ _ _ (T6.setTop (mkF m 37 #[.val (.ref p0), .val (.int (Int32.ofNat j)), .val (.int (own_hexd (cs.getD j 0))), .val (.int (own_hexd (cs.getD (j + 1) 0)))] [(.int (own_hexd (cs.getD (j + 1) 0)))])) _ _ _ _
     by_cases hc8 : (own_hexd (cs.getD (j + 1) 0)) < (0 : Int32)
     · refine own_go (fun _ k => XS.ifNo X6.here hx rfl (hb hby d33_37) rfl ((if0 _ _).trans (tlt hc8).2.1) (XS.iconst X6.here hx rfl (hb hby d33_40) (XS.goto X6.here hx rfl (pc0 := 41) (pc' := 50) rfl (hb hby d33_41) (by decide) (by decide) k))) ?_
       show own_G _ _ _ (T6.setTop (mkF m 50 #[.val (.ref p0), .val (.int (Int32.ofNat j)), .val (.int (own_hexd (cs.getD j 0))), .val (.int (own_hexd (cs.getD (j + 1) 0)))] [(.int (-1))])) _ _ _ _
       exact own_endI X6 hx hlk Bd.returns (hb hby d33_50) (by decide) (by decide) (Q := (Q33 Z p0 j zc fm co t kb cs h0 n0)) (by rw [eh6]; exact ⟨(by rw [own_oct, if_neg (fun q => hc2 ((own_ltI cs.length (j + 2) (by have := hs.2.2; omega) (by omega)).mpr q)), if_neg hc7, if_pos hc8]), N6, rfl⟩)
     · refine own_go (fun _ k => XS.ifYes X6.here hx rfl (pc0 := 37) (pc' := 44) rfl (hb hby d33_37) rfl ((if0 _ _).trans (flt hc8).2.1) (by decide) (by decide) (XS.iloadN X6.here hx rfl (hb hby d33_44) rfl (XS.bipush X6.here hx rfl (hb hby d33_45) (XS.imul X6.here hx rfl (hb hby d33_47) rfl (XS.iloadN X6.here hx rfl (hb hby d33_48) rfl (XS.iadd X6.here hx rfl (hb hby d33_49) rfl k)))))) ?_
       show own_G _ _ _ (T6.setTop (mkF m 50 #[.val (.ref p0), .val (.int (Int32.ofNat j)), .val (.int (own_hexd (cs.getD j 0))), .val (.int (own_hexd (cs.getD (j + 1) 0)))] [(.int (((own_hexd (cs.getD j 0)) * (16 : Int32)) + (own_hexd (cs.getD (j + 1) 0))))])) _ _ _ _
       exact own_endI X6 hx hlk Bd.returns (hb hby d33_50) (by decide) (by decide) (Q := (Q33 Z p0 j zc fm co t kb cs h0 n0)) (by rw [eh6]; exact ⟨(by rw [own_oct, if_neg (fun q => hc2 ((own_ltI cs.length (j + 2) (by have := hs.2.2; omega) (by omega)).mpr q)), if_neg hc7, if_neg hc8]), N6, rfl⟩)
theorem d14_0 : own_d B14 0 (.aload_n 0) 1 := by decide +kernel
theorem d14_1 : own_d B14 1 (.bipush 37) 2 := by decide +kernel
theorem d14_3 : own_d B14 3 (.invokevirtual 7) 3 := by decide +kernel
theorem d14_6 : own_d B14 6 (.istore_n 1) 1 := by decide +kernel
theorem d14_7 : own_d B14 7 (.iload_n 1) 1 := by decide +kernel
theorem d14_8 : own_d B14 8 (.ifCond .ge 5) 3 := by decide +kernel
theorem d14_11 : own_d B14 11 (.aload_n 0) 1 := by decide +kernel
theorem d14_12 : own_d B14 12 (.areturn) 1 := by decide +kernel
theorem d14_13 : own_d B14 13 (.new 13) 3 := by decide +kernel
theorem d14_16 : own_d B14 16 (.dup) 1 := by decide +kernel
theorem d14_17 : own_d B14 17 (.aload_n 0) 1 := by decide +kernel
theorem d14_18 : own_d B14 18 (.invokevirtual 15) 3 := by decide +kernel
theorem d14_21 : own_d B14 21 (.invokespecial 19) 3 := by decide +kernel
theorem d14_24 : own_d B14 24 (.astore_n 2) 1 := by decide +kernel
theorem d14_25 : own_d B14 25 (.aload_n 2) 1 := by decide +kernel
theorem d14_26 : own_d B14 26 (.aload_n 0) 1 := by decide +kernel
theorem d14_27 : own_d B14 27 (.iconst 0) 1 := by decide +kernel
theorem d14_28 : own_d B14 28 (.iload_n 1) 1 := by decide +kernel
theorem d14_29 : own_d B14 29 (.invokevirtual 22) 3 := by decide +kernel
theorem d14_32 : own_d B14 32 (.pop) 1 := by decide +kernel
theorem d14_33 : own_d B14 33 (.iload_n 1) 1 := by decide +kernel
theorem d14_34 : own_d B14 34 (.istore_n 3) 1 := by decide +kernel
theorem d14_35 : own_d B14 35 (.iload_n 3) 1 := by decide +kernel
theorem d14_36 : own_d B14 36 (.aload_n 0) 1 := by decide +kernel
theorem d14_37 : own_d B14 37 (.invokevirtual 15) 3 := by decide +kernel
theorem d14_40 : own_d B14 40 (.if_icmp .ge 71) 3 := by decide +kernel
theorem d14_43 : own_d B14 43 (.aload_n 0) 1 := by decide +kernel
theorem d14_44 : own_d B14 44 (.iload_n 3) 1 := by decide +kernel
theorem d14_45 : own_d B14 45 (.invokevirtual 26) 3 := by decide +kernel
theorem d14_48 : own_d B14 48 (.istore 4) 2 := by decide +kernel
theorem d14_50 : own_d B14 50 (.iload 4) 2 := by decide +kernel
theorem d14_52 : own_d B14 52 (.bipush 37) 2 := by decide +kernel
theorem d14_54 : own_d B14 54 (.if_icmp .ne 13) 3 := by decide +kernel
theorem d14_57 : own_d B14 57 (.aload_n 0) 1 := by decide +kernel
theorem d14_58 : own_d B14 58 (.iload_n 3) 1 := by decide +kernel
theorem d14_59 : own_d B14 59 (.iconst 1) 1 := by decide +kernel
theorem d14_60 : own_d B14 60 (.iadd) 1 := by decide +kernel
theorem d14_61 : own_d B14 61 (.invokestatic 30) 3 := by decide +kernel
theorem d14_64 : own_d B14 64 (.goto 4) 3 := by decide +kernel
theorem d14_67 : own_d B14 67 (.iconst (-1)) 1 := by decide +kernel
theorem d14_68 : own_d B14 68 (.istore 5) 2 := by decide +kernel
theorem d14_70 : own_d B14 70 (.iload 5) 2 := by decide +kernel
theorem d14_72 : own_d B14 72 (.ifCond .lt 26) 3 := by decide +kernel
theorem d14_75 : own_d B14 75 (.iload 5) 2 := by decide +kernel
theorem d14_77 : own_d B14 77 (.i2c) 1 := by decide +kernel
theorem d14_78 : own_d B14 78 (.invokestatic 36) 3 := by decide +kernel
theorem d14_81 : own_d B14 81 (.ifCond .eq 17) 3 := by decide +kernel
theorem d14_84 : own_d B14 84 (.aload_n 2) 1 := by decide +kernel
theorem d14_85 : own_d B14 85 (.iload 5) 2 := by decide +kernel
theorem d14_87 : own_d B14 87 (.i2c) 1 := by decide +kernel
theorem d14_88 : own_d B14 88 (.invokevirtual 40) 3 := by decide +kernel
theorem d14_91 : own_d B14 91 (.pop) 1 := by decide +kernel
theorem d14_92 : own_d B14 92 (.iinc 3 3) 3 := by decide +kernel
theorem d14_95 : own_d B14 95 (.goto 13) 3 := by decide +kernel
theorem d14_98 : own_d B14 98 (.aload_n 2) 1 := by decide +kernel
theorem d14_99 : own_d B14 99 (.iload 4) 2 := by decide +kernel
theorem d14_101 : own_d B14 101 (.invokevirtual 40) 3 := by decide +kernel
theorem d14_104 : own_d B14 104 (.pop) 1 := by decide +kernel
theorem d14_105 : own_d B14 105 (.iinc 3 1) 3 := by decide +kernel
theorem d14_108 : own_d B14 108 (.goto (-73)) 3 := by decide +kernel
theorem d14_111 : own_d B14 111 (.aload_n 2) 1 := by decide +kernel
theorem d14_112 : own_d B14 112 (.invokevirtual 43) 3 := by decide +kernel
theorem d14_115 : own_d B14 115 (.areturn) 1 := by decide +kernel
theorem pd_35 : parseMethodDescriptor "(Ljava/lang/CharSequence;II)Ljava/lang/StringBuilder;" = some ⟨[(.object "java/lang/CharSequence"), .int, .int], some (.object "java/lang/StringBuilder")⟩ := by decide +kernel
theorem pd_36 : parseMethodDescriptor "(Ljava/lang/String;I)I" = some ⟨[(.object "java/lang/String"), .int], some .int⟩ := by decide +kernel
theorem pd_37 : parseMethodDescriptor "(C)Ljava/lang/StringBuilder;" = some ⟨[.char], some (.object "java/lang/StringBuilder")⟩ := by decide +kernel
theorem pd_38 : parseMethodDescriptor "()Ljava/lang/String;" = some ⟨[], some (.object "java/lang/String")⟩ := by decide +kernel
theorem ef_14 (m : MethodId) (p0 : Addr) : entryFrame m #[(.ref p0)] 6 = mkF m 0 #[.val (.ref p0), .unset, .unset, .unset, .unset, .unset] [] := by first | (simp [entryFrame, mkF, argsToLocals, Value.category]; done) | rfl
def Q14 (Z : State) (p0 : Addr) (zc : Int32) (fm : Value) (im : Value) (co : Int32) (t : Addr) (kb : ClassId) (cs : List Int32) (h0 : Heap) (n0 : Nat) (v : Option Value) (h : Heap) (L : List Loc) : Prop := ∃ (r : Addr) (tr : Addr) (kr : ClassId) (cr : Int32), v = some (.ref r) ∧ Fr n0 L ∧ Keep h0 h [] ∧ Exa Z h r "java/lang/String" ∧ Fld Z h r "java/lang/String" "coder" "B" (.int cr) ∧ Fld Z h r "java/lang/String" "value" "[B" (.ref tr) ∧ Arv Z h tr kr .byte (own_cap cr (own_DL cs).length) (own_sv cr (own_DL cs)) (.int 0) ∧ own_OK cr (own_DL cs)
theorem rm14 (l : Launch) (Z : State) (a0 : Array Value) (hw : ∀ d ∈ tables_1, d.before a0 Z = true) (ws : List Jvm.Cond) (p0 : Addr) (zc : Int32) (fm : Value) (im : Value) (co : Int32) (t : Addr) (kb : ClassId) (cs : List Int32) (h0 : Heap) (n0 : Nat) (Z0 : n0 ≤ h0.size) (P_Old : Old Z n0 h0) (HA : own_Z Z zc fm) (Zio : Sta Z Z.heap "jdk/internal/util/Preconditions" "IOOBE_FORMATTER" "Ljava/util/function/BiFunction;" im) (him : im.isRef = true) (P_E_p0 : Exa Z h0 p0 "java/lang/String") (P_F_p0_coder : Fld Z h0 p0 "java/lang/String" "coder" "B" (.int co)) (P_F_p0_value : Fld Z h0 p0 "java/lang/String" "value" "[B" (.ref t)) (P_V_t : Arv Z h0 t kb .byte (own_cap co cs.length) (own_sv co cs) (.int 0)) (hs : own_OK co cs) (hl5 : cs.length ≤ 5) :
   own_M l Z Y67 prog_14_method_3_code 6 (some (.object "java/lang/String")) ws ({ frames := 9, cells := 15, slots := 133, locals := 139 } : Room) #[(.ref p0)] h0 (Q14 Z p0 zc fm im co t kb cs h0 n0) := by
 refine own_body (C := "com/example/amid2/amid2/PercentEncoding") rfl (plainFor_of_name pn_7) (fun p e s m below meth c s₁ Bd hx hby hml hown hlk hZ X0 e0 => ?_)
 have N0 := Fr.nil n0
 obtain ⟨Zcs, hcs, Zsi, hfm, Zad, Zhi, Zlo⟩ := id HA
 have K0 : Keep h0 h0 [] := Keep.refl h0 []
 refine own_go (fun _ k => castTop (ef_14 m p0) (XS.aloadN X0.here hx rfl (hb hby d14_0) rfl rfl (XS.bipush X0.here hx rfl (hb hby d14_1) k))) ?_
 obtain ⟨cq1, kq1, q1a, q1b, q1c⟩ := isOf hZ e0 P_E_p0
 obtain ⟨_, _, ⟨T1, L1, k1, n1⟩, -, X1, ⟨Lc1, hQ1, l1, y1, z1⟩, st1⟩ := X0.virtualBack hx (y := Y27) (z := Y27) hown (mvT hZ (own_h hw 68 rfl)) (mvT hZ (own_h hw 69 rfl)) (notFace_of_selects (args := #[]) (mvT hZ (own_h hw 71 rfl))) (mvT hZ (own_h hw 71 rfl)) (mvT hZ (own_h hw 70 rfl)) (by decide) (backOf (W := 0) (rm15 l Z a0 hw [] p0 zc fm co t kb cs h0 n0 Z0 P_Old HA P_E_p0 P_F_p0_coder P_F_p0_value P_V_t hs) hZ (own_h hw 72 rfl) (own_h hw 8 rfl) (by decide) (by decide)) q1a q1c (g := (mkF m 3 #[.val (.ref p0), .unset, .unset, .unset, .unset, .unset] [(.int 37), (.ref p0)])) rfl (by rw [hml]; rfl) (Steps.refl _) (argsL := [(.int 37)]) (rest := []) (lenOf pd_14 rfl) rfl (own_r0 _) (hb hby d14_3) (fun _ _ => ⟨rfl, e0, (by decide : 0 + 0 ≤ _), (by decide : 0 + 0 ≤ _)⟩)
 dsimp only [Pt.U, Pt.locs, Pt.cells, Pt.slots] at X1 l1 y1 z1 st1 hQ1
 rw [l1] at X1
 subst y1 z1
 obtain ⟨r1, rfl, Nq1, Kq1, r1_0⟩ := hQ1
 have N1 := Fr.app N0 Nq1
 have f2 := P_Old.keep Kq1 all0
 have f3 := P_E_p0.keep Kq1
 have f4 := P_F_p0_coder.keep Kq1 nin0
 have f5 := P_F_p0_value.keep Kq1 nin0
 have f6 := P_V_t.keep Kq1 nin0
 have Zs1 := Nat.le_trans Z0 Kq1.1
 have K1_0 := K0.trans Kq1 all0
 refine own_go (fun _ k => st1.trans k) ?_
 show own_G _ _ _ (T1.setTop (mkF m 6 #[.val (.ref p0), .unset, .unset, .unset, .unset, .unset] [(.int r1)])) _ _ _ _
 rcases r1_0 with ⟨er, hno⟩ | ⟨j, er, hj, h37, hpre⟩
 · rw [er]
   show own_G _ _ _ (T1.setTop (mkF m 6 #[.val (.ref p0), .unset, .unset, .unset, .unset, .unset] [(.int (-1))])) _ _ _ _
   refine own_go (fun _ k => XS.istoreN X1.here hx rfl (hb hby d14_6) rfl (l' := #[.val (.ref p0), .val (.int (-1)), .unset, .unset, .unset, .unset]) rfl (XS.iloadN X1.here hx rfl (hb hby d14_7) rfl k)) ?_
   show own_G _ _ _ (T1.setTop (mkF m 8 #[.val (.ref p0), .val (.int (-1)), .unset, .unset, .unset, .unset] [(.int (-1))])) _ _ _ _
   have hc7 : (-1 : Int32) < (0 : Int32) := (by decide)
   refine own_go (fun _ k => XS.ifNo X1.here hx rfl (hb hby d14_8) rfl ((if0 _ _).trans (tlt hc7).2.1) (XS.aloadN X1.here hx rfl (hb hby d14_11) rfl rfl k)) ?_
   show own_G _ _ _ (T1.setTop (mkF m 12 #[.val (.ref p0), .val (.int (-1)), .unset, .unset, .unset, .unset] [(.ref p0)])) _ _ _ _
   exact own_endR X1 hx hlk Bd.returns rfl rfl rfl (hb hby d14_12) (by decide) (by decide) (Q := (Q14 Z p0 zc fm im co t kb cs h0 n0)) ⟨p0, t, kb, co, rfl, N1, K1_0, f3, f4, f5, (by rw [own_DLno cs hno]; exact f6), (by rw [own_DLno cs hno]; exact hs)⟩
 · rw [er]
   show own_G _ _ _ (T1.setTop (mkF m 6 #[.val (.ref p0), .unset, .unset, .unset, .unset, .unset] [(.int (Int32.ofNat j))])) _ _ _ _
   refine own_go (fun _ k => XS.istoreN X1.here hx rfl (hb hby d14_6) rfl (l' := #[.val (.ref p0), .val (.int (Int32.ofNat j)), .unset, .unset, .unset, .unset]) rfl (XS.iloadN X1.here hx rfl (hb hby d14_7) rfl k)) ?_
   show own_G _ _ _ (T1.setTop (mkF m 8 #[.val (.ref p0), .val (.int (Int32.ofNat j)), .unset, .unset, .unset, .unset] [(.int (Int32.ofNat j))])) _ _ _ _
   have hc8 : ¬ ((Int32.ofNat j) < (0 : Int32)) := (own_nn j (by omega))
   refine own_go (fun _ k => XS.ifYes X1.here hx rfl (pc0 := 8) (pc' := 13) rfl (hb hby d14_8) rfl ((if0 _ _).trans (flt hc8).2.1) (by decide) (by decide) k) ?_
   obtain ⟨T9, h9, X9, e9, E9, A9, D9, -, st9⟩ := newO X1 hx hZ hown (own_h hw 104 rfl) (own_h hw 105 rfl) (own_h hw 106 rfl) rfl (g := (mkF m 13 #[.val (.ref p0), .val (.int (Int32.ofNat j)), .unset, .unset, .unset, .unset] [])) rfl (hb hby d14_13) (by decide) (by decide)
   obtain ⟨b9, g9⟩ : ∃ z, z = T1.heap.size := ⟨_, rfl⟩
   rw [← g9] at A9 D9 st9
   have ne10 := Nat.ne_of_lt (Nat.lt_of_lt_of_le f3.lt (Nat.le_of_eq g9.symm))
   have ne11 := Nat.ne_of_lt (Nat.lt_of_lt_of_le f6.lt (Nat.le_of_eq g9.symm))
   have gg9 := Nat.le_trans Zs1 (Nat.le_of_eq g9.symm)
   have sz9_0 := Nat.le_trans K1_0.1 (Nat.le_of_eq g9.symm)
   have Zs9 := Nat.le_trans Zs1 E9.1
   have K9_0 := K1_0.ext E9
   have f12 := f2.ext E9
   have f13 := f3.ext E9
   have f14 := f4.ext E9
   have f15 := f5.ext E9
   have f16 := f6.ext E9
   have f17 : Exa Z h9 b9 "java/lang/StringBuilder" := A9
   have f18 : Fld Z h9 b9 "java/lang/AbstractStringBuilder" "value" "[B" .null := D9 (Or.inl (own_h hw 120 rfl)) (ty := (.array .byte)) (by decide)
   have f19 : Fld Z h9 b9 "java/lang/AbstractStringBuilder" "coder" "B" (.int 0) := D9 (Or.inl (own_h hw 122 rfl)) (ty := .byte) (by decide)
   have f20 : Fld Z h9 b9 "java/lang/AbstractStringBuilder" "count" "I" (.int 0) := D9 (Or.inl (own_h hw 146 rfl)) (ty := .int) (by decide)
   have f21 : Fld Z h9 b9 "java/lang/AbstractStringBuilder" "maybeLatin1" "Z" (.int 0) := D9 (Or.inl (own_h hw 319 rfl)) (ty := .boolean) (by decide)
   refine own_go (fun _ k => st9 _ (XS.dup X9.here hx rfl (hb hby d14_16) rfl rfl (XS.aloadN X9.here hx rfl (hb hby d14_17) rfl rfl k))) ?_
   obtain ⟨cq22, kq22, q22a, q22b, q22c⟩ := isOf hZ e9 f13
   obtain ⟨_, _, ⟨T22, L22, k22, n22⟩, -, X22, ⟨Lc22, hQ22, l22, y22, z22⟩, st22⟩ := X9.virtualBack hx (y := Y15) (z := Y15) hown (mvT hZ (own_h hw 107 rfl)) (mvT hZ (own_h hw 79 rfl)) (notFace_of_selects (args := #[]) (mvT hZ (own_h hw 81 rfl))) (mvT hZ (own_h hw 81 rfl)) (mvT hZ (own_h hw 80 rfl)) (by decide) (backOf (W := 2) (rm17 l Z a0 hw [] p0 zc fm co t kb cs h9 n0 Zs9 f12 HA f13 f14 f15 f16 hs) hZ (own_h hw 82 rfl) (own_h hw 8 rfl) (by decide) (by decide)) q22a q22c (g := (mkF m 18 #[.val (.ref p0), .val (.int (Int32.ofNat j)), .unset, .unset, .unset, .unset] [(.ref p0), (.ref b9), (.ref b9)])) rfl (by rw [hml]; rfl) (Steps.refl _) (argsL := []) (rest := [(.ref b9), (.ref b9)]) (lenOf pd_13 rfl) rfl (own_r0 _) (hb hby d14_18) (fun _ _ => ⟨rfl, e9, (by decide : 1 + 0 ≤ _), (by decide : 4 + 0 ≤ _)⟩)
   dsimp only [Pt.U, Pt.locs, Pt.cells, Pt.slots] at X22 l22 y22 z22 st22 hQ22
   rw [l22] at X22
   subst y22 z22
   obtain ⟨rfl, Nq22, eh22⟩ := hQ22
   have N22 := Fr.app N1 Nq22
   refine own_go (fun _ k => st22.trans k) ?_
   obtain ⟨_, _, ⟨T23, L23, k23, n23⟩, -, X23, ⟨Lc23, hQ23, l23, y23, z23⟩, st23⟩ := X22.specialBack hx (y := Y37) rfl hown (mvT hZ (own_h hw 108 rfl)) (mvT hZ (own_h hw 109 rfl)) (mvT hZ (own_h hw 110 rfl)) (by decide) (backOf (W := 1) (rm24 l Z a0 hw [] b9 zc fm cs.length h9 n0 Zs9 f17 f18 f19 f20 f21 gg9 f12 HA hl5) hZ (own_h hw 110 rfl) (own_h hw 106 rfl) (by decide) (by decide)) (g := (mkF m 21 #[.val (.ref p0), .val (.int (Int32.ofNat j)), .unset, .unset, .unset, .unset] [(.int (Int32.ofNat cs.length)), (.ref b9), (.ref b9)])) rfl (by rw [hml]; rfl) (Steps.refl _) (a := b9) (argsL := [(.int (Int32.ofNat cs.length))]) (rest := [(.ref b9)]) (lenOf pd_21 rfl) rfl (own_r0 _) (hb hby d14_21) (fun _ _ => ⟨rfl, eh22, (by decide : 1 + 1 ≤ _), (by decide : 4 + 5 ≤ _)⟩)
   dsimp only [Pt.U, Pt.locs, Pt.cells, Pt.slots] at X23 l23 y23 z23 st23 hQ23
   rw [l23] at X23
   subst y23 z23
   obtain ⟨va23, kv23, rfl, Nq23, Kq23, r23_0, r23_1, r23_2, r23_3, r23_4, r23_5, r23_6, r23_7⟩ := hQ23
   have N23 := Fr.app N22 Nq23
   have ne24 := Nat.ne_of_lt (Nat.lt_of_lt_of_le f13.lt r23_7)
   have ne25 := Nat.ne_of_lt (Nat.lt_of_lt_of_le f16.lt r23_7)
   have ne26 := Nat.ne_of_lt (Nat.lt_of_lt_of_le f17.lt r23_7)
   have gg_va23 := Nat.le_trans Zs9 r23_7
   have sz_va23_0 := Nat.le_trans K9_0.1 r23_7
   have f27 := f12.keep Kq23 (allS gg9 all0)
   have f28 := f13.keep Kq23
   have f29 := f14.keep Kq23 (ninS ne10 nin0)
   have f30 := f15.keep Kq23 (ninS ne10 nin0)
   have f31 := f16.keep Kq23 (ninS ne11 nin0)
   have f32 := f17.keep Kq23
   have Zs23 := Nat.le_trans Zs9 Kq23.1
   have K23_0 := K9_0.trans Kq23 (allS (Or.inr sz9_0) all0)
   refine own_go (fun _ k => st23.trans (XS.astoreN X23.here hx rfl (hb hby d14_24) rfl rfl (l' := #[.val (.ref p0), .val (.int (Int32.ofNat j)), .val (.ref b9), .unset, .unset, .unset]) rfl (XS.aloadN X23.here hx rfl (hb hby d14_25) rfl rfl (XS.aloadN X23.here hx rfl (hb hby d14_26) rfl rfl (XS.iconst X23.here hx rfl (hb hby d14_27) (XS.iloadN X23.here hx rfl (hb hby d14_28) rfl k)))))) ?_
   obtain ⟨cq33, kq33, q33a, q33b, q33c⟩ := isOf hZ rfl r23_0
   obtain ⟨_, _, ⟨T33, L33, k33, n33⟩, -, X33, ⟨Lc33, hQ33, l33, y33, z33⟩, st33⟩ := X23.virtualBack hx (y := Y55) (z := Y55) hown (mvT hZ (own_h hw 123 rfl)) (mvT hZ (own_h hw 124 rfl)) (notFace_of_selects (args := #[]) (mvT hZ (own_h hw 126 rfl))) (mvT hZ (own_h hw 126 rfl)) (mvT hZ (own_h hw 125 rfl)) (by decide) (backOf (W := 0) (rm26 l Z a0 hw [] b9 p0 im zc fm co t kb cs va23 kv23 cs.length j T23.heap n0 Zs23 Zio him f27 HA f28 f29 f30 f31 hs r23_0 r23_1 r23_2 r23_3 r23_4 r23_5 r23_6 hl5 (Nat.le_of_lt hj) (Nat.le_of_lt hj) gg9 gg_va23 ne25) hZ (own_h hw 127 rfl) (own_h hw 106 rfl) (by decide) (by decide)) q33a q33c (g := (mkF m 29 #[.val (.ref p0), .val (.int (Int32.ofNat j)), .val (.ref b9), .unset, .unset, .unset] [(.int (Int32.ofNat j)), (.int 0), (.ref p0), (.ref b9)])) rfl (by rw [hml]; rfl) (Steps.refl _) (argsL := [(.ref p0), (.int 0), (.int (Int32.ofNat j))]) (rest := []) (lenOf pd_35 rfl) rfl (own_r0 _) (hb hby d14_29) (fun _ _ => ⟨rfl, rfl, (by decide : 2 + 5 ≤ _), (by decide : 9 + 50 ≤ _)⟩)
   dsimp only [Pt.U, Pt.locs, Pt.cells, Pt.slots] at X33 l33 y33 z33 st33 hQ33
   rw [l33] at X33
   subst y33 z33
   obtain ⟨va233, kv233, bo233, rfl, Nq33, Kq33, r33_0, r33_1, r33_2, r33_3, r33_4, r33_5, r33_6, r33_7, r33_8⟩ := hQ33
   have N33 := Fr.app N23 Nq33
   have f34 := f27.keep Kq33 (allS gg9 (allS gg_va23 all0))
   have f35 := f28.keep Kq33
   have f36 := f29.keep Kq33 (ninS ne10 (ninS ne24 nin0))
   have f37 := f30.keep Kq33 (ninS ne10 (ninS ne24 nin0))
   have f38 := f31.keep Kq33 (ninS ne11 (ninS ne25 nin0))
   have f39 := r23_0.keep Kq33
   have f40 := r23_5.keep Kq33
   have Zs33 := Nat.le_trans Zs23 Kq33.1
   have K33_0 := K23_0.trans Kq33 (allS (Or.inr sz9_0) (allS (Or.inr sz_va23_0) all0))
   have u41n : t ≠ va233 := own_vne ne25 f31.lt r33_8
   have u41g : n0 ≤ va233 := own_vge gg_va23 Zs23 r33_8
   have u41s : h0.size ≤ va233 := own_vge sz_va23_0 K23_0.1 r33_8
   refine own_go (fun _ k => st33.trans (XS.pop X33.here hx rfl (hb hby d14_32) rfl rfl (XS.iloadN X33.here hx rfl (hb hby d14_33) rfl (XS.istoreN X33.here hx rfl (hb hby d14_34) rfl (l' := #[.val (.ref p0), .val (.int (Int32.ofNat j)), .val (.ref b9), .val (.int (Int32.ofNat j)), .unset, .unset]) rfl k)))) ?_
   show own_G _ _ _ (T33.setTop (mkF m 35 #[.val (.ref p0), .val (.int (Int32.ofNat j)), .val (.ref b9), .val (.int (Int32.ofNat j)), .unset, .unset] [])) _ _ _ _
   have loop : ∀ (f i : Nat) (hif : cs.length < i + f) (hil : i ≤ cs.length) (T : State) (Lc : List Loc) (hp : Heap) (cz sz : Nat) (va233 : Addr) (kv233 : ClassId) (bo233 : Int32) (ds : List Int32) (hB : own_BK bo233 ds cs.length) (hdi : ds.length ≤ i) (hv : ∀ gg, cs.length < i + gg → ds ++ own_D cs gg i = own_DL cs) (gv : n0 ≤ va233) (szv : h0.size ≤ va233) (ntv : t ≠ va233) (l4 : Slot) (l5 : Slot) (ok4 : own_ok l4) (ok5 : own_ok l5) (X : Stand p l e ({ frames := 9, cells := 15, slots := 133, locals := 139 } : Room) s m #[(.ref p0)] below meth c T Lc cz sz) (eT : T.heap = hp) (Nn : Fr n0 Lc) (Zp : n0 ≤ hp.size) (Kp : Keep h0 hp []) (hcz : cz + f * 1 + 2 ≤ 15) (hsz : sz + f * 10 + 14 ≤ 133) (J0 : Old Z n0 hp) (J1 : Exa Z hp p0 "java/lang/String") (J2 : Fld Z hp p0 "java/lang/String" "coder" "B" (.int co)) (J3 : Fld Z hp p0 "java/lang/String" "value" "[B" (.ref t)) (J4 : Arv Z hp t kb .byte (own_cap co cs.length) (own_sv co cs) (.int 0)) (J5 : Exa Z hp b9 "java/lang/StringBuilder") (J6 : Exa Z hp va23 "[B") (J7 : Fld Z hp b9 "java/lang/AbstractStringBuilder" "value" "[B" (.ref va233)) (J8 : Fld Z hp b9 "java/lang/AbstractStringBuilder" "coder" "B" (.int bo233)) (J9 : Fld Z hp b9 "java/lang/AbstractStringBuilder" "count" "I" (.int (Int32.ofNat ds.length))) (J10 : Fld Z hp b9 "java/lang/AbstractStringBuilder" "maybeLatin1" "Z" (.int 0)) (J11 : Exa Z hp va233 "[B") (J12 : Arv Z hp va233 kv233 .byte (own_cap bo233 cs.length) (own_sv bo233 ds) (.int 0)), own_G p.tables e below (T.setTop (mkF m 35 #[.val (.ref p0), .val (.int (Int32.ofNat j)), .val (.ref b9), .val (.int (Int32.ofNat i)), l4, l5] [])) s ({ frames := 9, cells := 15, slots := 133, locals := 139 } : Room).cells ({ frames := 9, cells := 15, slots := 133, locals := 139 } : Room).slots (Q14 Z p0 zc fm im co t kb cs h0 n0) := by
     intro f
     induction f with
     | zero => intro i hif hil; exact absurd hif (by omega)
     | succ f ih =>
       intro i hif hil T Lc hp cz sz va233 kv233 bo233 ds hB hdi hv gv szv ntv l4 l5 ok4 ok5 X eT Nn Zp Kp hcz hsz J0 J1 J2 J3 J4 J5 J6 J7 J8 J9 J10 J11 J12
       refine own_go (fun _ k => XS.iloadN X.here hx rfl (hb hby d14_35) rfl (XS.aloadN X.here hx rfl (hb hby d14_36) rfl rfl k)) ?_
       obtain ⟨cq42, kq42, q42a, q42b, q42c⟩ := isOf hZ eT J1
       obtain ⟨_, _, ⟨T42, L42, k42, n42⟩, -, X42, ⟨Lc42, hQ42, l42, y42, z42⟩, st42⟩ := X.virtualBack hx (y := Y15) (z := Y15) hown (mvT hZ (own_h hw 107 rfl)) (mvT hZ (own_h hw 79 rfl)) (notFace_of_selects (args := #[]) (mvT hZ (own_h hw 81 rfl))) (mvT hZ (own_h hw 81 rfl)) (mvT hZ (own_h hw 80 rfl)) (by decide) (backOf (W := 1) (rm17 l Z a0 hw [] p0 zc fm co t kb cs hp n0 Zp J0 HA J1 J2 J3 J4 hs) hZ (own_h hw 82 rfl) (own_h hw 8 rfl) (by decide) (by decide)) q42a q42c (g := (mkF m 37 #[.val (.ref p0), .val (.int (Int32.ofNat j)), .val (.ref b9), .val (.int (Int32.ofNat i)), l4, l5] [(.ref p0), (.int (Int32.ofNat i))])) rfl (by rw [hml]; rfl) (Steps.refl _) (argsL := []) (rest := [(.int (Int32.ofNat i))]) (lenOf pd_13 rfl) rfl (own_r0 _) (hb hby d14_37) (fun _ _ => ⟨rfl, eT, (by first | decide | omega | (dsimp only [Pt.cells, Pt.slots]; omega)), (by first | decide | omega | (dsimp only [Pt.cells, Pt.slots]; omega))⟩)
       dsimp only [Pt.U, Pt.locs, Pt.cells, Pt.slots] at X42 l42 y42 z42 st42 hQ42
       rw [l42] at X42
       subst y42 z42
       obtain ⟨rfl, Nq42, eh42⟩ := hQ42
       have N42 := Fr.app Nn Nq42
       refine own_go (fun _ k => st42.trans k) ?_
       show own_G _ _ _ (T42.setTop (mkF m 40 #[.val (.ref p0), .val (.int (Int32.ofNat j)), .val (.ref b9), .val (.int (Int32.ofNat i)), l4, l5] [(.int (Int32.ofNat cs.length)), (.int (Int32.ofNat i))])) _ _ _ _
       by_cases hc43 : (Int32.ofNat i) < (Int32.ofNat cs.length)
       · refine own_go (fun _ k => XS.icmpNo X42.here hx rfl (hb hby d14_40) rfl (tlt hc43).2.1 k) ?_
         show own_G _ _ _ (T42.setTop (mkF m 43 #[.val (.ref p0), .val (.int (Int32.ofNat j)), .val (.ref b9), .val (.int (Int32.ofNat i)), l4, l5] [])) _ _ _ _
         have hi : i < cs.length := (own_ltI i cs.length (by omega) (by omega)).mp hc43
         · skip
           refine own_go (fun _ k => XS.aloadN X42.here hx rfl (hb hby d14_43) rfl rfl (XS.iloadN X42.here hx rfl (hb hby d14_44) rfl k)) ?_
           obtain ⟨cq44, kq44, q44a, q44b, q44c⟩ := isOf hZ eh42 J1
           obtain ⟨_, _, ⟨T44, L44, k44, n44⟩, -, X44, ⟨Lc44, hQ44, l44, y44, z44⟩, st44⟩ := X42.virtualBack hx (y := Y16) (z := Y16) hown (mvT hZ (own_h hw 173 rfl)) (mvT hZ (own_h hw 16 rfl)) (notFace_of_selects (args := #[]) (mvT hZ (own_h hw 18 rfl))) (mvT hZ (own_h hw 18 rfl)) (mvT hZ (own_h hw 17 rfl)) (by decide) (backOf (W := 0) (rm2 l Z a0 hw [] p0 i zc fm co t kb cs hp n0 Zp J0 HA J1 J2 J3 J4 hs hi) hZ (own_h hw 19 rfl) (own_h hw 8 rfl) (by decide) (by decide)) q44a q44c (g := (mkF m 45 #[.val (.ref p0), .val (.int (Int32.ofNat j)), .val (.ref b9), .val (.int (Int32.ofNat i)), l4, l5] [(.int (Int32.ofNat i)), (.ref p0)])) rfl (by rw [hml]; rfl) (Steps.refl _) (argsL := [(.int (Int32.ofNat i))]) (rest := []) (lenOf pd_28 rfl) rfl (own_r0 _) (hb hby d14_45) (fun _ _ => ⟨rfl, eh42, (by first | decide | omega | (dsimp only [Pt.cells, Pt.slots]; omega)), (by first | decide | omega | (dsimp only [Pt.cells, Pt.slots]; omega))⟩)
           dsimp only [Pt.U, Pt.locs, Pt.cells, Pt.slots] at X44 l44 y44 z44 st44 hQ44
           rw [l44] at X44
           subst y44 z44
           obtain ⟨rfl, Nq44, eh44⟩ := hQ44
           have N44 := Fr.app N42 Nq44
           refine own_go (fun _ k => st44.trans (XS.istore X44.here hx rfl (hb hby d14_48) rfl (l' := #[.val (.ref p0), .val (.int (Int32.ofNat j)), .val (.ref b9), .val (.int (Int32.ofNat i)), .val (.int (cs.getD i 0)), l5]) (by rcases ok4 with h_ | ⟨z_, h_⟩ | ⟨a_, h_⟩ <;> rw [h_] <;> rfl) (XS.iload X44.here hx rfl (hb hby d14_50) rfl (XS.bipush X44.here hx rfl (hb hby d14_52) k)))) ?_
           show own_G _ _ _ (T44.setTop (mkF m 54 #[.val (.ref p0), .val (.int (Int32.ofNat j)), .val (.ref b9), .val (.int (Int32.ofNat i)), .val (.int (cs.getD i 0)), l5] [(.int 37), (.int (cs.getD i 0))])) _ _ _ _
           by_cases hc45 : (cs.getD i 0) = (37 : Int32)
           · refine own_go (fun _ k => XS.icmpNo X44.here hx rfl (hb hby d14_54) rfl (teq hc45).2 (XS.aloadN X44.here hx rfl (hb hby d14_57) rfl rfl (XS.iloadN X44.here hx rfl (hb hby d14_58) rfl (XS.iconst X44.here hx rfl (hb hby d14_59) k)))) ?_
             show own_G _ _ _ (T44.setTop (mkF m 60 #[.val (.ref p0), .val (.int (Int32.ofNat j)), .val (.ref b9), .val (.int (Int32.ofNat i)), .val (.int (cs.getD i 0)), l5] [(.int 1), (.int (Int32.ofNat i)), (.ref p0)])) _ _ _ _
             refine own_go (fun _ k => XS.iadd X44.here hx rfl (hb hby d14_60) rfl k) ?_
             rw [own_inc i]
             show own_G _ _ _ (T44.setTop (mkF m 61 #[.val (.ref p0), .val (.int (Int32.ofNat j)), .val (.ref b9), .val (.int (Int32.ofNat i)), .val (.int (cs.getD i 0)), l5] [(.int (Int32.ofNat (i + 1))), (.ref p0)])) _ _ _ _
             obtain ⟨_, _, ⟨T46, L46, k46, n46⟩, -, X46, ⟨Lc46, hQ46, l46, y46, z46⟩, st46⟩ := Jvm.LawKit.callS X44 hx (y := Y66) hown (mvT hZ (own_h hw 174 rfl)) (mvT hZ (own_h hw 175 rfl)) (mvT hZ (own_h hw 66 rfl)) (mvT hZ (own_h hw 176 rfl)) (by decide) (backOf (W := 0) (rm33 l Z a0 hw [] p0 (i + 1) zc fm co t kb cs hp n0 Zp J0 HA J1 J2 J3 J4 hs (by omega)) hZ (own_h hw 176 rfl) (own_h hw 66 rfl) (by decide) (by decide)) (g := (mkF m 61 #[.val (.ref p0), .val (.int (Int32.ofNat j)), .val (.ref b9), .val (.int (Int32.ofNat i)), .val (.int (cs.getD i 0)), l5] [(.int (Int32.ofNat (i + 1))), (.ref p0)])) rfl (by rw [hml]; rfl) (argsL := [(.ref p0), (.int (Int32.ofNat (i + 1)))]) (rest := []) (lenOf pd_36 rfl) rfl (own_r0 _) (hb hby d14_61) (fun _ _ => ⟨rfl, eh44, (by first | decide | omega | (dsimp only [Pt.cells, Pt.slots]; omega)), (by first | decide | omega | (dsimp only [Pt.cells, Pt.slots]; omega))⟩)
             dsimp only [Pt.U, Pt.locs, Pt.cells, Pt.slots] at X46 l46 y46 z46 st46 hQ46
             rw [l46] at X46
             subst y46 z46
             obtain ⟨rfl, Nq46, eh46⟩ := hQ46
             have N46 := Fr.app N44 Nq46
             refine own_go (fun _ k => st46 _ (XS.goto X46.here hx rfl (pc0 := 64) (pc' := 68) rfl (hb hby d14_64) (by decide) (by decide) (XS.istore X46.here hx rfl (hb hby d14_68) rfl (l' := #[.val (.ref p0), .val (.int (Int32.ofNat j)), .val (.ref b9), .val (.int (Int32.ofNat i)), .val (.int (cs.getD i 0)), .val (.int (own_oct cs (i + 1)))]) (by rcases ok5 with h_ | ⟨z_, h_⟩ | ⟨a_, h_⟩ <;> rw [h_] <;> rfl) (XS.iload X46.here hx rfl (hb hby d14_70) rfl k)))) ?_
             show own_G _ _ _ (T46.setTop (mkF m 72 #[.val (.ref p0), .val (.int (Int32.ofNat j)), .val (.ref b9), .val (.int (Int32.ofNat i)), .val (.int (cs.getD i 0)), .val (.int (own_oct cs (i + 1)))] [(.int (own_oct cs (i + 1)))])) _ _ _ _
             by_cases hc47 : (own_oct cs (i + 1)) < (0 : Int32)
             · refine own_go (fun _ k => XS.ifYes X46.here hx rfl (pc0 := 72) (pc' := 98) rfl (hb hby d14_72) rfl ((if0 _ _).trans (tlt hc47).1) (by decide) (by decide) (XS.aloadN X46.here hx rfl (hb hby d14_98) rfl rfl (XS.iload X46.here hx rfl (hb hby d14_99) rfl k))) ?_
               obtain ⟨cq48, kq48, q48a, q48b, q48c⟩ := isOf hZ eh46 J5
               obtain ⟨_, _, ⟨T48, L48, k48, n48⟩, -, X48, ⟨Lc48, hQ48, l48, y48, z48⟩, st48⟩ := X46.virtualBack hx (y := Y51) (z := Y51) hown (mvT hZ (own_h hw 180 rfl)) (mvT hZ (own_h hw 181 rfl)) (notFace_of_selects (args := #[]) (mvT hZ (own_h hw 183 rfl))) (mvT hZ (own_h hw 183 rfl)) (mvT hZ (own_h hw 182 rfl)) (by decide) (backOf (W := 0) (rm35 l Z a0 hw [] b9 (cs.getD i 0) zc fm va233 kv233 bo233 ds cs.length hp n0 Zp J0 HA J5 J7 J8 J9 J10 J11 J12 hB (by omega) (own_okr hs hi) gg9 gv) hZ (own_h hw 184 rfl) (own_h hw 106 rfl) (by decide) (by decide)) q48a q48c (g := (mkF m 101 #[.val (.ref p0), .val (.int (Int32.ofNat j)), .val (.ref b9), .val (.int (Int32.ofNat i)), .val (.int (cs.getD i 0)), .val (.int (own_oct cs (i + 1)))] [(.int (cs.getD i 0)), (.ref b9)])) rfl (by rw [hml]; rfl) (Steps.refl _) (argsL := [(.int (cs.getD i 0))]) (rest := []) (lenOf pd_37 rfl) rfl (own_r0 _) (hb hby d14_101) (fun _ _ => ⟨rfl, eh46, (by first | decide | omega | (dsimp only [Pt.cells, Pt.slots]; omega)), (by first | decide | omega | (dsimp only [Pt.cells, Pt.slots]; omega))⟩)
               dsimp only [Pt.U, Pt.locs, Pt.cells, Pt.slots] at X48 l48 y48 z48 st48 hQ48
               rw [l48] at X48
               subst y48 z48
               obtain ⟨va248, kv248, bo248, rfl, Nq48, Kq48, r48_0, r48_1, r48_2, r48_3, r48_4, r48_5, r48_6, r48_7, r48_8⟩ := hQ48
               have N48 := Fr.app N46 Nq48
               have f49 := J0.keep Kq48 (allS gg9 (allS gv all0))
               have f50 := J1.keep Kq48
               have f51 := J2.keep Kq48 (ninS ne10 (ninS (ne_exa J1 J11 (by decide)) nin0))
               have f52 := J3.keep Kq48 (ninS ne10 (ninS (ne_exa J1 J11 (by decide)) nin0))
               have f53 := J4.keep Kq48 (ninS ne11 (ninS ntv nin0))
               have f54 := J5.keep Kq48
               have f55 := J6.keep Kq48
               have f56 := J11.keep Kq48
               have Zs48 := Nat.le_trans Zp Kq48.1
               have K48_0 := Kp.trans Kq48 (allS (Or.inr sz9_0) (allS (Or.inr szv) all0))
               have u57n : t ≠ va248 := own_vne ntv J4.lt r48_8
               have u57g : n0 ≤ va248 := own_vge gv Zp r48_8
               have u57s : h0.size ≤ va248 := own_vge szv Kp.1 r48_8
               refine own_go (fun _ k => st48.trans (XS.pop X48.here hx rfl (hb hby d14_104) rfl rfl k)) ?_
               show own_G _ _ _ (T48.setTop (mkF m 105 #[.val (.ref p0), .val (.int (Int32.ofNat j)), .val (.ref b9), .val (.int (Int32.ofNat i)), .val (.int (cs.getD i 0)), .val (.int (own_oct cs (i + 1)))] [])) _ _ _ _
               refine own_go (fun _ k => XS.iinc X48.here hx rfl (hb hby d14_105) rfl (l' := #[.val (.ref p0), .val (.int (Int32.ofNat j)), .val (.ref b9), .val (.int ((Int32.ofNat i) + (1 : Int32))), .val (.int (cs.getD i 0)), .val (.int (own_oct cs (i + 1)))]) rfl k) ?_
               rw [own_inc i]
               show own_G _ _ _ (T48.setTop (mkF m 108 #[.val (.ref p0), .val (.int (Int32.ofNat j)), .val (.ref b9), .val (.int (Int32.ofNat (i + 1))), .val (.int (cs.getD i 0)), .val (.int (own_oct cs (i + 1)))] [])) _ _ _ _
               refine own_go (fun _ k => XS.goto X48.here hx rfl (pc0 := 108) (pc' := 35) rfl (hb hby d14_108) (by decide) (by decide) k) ?_
               show own_G _ _ _ (T48.setTop (mkF m 35 #[.val (.ref p0), .val (.int (Int32.ofNat j)), .val (.ref b9), .val (.int (Int32.ofNat (i + 1))), .val (.int (cs.getD i 0)), .val (.int (own_oct cs (i + 1)))] [])) _ _ _ _
               exact ih (i + 1) (by omega) (by omega) _ _ _ _ _ va248 kv248 bo248 (ds ++ [(cs.getD i 0)]) r48_7 (by rw [own_al]; omega) (own_hv1 hv hi (own_trf2 hc47)) u57g u57s u57n (.val (.int (cs.getD i 0))) (.val (.int (own_oct cs (i + 1)))) (Or.inr (Or.inl ⟨_, rfl⟩)) (Or.inr (Or.inl ⟨_, rfl⟩)) X48 rfl N48 Zs48 K48_0 (by omega) (by omega) f49 f50 f51 f52 f53 r48_0 f55 r48_1 r48_2 r48_3 r48_4 r48_5 r48_6
             · refine own_go (fun _ k => XS.ifNo X46.here hx rfl (hb hby d14_72) rfl ((if0 _ _).trans (flt hc47).1) (XS.iload X46.here hx rfl (hb hby d14_75) rfl k)) ?_
               show own_G _ _ _ (T46.setTop (mkF m 77 #[.val (.ref p0), .val (.int (Int32.ofNat j)), .val (.ref b9), .val (.int (Int32.ofNat i)), .val (.int (cs.getD i 0)), .val (.int (own_oct cs (i + 1)))] [(.int (own_oct cs (i + 1)))])) _ _ _ _
               refine own_go (fun _ k => XS.i2c X46.here hx rfl (hb hby d14_77) rfl k) ?_
               rw [own_i2c _ (own_octr hc47)]
               show own_G _ _ _ (T46.setTop (mkF m 78 #[.val (.ref p0), .val (.int (Int32.ofNat j)), .val (.ref b9), .val (.int (Int32.ofNat i)), .val (.int (cs.getD i 0)), .val (.int (own_oct cs (i + 1)))] [(.int (own_oct cs (i + 1)))])) _ _ _ _
               obtain ⟨_, _, ⟨T58, L58, k58, n58⟩, -, X58, ⟨Lc58, hQ58, l58, y58, z58⟩, st58⟩ := Jvm.LawKit.callS X46 hx (y := Y63) hown (mvT hZ (own_h hw 320 rfl)) (mvT hZ (own_h hw 321 rfl)) (mvT hZ (own_h hw 66 rfl)) (mvT hZ (own_h hw 322 rfl)) (by decide) (backOf (W := 0) (rm69 l Z a0 hw [] (own_oct cs (i + 1)) hp n0) hZ (own_h hw 322 rfl) (own_h hw 66 rfl) (by decide) (by decide)) (g := (mkF m 78 #[.val (.ref p0), .val (.int (Int32.ofNat j)), .val (.ref b9), .val (.int (Int32.ofNat i)), .val (.int (cs.getD i 0)), .val (.int (own_oct cs (i + 1)))] [(.int (own_oct cs (i + 1)))])) rfl (by rw [hml]; rfl) (argsL := [(.int (own_oct cs (i + 1)))]) (rest := []) (lenOf pd_24 rfl) rfl (own_r0 _) (hb hby d14_78) (fun _ _ => ⟨rfl, eh46, (by first | decide | omega | (dsimp only [Pt.cells, Pt.slots]; omega)), (by first | decide | omega | (dsimp only [Pt.cells, Pt.slots]; omega))⟩)
               dsimp only [Pt.U, Pt.locs, Pt.cells, Pt.slots] at X58 l58 y58 z58 st58 hQ58
               rw [l58] at X58
               subst y58 z58
               obtain ⟨rfl, Nq58, eh58⟩ := hQ58
               have N58 := Fr.app N46 Nq58
               refine own_go (fun _ k => st58 _ k) ?_
               show own_G _ _ _ (T58.setTop (mkF m 81 #[.val (.ref p0), .val (.int (Int32.ofNat j)), .val (.ref b9), .val (.int (Int32.ofNat i)), .val (.int (cs.getD i 0)), .val (.int (own_oct cs (i + 1)))] [(.int (own_isu (own_oct cs (i + 1))))])) _ _ _ _
               by_cases hc59 : (own_isu (own_oct cs (i + 1))) = (0 : Int32)
               · refine own_go (fun _ k => XS.ifYes X58.here hx rfl (pc0 := 81) (pc' := 98) rfl (hb hby d14_81) rfl ((if0 _ _).trans (teq hc59).1) (by decide) (by decide) (XS.aloadN X58.here hx rfl (hb hby d14_98) rfl rfl (XS.iload X58.here hx rfl (hb hby d14_99) rfl k))) ?_
                 obtain ⟨cq60, kq60, q60a, q60b, q60c⟩ := isOf hZ eh58 J5
                 obtain ⟨_, _, ⟨T60, L60, k60, n60⟩, -, X60, ⟨Lc60, hQ60, l60, y60, z60⟩, st60⟩ := X58.virtualBack hx (y := Y51) (z := Y51) hown (mvT hZ (own_h hw 180 rfl)) (mvT hZ (own_h hw 181 rfl)) (notFace_of_selects (args := #[]) (mvT hZ (own_h hw 183 rfl))) (mvT hZ (own_h hw 183 rfl)) (mvT hZ (own_h hw 182 rfl)) (by decide) (backOf (W := 0) (rm35 l Z a0 hw [] b9 (cs.getD i 0) zc fm va233 kv233 bo233 ds cs.length hp n0 Zp J0 HA J5 J7 J8 J9 J10 J11 J12 hB (by omega) (own_okr hs hi) gg9 gv) hZ (own_h hw 184 rfl) (own_h hw 106 rfl) (by decide) (by decide)) q60a q60c (g := (mkF m 101 #[.val (.ref p0), .val (.int (Int32.ofNat j)), .val (.ref b9), .val (.int (Int32.ofNat i)), .val (.int (cs.getD i 0)), .val (.int (own_oct cs (i + 1)))] [(.int (cs.getD i 0)), (.ref b9)])) rfl (by rw [hml]; rfl) (Steps.refl _) (argsL := [(.int (cs.getD i 0))]) (rest := []) (lenOf pd_37 rfl) rfl (own_r0 _) (hb hby d14_101) (fun _ _ => ⟨rfl, eh58, (by first | decide | omega | (dsimp only [Pt.cells, Pt.slots]; omega)), (by first | decide | omega | (dsimp only [Pt.cells, Pt.slots]; omega))⟩)
                 dsimp only [Pt.U, Pt.locs, Pt.cells, Pt.slots] at X60 l60 y60 z60 st60 hQ60
                 rw [l60] at X60
                 subst y60 z60
                 obtain ⟨va260, kv260, bo260, rfl, Nq60, Kq60, r60_0, r60_1, r60_2, r60_3, r60_4, r60_5, r60_6, r60_7, r60_8⟩ := hQ60
                 have N60 := Fr.app N58 Nq60
                 have f61 := J0.keep Kq60 (allS gg9 (allS gv all0))
                 have f62 := J1.keep Kq60
                 have f63 := J2.keep Kq60 (ninS ne10 (ninS (ne_exa J1 J11 (by decide)) nin0))
                 have f64 := J3.keep Kq60 (ninS ne10 (ninS (ne_exa J1 J11 (by decide)) nin0))
                 have f65 := J4.keep Kq60 (ninS ne11 (ninS ntv nin0))
                 have f66 := J5.keep Kq60
                 have f67 := J6.keep Kq60
                 have f68 := J11.keep Kq60
                 have Zs60 := Nat.le_trans Zp Kq60.1
                 have K60_0 := Kp.trans Kq60 (allS (Or.inr sz9_0) (allS (Or.inr szv) all0))
                 have u69n : t ≠ va260 := own_vne ntv J4.lt r60_8
                 have u69g : n0 ≤ va260 := own_vge gv Zp r60_8
                 have u69s : h0.size ≤ va260 := own_vge szv Kp.1 r60_8
                 refine own_go (fun _ k => st60.trans (XS.pop X60.here hx rfl (hb hby d14_104) rfl rfl k)) ?_
                 show own_G _ _ _ (T60.setTop (mkF m 105 #[.val (.ref p0), .val (.int (Int32.ofNat j)), .val (.ref b9), .val (.int (Int32.ofNat i)), .val (.int (cs.getD i 0)), .val (.int (own_oct cs (i + 1)))] [])) _ _ _ _
                 refine own_go (fun _ k => XS.iinc X60.here hx rfl (hb hby d14_105) rfl (l' := #[.val (.ref p0), .val (.int (Int32.ofNat j)), .val (.ref b9), .val (.int ((Int32.ofNat i) + (1 : Int32))), .val (.int (cs.getD i 0)), .val (.int (own_oct cs (i + 1)))]) rfl k) ?_
                 rw [own_inc i]
                 show own_G _ _ _ (T60.setTop (mkF m 108 #[.val (.ref p0), .val (.int (Int32.ofNat j)), .val (.ref b9), .val (.int (Int32.ofNat (i + 1))), .val (.int (cs.getD i 0)), .val (.int (own_oct cs (i + 1)))] [])) _ _ _ _
                 refine own_go (fun _ k => XS.goto X60.here hx rfl (pc0 := 108) (pc' := 35) rfl (hb hby d14_108) (by decide) (by decide) k) ?_
                 show own_G _ _ _ (T60.setTop (mkF m 35 #[.val (.ref p0), .val (.int (Int32.ofNat j)), .val (.ref b9), .val (.int (Int32.ofNat (i + 1))), .val (.int (cs.getD i 0)), .val (.int (own_oct cs (i + 1)))] [])) _ _ _ _
                 exact ih (i + 1) (by omega) (by omega) _ _ _ _ _ va260 kv260 bo260 (ds ++ [(cs.getD i 0)]) r60_7 (by rw [own_al]; omega) (own_hv1 hv hi (own_trf3 hc59)) u69g u69s u69n (.val (.int (cs.getD i 0))) (.val (.int (own_oct cs (i + 1)))) (Or.inr (Or.inl ⟨_, rfl⟩)) (Or.inr (Or.inl ⟨_, rfl⟩)) X60 rfl N60 Zs60 K60_0 (by omega) (by omega) f61 f62 f63 f64 f65 r60_0 f67 r60_1 r60_2 r60_3 r60_4 r60_5 r60_6
               · refine own_go (fun _ k => XS.ifNo X58.here hx rfl (hb hby d14_81) rfl ((if0 _ _).trans (feq hc59).1) (XS.aloadN X58.here hx rfl (hb hby d14_84) rfl rfl (XS.iload X58.here hx rfl (hb hby d14_85) rfl k))) ?_
                 show own_G _ _ _ (T58.setTop (mkF m 87 #[.val (.ref p0), .val (.int (Int32.ofNat j)), .val (.ref b9), .val (.int (Int32.ofNat i)), .val (.int (cs.getD i 0)), .val (.int (own_oct cs (i + 1)))] [(.int (own_oct cs (i + 1))), (.ref b9)])) _ _ _ _
                 refine own_go (fun _ k => XS.i2c X58.here hx rfl (hb hby d14_87) rfl k) ?_
                 rw [own_i2c _ (own_octr hc47)]
                 show own_G _ _ _ (T58.setTop (mkF m 88 #[.val (.ref p0), .val (.int (Int32.ofNat j)), .val (.ref b9), .val (.int (Int32.ofNat i)), .val (.int (cs.getD i 0)), .val (.int (own_oct cs (i + 1)))] [(.int (own_oct cs (i + 1))), (.ref b9)])) _ _ _ _
                 obtain ⟨cq70, kq70, q70a, q70b, q70c⟩ := isOf hZ eh58 J5
                 obtain ⟨_, _, ⟨T70, L70, k70, n70⟩, -, X70, ⟨Lc70, hQ70, l70, y70, z70⟩, st70⟩ := X58.virtualBack hx (y := Y51) (z := Y51) hown (mvT hZ (own_h hw 180 rfl)) (mvT hZ (own_h hw 181 rfl)) (notFace_of_selects (args := #[]) (mvT hZ (own_h hw 183 rfl))) (mvT hZ (own_h hw 183 rfl)) (mvT hZ (own_h hw 182 rfl)) (by decide) (backOf (W := 0) (rm35 l Z a0 hw [] b9 (own_oct cs (i + 1)) zc fm va233 kv233 bo233 ds cs.length hp n0 Zp J0 HA J5 J7 J8 J9 J10 J11 J12 hB (by omega) (own_octr hc47) gg9 gv) hZ (own_h hw 184 rfl) (own_h hw 106 rfl) (by decide) (by decide)) q70a q70c (g := (mkF m 88 #[.val (.ref p0), .val (.int (Int32.ofNat j)), .val (.ref b9), .val (.int (Int32.ofNat i)), .val (.int (cs.getD i 0)), .val (.int (own_oct cs (i + 1)))] [(.int (own_oct cs (i + 1))), (.ref b9)])) rfl (by rw [hml]; rfl) (Steps.refl _) (argsL := [(.int (own_oct cs (i + 1)))]) (rest := []) (lenOf pd_37 rfl) rfl (own_r0 _) (hb hby d14_88) (fun _ _ => ⟨rfl, eh58, (by first | decide | omega | (dsimp only [Pt.cells, Pt.slots]; omega)), (by first | decide | omega | (dsimp only [Pt.cells, Pt.slots]; omega))⟩)
                 dsimp only [Pt.U, Pt.locs, Pt.cells, Pt.slots] at X70 l70 y70 z70 st70 hQ70
                 rw [l70] at X70
                 subst y70 z70
                 obtain ⟨va270, kv270, bo270, rfl, Nq70, Kq70, r70_0, r70_1, r70_2, r70_3, r70_4, r70_5, r70_6, r70_7, r70_8⟩ := hQ70
                 have N70 := Fr.app N58 Nq70
                 have f71 := J0.keep Kq70 (allS gg9 (allS gv all0))
                 have f72 := J1.keep Kq70
                 have f73 := J2.keep Kq70 (ninS ne10 (ninS (ne_exa J1 J11 (by decide)) nin0))
                 have f74 := J3.keep Kq70 (ninS ne10 (ninS (ne_exa J1 J11 (by decide)) nin0))
                 have f75 := J4.keep Kq70 (ninS ne11 (ninS ntv nin0))
                 have f76 := J5.keep Kq70
                 have f77 := J6.keep Kq70
                 have f78 := J11.keep Kq70
                 have Zs70 := Nat.le_trans Zp Kq70.1
                 have K70_0 := Kp.trans Kq70 (allS (Or.inr sz9_0) (allS (Or.inr szv) all0))
                 have u79n : t ≠ va270 := own_vne ntv J4.lt r70_8
                 have u79g : n0 ≤ va270 := own_vge gv Zp r70_8
                 have u79s : h0.size ≤ va270 := own_vge szv Kp.1 r70_8
                 refine own_go (fun _ k => st70.trans (XS.pop X70.here hx rfl (hb hby d14_91) rfl rfl k)) ?_
                 show own_G _ _ _ (T70.setTop (mkF m 92 #[.val (.ref p0), .val (.int (Int32.ofNat j)), .val (.ref b9), .val (.int (Int32.ofNat i)), .val (.int (cs.getD i 0)), .val (.int (own_oct cs (i + 1)))] [])) _ _ _ _
                 refine own_go (fun _ k => XS.iinc X70.here hx rfl (hb hby d14_92) rfl (l' := #[.val (.ref p0), .val (.int (Int32.ofNat j)), .val (.ref b9), .val (.int ((Int32.ofNat i) + (3 : Int32))), .val (.int (cs.getD i 0)), .val (.int (own_oct cs (i + 1)))]) rfl k) ?_
                 rw [own_inc3 i]
                 show own_G _ _ _ (T70.setTop (mkF m 95 #[.val (.ref p0), .val (.int (Int32.ofNat j)), .val (.ref b9), .val (.int (Int32.ofNat (i + 3))), .val (.int (cs.getD i 0)), .val (.int (own_oct cs (i + 1)))] [])) _ _ _ _
                 refine own_go (fun _ k => XS.goto X70.here hx rfl (pc0 := 95) (pc' := 108) rfl (hb hby d14_95) (by decide) (by decide) (XS.goto X70.here hx rfl (pc0 := 108) (pc' := 35) rfl (hb hby d14_108) (by decide) (by decide) k)) ?_
                 show own_G _ _ _ (T70.setTop (mkF m 35 #[.val (.ref p0), .val (.int (Int32.ofNat j)), .val (.ref b9), .val (.int (Int32.ofNat (i + 3))), .val (.int (cs.getD i 0)), .val (.int (own_oct cs (i + 1)))] [])) _ _ _ _
                 have hl3 := own_octl hc47
                 exact ih (i + 3) (by omega) (by omega) _ _ _ _ _ va270 kv270 bo270 (ds ++ [(own_oct cs (i + 1))]) r70_7 (by rw [own_al]; omega) (own_hv3 hv hi (own_trt hc45 hc47 hc59)) u79g u79s u79n (.val (.int (cs.getD i 0))) (.val (.int (own_oct cs (i + 1)))) (Or.inr (Or.inl ⟨_, rfl⟩)) (Or.inr (Or.inl ⟨_, rfl⟩)) X70 rfl N70 Zs70 K70_0 (by omega) (by omega) f71 f72 f73 f74 f75 r70_0 f77 r70_1 r70_2 r70_3 r70_4 r70_5 r70_6
           · refine own_go (fun _ k => XS.icmpYes X44.here hx rfl (pc0 := 54) (pc' := 67) rfl (hb hby d14_54) rfl (feq hc45).2 (by decide) (by decide) (XS.iconst X44.here hx rfl (hb hby d14_67) (XS.istore X44.here hx rfl (hb hby d14_68) rfl (l' := #[.val (.ref p0), .val (.int (Int32.ofNat j)), .val (.ref b9), .val (.int (Int32.ofNat i)), .val (.int (cs.getD i 0)), .val (.int (-1))]) (by rcases ok5 with h_ | ⟨z_, h_⟩ | ⟨a_, h_⟩ <;> rw [h_] <;> rfl) (XS.iload X44.here hx rfl (hb hby d14_70) rfl k)))) ?_
             show own_G _ _ _ (T44.setTop (mkF m 72 #[.val (.ref p0), .val (.int (Int32.ofNat j)), .val (.ref b9), .val (.int (Int32.ofNat i)), .val (.int (cs.getD i 0)), .val (.int (-1))] [(.int (-1))])) _ _ _ _
             have hc80 : (-1 : Int32) < (0 : Int32) := (by decide)
             refine own_go (fun _ k => XS.ifYes X44.here hx rfl (pc0 := 72) (pc' := 98) rfl (hb hby d14_72) rfl ((if0 _ _).trans (tlt hc80).1) (by decide) (by decide) (XS.aloadN X44.here hx rfl (hb hby d14_98) rfl rfl (XS.iload X44.here hx rfl (hb hby d14_99) rfl k))) ?_
             obtain ⟨cq81, kq81, q81a, q81b, q81c⟩ := isOf hZ eh44 J5
             obtain ⟨_, _, ⟨T81, L81, k81, n81⟩, -, X81, ⟨Lc81, hQ81, l81, y81, z81⟩, st81⟩ := X44.virtualBack hx (y := Y51) (z := Y51) hown (mvT hZ (own_h hw 180 rfl)) (mvT hZ (own_h hw 181 rfl)) (notFace_of_selects (args := #[]) (mvT hZ (own_h hw 183 rfl))) (mvT hZ (own_h hw 183 rfl)) (mvT hZ (own_h hw 182 rfl)) (by decide) (backOf (W := 0) (rm35 l Z a0 hw [] b9 (cs.getD i 0) zc fm va233 kv233 bo233 ds cs.length hp n0 Zp J0 HA J5 J7 J8 J9 J10 J11 J12 hB (by omega) (own_okr hs hi) gg9 gv) hZ (own_h hw 184 rfl) (own_h hw 106 rfl) (by decide) (by decide)) q81a q81c (g := (mkF m 101 #[.val (.ref p0), .val (.int (Int32.ofNat j)), .val (.ref b9), .val (.int (Int32.ofNat i)), .val (.int (cs.getD i 0)), .val (.int (-1))] [(.int (cs.getD i 0)), (.ref b9)])) rfl (by rw [hml]; rfl) (Steps.refl _) (argsL := [(.int (cs.getD i 0))]) (rest := []) (lenOf pd_37 rfl) rfl (own_r0 _) (hb hby d14_101) (fun _ _ => ⟨rfl, eh44, (by first | decide | omega | (dsimp only [Pt.cells, Pt.slots]; omega)), (by first | decide | omega | (dsimp only [Pt.cells, Pt.slots]; omega))⟩)
             dsimp only [Pt.U, Pt.locs, Pt.cells, Pt.slots] at X81 l81 y81 z81 st81 hQ81
             rw [l81] at X81
             subst y81 z81
             obtain ⟨va281, kv281, bo281, rfl, Nq81, Kq81, r81_0, r81_1, r81_2, r81_3, r81_4, r81_5, r81_6, r81_7, r81_8⟩ := hQ81
             have N81 := Fr.app N44 Nq81
             have f82 := J0.keep Kq81 (allS gg9 (allS gv all0))
             have f83 := J1.keep Kq81
             have f84 := J2.keep Kq81 (ninS ne10 (ninS (ne_exa J1 J11 (by decide)) nin0))
             have f85 := J3.keep Kq81 (ninS ne10 (ninS (ne_exa J1 J11 (by decide)) nin0))
             have f86 := J4.keep Kq81 (ninS ne11 (ninS ntv nin0))
             have f87 := J5.keep Kq81
             have f88 := J6.keep Kq81
             have f89 := J11.keep Kq81
             have Zs81 := Nat.le_trans Zp Kq81.1
             have K81_0 := Kp.trans Kq81 (allS (Or.inr sz9_0) (allS (Or.inr szv) all0))
             have u90n : t ≠ va281 := own_vne ntv J4.lt r81_8
             have u90g : n0 ≤ va281 := own_vge gv Zp r81_8
             have u90s : h0.size ≤ va281 := own_vge szv Kp.1 r81_8
             refine own_go (fun _ k => st81.trans (XS.pop X81.here hx rfl (hb hby d14_104) rfl rfl k)) ?_
             show own_G _ _ _ (T81.setTop (mkF m 105 #[.val (.ref p0), .val (.int (Int32.ofNat j)), .val (.ref b9), .val (.int (Int32.ofNat i)), .val (.int (cs.getD i 0)), .val (.int (-1))] [])) _ _ _ _
             refine own_go (fun _ k => XS.iinc X81.here hx rfl (hb hby d14_105) rfl (l' := #[.val (.ref p0), .val (.int (Int32.ofNat j)), .val (.ref b9), .val (.int ((Int32.ofNat i) + (1 : Int32))), .val (.int (cs.getD i 0)), .val (.int (-1))]) rfl k) ?_
             rw [own_inc i]
             show own_G _ _ _ (T81.setTop (mkF m 108 #[.val (.ref p0), .val (.int (Int32.ofNat j)), .val (.ref b9), .val (.int (Int32.ofNat (i + 1))), .val (.int (cs.getD i 0)), .val (.int (-1))] [])) _ _ _ _
             refine own_go (fun _ k => XS.goto X81.here hx rfl (pc0 := 108) (pc' := 35) rfl (hb hby d14_108) (by decide) (by decide) k) ?_
             show own_G _ _ _ (T81.setTop (mkF m 35 #[.val (.ref p0), .val (.int (Int32.ofNat j)), .val (.ref b9), .val (.int (Int32.ofNat (i + 1))), .val (.int (cs.getD i 0)), .val (.int (-1))] [])) _ _ _ _
             exact ih (i + 1) (by omega) (by omega) _ _ _ _ _ va281 kv281 bo281 (ds ++ [(cs.getD i 0)]) r81_7 (by rw [own_al]; omega) (own_hv1 hv hi (own_trf1 hc45)) u90g u90s u90n (.val (.int (cs.getD i 0))) (.val (.int (-1))) (Or.inr (Or.inl ⟨_, rfl⟩)) (Or.inr (Or.inl ⟨_, rfl⟩)) X81 rfl N81 Zs81 K81_0 (by omega) (by omega) f82 f83 f84 f85 f86 r81_0 f88 r81_1 r81_2 r81_3 r81_4 r81_5 r81_6
       · refine own_go (fun _ k => XS.icmpYes X42.here hx rfl (pc0 := 40) (pc' := 111) rfl (hb hby d14_40) rfl (flt hc43).2.1 (by decide) (by decide) (XS.aloadN X42.here hx rfl (hb hby d14_111) rfl rfl k)) ?_
         obtain ⟨cq91, kq91, q91a, q91b, q91c⟩ := isOf hZ eh42 J5
         obtain ⟨_, _, ⟨T91, L91, k91, n91⟩, -, X91, ⟨Lc91, hQ91, l91, y91, z91⟩, st91⟩ := X42.virtualBack hx (y := Y61) (z := Y61) hown (mvT hZ (own_h hw 192 rfl)) (mvT hZ (own_h hw 193 rfl)) (notFace_of_selects (args := #[]) (mvT hZ (own_h hw 195 rfl))) (mvT hZ (own_h hw 195 rfl)) (mvT hZ (own_h hw 194 rfl)) (by decide) (backOf (W := 0) (rm38 l Z a0 hw [] b9 zc fm va233 kv233 bo233 ds cs.length hp n0 Zp J0 HA J5 J7 J8 J9 J10 J11 J12 hB (by omega)) hZ (own_h hw 196 rfl) (own_h hw 106 rfl) (by decide) (by decide)) q91a q91c (g := (mkF m 112 #[.val (.ref p0), .val (.int (Int32.ofNat j)), .val (.ref b9), .val (.int (Int32.ofNat i)), l4, l5] [(.ref b9)])) rfl (by rw [hml]; rfl) (Steps.refl _) (argsL := []) (rest := []) (lenOf pd_38 rfl) rfl (own_r0 _) (hb hby d14_112) (fun _ _ => ⟨rfl, eh42, (by first | decide | omega | (dsimp only [Pt.cells, Pt.slots]; omega)), (by first | decide | omega | (dsimp only [Pt.cells, Pt.slots]; omega))⟩)
         dsimp only [Pt.U, Pt.locs, Pt.cells, Pt.slots] at X91 l91 y91 z91 st91 hQ91
         rw [l91] at X91
         subst y91 z91
         obtain ⟨b91, t91, kb91, rfl, Nq91, Kq91, r91_0, r91_1, r91_2, r91_3⟩ := hQ91
         have N91 := Fr.app N42 Nq91
         have f92 := J0.keep Kq91 all0
         have f93 := J1.keep Kq91
         have f94 := J2.keep Kq91 nin0
         have f95 := J3.keep Kq91 nin0
         have f96 := J4.keep Kq91 nin0
         have f97 := J5.keep Kq91
         have f98 := J6.keep Kq91
         have f99 := J7.keep Kq91 nin0
         have f100 := J8.keep Kq91 nin0
         have f101 := J9.keep Kq91 nin0
         have f102 := J10.keep Kq91 nin0
         have f103 := J11.keep Kq91
         have f104 := J12.keep Kq91 nin0
         have Zs91 := Nat.le_trans Zp Kq91.1
         have K91_0 := Kp.trans Kq91 all0
         refine own_go (fun _ k => st91.trans k) ?_
         show own_G _ _ _ (T91.setTop (mkF m 115 #[.val (.ref p0), .val (.int (Int32.ofNat j)), .val (.ref b9), .val (.int (Int32.ofNat i)), l4, l5] [(.ref b91)])) _ _ _ _
         exact own_endR X91 hx hlk Bd.returns rfl rfl rfl (hb hby d14_115) (by first | decide | omega | (dsimp only [Pt.cells, Pt.slots]; omega)) (by first | decide | omega | (dsimp only [Pt.cells, Pt.slots]; omega)) (Q := (Q14 Z p0 zc fm im co t kb cs h0 n0)) ⟨b91, t91, kb91, bo233, rfl, N91, K91_0, r91_0, r91_1, r91_2, (by rw [← (own_hvx hv (fun q => hc43 ((own_ltI i cs.length (by omega) (by omega)).mpr q)))]; exact r91_3), (by rw [← (own_hvx hv (fun q => hc43 ((own_ltI i cs.length (by omega) (by omega)).mpr q)))]; exact ⟨hB.1, hB.2.1, by omega⟩)⟩
   exact loop (cs.length + 1) j (by omega) (by omega) _ _ _ _ _ va233 kv233 bo233 (cs.take j) r33_7 (Nat.le_of_eq (own_tl cs j (Nat.le_of_lt hj))) (own_hv0 j (Nat.le_of_lt hj) hpre) u41g u41s u41n .unset .unset (Or.inl rfl) (Or.inl rfl) X33 rfl N33 Zs33 K33_0 (by omega) (by omega) f34 f35 f36 f37 f38 r33_0 f40 r33_1 r33_2 r33_3 r33_4 r33_5 r33_6
theorem d1_0 : own_d B1 0 (.iload_n 0) 1 := by decide +kernel
theorem d1_1 : own_d B1 1 (.iconst 3) 1 := by decide +kernel
theorem d1_2 : own_d B1 2 (.iand) 1 := by decide +kernel
theorem d1_3 : own_d B1 3 (.istore_n 1) 1 := by decide +kernel
theorem d1_4 : own_d B1 4 (.iload_n 0) 1 := by decide +kernel
theorem d1_5 : own_d B1 5 (.iconst 2) 1 := by decide +kernel
theorem d1_6 : own_d B1 6 (.iushr) 1 := by decide +kernel
theorem d1_7 : own_d B1 7 (.istore_n 2) 1 := by decide +kernel
theorem d1_8 : own_d B1 8 (.iload_n 1) 1 := by decide +kernel
theorem d1_9 : own_d B1 9 (.ifCond .ne 6) 3 := by decide +kernel
theorem d1_12 : own_d B1 12 (.bipush 37) 2 := by decide +kernel
theorem d1_14 : own_d B1 14 (.ireturn) 1 := by decide +kernel
theorem d1_15 : own_d B1 15 (.iload_n 1) 1 := by decide +kernel
theorem d1_16 : own_d B1 16 (.iconst 1) 1 := by decide +kernel
theorem d1_17 : own_d B1 17 (.if_icmp .ne 13) 3 := by decide +kernel
theorem d1_20 : own_d B1 20 (.ldc 7) 2 := by decide +kernel
theorem d1_22 : own_d B1 22 (.iload_n 2) 1 := by decide +kernel
theorem d1_23 : own_d B1 23 (.bipush 22) 2 := by decide +kernel
theorem d1_25 : own_d B1 25 (.irem) 1 := by decide +kernel
theorem d1_26 : own_d B1 26 (.invokevirtual 9) 3 := by decide +kernel
theorem d1_29 : own_d B1 29 (.ireturn) 1 := by decide +kernel
theorem d1_30 : own_d B1 30 (.iload_n 1) 1 := by decide +kernel
theorem d1_31 : own_d B1 31 (.iconst 2) 1 := by decide +kernel
theorem d1_32 : own_d B1 32 (.if_icmp .ne 9) 3 := by decide +kernel
theorem d1_35 : own_d B1 35 (.iload_n 2) 1 := by decide +kernel
theorem d1_36 : own_d B1 36 (.bipush 127) 2 := by decide +kernel
theorem d1_38 : own_d B1 38 (.iand) 1 := by decide +kernel
theorem d1_39 : own_d B1 39 (.i2c) 1 := by decide +kernel
theorem d1_40 : own_d B1 40 (.ireturn) 1 := by decide +kernel
theorem d1_41 : own_d B1 41 (.iload_n 2) 1 := by decide +kernel
theorem d1_42 : own_d B1 42 (.ldc 15) 2 := by decide +kernel
theorem d1_44 : own_d B1 44 (.iand) 1 := by decide +kernel
theorem d1_45 : own_d B1 45 (.i2c) 1 := by decide +kernel
theorem d1_46 : own_d B1 46 (.ireturn) 1 := by decide +kernel
theorem ef_1 (m : MethodId) (p0 : Int32) : entryFrame m #[(.int p0)] 3 = mkF m 0 #[.val (.int p0), .unset, .unset] [] := by first | (simp [entryFrame, mkF, argsToLocals, Value.category]; done) | rfl
def Q1 (Z : State) (p0 : Int32) (zc : Int32) (fm : Value) (h0 : Heap) (n0 : Nat) (v : Option Value) (h : Heap) (L : List Loc) : Prop := ∃ (cx : Int32), v = some (.int cx) ∧ Fr n0 L ∧ Keep h0 h [] ∧ own_r cx
theorem rm1 (l : Launch) (Z : State) (a0 : Array Value) (hw : ∀ d ∈ tables_1, d.before a0 Z = true) (ws : List Jvm.Cond) (p0 : Int32) (zc : Int32) (fm : Value) (h0 : Heap) (n0 : Nat) (Z0 : n0 ≤ h0.size) (P_Old : Old Z n0 h0) (HA : own_Z Z zc fm) :
   MetFree l Y68 (head1 (Jvm.Cond.code Y68 method_2_code 3 (some .char) :: ws) ({ frames := 5, cells := 2, slots := 92, locals := 66 } : Room)) (fun a U => a = #[(.int p0)] ∧ Z.Warmed39 U.vm ∧ U.heap = h0 ∧ CHv Z own_EL U.vm h0) (fun _ _ _ _ _ => True) (fun _ U o U' => ∃ v L, o = .returned v ∧ (Q1 Z p0 zc fm h0 n0) v U'.heap L ∧ CHr Z own_EL U.vm U.heap U'.vm U'.heap ∧ ReturnedEndW U o U' L ({ frames := 5, cells := 2, slots := 92, locals := 66 } : Room).cells ({ frames := 5, cells := 2, slots := 92, locals := 66 } : Room).slots) := by
 refine MetFree.of_bodySF (plainFor_of_name pn_8) hisR ?_
 intro p e s m args below meth c s₁ Bd hml0 hP hK
 obtain ⟨rfl, hZ, hh, H0⟩ := hP
 have hx := Bd.exec
 have hby := Bd.bytes
 have hml : c.maxLocals = 3 := hml0
 have hown : s.vm.findClass "com/example/amid2/amid2/PercentEncodingDecodeUnreservedPinLaw" = some m.cls := findClass_of_methodNamed Bd.named
 have hnm := (name_of_methodNamed Bd.named Bd.method).1
 have hlk : meth.locks = false := BodyLoose.notSynchronized Bd
 have X0 : Stand p l e ({ frames := 5, cells := 2, slots := 92, locals := 66 } : Room) (s.setVm s.vm) m #[(.int p0)] below meth c s₁ [] 0 0 := Stand.of_body Bd
 have e0 : s₁.heap = h0 := by rw [← hh, Bd.state]; rfl
 have N0 := Fr.nil n0
 have hS0 := (State.WarmedH.refl s).since s.heap.size
 have hk0 : s.heap.size ≤ h0.size := by rw [hh]; exact Nat.le_refl _
 have CR0 : CHr Z own_EL s.vm h0 s.vm h0 := CHr.refl H0
 have KS0 : Keep h0 h0 [] := Keep.refl _ _
 obtain ⟨Zcs, hcs, Zsi, hfm, Zad, Zhi, Zlo⟩ := id HA
 have K0 : Keep h0 h0 [] := Keep.refl h0 []
 show own_GW p.tables e below (s₁.setTop (entryFrame m #[(.int p0)] 3)) s ({ frames := 5, cells := 2, slots := 92, locals := 66 } : Room).cells ({ frames := 5, cells := 2, slots := 92, locals := 66 } : Room).slots Z own_EL (Q1 Z p0 zc fm h0 n0)
 refine own_goW (fun _ k => castTop (ef_1 m p0) (XS.iloadN X0.here hx rfl (hb hby d1_0) rfl (XS.iconst X0.here hx rfl (hb hby d1_1) (XS.iand X0.here hx rfl (hb hby d1_2) rfl (XS.istoreN X0.here hx rfl (hb hby d1_3) rfl (l' := #[.val (.int p0), .val (.int (p0 &&& (3 : Int32))), .unset]) rfl (XS.iloadN X0.here hx rfl (hb hby d1_4) rfl (XS.iconst X0.here hx rfl (hb hby d1_5) (XS.iushr X0.here hx rfl (hb hby d1_6) rfl (XS.istoreN X0.here hx rfl (hb hby d1_7) rfl (l' := #[.val (.int p0), .val (.int (p0 &&& (3 : Int32))), .val (.int ((p0.toUInt32 >>> ((2 : Int32) &&& 31).toUInt32).toInt32))]) rfl (XS.iloadN X0.here hx rfl (hb hby d1_8) rfl k)))))))))) ?_
 show own_GW _ _ _ (s₁.setTop (mkF m 9 #[.val (.int p0), .val (.int (p0 &&& (3 : Int32))), .val (.int ((p0.toUInt32 >>> ((2 : Int32) &&& 31).toUInt32).toInt32))] [(.int (p0 &&& (3 : Int32)))])) _ _ _ _ _ _
 by_cases hc1 : (p0 &&& (3 : Int32)) = (0 : Int32)
 · refine own_goW (fun _ k => XS.ifNo X0.here hx rfl (hb hby d1_9) rfl ((if0 _ _).trans (teq hc1).2) (XS.bipush X0.here hx rfl (hb hby d1_12) k)) ?_
   show own_GW _ _ _ (s₁.setTop (mkF m 14 #[.val (.int p0), .val (.int (p0 &&& (3 : Int32))), .val (.int ((p0.toUInt32 >>> ((2 : Int32) &&& 31).toUInt32).toInt32))] [(.int 37)])) _ _ _ _ _ _
   have CQ2 := CR0.trans (CHr.keep KS0 all0 CR0.1)
   have CE2 : CHr Z own_EL s.vm s.heap s₁.vm s₁.heap := by rw [hh, show s₁.heap = h0 from e0]; exact CQ2.trans (CHv.at X0 hZ (own_EW hw) CQ2.1)
   exact own_endWN X0 hx hlk (t := .char) Bd.returns (by simp) (hb hby d1_14) hS0 (show _ ≤ s₁.heap.size by rw [show s₁.heap = h0 from e0]; exact (Nat.le_trans hk0 KS0.1)) (by decide) (by decide) CE2 (Q := (Q1 Z p0 zc fm h0 n0)) (by rw [e0]; exact ⟨nar .char (37 : Int32), rfl, N0, K0, own_nr _⟩)
 · refine own_goW (fun _ k => XS.ifYes X0.here hx rfl (pc0 := 9) (pc' := 15) rfl (hb hby d1_9) rfl ((if0 _ _).trans (feq hc1).2) (by decide) (by decide) (XS.iloadN X0.here hx rfl (hb hby d1_15) rfl (XS.iconst X0.here hx rfl (hb hby d1_16) k))) ?_
   show own_GW _ _ _ (s₁.setTop (mkF m 17 #[.val (.int p0), .val (.int (p0 &&& (3 : Int32))), .val (.int ((p0.toUInt32 >>> ((2 : Int32) &&& 31).toUInt32).toInt32))] [(.int 1), (.int (p0 &&& (3 : Int32)))])) _ _ _ _ _ _
   by_cases hc3 : (p0 &&& (3 : Int32)) = (1 : Int32)
   · refine own_goW (fun _ k => XS.icmpNo X0.here hx rfl (hb hby d1_17) rfl (teq hc3).2 k) ?_
     show own_GW _ _ _ (s₁.setTop (mkF m 20 #[.val (.int p0), .val (.int (p0 &&& (3 : Int32))), .val (.int ((p0.toUInt32 >>> ((2 : Int32) &&& 31).toUInt32).toInt32))] [])) _ _ _ _ _ _
     have CQ4 := CR0.trans (CHr.keep KS0 all0 CR0.1)
     obtain ⟨a4, T4, h4, k14, b4, kb4, X4, e4, E4, hS4, hk4, hZ, hown, xa4, cd4, vl4, vb4, la4, lb4, CC4, Lt4, nea4, st4⟩ := ldcCH X0 hx hZ hown (own_h hw 7 rfl) (own_wS hw) e0 hS0 (Nat.le_trans hk0 KS0.1) (own_EW hw) (by simp [own_EL]) CQ4.1 (vs := [(.int 48), (.int 49), (.int 50), (.int 51), (.int 52), (.int 53), (.int 54), (.int 55), (.int 56), (.int 57), (.int 97), (.int 98), (.int 99), (.int 100), (.int 101), (.int 102), (.int 65), (.int 66), (.int 67), (.int 68), (.int 69), (.int 70)]) (z := (22 : Int32)) ⟨by decide, rfl⟩ (by decide) rfl (g := (mkF m 20 #[.val (.int p0), .val (.int (p0 &&& (3 : Int32))), .val (.int ((p0.toUInt32 >>> ((2 : Int32) &&& 31).toUInt32).toInt32))] [])) rfl (hb hby d1_20) (n := 88) (by decide) (by decide) (by decide) (by decide)
     have CR4 := CQ4.trans CC4
     have Zs4 := Nat.le_trans Z0 E4.1
     have K4_0 := K0.ext E4
     have f5 := P_Old.ext E4
     have KS4 : Keep h4 h4 [] := Keep.refl _ _
     refine own_goW (fun _ k => st4 _ k) ?_
     show own_GW _ _ _ (T4.setTop (mkF m 22 #[.val (.int p0), .val (.int (p0 &&& (3 : Int32))), .val (.int ((p0.toUInt32 >>> ((2 : Int32) &&& 31).toUInt32).toInt32))] [(.ref a4)])) _ _ _ _ _ _
     have f6 : Arv Z h4 b4 kb4 .byte (own_cap 0 own_hexs.length) (own_sv 0 own_hexs) (.int 0) := own_vlit vb4
     refine own_goW (fun _ k => XS.iloadN X4.here hx rfl (hb hby d1_22) rfl (XS.bipush X4.here hx rfl (hb hby d1_23) (iremM X4 hx rfl (hb hby d1_25) rfl (by decide) k))) ?_
     show own_GW _ _ _ (T4.setTop (mkF m 26 #[.val (.int p0), .val (.int (p0 &&& (3 : Int32))), .val (.int ((p0.toUInt32 >>> ((2 : Int32) &&& 31).toUInt32).toInt32))] [(.int (((p0.toUInt32 >>> ((2 : Int32) &&& 31).toUInt32).toInt32) % (22 : Int32))), (.ref a4)])) _ _ _ _ _ _
     obtain ⟨ix, hix, eix⟩ := own_rem22 p0
     · rw [eix]
       show own_GW _ _ _ (T4.setTop (mkF m 26 #[.val (.int p0), .val (.int (p0 &&& (3 : Int32))), .val (.int ((p0.toUInt32 >>> ((2 : Int32) &&& 31).toUInt32).toInt32))] [(.int (Int32.ofNat ix)), (.ref a4)])) _ _ _ _ _ _
       obtain ⟨cq7, kq7, q7a, q7b, q7c⟩ := isOf hZ e4 xa4
       obtain ⟨_, _, ⟨T7, L7, k7, n7⟩, -, X7, ⟨Lc7, hQ7, l7, y7, z7⟩, st7⟩ := X4.virtualBack hx (y := Y16) (z := Y16) hown (mvT hZ (own_h hw 15 rfl)) (mvT hZ (own_h hw 16 rfl)) (notFace_of_selects (args := #[]) (mvT hZ (own_h hw 18 rfl))) (mvT hZ (own_h hw 18 rfl)) (mvT hZ (own_h hw 17 rfl)) (by decide) (backOf (W := 0) (rm2 l Z a0 hw [] a4 ix zc fm 0 b4 kb4 own_hexs h4 n0 Zs4 f5 HA xa4 cd4 vl4 f6 own_hexok hix) hZ (own_h hw 19 rfl) (own_h hw 8 rfl) (by decide) (by decide)) q7a q7c (g := (mkF m 26 #[.val (.int p0), .val (.int (p0 &&& (3 : Int32))), .val (.int ((p0.toUInt32 >>> ((2 : Int32) &&& 31).toUInt32).toInt32))] [(.int (Int32.ofNat ix)), (.ref a4)])) rfl (by rw [hml]; rfl) (Steps.refl _) (argsL := [(.int (Int32.ofNat ix))]) (rest := []) (lenOf pd_28 rfl) rfl (own_r0 _) (hb hby d1_26) (fun _ _ => ⟨rfl, e4, (by decide : 2 + 0 ≤ _), (by decide : 92 + 0 ≤ _)⟩)
       dsimp only [Pt.U, Pt.locs, Pt.cells, Pt.slots] at X7 l7 y7 z7 st7 hQ7
       rw [l7] at X7
       subst y7 z7
       obtain ⟨rfl, Nq7, eh7⟩ := hQ7
       have N7 := Fr.app N0 Nq7
       refine own_goW (fun _ k => st7.trans k) ?_
       show own_GW _ _ _ (T7.setTop (mkF m 29 #[.val (.int p0), .val (.int (p0 &&& (3 : Int32))), .val (.int ((p0.toUInt32 >>> ((2 : Int32) &&& 31).toUInt32).toInt32))] [(.int (own_hexs.getD ix 0))])) _ _ _ _ _ _
       have CQ8 := CR4.trans (CHr.keep KS4 all0 CR4.1)
       have CE8 : CHr Z own_EL s.vm s.heap T7.vm T7.heap := by rw [hh, show T7.heap = h4 from eh7]; exact CQ8.trans (CHv.at X7 hZ (own_EW hw) CQ8.1)
       exact own_endWN X7 hx hlk (t := .char) Bd.returns (by simp) (hb hby d1_29) hS4 (show _ ≤ T7.heap.size by rw [show T7.heap = h4 from eh7]; exact (Nat.le_trans hk4 KS4.1)) (by decide) (by decide) CE8 (Q := (Q1 Z p0 zc fm h0 n0)) (by rw [eh7]; exact ⟨nar .char (own_hexs.getD ix 0), rfl, N7, K4_0, own_nr _⟩)
   · refine own_goW (fun _ k => XS.icmpYes X0.here hx rfl (pc0 := 17) (pc' := 30) rfl (hb hby d1_17) rfl (feq hc3).2 (by decide) (by decide) (XS.iloadN X0.here hx rfl (hb hby d1_30) rfl (XS.iconst X0.here hx rfl (hb hby d1_31) k))) ?_
     show own_GW _ _ _ (s₁.setTop (mkF m 32 #[.val (.int p0), .val (.int (p0 &&& (3 : Int32))), .val (.int ((p0.toUInt32 >>> ((2 : Int32) &&& 31).toUInt32).toInt32))] [(.int 2), (.int (p0 &&& (3 : Int32)))])) _ _ _ _ _ _
     by_cases hc9 : (p0 &&& (3 : Int32)) = (2 : Int32)
     · refine own_goW (fun _ k => XS.icmpNo X0.here hx rfl (hb hby d1_32) rfl (teq hc9).2 (XS.iloadN X0.here hx rfl (hb hby d1_35) rfl (XS.bipush X0.here hx rfl (hb hby d1_36) (XS.iand X0.here hx rfl (hb hby d1_38) rfl (XS.i2c X0.here hx rfl (hb hby d1_39) rfl k))))) ?_
       show own_GW _ _ _ (s₁.setTop (mkF m 40 #[.val (.int p0), .val (.int (p0 &&& (3 : Int32))), .val (.int ((p0.toUInt32 >>> ((2 : Int32) &&& 31).toUInt32).toInt32))] [(.int (((p0.toUInt32 >>> ((2 : Int32) &&& 31).toUInt32).toInt32) &&& (127 : Int32)).toUInt32.toUInt16.toUInt32.toInt32)])) _ _ _ _ _ _
       have CQ10 := CR0.trans (CHr.keep KS0 all0 CR0.1)
       have CE10 : CHr Z own_EL s.vm s.heap s₁.vm s₁.heap := by rw [hh, show s₁.heap = h0 from e0]; exact CQ10.trans (CHv.at X0 hZ (own_EW hw) CQ10.1)
       exact own_endWN X0 hx hlk (t := .char) Bd.returns (by simp) (hb hby d1_40) hS0 (show _ ≤ s₁.heap.size by rw [show s₁.heap = h0 from e0]; exact (Nat.le_trans hk0 KS0.1)) (by decide) (by decide) CE10 (Q := (Q1 Z p0 zc fm h0 n0)) (by rw [e0]; exact ⟨nar .char (((p0.toUInt32 >>> ((2 : Int32) &&& 31).toUInt32).toInt32) &&& (127 : Int32)).toUInt32.toUInt16.toUInt32.toInt32, rfl, N0, K0, own_nr _⟩)
     · refine own_goW (fun _ k => XS.icmpYes X0.here hx rfl (pc0 := 32) (pc' := 41) rfl (hb hby d1_32) rfl (feq hc9).2 (by decide) (by decide) (XS.iloadN X0.here hx rfl (hb hby d1_41) rfl (X0.ldcInt hx hown (mvT hZ (own_h hw 6 rfl)) (g := (mkF m 42 #[.val (.int p0), .val (.int (p0 &&& (3 : Int32))), .val (.int ((p0.toUInt32 >>> ((2 : Int32) &&& 31).toUInt32).toInt32))] [(.int ((p0.toUInt32 >>> ((2 : Int32) &&& 31).toUInt32).toInt32))])) rfl (hb hby d1_42) _ (XS.iand X0.here hx rfl (hb hby d1_44) rfl (XS.i2c X0.here hx rfl (hb hby d1_45) rfl k))))) ?_
       show own_GW _ _ _ (s₁.setTop (mkF m 46 #[.val (.int p0), .val (.int (p0 &&& (3 : Int32))), .val (.int ((p0.toUInt32 >>> ((2 : Int32) &&& 31).toUInt32).toInt32))] [(.int (((p0.toUInt32 >>> ((2 : Int32) &&& 31).toUInt32).toInt32) &&& (65535 : Int32)).toUInt32.toUInt16.toUInt32.toInt32)])) _ _ _ _ _ _
       have CQ11 := CR0.trans (CHr.keep KS0 all0 CR0.1)
       have CE11 : CHr Z own_EL s.vm s.heap s₁.vm s₁.heap := by rw [hh, show s₁.heap = h0 from e0]; exact CQ11.trans (CHv.at X0 hZ (own_EW hw) CQ11.1)
       exact own_endWN X0 hx hlk (t := .char) Bd.returns (by simp) (hb hby d1_46) hS0 (show _ ≤ s₁.heap.size by rw [show s₁.heap = h0 from e0]; exact (Nat.le_trans hk0 KS0.1)) (by decide) (by decide) CE11 (Q := (Q1 Z p0 zc fm h0 n0)) (by rw [e0]; exact ⟨nar .char (((p0.toUInt32 >>> ((2 : Int32) &&& 31).toUInt32).toInt32) &&& (65535 : Int32)).toUInt32.toUInt16.toUInt32.toInt32, rfl, N0, K0, own_nr _⟩)
theorem d7_0 : own_d B7 0 (.iload_n 1) 1 := by decide +kernel
theorem d7_1 : own_d B7 1 (.ifCond .ne 14) 3 := by decide +kernel
theorem d7_4 : own_d B7 4 (.new 10) 3 := by decide +kernel
theorem d7_7 : own_d B7 7 (.dup) 1 := by decide +kernel
theorem d7_8 : own_d B7 8 (.iconst 0) 1 := by decide +kernel
theorem d7_9 : own_d B7 9 (.newarray .char) 2 := by decide +kernel
theorem d7_11 : own_d B7 11 (.invokespecial 30) 3 := by decide +kernel
theorem d7_14 : own_d B7 14 (.areturn) 1 := by decide +kernel
theorem d7_15 : own_d B7 15 (.iload_n 1) 1 := by decide +kernel
theorem d7_16 : own_d B7 16 (.iconst 1) 1 := by decide +kernel
theorem d7_17 : own_d B7 17 (.if_icmp .ne 20) 3 := by decide +kernel
theorem d7_20 : own_d B7 20 (.new 10) 3 := by decide +kernel
theorem d7_23 : own_d B7 23 (.dup) 1 := by decide +kernel
theorem d7_24 : own_d B7 24 (.iconst 1) 1 := by decide +kernel
theorem d7_25 : own_d B7 25 (.newarray .char) 2 := by decide +kernel
theorem d7_27 : own_d B7 27 (.dup) 1 := by decide +kernel
theorem d7_28 : own_d B7 28 (.iconst 0) 1 := by decide +kernel
theorem d7_29 : own_d B7 29 (.aload_n 0) 1 := by decide +kernel
theorem d7_30 : own_d B7 30 (.iconst 0) 1 := by decide +kernel
theorem d7_31 : own_d B7 31 (.caload) 1 := by decide +kernel
theorem d7_32 : own_d B7 32 (.castore) 1 := by decide +kernel
theorem d7_33 : own_d B7 33 (.invokespecial 30) 3 := by decide +kernel
theorem d7_36 : own_d B7 36 (.areturn) 1 := by decide +kernel
theorem d7_37 : own_d B7 37 (.iload_n 1) 1 := by decide +kernel
theorem d7_38 : own_d B7 38 (.iconst 2) 1 := by decide +kernel
theorem d7_39 : own_d B7 39 (.if_icmp .ne 26) 3 := by decide +kernel
theorem d7_42 : own_d B7 42 (.new 10) 3 := by decide +kernel
theorem d7_45 : own_d B7 45 (.dup) 1 := by decide +kernel
theorem d7_46 : own_d B7 46 (.iconst 2) 1 := by decide +kernel
theorem d7_47 : own_d B7 47 (.newarray .char) 2 := by decide +kernel
theorem d7_49 : own_d B7 49 (.dup) 1 := by decide +kernel
theorem d7_50 : own_d B7 50 (.iconst 0) 1 := by decide +kernel
theorem d7_51 : own_d B7 51 (.aload_n 0) 1 := by decide +kernel
theorem d7_52 : own_d B7 52 (.iconst 0) 1 := by decide +kernel
theorem d7_53 : own_d B7 53 (.caload) 1 := by decide +kernel
theorem d7_54 : own_d B7 54 (.castore) 1 := by decide +kernel
theorem d7_55 : own_d B7 55 (.dup) 1 := by decide +kernel
theorem d7_56 : own_d B7 56 (.iconst 1) 1 := by decide +kernel
theorem d7_57 : own_d B7 57 (.aload_n 0) 1 := by decide +kernel
theorem d7_58 : own_d B7 58 (.iconst 1) 1 := by decide +kernel
theorem d7_59 : own_d B7 59 (.caload) 1 := by decide +kernel
theorem d7_60 : own_d B7 60 (.castore) 1 := by decide +kernel
theorem d7_61 : own_d B7 61 (.invokespecial 30) 3 := by decide +kernel
theorem d7_64 : own_d B7 64 (.areturn) 1 := by decide +kernel
theorem d7_65 : own_d B7 65 (.iload_n 1) 1 := by decide +kernel
theorem d7_66 : own_d B7 66 (.iconst 3) 1 := by decide +kernel
theorem d7_67 : own_d B7 67 (.if_icmp .ne 32) 3 := by decide +kernel
theorem d7_70 : own_d B7 70 (.new 10) 3 := by decide +kernel
theorem d7_73 : own_d B7 73 (.dup) 1 := by decide +kernel
theorem d7_74 : own_d B7 74 (.iconst 3) 1 := by decide +kernel
theorem d7_75 : own_d B7 75 (.newarray .char) 2 := by decide +kernel
theorem d7_77 : own_d B7 77 (.dup) 1 := by decide +kernel
theorem d7_78 : own_d B7 78 (.iconst 0) 1 := by decide +kernel
theorem d7_79 : own_d B7 79 (.aload_n 0) 1 := by decide +kernel
theorem d7_80 : own_d B7 80 (.iconst 0) 1 := by decide +kernel
theorem d7_81 : own_d B7 81 (.caload) 1 := by decide +kernel
theorem d7_82 : own_d B7 82 (.castore) 1 := by decide +kernel
theorem d7_83 : own_d B7 83 (.dup) 1 := by decide +kernel
theorem d7_84 : own_d B7 84 (.iconst 1) 1 := by decide +kernel
theorem d7_85 : own_d B7 85 (.aload_n 0) 1 := by decide +kernel
theorem d7_86 : own_d B7 86 (.iconst 1) 1 := by decide +kernel
theorem d7_87 : own_d B7 87 (.caload) 1 := by decide +kernel
theorem d7_88 : own_d B7 88 (.castore) 1 := by decide +kernel
theorem d7_89 : own_d B7 89 (.dup) 1 := by decide +kernel
theorem d7_90 : own_d B7 90 (.iconst 2) 1 := by decide +kernel
theorem d7_91 : own_d B7 91 (.aload_n 0) 1 := by decide +kernel
theorem d7_92 : own_d B7 92 (.iconst 2) 1 := by decide +kernel
theorem d7_93 : own_d B7 93 (.caload) 1 := by decide +kernel
theorem d7_94 : own_d B7 94 (.castore) 1 := by decide +kernel
theorem d7_95 : own_d B7 95 (.invokespecial 30) 3 := by decide +kernel
theorem d7_98 : own_d B7 98 (.areturn) 1 := by decide +kernel
theorem d7_99 : own_d B7 99 (.iload_n 1) 1 := by decide +kernel
theorem d7_100 : own_d B7 100 (.iconst 4) 1 := by decide +kernel
theorem d7_101 : own_d B7 101 (.if_icmp .ne 38) 3 := by decide +kernel
theorem d7_104 : own_d B7 104 (.new 10) 3 := by decide +kernel
theorem d7_107 : own_d B7 107 (.dup) 1 := by decide +kernel
theorem d7_108 : own_d B7 108 (.iconst 4) 1 := by decide +kernel
theorem d7_109 : own_d B7 109 (.newarray .char) 2 := by decide +kernel
theorem d7_111 : own_d B7 111 (.dup) 1 := by decide +kernel
theorem d7_112 : own_d B7 112 (.iconst 0) 1 := by decide +kernel
theorem d7_113 : own_d B7 113 (.aload_n 0) 1 := by decide +kernel
theorem d7_114 : own_d B7 114 (.iconst 0) 1 := by decide +kernel
theorem d7_115 : own_d B7 115 (.caload) 1 := by decide +kernel
theorem d7_116 : own_d B7 116 (.castore) 1 := by decide +kernel
theorem d7_117 : own_d B7 117 (.dup) 1 := by decide +kernel
theorem d7_118 : own_d B7 118 (.iconst 1) 1 := by decide +kernel
theorem d7_119 : own_d B7 119 (.aload_n 0) 1 := by decide +kernel
theorem d7_120 : own_d B7 120 (.iconst 1) 1 := by decide +kernel
theorem d7_121 : own_d B7 121 (.caload) 1 := by decide +kernel
theorem d7_122 : own_d B7 122 (.castore) 1 := by decide +kernel
theorem d7_123 : own_d B7 123 (.dup) 1 := by decide +kernel
theorem d7_124 : own_d B7 124 (.iconst 2) 1 := by decide +kernel
theorem d7_125 : own_d B7 125 (.aload_n 0) 1 := by decide +kernel
theorem d7_126 : own_d B7 126 (.iconst 2) 1 := by decide +kernel
theorem d7_127 : own_d B7 127 (.caload) 1 := by decide +kernel
theorem d7_128 : own_d B7 128 (.castore) 1 := by decide +kernel
theorem d7_129 : own_d B7 129 (.dup) 1 := by decide +kernel
theorem d7_130 : own_d B7 130 (.iconst 3) 1 := by decide +kernel
theorem d7_131 : own_d B7 131 (.aload_n 0) 1 := by decide +kernel
theorem d7_132 : own_d B7 132 (.iconst 3) 1 := by decide +kernel
theorem d7_133 : own_d B7 133 (.caload) 1 := by decide +kernel
theorem d7_134 : own_d B7 134 (.castore) 1 := by decide +kernel
theorem d7_135 : own_d B7 135 (.invokespecial 30) 3 := by decide +kernel
theorem d7_138 : own_d B7 138 (.areturn) 1 := by decide +kernel
theorem d7_139 : own_d B7 139 (.new 10) 3 := by decide +kernel
theorem d7_142 : own_d B7 142 (.dup) 1 := by decide +kernel
theorem d7_143 : own_d B7 143 (.iconst 5) 1 := by decide +kernel
theorem d7_144 : own_d B7 144 (.newarray .char) 2 := by decide +kernel
theorem d7_146 : own_d B7 146 (.dup) 1 := by decide +kernel
theorem d7_147 : own_d B7 147 (.iconst 0) 1 := by decide +kernel
theorem d7_148 : own_d B7 148 (.aload_n 0) 1 := by decide +kernel
theorem d7_149 : own_d B7 149 (.iconst 0) 1 := by decide +kernel
theorem d7_150 : own_d B7 150 (.caload) 1 := by decide +kernel
theorem d7_151 : own_d B7 151 (.castore) 1 := by decide +kernel
theorem d7_152 : own_d B7 152 (.dup) 1 := by decide +kernel
theorem d7_153 : own_d B7 153 (.iconst 1) 1 := by decide +kernel
theorem d7_154 : own_d B7 154 (.aload_n 0) 1 := by decide +kernel
theorem d7_155 : own_d B7 155 (.iconst 1) 1 := by decide +kernel
theorem d7_156 : own_d B7 156 (.caload) 1 := by decide +kernel
theorem d7_157 : own_d B7 157 (.castore) 1 := by decide +kernel
theorem d7_158 : own_d B7 158 (.dup) 1 := by decide +kernel
theorem d7_159 : own_d B7 159 (.iconst 2) 1 := by decide +kernel
theorem d7_160 : own_d B7 160 (.aload_n 0) 1 := by decide +kernel
theorem d7_161 : own_d B7 161 (.iconst 2) 1 := by decide +kernel
theorem d7_162 : own_d B7 162 (.caload) 1 := by decide +kernel
theorem d7_163 : own_d B7 163 (.castore) 1 := by decide +kernel
theorem d7_164 : own_d B7 164 (.dup) 1 := by decide +kernel
theorem d7_165 : own_d B7 165 (.iconst 3) 1 := by decide +kernel
theorem d7_166 : own_d B7 166 (.aload_n 0) 1 := by decide +kernel
theorem d7_167 : own_d B7 167 (.iconst 3) 1 := by decide +kernel
theorem d7_168 : own_d B7 168 (.caload) 1 := by decide +kernel
theorem d7_169 : own_d B7 169 (.castore) 1 := by decide +kernel
theorem d7_170 : own_d B7 170 (.dup) 1 := by decide +kernel
theorem d7_171 : own_d B7 171 (.iconst 4) 1 := by decide +kernel
theorem d7_172 : own_d B7 172 (.aload_n 0) 1 := by decide +kernel
theorem d7_173 : own_d B7 173 (.iconst 4) 1 := by decide +kernel
theorem d7_174 : own_d B7 174 (.caload) 1 := by decide +kernel
theorem d7_175 : own_d B7 175 (.castore) 1 := by decide +kernel
theorem d7_176 : own_d B7 176 (.invokespecial 30) 3 := by decide +kernel
theorem d7_179 : own_d B7 179 (.areturn) 1 := by decide +kernel
theorem pd_39 : parseMethodDescriptor "([C)V" = some ⟨[(.array .char)], none⟩ := by decide +kernel
theorem ef_7 (m : MethodId) (p0 : Addr) (n : Nat) : entryFrame m #[(.ref p0), (.int (Int32.ofNat n))] 2 = mkF m 0 #[.val (.ref p0), .val (.int (Int32.ofNat n))] [] := by first | (simp [entryFrame, mkF, argsToLocals, Value.category]; done) | rfl
def Q7 (Z : State) (p0 : Addr) (zc : Int32) (fm : Value) (kc : ClassId) (n : Nat) (x0 : Int32) (x1 : Int32) (x2 : Int32) (x3 : Int32) (x4 : Int32) (h0 : Heap) (n0 : Nat) (v : Option Value) (h : Heap) (L : List Loc) : Prop := ∃ (b : Addr) (t : Addr) (kb : ClassId) (co : Int32), v = some (.ref b) ∧ Fr n0 L ∧ Keep h0 h [] ∧ Exa Z h b "java/lang/String" ∧ Fld Z h b "java/lang/String" "coder" "B" (.int co) ∧ Fld Z h b "java/lang/String" "value" "[B" (.ref t) ∧ Arv Z h t kb .byte (own_cap co (([x0, x1, x2, x3, x4] : List Int32).take n).length) (own_sv co (([x0, x1, x2, x3, x4] : List Int32).take n)) (.int 0) ∧ own_OK co (([x0, x1, x2, x3, x4] : List Int32).take n)
theorem rm7 (l : Launch) (Z : State) (a0 : Array Value) (hw : ∀ d ∈ tables_1, d.before a0 Z = true) (ws : List Jvm.Cond) (p0 : Addr) (zc : Int32) (fm : Value) (kc : ClassId) (n : Nat) (x0 : Int32) (x1 : Int32) (x2 : Int32) (x3 : Int32) (x4 : Int32) (h0 : Heap) (n0 : Nat) (Z0 : n0 ≤ h0.size) (P_Old : Old Z n0 h0) (HA : own_Z Z zc fm) (P_V_p0 : Arv Z h0 p0 kc .char (5 : Int32) [(.int x0), (.int x1), (.int x2), (.int x3), (.int x4)] (.int 0)) (hn5 : n ≤ 5) (hxr : ∀ c ∈ ([x0, x1, x2, x3, x4] : List Int32), own_r c) :
   MetFree l Y69 (head1 (Jvm.Cond.code Y69 method_7_code 2 (some (.object "java/lang/String")) :: ws) ({ frames := 6, cells := 6, slots := 24, locals := 88 } : Room)) (fun a U => a = #[(.ref p0), (.int (Int32.ofNat n))] ∧ Z.Warmed39 U.vm ∧ U.heap = h0 ∧ CHv Z own_EL U.vm h0) (fun _ _ _ _ _ => True) (fun _ U o U' => ∃ v L, o = .returned v ∧ (Q7 Z p0 zc fm kc n x0 x1 x2 x3 x4 h0 n0) v U'.heap L ∧ CHr Z own_EL U.vm U.heap U'.vm U'.heap ∧ ReturnedEndW U o U' L ({ frames := 6, cells := 6, slots := 24, locals := 88 } : Room).cells ({ frames := 6, cells := 6, slots := 24, locals := 88 } : Room).slots) := by
 refine MetFree.of_bodySF (plainFor_of_name pn_8) hisR ?_
 intro p e s m args below meth c s₁ Bd hml0 hP hK
 obtain ⟨rfl, hZ, hh, H0⟩ := hP
 have hx := Bd.exec
 have hby := Bd.bytes
 have hml : c.maxLocals = 2 := hml0
 have hown : s.vm.findClass "com/example/amid2/amid2/PercentEncodingDecodeUnreservedPinLaw" = some m.cls := findClass_of_methodNamed Bd.named
 have hnm := (name_of_methodNamed Bd.named Bd.method).1
 have hlk : meth.locks = false := BodyLoose.notSynchronized Bd
 have X0 : Stand p l e ({ frames := 6, cells := 6, slots := 24, locals := 88 } : Room) (s.setVm s.vm) m #[(.ref p0), (.int (Int32.ofNat n))] below meth c s₁ [] 0 0 := Stand.of_body Bd
 have e0 : s₁.heap = h0 := by rw [← hh, Bd.state]; rfl
 have N0 := Fr.nil n0
 have hS0 := (State.WarmedH.refl s).since s.heap.size
 have hk0 : s.heap.size ≤ h0.size := by rw [hh]; exact Nat.le_refl _
 have CR0 : CHr Z own_EL s.vm h0 s.vm h0 := CHr.refl H0
 have KS0 : Keep h0 h0 [] := Keep.refl _ _
 obtain ⟨Zcs, hcs, Zsi, hfm, Zad, Zhi, Zlo⟩ := id HA
 have K0 : Keep h0 h0 [] := Keep.refl h0 []
 show own_GW p.tables e below (s₁.setTop (entryFrame m #[(.ref p0), (.int (Int32.ofNat n))] 2)) s ({ frames := 6, cells := 6, slots := 24, locals := 88 } : Room).cells ({ frames := 6, cells := 6, slots := 24, locals := 88 } : Room).slots Z own_EL (Q7 Z p0 zc fm kc n x0 x1 x2 x3 x4 h0 n0)
 refine own_goW (fun _ k => castTop (ef_7 m p0 n) k) ?_
 show own_GW _ _ _ (s₁.setTop (mkF m 0 #[.val (.ref p0), .val (.int (Int32.ofNat n))] [])) _ _ _ _ _ _
 rcases own_n5c hn5 with hq | hq | hq | hq | hq | hq
 · have hqn : Int32.ofNat n = (0 : Int32) := by rw [hq]; rfl
   rw [hqn]
   show own_GW _ _ _ (s₁.setTop (mkF m 0 #[.val (.ref p0), .val (.int 0)] [])) _ _ _ _ _ _
   refine own_goW (fun _ k => XS.iloadN X0.here hx rfl (hb hby d7_0) rfl k) ?_
   show own_GW _ _ _ (s₁.setTop (mkF m 1 #[.val (.ref p0), .val (.int 0)] [(.int 0)])) _ _ _ _ _ _
   have hc1 : (0 : Int32) = (0 : Int32) := (by decide)
   refine own_goW (fun _ k => XS.ifNo X0.here hx rfl (hb hby d7_1) rfl ((if0 _ _).trans (teq hc1).2) k) ?_
   obtain ⟨T2, h2, X2, e2, E2, A2, D2, -, st2⟩ := newO X0 hx hZ hown (own_h hw 43 rfl) (own_h hw 9 rfl) (own_h hw 8 rfl) e0 (g := (mkF m 4 #[.val (.ref p0), .val (.int 0)] [])) rfl (hb hby d7_4) (by decide) (by decide)
   obtain ⟨b2, g2⟩ : ∃ z, z = h0.size := ⟨_, rfl⟩
   rw [← g2] at A2 D2 st2
   have ne3 := Nat.ne_of_lt (Nat.lt_of_lt_of_le P_V_p0.lt (Nat.le_of_eq g2.symm))
   have gg2 := Nat.le_trans Z0 (Nat.le_of_eq g2.symm)
   have sz2_0 := Nat.le_trans K0.1 (Nat.le_of_eq g2.symm)
   have sz2_1 := Nat.le_trans KS0.1 (Nat.le_of_eq g2.symm)
   have Zs2 := Nat.le_trans Z0 E2.1
   have K2_0 := K0.ext E2
   have K2_1 := KS0.ext E2
   have f4 := P_Old.ext E2
   have f5 := P_V_p0.ext E2
   have f6 : Exa Z h2 b2 "java/lang/String" := A2
   have f7 : Fld Z h2 b2 "java/lang/String" "value" "[B" .null := D2 (Or.inr (own_h hw 11 rfl)) (ty := (.array .byte)) (by decide)
   have f8 : Fld Z h2 b2 "java/lang/String" "coder" "B" (.int 0) := D2 (Or.inr (own_h hw 12 rfl)) (ty := .byte) (by decide)
   refine own_goW (fun _ k => st2 _ (XS.dup X2.here hx rfl (hb hby d7_7) rfl rfl (XS.iconst X2.here hx rfl (hb hby d7_8) k))) ?_
   obtain ⟨T9, h9, k9, X9, e9, E9, A9, st9⟩ := newP X2 hx hZ (own_h hw 1 rfl) e2 (g := (mkF m 9 #[.val (.ref p0), .val (.int 0)] [(.int 0), (.ref b2), (.ref b2)])) rfl (hb hby d7_9) rfl (by decide) (cap := 0) (by decide) (by decide) (by decide) (by decide)
   obtain ⟨b9, g9⟩ : ∃ z, z = h2.size := ⟨_, rfl⟩
   rw [← g9] at A9 st9
   have ne10 := Nat.ne_of_lt (Nat.lt_of_lt_of_le f5.lt (Nat.le_of_eq g9.symm))
   have ne11 := Nat.ne_of_lt (Nat.lt_of_lt_of_le f6.lt (Nat.le_of_eq g9.symm))
   have gg9 := Nat.le_trans Zs2 (Nat.le_of_eq g9.symm)
   have sz9_0 := Nat.le_trans K2_0.1 (Nat.le_of_eq g9.symm)
   have sz9_1 := Nat.le_trans K2_1.1 (Nat.le_of_eq g9.symm)
   have Zs9 := Nat.le_trans Zs2 E9.1
   have K9_0 := K2_0.ext E9
   have K9_1 := K2_1.ext E9
   have f12 := f4.ext E9
   have f13 := f5.ext E9
   have f14 := f6.ext E9
   have f15 := f7.ext E9
   have f16 := f8.ext E9
   have f17 : Arv Z h9 b9 k9 .char (0 : Int32) [] (.int 0) := Arv.new A9 (by decide)
   refine own_goW (fun _ k => st9 _ k) ?_
   show own_GW _ _ _ (T9.setTop (mkF m 11 #[.val (.ref p0), .val (.int 0)] [(.ref b9), (.ref b2), (.ref b2)])) _ _ _ _ _ _
   have CQ18 := CR0.trans (CHr.keep K9_1 all0 CR0.1)
   obtain ⟨_, _, ⟨T18, L18, k18, n18⟩, -, X18, hS'18, gh18, ⟨Lc18, hQ18, l18, y18, z18, CC18⟩, st18⟩ := X9.specialBackS hx (y := Y35) rfl hown (mvT hZ (own_h hw 44 rfl)) (mvT hZ (own_h hw 45 rfl)) (mvT hZ (own_h hw 46 rfl)) (by decide) (backOfSH (W := 1) (rm8b l Z a0 hw [] b2 b9 k9 h9 n0 Zs9 f14 f15 f16 gg2 f17) hZ (own_h hw 46 rfl) (own_h hw 8 rfl) (by decide) (by decide) (own_EW hw) CQ18.1) (g := (mkF m 11 #[.val (.ref p0), .val (.int 0)] [(.ref b9), (.ref b2), (.ref b2)])) rfl (by rw [hml]; rfl) (Steps.refl _) (a := b2) (argsL := [(.ref b9)]) (rest := [(.ref b2)]) (lenOf pd_39 rfl) rfl (own_r0 _) (hb hby d7_11) (fun _ _ => ⟨rfl, e9, (by decide : 2 + 4 ≤ _), (by decide : 4 + 8 ≤ _)⟩)
   dsimp only [Pt.U, Pt.locs, Pt.cells, Pt.slots] at X18 l18 y18 z18 st18 hQ18 hS'18 gh18 CC18
   rw [l18] at X18
   subst y18 z18
   have hk18 : h9.size ≤ T18.heap.size := by rw [← show T9.heap = h9 from e9]; exact gh18
   obtain ⟨X18, hS18, hZ, hown⟩ := rebS hS0 (Nat.le_trans hk0 K9_1.1) X18 hS'18 hk18 hZ hown
   have CR18 := CQ18.trans CC18
   obtain ⟨t18, kb18, rfl, Nq18, Kq18, r18_0, r18_1, r18_2, r18_3⟩ := hQ18
   have N18 := Fr.app N0 Nq18
   have f19 := f12.keep Kq18 (allS gg2 all0)
   have f20 := f13.keep Kq18 (ninS ne3 nin0)
   have f21 := f14.keep Kq18
   have f22 := f17.keep Kq18 (ninS (Ne.symm ne11) nin0)
   have Zs18 := Nat.le_trans Zs9 Kq18.1
   have K18_0 := K9_0.trans Kq18 (allS (Or.inr sz2_0) all0)
   have KS18 : Keep T18.heap T18.heap [] := Keep.refl _ _
   refine own_goW (fun _ k => st18.trans k) ?_
   show own_GW _ _ _ (T18.setTop (mkF m 14 #[.val (.ref p0), .val (.int 0)] [(.ref b2)])) _ _ _ _ _ _
   have CQ23 := CR18.trans (CHr.keep KS18 all0 CR18.1)
   have CE23 : CHr Z own_EL s.vm s.heap T18.vm T18.heap := by rw [hh, show T18.heap = T18.heap from rfl]; exact CQ23.trans (CHv.at X18 hZ (own_EW hw) CQ23.1)
   exact own_endWO X18 hx hlk Bd.returns rfl (Or.inr (Or.inr (Or.inr (Or.inr ⟨rfl, rfl, rfl⟩)))) (hb hby d7_14) hS18 (show _ ≤ T18.heap.size by rw [show T18.heap = T18.heap from rfl]; exact (Nat.le_trans (Nat.le_refl _) KS18.1)) (by decide) (by decide) CE23 (Q := (Q7 Z p0 zc fm kc n x0 x1 x2 x3 x4 h0 n0)) ⟨b2, t18, kb18, 0, rfl, N18, K18_0, r18_0, r18_1, r18_2, (by rw [hq]; exact own_v0r rfl r18_3), (by rw [hq]; exact ⟨Or.inl ⟨rfl, own_tk0⟩, own_tk0, by show 0 ≤ 22; decide⟩)⟩
 · have hqn : Int32.ofNat n = (1 : Int32) := by rw [hq]; rfl
   rw [hqn]
   show own_GW _ _ _ (s₁.setTop (mkF m 0 #[.val (.ref p0), .val (.int 1)] [])) _ _ _ _ _ _
   refine own_goW (fun _ k => XS.iloadN X0.here hx rfl (hb hby d7_0) rfl k) ?_
   show own_GW _ _ _ (s₁.setTop (mkF m 1 #[.val (.ref p0), .val (.int 1)] [(.int 1)])) _ _ _ _ _ _
   have hc24 : ¬ ((1 : Int32) = (0 : Int32)) := (by decide)
   refine own_goW (fun _ k => XS.ifYes X0.here hx rfl (pc0 := 1) (pc' := 15) rfl (hb hby d7_1) rfl ((if0 _ _).trans (feq hc24).2) (by decide) (by decide) (XS.iloadN X0.here hx rfl (hb hby d7_15) rfl (XS.iconst X0.here hx rfl (hb hby d7_16) k))) ?_
   show own_GW _ _ _ (s₁.setTop (mkF m 17 #[.val (.ref p0), .val (.int 1)] [(.int 1), (.int 1)])) _ _ _ _ _ _
   have hc25 : (1 : Int32) = (1 : Int32) := (by decide)
   refine own_goW (fun _ k => XS.icmpNo X0.here hx rfl (hb hby d7_17) rfl (teq hc25).2 k) ?_
   obtain ⟨T26, h26, X26, e26, E26, A26, D26, -, st26⟩ := newO X0 hx hZ hown (own_h hw 43 rfl) (own_h hw 9 rfl) (own_h hw 8 rfl) e0 (g := (mkF m 20 #[.val (.ref p0), .val (.int 1)] [])) rfl (hb hby d7_20) (by decide) (by decide)
   obtain ⟨b26, g26⟩ : ∃ z, z = h0.size := ⟨_, rfl⟩
   rw [← g26] at A26 D26 st26
   have ne27 := Nat.ne_of_lt (Nat.lt_of_lt_of_le P_V_p0.lt (Nat.le_of_eq g26.symm))
   have gg26 := Nat.le_trans Z0 (Nat.le_of_eq g26.symm)
   have sz26_0 := Nat.le_trans K0.1 (Nat.le_of_eq g26.symm)
   have sz26_1 := Nat.le_trans KS0.1 (Nat.le_of_eq g26.symm)
   have Zs26 := Nat.le_trans Z0 E26.1
   have K26_0 := K0.ext E26
   have K26_1 := KS0.ext E26
   have f28 := P_Old.ext E26
   have f29 := P_V_p0.ext E26
   have f30 : Exa Z h26 b26 "java/lang/String" := A26
   have f31 : Fld Z h26 b26 "java/lang/String" "value" "[B" .null := D26 (Or.inr (own_h hw 11 rfl)) (ty := (.array .byte)) (by decide)
   have f32 : Fld Z h26 b26 "java/lang/String" "coder" "B" (.int 0) := D26 (Or.inr (own_h hw 12 rfl)) (ty := .byte) (by decide)
   refine own_goW (fun _ k => st26 _ (XS.dup X26.here hx rfl (hb hby d7_23) rfl rfl (XS.iconst X26.here hx rfl (hb hby d7_24) k))) ?_
   obtain ⟨T33, h33, k33, X33, e33, E33, A33, st33⟩ := newP X26 hx hZ (own_h hw 1 rfl) e26 (g := (mkF m 25 #[.val (.ref p0), .val (.int 1)] [(.int 1), (.ref b26), (.ref b26)])) rfl (hb hby d7_25) rfl (by decide) (cap := 1) (by decide) (by decide) (by decide) (by decide)
   obtain ⟨b33, g33⟩ : ∃ z, z = h26.size := ⟨_, rfl⟩
   rw [← g33] at A33 st33
   have ne34 := Nat.ne_of_lt (Nat.lt_of_lt_of_le f29.lt (Nat.le_of_eq g33.symm))
   have ne35 := Nat.ne_of_lt (Nat.lt_of_lt_of_le f30.lt (Nat.le_of_eq g33.symm))
   have gg33 := Nat.le_trans Zs26 (Nat.le_of_eq g33.symm)
   have sz33_0 := Nat.le_trans K26_0.1 (Nat.le_of_eq g33.symm)
   have sz33_1 := Nat.le_trans K26_1.1 (Nat.le_of_eq g33.symm)
   have Zs33 := Nat.le_trans Zs26 E33.1
   have K33_0 := K26_0.ext E33
   have K33_1 := K26_1.ext E33
   have f36 := f28.ext E33
   have f37 := f29.ext E33
   have f38 := f30.ext E33
   have f39 := f31.ext E33
   have f40 := f32.ext E33
   have f41 : Arv Z h33 b33 k33 .char (1 : Int32) [(.int 0)] (.int 0) := (Arv.new A33 (by decide)).pad (pad_rep [] (.int 0) 1)
   refine own_goW (fun _ k => st33 _ (XS.dup X33.here hx rfl (hb hby d7_27) rfl rfl (XS.iconst X33.here hx rfl (hb hby d7_28) (XS.aloadN X33.here hx rfl (hb hby d7_29) rfl rfl (XS.iconst X33.here hx rfl (hb hby d7_30) k))))) ?_
   obtain ⟨cl42, Ar42, q42, S42, Ng42, H42, G42⟩ := id f37
   have in42 : ¬ ((0 : Int32) < 0 ∨ cl42.slots.size ≤ ((0 : Int32)).toNatClampNeg) := inb_of S42 ⟨by decide, by decide⟩
   have at42 : cl42.slots[((0 : Int32)).toNatClampNeg]? = some (.int x0) := H42.at in42 rfl
   refine own_goW (fun _ k => X33.caload hx (j := (0 : Int32)) (v := (.int x0)) (by rw [e33]; exact Ar42.1) (State.isArrayOf_alike hZ.alike Ar42.2.1) Ar42.2.2 in42 at42 (g := (mkF m 31 #[.val (.ref p0), .val (.int 1)] [(.int 0), (.ref p0), (.int 0), (.ref b33), (.ref b33), (.ref b26), (.ref b26)])) rfl rfl (hb hby d7_31) _ k) ?_
   obtain ⟨cl43, Ar43, q43, S43, Ng43, H43, G43⟩ := id f41
   have in43 : ¬ ((0 : Int32) < 0 ∨ cl43.slots.size ≤ ((0 : Int32)).toNatClampNeg) := inb_of S43 ⟨by decide, by decide⟩
   obtain ⟨T43, h43, X43, e43, W43, st43⟩ := stC X33 hx hZ e33 Ar43 (j := (0 : Int32)) in43 (g := (mkF m 32 #[.val (.ref p0), .val (.int 1)] [(.int x0), (.int 0), (.ref b33), (.ref b33), (.ref b26), (.ref b26)])) rfl rfl (hb hby d7_32)
   have N43 := Fr.snoc X43 N0 gg33
   have Zs43 := Nat.le_trans Zs33 (Keep.of_wr W43).1
   have K43_0 := K33_0.wr W43 (Or.inr sz33_0)
   have K43_1 := K33_1.wr W43 (Or.inr sz33_1)
   have f44 := f36.wr W43 gg33
   have f45 := f37.other W43 ne34
   have f46 := f38.wr W43
   have f47 := f39.other W43 (Or.inl ne35)
   have f48 := f40.other W43 (Or.inl ne35)
   have f49 : Arv Z h43 b33 k33 .char (1 : Int32) [(.int x0)] (.int 0) := (by have q := Arv.set Ar43 q43 S43 Ng43 H43 G43 (fits_nar_char _) W43 0 rfl (Nat.le_of_ble_eq_true rfl); rw [(own_rnar x0 (hxr _ (by simp)))] at q; exact q)
   refine own_goW (fun _ k => st43 _ k) ?_
   obtain ⟨_, _, ⟨T50, L50, k50, n50⟩, -, X50, ⟨Lc50, hQ50, l50, y50, z50⟩, st50⟩ := X43.specialBack hx (y := Y35) rfl hown (mvT hZ (own_h hw 44 rfl)) (mvT hZ (own_h hw 45 rfl)) (mvT hZ (own_h hw 46 rfl)) (by decide) (backOf (W := 1) (rm8a l Z a0 hw [] b26 b33 zc fm 1 k33 ([x0] : List Int32) h43 n0 Zs43 f46 f47 f48 gg26 f44 HA f49 (by decide) (by decide) rfl (own_tk 1 hxr)) hZ (own_h hw 46 rfl) (own_h hw 8 rfl) (by decide) (by decide)) (g := (mkF m 33 #[.val (.ref p0), .val (.int 1)] [(.ref b33), (.ref b26), (.ref b26)])) rfl (by rw [hml]; rfl) (Steps.refl _) (a := b26) (argsL := [(.ref b33)]) (rest := [(.ref b26)]) (lenOf pd_39 rfl) rfl (own_r0 _) (hb hby d7_33) (fun _ _ => ⟨rfl, e43, (by decide : 2 + 2 ≤ _), (by decide : 5 + 15 ≤ _)⟩)
   dsimp only [Pt.U, Pt.locs, Pt.cells, Pt.slots] at X50 l50 y50 z50 st50 hQ50
   rw [l50] at X50
   subst y50 z50
   obtain ⟨t50, kb50, co50, rfl, Nq50, Kq50, r50_0, r50_1, r50_2, r50_3, r50_4, r50_5⟩ := hQ50
   have N50 := Fr.app N43 Nq50
   have ne51 := Nat.ne_of_lt (Nat.lt_of_lt_of_le f45.lt r50_4)
   have ne52 := Nat.ne_of_lt (Nat.lt_of_lt_of_le f46.lt r50_4)
   have ne53 := Nat.ne_of_lt (Nat.lt_of_lt_of_le f49.lt r50_4)
   have gg_t50 := Nat.le_trans Zs43 r50_4
   have sz_t50_0 := Nat.le_trans K43_0.1 r50_4
   have sz_t50_1 := Nat.le_trans K43_1.1 r50_4
   have f54 := f44.keep Kq50 (allS gg26 all0)
   have f55 := f45.keep Kq50 (ninS ne27 nin0)
   have f56 := f46.keep Kq50
   have f57 := f49.keep Kq50 (ninS (Ne.symm ne35) nin0)
   have Zs50 := Nat.le_trans Zs43 Kq50.1
   have K50_0 := K43_0.trans Kq50 (allS (Or.inr sz26_0) all0)
   have K50_1 := K43_1.trans Kq50 (allS (Or.inr sz26_1) all0)
   refine own_goW (fun _ k => st50.trans k) ?_
   show own_GW _ _ _ (T50.setTop (mkF m 36 #[.val (.ref p0), .val (.int 1)] [(.ref b26)])) _ _ _ _ _ _
   have CQ58 := CR0.trans (CHr.keep K50_1 all0 CR0.1)
   have CE58 : CHr Z own_EL s.vm s.heap T50.vm T50.heap := by rw [hh, show T50.heap = T50.heap from rfl]; exact CQ58.trans (CHv.at X50 hZ (own_EW hw) CQ58.1)
   exact own_endWO X50 hx hlk Bd.returns rfl (Or.inr (Or.inr (Or.inr (Or.inr ⟨rfl, rfl, rfl⟩)))) (hb hby d7_36) hS0 (show _ ≤ T50.heap.size by rw [show T50.heap = T50.heap from rfl]; exact (Nat.le_trans hk0 K50_1.1)) (by decide) (by decide) CE58 (Q := (Q7 Z p0 zc fm kc n x0 x1 x2 x3 x4 h0 n0)) ⟨b26, t50, kb50, co50, rfl, N50, K50_0, r50_0, r50_1, r50_2, (by rw [hq]; exact r50_3), (by rw [hq]; exact ⟨r50_5, own_tk 1 hxr, by show 1 ≤ 22; decide⟩)⟩
 · have hqn : Int32.ofNat n = (2 : Int32) := by rw [hq]; rfl
   rw [hqn]
   show own_GW _ _ _ (s₁.setTop (mkF m 0 #[.val (.ref p0), .val (.int 2)] [])) _ _ _ _ _ _
   refine own_goW (fun _ k => XS.iloadN X0.here hx rfl (hb hby d7_0) rfl k) ?_
   show own_GW _ _ _ (s₁.setTop (mkF m 1 #[.val (.ref p0), .val (.int 2)] [(.int 2)])) _ _ _ _ _ _
   have hc59 : ¬ ((2 : Int32) = (0 : Int32)) := (by decide)
   refine own_goW (fun _ k => XS.ifYes X0.here hx rfl (pc0 := 1) (pc' := 15) rfl (hb hby d7_1) rfl ((if0 _ _).trans (feq hc59).2) (by decide) (by decide) (XS.iloadN X0.here hx rfl (hb hby d7_15) rfl (XS.iconst X0.here hx rfl (hb hby d7_16) k))) ?_
   show own_GW _ _ _ (s₁.setTop (mkF m 17 #[.val (.ref p0), .val (.int 2)] [(.int 1), (.int 2)])) _ _ _ _ _ _
   have hc60 : ¬ ((2 : Int32) = (1 : Int32)) := (by decide)
   refine own_goW (fun _ k => XS.icmpYes X0.here hx rfl (pc0 := 17) (pc' := 37) rfl (hb hby d7_17) rfl (feq hc60).2 (by decide) (by decide) (XS.iloadN X0.here hx rfl (hb hby d7_37) rfl (XS.iconst X0.here hx rfl (hb hby d7_38) k))) ?_
   show own_GW _ _ _ (s₁.setTop (mkF m 39 #[.val (.ref p0), .val (.int 2)] [(.int 2), (.int 2)])) _ _ _ _ _ _
   have hc61 : (2 : Int32) = (2 : Int32) := (by decide)
   refine own_goW (fun _ k => XS.icmpNo X0.here hx rfl (hb hby d7_39) rfl (teq hc61).2 k) ?_
   obtain ⟨T62, h62, X62, e62, E62, A62, D62, -, st62⟩ := newO X0 hx hZ hown (own_h hw 43 rfl) (own_h hw 9 rfl) (own_h hw 8 rfl) e0 (g := (mkF m 42 #[.val (.ref p0), .val (.int 2)] [])) rfl (hb hby d7_42) (by decide) (by decide)
   obtain ⟨b62, g62⟩ : ∃ z, z = h0.size := ⟨_, rfl⟩
   rw [← g62] at A62 D62 st62
   have ne63 := Nat.ne_of_lt (Nat.lt_of_lt_of_le P_V_p0.lt (Nat.le_of_eq g62.symm))
   have gg62 := Nat.le_trans Z0 (Nat.le_of_eq g62.symm)
   have sz62_0 := Nat.le_trans K0.1 (Nat.le_of_eq g62.symm)
   have sz62_1 := Nat.le_trans KS0.1 (Nat.le_of_eq g62.symm)
   have Zs62 := Nat.le_trans Z0 E62.1
   have K62_0 := K0.ext E62
   have K62_1 := KS0.ext E62
   have f64 := P_Old.ext E62
   have f65 := P_V_p0.ext E62
   have f66 : Exa Z h62 b62 "java/lang/String" := A62
   have f67 : Fld Z h62 b62 "java/lang/String" "value" "[B" .null := D62 (Or.inr (own_h hw 11 rfl)) (ty := (.array .byte)) (by decide)
   have f68 : Fld Z h62 b62 "java/lang/String" "coder" "B" (.int 0) := D62 (Or.inr (own_h hw 12 rfl)) (ty := .byte) (by decide)
   refine own_goW (fun _ k => st62 _ (XS.dup X62.here hx rfl (hb hby d7_45) rfl rfl (XS.iconst X62.here hx rfl (hb hby d7_46) k))) ?_
   obtain ⟨T69, h69, k69, X69, e69, E69, A69, st69⟩ := newP X62 hx hZ (own_h hw 1 rfl) e62 (g := (mkF m 47 #[.val (.ref p0), .val (.int 2)] [(.int 2), (.ref b62), (.ref b62)])) rfl (hb hby d7_47) rfl (by decide) (cap := 2) (by decide) (by decide) (by decide) (by decide)
   obtain ⟨b69, g69⟩ : ∃ z, z = h62.size := ⟨_, rfl⟩
   rw [← g69] at A69 st69
   have ne70 := Nat.ne_of_lt (Nat.lt_of_lt_of_le f65.lt (Nat.le_of_eq g69.symm))
   have ne71 := Nat.ne_of_lt (Nat.lt_of_lt_of_le f66.lt (Nat.le_of_eq g69.symm))
   have gg69 := Nat.le_trans Zs62 (Nat.le_of_eq g69.symm)
   have sz69_0 := Nat.le_trans K62_0.1 (Nat.le_of_eq g69.symm)
   have sz69_1 := Nat.le_trans K62_1.1 (Nat.le_of_eq g69.symm)
   have Zs69 := Nat.le_trans Zs62 E69.1
   have K69_0 := K62_0.ext E69
   have K69_1 := K62_1.ext E69
   have f72 := f64.ext E69
   have f73 := f65.ext E69
   have f74 := f66.ext E69
   have f75 := f67.ext E69
   have f76 := f68.ext E69
   have f77 : Arv Z h69 b69 k69 .char (2 : Int32) [(.int 0), (.int 0)] (.int 0) := (Arv.new A69 (by decide)).pad (pad_rep [] (.int 0) 2)
   refine own_goW (fun _ k => st69 _ (XS.dup X69.here hx rfl (hb hby d7_49) rfl rfl (XS.iconst X69.here hx rfl (hb hby d7_50) (XS.aloadN X69.here hx rfl (hb hby d7_51) rfl rfl (XS.iconst X69.here hx rfl (hb hby d7_52) k))))) ?_
   obtain ⟨cl78, Ar78, q78, S78, Ng78, H78, G78⟩ := id f73
   have in78 : ¬ ((0 : Int32) < 0 ∨ cl78.slots.size ≤ ((0 : Int32)).toNatClampNeg) := inb_of S78 ⟨by decide, by decide⟩
   have at78 : cl78.slots[((0 : Int32)).toNatClampNeg]? = some (.int x0) := H78.at in78 rfl
   refine own_goW (fun _ k => X69.caload hx (j := (0 : Int32)) (v := (.int x0)) (by rw [e69]; exact Ar78.1) (State.isArrayOf_alike hZ.alike Ar78.2.1) Ar78.2.2 in78 at78 (g := (mkF m 53 #[.val (.ref p0), .val (.int 2)] [(.int 0), (.ref p0), (.int 0), (.ref b69), (.ref b69), (.ref b62), (.ref b62)])) rfl rfl (hb hby d7_53) _ k) ?_
   obtain ⟨cl79, Ar79, q79, S79, Ng79, H79, G79⟩ := id f77
   have in79 : ¬ ((0 : Int32) < 0 ∨ cl79.slots.size ≤ ((0 : Int32)).toNatClampNeg) := inb_of S79 ⟨by decide, by decide⟩
   obtain ⟨T79, h79, X79, e79, W79, st79⟩ := stC X69 hx hZ e69 Ar79 (j := (0 : Int32)) in79 (g := (mkF m 54 #[.val (.ref p0), .val (.int 2)] [(.int x0), (.int 0), (.ref b69), (.ref b69), (.ref b62), (.ref b62)])) rfl rfl (hb hby d7_54)
   have N79 := Fr.snoc X79 N0 gg69
   have Zs79 := Nat.le_trans Zs69 (Keep.of_wr W79).1
   have K79_0 := K69_0.wr W79 (Or.inr sz69_0)
   have K79_1 := K69_1.wr W79 (Or.inr sz69_1)
   have f80 := f72.wr W79 gg69
   have f81 := f73.other W79 ne70
   have f82 := f74.wr W79
   have f83 := f75.other W79 (Or.inl ne71)
   have f84 := f76.other W79 (Or.inl ne71)
   have f85 : Arv Z h79 b69 k69 .char (2 : Int32) [(.int x0), (.int 0)] (.int 0) := (by have q := Arv.set Ar79 q79 S79 Ng79 H79 G79 (fits_nar_char _) W79 0 rfl (Nat.le_of_ble_eq_true rfl); rw [(own_rnar x0 (hxr _ (by simp)))] at q; exact q)
   refine own_goW (fun _ k => st79 _ (XS.dup X79.here hx rfl (hb hby d7_55) rfl rfl (XS.iconst X79.here hx rfl (hb hby d7_56) (XS.aloadN X79.here hx rfl (hb hby d7_57) rfl rfl (XS.iconst X79.here hx rfl (hb hby d7_58) k))))) ?_
   obtain ⟨cl86, Ar86, q86, S86, Ng86, H86, G86⟩ := id f81
   have in86 : ¬ ((1 : Int32) < 0 ∨ cl86.slots.size ≤ ((1 : Int32)).toNatClampNeg) := inb_of S86 ⟨by decide, by decide⟩
   have at86 : cl86.slots[((1 : Int32)).toNatClampNeg]? = some (.int x1) := H86.at in86 rfl
   refine own_goW (fun _ k => X79.caload hx (j := (1 : Int32)) (v := (.int x1)) (by rw [e79]; exact Ar86.1) (State.isArrayOf_alike hZ.alike Ar86.2.1) Ar86.2.2 in86 at86 (g := (mkF m 59 #[.val (.ref p0), .val (.int 2)] [(.int 1), (.ref p0), (.int 1), (.ref b69), (.ref b69), (.ref b62), (.ref b62)])) rfl rfl (hb hby d7_59) _ k) ?_
   obtain ⟨cl87, Ar87, q87, S87, Ng87, H87, G87⟩ := id f85
   have in87 : ¬ ((1 : Int32) < 0 ∨ cl87.slots.size ≤ ((1 : Int32)).toNatClampNeg) := inb_of S87 ⟨by decide, by decide⟩
   obtain ⟨T87, h87, X87, e87, W87, st87⟩ := stC X79 hx hZ e79 Ar87 (j := (1 : Int32)) in87 (g := (mkF m 60 #[.val (.ref p0), .val (.int 2)] [(.int x1), (.int 1), (.ref b69), (.ref b69), (.ref b62), (.ref b62)])) rfl rfl (hb hby d7_60)
   have N87 := Fr.snoc X87 N79 gg69
   have Zs87 := Nat.le_trans Zs79 (Keep.of_wr W87).1
   have K87_0 := K79_0.wr W87 (Or.inr sz69_0)
   have K87_1 := K79_1.wr W87 (Or.inr sz69_1)
   have f88 := f80.wr W87 gg69
   have f89 := f81.other W87 ne70
   have f90 := f82.wr W87
   have f91 := f83.other W87 (Or.inl ne71)
   have f92 := f84.other W87 (Or.inl ne71)
   have f93 : Arv Z h87 b69 k69 .char (2 : Int32) [(.int x0), (.int x1)] (.int 0) := (by have q := Arv.set Ar87 q87 S87 Ng87 H87 G87 (fits_nar_char _) W87 1 rfl (Nat.le_of_ble_eq_true rfl); rw [(own_rnar x1 (hxr _ (by simp)))] at q; exact q)
   refine own_goW (fun _ k => st87 _ k) ?_
   obtain ⟨_, _, ⟨T94, L94, k94, n94⟩, -, X94, ⟨Lc94, hQ94, l94, y94, z94⟩, st94⟩ := X87.specialBack hx (y := Y35) rfl hown (mvT hZ (own_h hw 44 rfl)) (mvT hZ (own_h hw 45 rfl)) (mvT hZ (own_h hw 46 rfl)) (by decide) (backOf (W := 1) (rm8a l Z a0 hw [] b62 b69 zc fm 2 k69 ([x0, x1] : List Int32) h87 n0 Zs87 f90 f91 f92 gg62 f88 HA f93 (by decide) (by decide) rfl (own_tk 2 hxr)) hZ (own_h hw 46 rfl) (own_h hw 8 rfl) (by decide) (by decide)) (g := (mkF m 61 #[.val (.ref p0), .val (.int 2)] [(.ref b69), (.ref b62), (.ref b62)])) rfl (by rw [hml]; rfl) (Steps.refl _) (a := b62) (argsL := [(.ref b69)]) (rest := [(.ref b62)]) (lenOf pd_39 rfl) rfl (own_r0 _) (hb hby d7_61) (fun _ _ => ⟨rfl, e87, (by decide : 2 + 2 ≤ _), (by decide : 6 + 15 ≤ _)⟩)
   dsimp only [Pt.U, Pt.locs, Pt.cells, Pt.slots] at X94 l94 y94 z94 st94 hQ94
   rw [l94] at X94
   subst y94 z94
   obtain ⟨t94, kb94, co94, rfl, Nq94, Kq94, r94_0, r94_1, r94_2, r94_3, r94_4, r94_5⟩ := hQ94
   have N94 := Fr.app N87 Nq94
   have ne95 := Nat.ne_of_lt (Nat.lt_of_lt_of_le f89.lt r94_4)
   have ne96 := Nat.ne_of_lt (Nat.lt_of_lt_of_le f90.lt r94_4)
   have ne97 := Nat.ne_of_lt (Nat.lt_of_lt_of_le f93.lt r94_4)
   have gg_t94 := Nat.le_trans Zs87 r94_4
   have sz_t94_0 := Nat.le_trans K87_0.1 r94_4
   have sz_t94_1 := Nat.le_trans K87_1.1 r94_4
   have f98 := f88.keep Kq94 (allS gg62 all0)
   have f99 := f89.keep Kq94 (ninS ne63 nin0)
   have f100 := f90.keep Kq94
   have f101 := f93.keep Kq94 (ninS (Ne.symm ne71) nin0)
   have Zs94 := Nat.le_trans Zs87 Kq94.1
   have K94_0 := K87_0.trans Kq94 (allS (Or.inr sz62_0) all0)
   have K94_1 := K87_1.trans Kq94 (allS (Or.inr sz62_1) all0)
   refine own_goW (fun _ k => st94.trans k) ?_
   show own_GW _ _ _ (T94.setTop (mkF m 64 #[.val (.ref p0), .val (.int 2)] [(.ref b62)])) _ _ _ _ _ _
   have CQ102 := CR0.trans (CHr.keep K94_1 all0 CR0.1)
   have CE102 : CHr Z own_EL s.vm s.heap T94.vm T94.heap := by rw [hh, show T94.heap = T94.heap from rfl]; exact CQ102.trans (CHv.at X94 hZ (own_EW hw) CQ102.1)
   exact own_endWO X94 hx hlk Bd.returns rfl (Or.inr (Or.inr (Or.inr (Or.inr ⟨rfl, rfl, rfl⟩)))) (hb hby d7_64) hS0 (show _ ≤ T94.heap.size by rw [show T94.heap = T94.heap from rfl]; exact (Nat.le_trans hk0 K94_1.1)) (by decide) (by decide) CE102 (Q := (Q7 Z p0 zc fm kc n x0 x1 x2 x3 x4 h0 n0)) ⟨b62, t94, kb94, co94, rfl, N94, K94_0, r94_0, r94_1, r94_2, (by rw [hq]; exact r94_3), (by rw [hq]; exact ⟨r94_5, own_tk 2 hxr, by show 2 ≤ 22; decide⟩)⟩
 · have hqn : Int32.ofNat n = (3 : Int32) := by rw [hq]; rfl
   rw [hqn]
   show own_GW _ _ _ (s₁.setTop (mkF m 0 #[.val (.ref p0), .val (.int 3)] [])) _ _ _ _ _ _
   refine own_goW (fun _ k => XS.iloadN X0.here hx rfl (hb hby d7_0) rfl k) ?_
   show own_GW _ _ _ (s₁.setTop (mkF m 1 #[.val (.ref p0), .val (.int 3)] [(.int 3)])) _ _ _ _ _ _
   have hc103 : ¬ ((3 : Int32) = (0 : Int32)) := (by decide)
   refine own_goW (fun _ k => XS.ifYes X0.here hx rfl (pc0 := 1) (pc' := 15) rfl (hb hby d7_1) rfl ((if0 _ _).trans (feq hc103).2) (by decide) (by decide) (XS.iloadN X0.here hx rfl (hb hby d7_15) rfl (XS.iconst X0.here hx rfl (hb hby d7_16) k))) ?_
   show own_GW _ _ _ (s₁.setTop (mkF m 17 #[.val (.ref p0), .val (.int 3)] [(.int 1), (.int 3)])) _ _ _ _ _ _
   have hc104 : ¬ ((3 : Int32) = (1 : Int32)) := (by decide)
   refine own_goW (fun _ k => XS.icmpYes X0.here hx rfl (pc0 := 17) (pc' := 37) rfl (hb hby d7_17) rfl (feq hc104).2 (by decide) (by decide) (XS.iloadN X0.here hx rfl (hb hby d7_37) rfl (XS.iconst X0.here hx rfl (hb hby d7_38) k))) ?_
   show own_GW _ _ _ (s₁.setTop (mkF m 39 #[.val (.ref p0), .val (.int 3)] [(.int 2), (.int 3)])) _ _ _ _ _ _
   have hc105 : ¬ ((3 : Int32) = (2 : Int32)) := (by decide)
   refine own_goW (fun _ k => XS.icmpYes X0.here hx rfl (pc0 := 39) (pc' := 65) rfl (hb hby d7_39) rfl (feq hc105).2 (by decide) (by decide) (XS.iloadN X0.here hx rfl (hb hby d7_65) rfl (XS.iconst X0.here hx rfl (hb hby d7_66) k))) ?_
   show own_GW _ _ _ (s₁.setTop (mkF m 67 #[.val (.ref p0), .val (.int 3)] [(.int 3), (.int 3)])) _ _ _ _ _ _
   have hc106 : (3 : Int32) = (3 : Int32) := (by decide)
   refine own_goW (fun _ k => XS.icmpNo X0.here hx rfl (hb hby d7_67) rfl (teq hc106).2 k) ?_
   obtain ⟨T107, h107, X107, e107, E107, A107, D107, -, st107⟩ := newO X0 hx hZ hown (own_h hw 43 rfl) (own_h hw 9 rfl) (own_h hw 8 rfl) e0 (g := (mkF m 70 #[.val (.ref p0), .val (.int 3)] [])) rfl (hb hby d7_70) (by decide) (by decide)
   obtain ⟨b107, g107⟩ : ∃ z, z = h0.size := ⟨_, rfl⟩
   rw [← g107] at A107 D107 st107
   have ne108 := Nat.ne_of_lt (Nat.lt_of_lt_of_le P_V_p0.lt (Nat.le_of_eq g107.symm))
   have gg107 := Nat.le_trans Z0 (Nat.le_of_eq g107.symm)
   have sz107_0 := Nat.le_trans K0.1 (Nat.le_of_eq g107.symm)
   have sz107_1 := Nat.le_trans KS0.1 (Nat.le_of_eq g107.symm)
   have Zs107 := Nat.le_trans Z0 E107.1
   have K107_0 := K0.ext E107
   have K107_1 := KS0.ext E107
   have f109 := P_Old.ext E107
   have f110 := P_V_p0.ext E107
   have f111 : Exa Z h107 b107 "java/lang/String" := A107
   have f112 : Fld Z h107 b107 "java/lang/String" "value" "[B" .null := D107 (Or.inr (own_h hw 11 rfl)) (ty := (.array .byte)) (by decide)
   have f113 : Fld Z h107 b107 "java/lang/String" "coder" "B" (.int 0) := D107 (Or.inr (own_h hw 12 rfl)) (ty := .byte) (by decide)
   refine own_goW (fun _ k => st107 _ (XS.dup X107.here hx rfl (hb hby d7_73) rfl rfl (XS.iconst X107.here hx rfl (hb hby d7_74) k))) ?_
   obtain ⟨T114, h114, k114, X114, e114, E114, A114, st114⟩ := newP X107 hx hZ (own_h hw 1 rfl) e107 (g := (mkF m 75 #[.val (.ref p0), .val (.int 3)] [(.int 3), (.ref b107), (.ref b107)])) rfl (hb hby d7_75) rfl (by decide) (cap := 3) (by decide) (by decide) (by decide) (by decide)
   obtain ⟨b114, g114⟩ : ∃ z, z = h107.size := ⟨_, rfl⟩
   rw [← g114] at A114 st114
   have ne115 := Nat.ne_of_lt (Nat.lt_of_lt_of_le f110.lt (Nat.le_of_eq g114.symm))
   have ne116 := Nat.ne_of_lt (Nat.lt_of_lt_of_le f111.lt (Nat.le_of_eq g114.symm))
   have gg114 := Nat.le_trans Zs107 (Nat.le_of_eq g114.symm)
   have sz114_0 := Nat.le_trans K107_0.1 (Nat.le_of_eq g114.symm)
   have sz114_1 := Nat.le_trans K107_1.1 (Nat.le_of_eq g114.symm)
   have Zs114 := Nat.le_trans Zs107 E114.1
   have K114_0 := K107_0.ext E114
   have K114_1 := K107_1.ext E114
   have f117 := f109.ext E114
   have f118 := f110.ext E114
   have f119 := f111.ext E114
   have f120 := f112.ext E114
   have f121 := f113.ext E114
   have f122 : Arv Z h114 b114 k114 .char (3 : Int32) [(.int 0), (.int 0), (.int 0)] (.int 0) := (Arv.new A114 (by decide)).pad (pad_rep [] (.int 0) 3)
   refine own_goW (fun _ k => st114 _ (XS.dup X114.here hx rfl (hb hby d7_77) rfl rfl (XS.iconst X114.here hx rfl (hb hby d7_78) (XS.aloadN X114.here hx rfl (hb hby d7_79) rfl rfl (XS.iconst X114.here hx rfl (hb hby d7_80) k))))) ?_
   obtain ⟨cl123, Ar123, q123, S123, Ng123, H123, G123⟩ := id f118
   have in123 : ¬ ((0 : Int32) < 0 ∨ cl123.slots.size ≤ ((0 : Int32)).toNatClampNeg) := inb_of S123 ⟨by decide, by decide⟩
   have at123 : cl123.slots[((0 : Int32)).toNatClampNeg]? = some (.int x0) := H123.at in123 rfl
   refine own_goW (fun _ k => X114.caload hx (j := (0 : Int32)) (v := (.int x0)) (by rw [e114]; exact Ar123.1) (State.isArrayOf_alike hZ.alike Ar123.2.1) Ar123.2.2 in123 at123 (g := (mkF m 81 #[.val (.ref p0), .val (.int 3)] [(.int 0), (.ref p0), (.int 0), (.ref b114), (.ref b114), (.ref b107), (.ref b107)])) rfl rfl (hb hby d7_81) _ k) ?_
   obtain ⟨cl124, Ar124, q124, S124, Ng124, H124, G124⟩ := id f122
   have in124 : ¬ ((0 : Int32) < 0 ∨ cl124.slots.size ≤ ((0 : Int32)).toNatClampNeg) := inb_of S124 ⟨by decide, by decide⟩
   obtain ⟨T124, h124, X124, e124, W124, st124⟩ := stC X114 hx hZ e114 Ar124 (j := (0 : Int32)) in124 (g := (mkF m 82 #[.val (.ref p0), .val (.int 3)] [(.int x0), (.int 0), (.ref b114), (.ref b114), (.ref b107), (.ref b107)])) rfl rfl (hb hby d7_82)
   have N124 := Fr.snoc X124 N0 gg114
   have Zs124 := Nat.le_trans Zs114 (Keep.of_wr W124).1
   have K124_0 := K114_0.wr W124 (Or.inr sz114_0)
   have K124_1 := K114_1.wr W124 (Or.inr sz114_1)
   have f125 := f117.wr W124 gg114
   have f126 := f118.other W124 ne115
   have f127 := f119.wr W124
   have f128 := f120.other W124 (Or.inl ne116)
   have f129 := f121.other W124 (Or.inl ne116)
   have f130 : Arv Z h124 b114 k114 .char (3 : Int32) [(.int x0), (.int 0), (.int 0)] (.int 0) := (by have q := Arv.set Ar124 q124 S124 Ng124 H124 G124 (fits_nar_char _) W124 0 rfl (Nat.le_of_ble_eq_true rfl); rw [(own_rnar x0 (hxr _ (by simp)))] at q; exact q)
   refine own_goW (fun _ k => st124 _ (XS.dup X124.here hx rfl (hb hby d7_83) rfl rfl (XS.iconst X124.here hx rfl (hb hby d7_84) (XS.aloadN X124.here hx rfl (hb hby d7_85) rfl rfl (XS.iconst X124.here hx rfl (hb hby d7_86) k))))) ?_
   obtain ⟨cl131, Ar131, q131, S131, Ng131, H131, G131⟩ := id f126
   have in131 : ¬ ((1 : Int32) < 0 ∨ cl131.slots.size ≤ ((1 : Int32)).toNatClampNeg) := inb_of S131 ⟨by decide, by decide⟩
   have at131 : cl131.slots[((1 : Int32)).toNatClampNeg]? = some (.int x1) := H131.at in131 rfl
   refine own_goW (fun _ k => X124.caload hx (j := (1 : Int32)) (v := (.int x1)) (by rw [e124]; exact Ar131.1) (State.isArrayOf_alike hZ.alike Ar131.2.1) Ar131.2.2 in131 at131 (g := (mkF m 87 #[.val (.ref p0), .val (.int 3)] [(.int 1), (.ref p0), (.int 1), (.ref b114), (.ref b114), (.ref b107), (.ref b107)])) rfl rfl (hb hby d7_87) _ k) ?_
   obtain ⟨cl132, Ar132, q132, S132, Ng132, H132, G132⟩ := id f130
   have in132 : ¬ ((1 : Int32) < 0 ∨ cl132.slots.size ≤ ((1 : Int32)).toNatClampNeg) := inb_of S132 ⟨by decide, by decide⟩
   obtain ⟨T132, h132, X132, e132, W132, st132⟩ := stC X124 hx hZ e124 Ar132 (j := (1 : Int32)) in132 (g := (mkF m 88 #[.val (.ref p0), .val (.int 3)] [(.int x1), (.int 1), (.ref b114), (.ref b114), (.ref b107), (.ref b107)])) rfl rfl (hb hby d7_88)
   have N132 := Fr.snoc X132 N124 gg114
   have Zs132 := Nat.le_trans Zs124 (Keep.of_wr W132).1
   have K132_0 := K124_0.wr W132 (Or.inr sz114_0)
   have K132_1 := K124_1.wr W132 (Or.inr sz114_1)
   have f133 := f125.wr W132 gg114
   have f134 := f126.other W132 ne115
   have f135 := f127.wr W132
   have f136 := f128.other W132 (Or.inl ne116)
   have f137 := f129.other W132 (Or.inl ne116)
   have f138 : Arv Z h132 b114 k114 .char (3 : Int32) [(.int x0), (.int x1), (.int 0)] (.int 0) := (by have q := Arv.set Ar132 q132 S132 Ng132 H132 G132 (fits_nar_char _) W132 1 rfl (Nat.le_of_ble_eq_true rfl); rw [(own_rnar x1 (hxr _ (by simp)))] at q; exact q)
   refine own_goW (fun _ k => st132 _ (XS.dup X132.here hx rfl (hb hby d7_89) rfl rfl (XS.iconst X132.here hx rfl (hb hby d7_90) (XS.aloadN X132.here hx rfl (hb hby d7_91) rfl rfl (XS.iconst X132.here hx rfl (hb hby d7_92) k))))) ?_
   obtain ⟨cl139, Ar139, q139, S139, Ng139, H139, G139⟩ := id f134
   have in139 : ¬ ((2 : Int32) < 0 ∨ cl139.slots.size ≤ ((2 : Int32)).toNatClampNeg) := inb_of S139 ⟨by decide, by decide⟩
   have at139 : cl139.slots[((2 : Int32)).toNatClampNeg]? = some (.int x2) := H139.at in139 rfl
   refine own_goW (fun _ k => X132.caload hx (j := (2 : Int32)) (v := (.int x2)) (by rw [e132]; exact Ar139.1) (State.isArrayOf_alike hZ.alike Ar139.2.1) Ar139.2.2 in139 at139 (g := (mkF m 93 #[.val (.ref p0), .val (.int 3)] [(.int 2), (.ref p0), (.int 2), (.ref b114), (.ref b114), (.ref b107), (.ref b107)])) rfl rfl (hb hby d7_93) _ k) ?_
   obtain ⟨cl140, Ar140, q140, S140, Ng140, H140, G140⟩ := id f138
   have in140 : ¬ ((2 : Int32) < 0 ∨ cl140.slots.size ≤ ((2 : Int32)).toNatClampNeg) := inb_of S140 ⟨by decide, by decide⟩
   obtain ⟨T140, h140, X140, e140, W140, st140⟩ := stC X132 hx hZ e132 Ar140 (j := (2 : Int32)) in140 (g := (mkF m 94 #[.val (.ref p0), .val (.int 3)] [(.int x2), (.int 2), (.ref b114), (.ref b114), (.ref b107), (.ref b107)])) rfl rfl (hb hby d7_94)
   have N140 := Fr.snoc X140 N132 gg114
   have Zs140 := Nat.le_trans Zs132 (Keep.of_wr W140).1
   have K140_0 := K132_0.wr W140 (Or.inr sz114_0)
   have K140_1 := K132_1.wr W140 (Or.inr sz114_1)
   have f141 := f133.wr W140 gg114
   have f142 := f134.other W140 ne115
   have f143 := f135.wr W140
   have f144 := f136.other W140 (Or.inl ne116)
   have f145 := f137.other W140 (Or.inl ne116)
   have f146 : Arv Z h140 b114 k114 .char (3 : Int32) [(.int x0), (.int x1), (.int x2)] (.int 0) := (by have q := Arv.set Ar140 q140 S140 Ng140 H140 G140 (fits_nar_char _) W140 2 rfl (Nat.le_of_ble_eq_true rfl); rw [(own_rnar x2 (hxr _ (by simp)))] at q; exact q)
   refine own_goW (fun _ k => st140 _ k) ?_
   obtain ⟨_, _, ⟨T147, L147, k147, n147⟩, -, X147, ⟨Lc147, hQ147, l147, y147, z147⟩, st147⟩ := X140.specialBack hx (y := Y35) rfl hown (mvT hZ (own_h hw 44 rfl)) (mvT hZ (own_h hw 45 rfl)) (mvT hZ (own_h hw 46 rfl)) (by decide) (backOf (W := 1) (rm8a l Z a0 hw [] b107 b114 zc fm 3 k114 ([x0, x1, x2] : List Int32) h140 n0 Zs140 f143 f144 f145 gg107 f141 HA f146 (by decide) (by decide) rfl (own_tk 3 hxr)) hZ (own_h hw 46 rfl) (own_h hw 8 rfl) (by decide) (by decide)) (g := (mkF m 95 #[.val (.ref p0), .val (.int 3)] [(.ref b114), (.ref b107), (.ref b107)])) rfl (by rw [hml]; rfl) (Steps.refl _) (a := b107) (argsL := [(.ref b114)]) (rest := [(.ref b107)]) (lenOf pd_39 rfl) rfl (own_r0 _) (hb hby d7_95) (fun _ _ => ⟨rfl, e140, (by decide : 2 + 2 ≤ _), (by decide : 7 + 15 ≤ _)⟩)
   dsimp only [Pt.U, Pt.locs, Pt.cells, Pt.slots] at X147 l147 y147 z147 st147 hQ147
   rw [l147] at X147
   subst y147 z147
   obtain ⟨t147, kb147, co147, rfl, Nq147, Kq147, r147_0, r147_1, r147_2, r147_3, r147_4, r147_5⟩ := hQ147
   have N147 := Fr.app N140 Nq147
   have ne148 := Nat.ne_of_lt (Nat.lt_of_lt_of_le f142.lt r147_4)
   have ne149 := Nat.ne_of_lt (Nat.lt_of_lt_of_le f143.lt r147_4)
   have ne150 := Nat.ne_of_lt (Nat.lt_of_lt_of_le f146.lt r147_4)
   have gg_t147 := Nat.le_trans Zs140 r147_4
   have sz_t147_0 := Nat.le_trans K140_0.1 r147_4
   have sz_t147_1 := Nat.le_trans K140_1.1 r147_4
   have f151 := f141.keep Kq147 (allS gg107 all0)
   have f152 := f142.keep Kq147 (ninS ne108 nin0)
   have f153 := f143.keep Kq147
   have f154 := f146.keep Kq147 (ninS (Ne.symm ne116) nin0)
   have Zs147 := Nat.le_trans Zs140 Kq147.1
   have K147_0 := K140_0.trans Kq147 (allS (Or.inr sz107_0) all0)
   have K147_1 := K140_1.trans Kq147 (allS (Or.inr sz107_1) all0)
   refine own_goW (fun _ k => st147.trans k) ?_
   show own_GW _ _ _ (T147.setTop (mkF m 98 #[.val (.ref p0), .val (.int 3)] [(.ref b107)])) _ _ _ _ _ _
   have CQ155 := CR0.trans (CHr.keep K147_1 all0 CR0.1)
   have CE155 : CHr Z own_EL s.vm s.heap T147.vm T147.heap := by rw [hh, show T147.heap = T147.heap from rfl]; exact CQ155.trans (CHv.at X147 hZ (own_EW hw) CQ155.1)
   exact own_endWO X147 hx hlk Bd.returns rfl (Or.inr (Or.inr (Or.inr (Or.inr ⟨rfl, rfl, rfl⟩)))) (hb hby d7_98) hS0 (show _ ≤ T147.heap.size by rw [show T147.heap = T147.heap from rfl]; exact (Nat.le_trans hk0 K147_1.1)) (by decide) (by decide) CE155 (Q := (Q7 Z p0 zc fm kc n x0 x1 x2 x3 x4 h0 n0)) ⟨b107, t147, kb147, co147, rfl, N147, K147_0, r147_0, r147_1, r147_2, (by rw [hq]; exact r147_3), (by rw [hq]; exact ⟨r147_5, own_tk 3 hxr, by show 3 ≤ 22; decide⟩)⟩
 · have hqn : Int32.ofNat n = (4 : Int32) := by rw [hq]; rfl
   rw [hqn]
   show own_GW _ _ _ (s₁.setTop (mkF m 0 #[.val (.ref p0), .val (.int 4)] [])) _ _ _ _ _ _
   refine own_goW (fun _ k => XS.iloadN X0.here hx rfl (hb hby d7_0) rfl k) ?_
   show own_GW _ _ _ (s₁.setTop (mkF m 1 #[.val (.ref p0), .val (.int 4)] [(.int 4)])) _ _ _ _ _ _
   have hc156 : ¬ ((4 : Int32) = (0 : Int32)) := (by decide)
   refine own_goW (fun _ k => XS.ifYes X0.here hx rfl (pc0 := 1) (pc' := 15) rfl (hb hby d7_1) rfl ((if0 _ _).trans (feq hc156).2) (by decide) (by decide) (XS.iloadN X0.here hx rfl (hb hby d7_15) rfl (XS.iconst X0.here hx rfl (hb hby d7_16) k))) ?_
   show own_GW _ _ _ (s₁.setTop (mkF m 17 #[.val (.ref p0), .val (.int 4)] [(.int 1), (.int 4)])) _ _ _ _ _ _
   have hc157 : ¬ ((4 : Int32) = (1 : Int32)) := (by decide)
   refine own_goW (fun _ k => XS.icmpYes X0.here hx rfl (pc0 := 17) (pc' := 37) rfl (hb hby d7_17) rfl (feq hc157).2 (by decide) (by decide) (XS.iloadN X0.here hx rfl (hb hby d7_37) rfl (XS.iconst X0.here hx rfl (hb hby d7_38) k))) ?_
   show own_GW _ _ _ (s₁.setTop (mkF m 39 #[.val (.ref p0), .val (.int 4)] [(.int 2), (.int 4)])) _ _ _ _ _ _
   have hc158 : ¬ ((4 : Int32) = (2 : Int32)) := (by decide)
   refine own_goW (fun _ k => XS.icmpYes X0.here hx rfl (pc0 := 39) (pc' := 65) rfl (hb hby d7_39) rfl (feq hc158).2 (by decide) (by decide) (XS.iloadN X0.here hx rfl (hb hby d7_65) rfl (XS.iconst X0.here hx rfl (hb hby d7_66) k))) ?_
   show own_GW _ _ _ (s₁.setTop (mkF m 67 #[.val (.ref p0), .val (.int 4)] [(.int 3), (.int 4)])) _ _ _ _ _ _
   have hc159 : ¬ ((4 : Int32) = (3 : Int32)) := (by decide)
   refine own_goW (fun _ k => XS.icmpYes X0.here hx rfl (pc0 := 67) (pc' := 99) rfl (hb hby d7_67) rfl (feq hc159).2 (by decide) (by decide) (XS.iloadN X0.here hx rfl (hb hby d7_99) rfl (XS.iconst X0.here hx rfl (hb hby d7_100) k))) ?_
   show own_GW _ _ _ (s₁.setTop (mkF m 101 #[.val (.ref p0), .val (.int 4)] [(.int 4), (.int 4)])) _ _ _ _ _ _
   have hc160 : (4 : Int32) = (4 : Int32) := (by decide)
   refine own_goW (fun _ k => XS.icmpNo X0.here hx rfl (hb hby d7_101) rfl (teq hc160).2 k) ?_
   obtain ⟨T161, h161, X161, e161, E161, A161, D161, -, st161⟩ := newO X0 hx hZ hown (own_h hw 43 rfl) (own_h hw 9 rfl) (own_h hw 8 rfl) e0 (g := (mkF m 104 #[.val (.ref p0), .val (.int 4)] [])) rfl (hb hby d7_104) (by decide) (by decide)
   obtain ⟨b161, g161⟩ : ∃ z, z = h0.size := ⟨_, rfl⟩
   rw [← g161] at A161 D161 st161
   have ne162 := Nat.ne_of_lt (Nat.lt_of_lt_of_le P_V_p0.lt (Nat.le_of_eq g161.symm))
   have gg161 := Nat.le_trans Z0 (Nat.le_of_eq g161.symm)
   have sz161_0 := Nat.le_trans K0.1 (Nat.le_of_eq g161.symm)
   have sz161_1 := Nat.le_trans KS0.1 (Nat.le_of_eq g161.symm)
   have Zs161 := Nat.le_trans Z0 E161.1
   have K161_0 := K0.ext E161
   have K161_1 := KS0.ext E161
   have f163 := P_Old.ext E161
   have f164 := P_V_p0.ext E161
   have f165 : Exa Z h161 b161 "java/lang/String" := A161
   have f166 : Fld Z h161 b161 "java/lang/String" "value" "[B" .null := D161 (Or.inr (own_h hw 11 rfl)) (ty := (.array .byte)) (by decide)
   have f167 : Fld Z h161 b161 "java/lang/String" "coder" "B" (.int 0) := D161 (Or.inr (own_h hw 12 rfl)) (ty := .byte) (by decide)
   refine own_goW (fun _ k => st161 _ (XS.dup X161.here hx rfl (hb hby d7_107) rfl rfl (XS.iconst X161.here hx rfl (hb hby d7_108) k))) ?_
   obtain ⟨T168, h168, k168, X168, e168, E168, A168, st168⟩ := newP X161 hx hZ (own_h hw 1 rfl) e161 (g := (mkF m 109 #[.val (.ref p0), .val (.int 4)] [(.int 4), (.ref b161), (.ref b161)])) rfl (hb hby d7_109) rfl (by decide) (cap := 4) (by decide) (by decide) (by decide) (by decide)
   obtain ⟨b168, g168⟩ : ∃ z, z = h161.size := ⟨_, rfl⟩
   rw [← g168] at A168 st168
   have ne169 := Nat.ne_of_lt (Nat.lt_of_lt_of_le f164.lt (Nat.le_of_eq g168.symm))
   have ne170 := Nat.ne_of_lt (Nat.lt_of_lt_of_le f165.lt (Nat.le_of_eq g168.symm))
   have gg168 := Nat.le_trans Zs161 (Nat.le_of_eq g168.symm)
   have sz168_0 := Nat.le_trans K161_0.1 (Nat.le_of_eq g168.symm)
   have sz168_1 := Nat.le_trans K161_1.1 (Nat.le_of_eq g168.symm)
   have Zs168 := Nat.le_trans Zs161 E168.1
   have K168_0 := K161_0.ext E168
   have K168_1 := K161_1.ext E168
   have f171 := f163.ext E168
   have f172 := f164.ext E168
   have f173 := f165.ext E168
   have f174 := f166.ext E168
   have f175 := f167.ext E168
   have f176 : Arv Z h168 b168 k168 .char (4 : Int32) [(.int 0), (.int 0), (.int 0), (.int 0)] (.int 0) := (Arv.new A168 (by decide)).pad (pad_rep [] (.int 0) 4)
   refine own_goW (fun _ k => st168 _ (XS.dup X168.here hx rfl (hb hby d7_111) rfl rfl (XS.iconst X168.here hx rfl (hb hby d7_112) (XS.aloadN X168.here hx rfl (hb hby d7_113) rfl rfl (XS.iconst X168.here hx rfl (hb hby d7_114) k))))) ?_
   obtain ⟨cl177, Ar177, q177, S177, Ng177, H177, G177⟩ := id f172
   have in177 : ¬ ((0 : Int32) < 0 ∨ cl177.slots.size ≤ ((0 : Int32)).toNatClampNeg) := inb_of S177 ⟨by decide, by decide⟩
   have at177 : cl177.slots[((0 : Int32)).toNatClampNeg]? = some (.int x0) := H177.at in177 rfl
   refine own_goW (fun _ k => X168.caload hx (j := (0 : Int32)) (v := (.int x0)) (by rw [e168]; exact Ar177.1) (State.isArrayOf_alike hZ.alike Ar177.2.1) Ar177.2.2 in177 at177 (g := (mkF m 115 #[.val (.ref p0), .val (.int 4)] [(.int 0), (.ref p0), (.int 0), (.ref b168), (.ref b168), (.ref b161), (.ref b161)])) rfl rfl (hb hby d7_115) _ k) ?_
   obtain ⟨cl178, Ar178, q178, S178, Ng178, H178, G178⟩ := id f176
   have in178 : ¬ ((0 : Int32) < 0 ∨ cl178.slots.size ≤ ((0 : Int32)).toNatClampNeg) := inb_of S178 ⟨by decide, by decide⟩
   obtain ⟨T178, h178, X178, e178, W178, st178⟩ := stC X168 hx hZ e168 Ar178 (j := (0 : Int32)) in178 (g := (mkF m 116 #[.val (.ref p0), .val (.int 4)] [(.int x0), (.int 0), (.ref b168), (.ref b168), (.ref b161), (.ref b161)])) rfl rfl (hb hby d7_116)
   have N178 := Fr.snoc X178 N0 gg168
   have Zs178 := Nat.le_trans Zs168 (Keep.of_wr W178).1
   have K178_0 := K168_0.wr W178 (Or.inr sz168_0)
   have K178_1 := K168_1.wr W178 (Or.inr sz168_1)
   have f179 := f171.wr W178 gg168
   have f180 := f172.other W178 ne169
   have f181 := f173.wr W178
   have f182 := f174.other W178 (Or.inl ne170)
   have f183 := f175.other W178 (Or.inl ne170)
   have f184 : Arv Z h178 b168 k168 .char (4 : Int32) [(.int x0), (.int 0), (.int 0), (.int 0)] (.int 0) := (by have q := Arv.set Ar178 q178 S178 Ng178 H178 G178 (fits_nar_char _) W178 0 rfl (Nat.le_of_ble_eq_true rfl); rw [(own_rnar x0 (hxr _ (by simp)))] at q; exact q)
   refine own_goW (fun _ k => st178 _ (XS.dup X178.here hx rfl (hb hby d7_117) rfl rfl (XS.iconst X178.here hx rfl (hb hby d7_118) (XS.aloadN X178.here hx rfl (hb hby d7_119) rfl rfl (XS.iconst X178.here hx rfl (hb hby d7_120) k))))) ?_
   obtain ⟨cl185, Ar185, q185, S185, Ng185, H185, G185⟩ := id f180
   have in185 : ¬ ((1 : Int32) < 0 ∨ cl185.slots.size ≤ ((1 : Int32)).toNatClampNeg) := inb_of S185 ⟨by decide, by decide⟩
   have at185 : cl185.slots[((1 : Int32)).toNatClampNeg]? = some (.int x1) := H185.at in185 rfl
   refine own_goW (fun _ k => X178.caload hx (j := (1 : Int32)) (v := (.int x1)) (by rw [e178]; exact Ar185.1) (State.isArrayOf_alike hZ.alike Ar185.2.1) Ar185.2.2 in185 at185 (g := (mkF m 121 #[.val (.ref p0), .val (.int 4)] [(.int 1), (.ref p0), (.int 1), (.ref b168), (.ref b168), (.ref b161), (.ref b161)])) rfl rfl (hb hby d7_121) _ k) ?_
   obtain ⟨cl186, Ar186, q186, S186, Ng186, H186, G186⟩ := id f184
   have in186 : ¬ ((1 : Int32) < 0 ∨ cl186.slots.size ≤ ((1 : Int32)).toNatClampNeg) := inb_of S186 ⟨by decide, by decide⟩
   obtain ⟨T186, h186, X186, e186, W186, st186⟩ := stC X178 hx hZ e178 Ar186 (j := (1 : Int32)) in186 (g := (mkF m 122 #[.val (.ref p0), .val (.int 4)] [(.int x1), (.int 1), (.ref b168), (.ref b168), (.ref b161), (.ref b161)])) rfl rfl (hb hby d7_122)
   have N186 := Fr.snoc X186 N178 gg168
   have Zs186 := Nat.le_trans Zs178 (Keep.of_wr W186).1
   have K186_0 := K178_0.wr W186 (Or.inr sz168_0)
   have K186_1 := K178_1.wr W186 (Or.inr sz168_1)
   have f187 := f179.wr W186 gg168
   have f188 := f180.other W186 ne169
   have f189 := f181.wr W186
   have f190 := f182.other W186 (Or.inl ne170)
   have f191 := f183.other W186 (Or.inl ne170)
   have f192 : Arv Z h186 b168 k168 .char (4 : Int32) [(.int x0), (.int x1), (.int 0), (.int 0)] (.int 0) := (by have q := Arv.set Ar186 q186 S186 Ng186 H186 G186 (fits_nar_char _) W186 1 rfl (Nat.le_of_ble_eq_true rfl); rw [(own_rnar x1 (hxr _ (by simp)))] at q; exact q)
   refine own_goW (fun _ k => st186 _ (XS.dup X186.here hx rfl (hb hby d7_123) rfl rfl (XS.iconst X186.here hx rfl (hb hby d7_124) (XS.aloadN X186.here hx rfl (hb hby d7_125) rfl rfl (XS.iconst X186.here hx rfl (hb hby d7_126) k))))) ?_
   obtain ⟨cl193, Ar193, q193, S193, Ng193, H193, G193⟩ := id f188
   have in193 : ¬ ((2 : Int32) < 0 ∨ cl193.slots.size ≤ ((2 : Int32)).toNatClampNeg) := inb_of S193 ⟨by decide, by decide⟩
   have at193 : cl193.slots[((2 : Int32)).toNatClampNeg]? = some (.int x2) := H193.at in193 rfl
   refine own_goW (fun _ k => X186.caload hx (j := (2 : Int32)) (v := (.int x2)) (by rw [e186]; exact Ar193.1) (State.isArrayOf_alike hZ.alike Ar193.2.1) Ar193.2.2 in193 at193 (g := (mkF m 127 #[.val (.ref p0), .val (.int 4)] [(.int 2), (.ref p0), (.int 2), (.ref b168), (.ref b168), (.ref b161), (.ref b161)])) rfl rfl (hb hby d7_127) _ k) ?_
   obtain ⟨cl194, Ar194, q194, S194, Ng194, H194, G194⟩ := id f192
   have in194 : ¬ ((2 : Int32) < 0 ∨ cl194.slots.size ≤ ((2 : Int32)).toNatClampNeg) := inb_of S194 ⟨by decide, by decide⟩
   obtain ⟨T194, h194, X194, e194, W194, st194⟩ := stC X186 hx hZ e186 Ar194 (j := (2 : Int32)) in194 (g := (mkF m 128 #[.val (.ref p0), .val (.int 4)] [(.int x2), (.int 2), (.ref b168), (.ref b168), (.ref b161), (.ref b161)])) rfl rfl (hb hby d7_128)
   have N194 := Fr.snoc X194 N186 gg168
   have Zs194 := Nat.le_trans Zs186 (Keep.of_wr W194).1
   have K194_0 := K186_0.wr W194 (Or.inr sz168_0)
   have K194_1 := K186_1.wr W194 (Or.inr sz168_1)
   have f195 := f187.wr W194 gg168
   have f196 := f188.other W194 ne169
   have f197 := f189.wr W194
   have f198 := f190.other W194 (Or.inl ne170)
   have f199 := f191.other W194 (Or.inl ne170)
   have f200 : Arv Z h194 b168 k168 .char (4 : Int32) [(.int x0), (.int x1), (.int x2), (.int 0)] (.int 0) := (by have q := Arv.set Ar194 q194 S194 Ng194 H194 G194 (fits_nar_char _) W194 2 rfl (Nat.le_of_ble_eq_true rfl); rw [(own_rnar x2 (hxr _ (by simp)))] at q; exact q)
   refine own_goW (fun _ k => st194 _ (XS.dup X194.here hx rfl (hb hby d7_129) rfl rfl (XS.iconst X194.here hx rfl (hb hby d7_130) (XS.aloadN X194.here hx rfl (hb hby d7_131) rfl rfl (XS.iconst X194.here hx rfl (hb hby d7_132) k))))) ?_
   obtain ⟨cl201, Ar201, q201, S201, Ng201, H201, G201⟩ := id f196
   have in201 : ¬ ((3 : Int32) < 0 ∨ cl201.slots.size ≤ ((3 : Int32)).toNatClampNeg) := inb_of S201 ⟨by decide, by decide⟩
   have at201 : cl201.slots[((3 : Int32)).toNatClampNeg]? = some (.int x3) := H201.at in201 rfl
   refine own_goW (fun _ k => X194.caload hx (j := (3 : Int32)) (v := (.int x3)) (by rw [e194]; exact Ar201.1) (State.isArrayOf_alike hZ.alike Ar201.2.1) Ar201.2.2 in201 at201 (g := (mkF m 133 #[.val (.ref p0), .val (.int 4)] [(.int 3), (.ref p0), (.int 3), (.ref b168), (.ref b168), (.ref b161), (.ref b161)])) rfl rfl (hb hby d7_133) _ k) ?_
   obtain ⟨cl202, Ar202, q202, S202, Ng202, H202, G202⟩ := id f200
   have in202 : ¬ ((3 : Int32) < 0 ∨ cl202.slots.size ≤ ((3 : Int32)).toNatClampNeg) := inb_of S202 ⟨by decide, by decide⟩
   obtain ⟨T202, h202, X202, e202, W202, st202⟩ := stC X194 hx hZ e194 Ar202 (j := (3 : Int32)) in202 (g := (mkF m 134 #[.val (.ref p0), .val (.int 4)] [(.int x3), (.int 3), (.ref b168), (.ref b168), (.ref b161), (.ref b161)])) rfl rfl (hb hby d7_134)
   have N202 := Fr.snoc X202 N194 gg168
   have Zs202 := Nat.le_trans Zs194 (Keep.of_wr W202).1
   have K202_0 := K194_0.wr W202 (Or.inr sz168_0)
   have K202_1 := K194_1.wr W202 (Or.inr sz168_1)
   have f203 := f195.wr W202 gg168
   have f204 := f196.other W202 ne169
   have f205 := f197.wr W202
   have f206 := f198.other W202 (Or.inl ne170)
   have f207 := f199.other W202 (Or.inl ne170)
   have f208 : Arv Z h202 b168 k168 .char (4 : Int32) [(.int x0), (.int x1), (.int x2), (.int x3)] (.int 0) := (by have q := Arv.set Ar202 q202 S202 Ng202 H202 G202 (fits_nar_char _) W202 3 rfl (Nat.le_of_ble_eq_true rfl); rw [(own_rnar x3 (hxr _ (by simp)))] at q; exact q)
   refine own_goW (fun _ k => st202 _ k) ?_
   obtain ⟨_, _, ⟨T209, L209, k209, n209⟩, -, X209, ⟨Lc209, hQ209, l209, y209, z209⟩, st209⟩ := X202.specialBack hx (y := Y35) rfl hown (mvT hZ (own_h hw 44 rfl)) (mvT hZ (own_h hw 45 rfl)) (mvT hZ (own_h hw 46 rfl)) (by decide) (backOf (W := 1) (rm8a l Z a0 hw [] b161 b168 zc fm 4 k168 ([x0, x1, x2, x3] : List Int32) h202 n0 Zs202 f205 f206 f207 gg161 f203 HA f208 (by decide) (by decide) rfl (own_tk 4 hxr)) hZ (own_h hw 46 rfl) (own_h hw 8 rfl) (by decide) (by decide)) (g := (mkF m 135 #[.val (.ref p0), .val (.int 4)] [(.ref b168), (.ref b161), (.ref b161)])) rfl (by rw [hml]; rfl) (Steps.refl _) (a := b161) (argsL := [(.ref b168)]) (rest := [(.ref b161)]) (lenOf pd_39 rfl) rfl (own_r0 _) (hb hby d7_135) (fun _ _ => ⟨rfl, e202, (by decide : 2 + 2 ≤ _), (by decide : 8 + 15 ≤ _)⟩)
   dsimp only [Pt.U, Pt.locs, Pt.cells, Pt.slots] at X209 l209 y209 z209 st209 hQ209
   rw [l209] at X209
   subst y209 z209
   obtain ⟨t209, kb209, co209, rfl, Nq209, Kq209, r209_0, r209_1, r209_2, r209_3, r209_4, r209_5⟩ := hQ209
   have N209 := Fr.app N202 Nq209
   have ne210 := Nat.ne_of_lt (Nat.lt_of_lt_of_le f204.lt r209_4)
   have ne211 := Nat.ne_of_lt (Nat.lt_of_lt_of_le f205.lt r209_4)
   have ne212 := Nat.ne_of_lt (Nat.lt_of_lt_of_le f208.lt r209_4)
   have gg_t209 := Nat.le_trans Zs202 r209_4
   have sz_t209_0 := Nat.le_trans K202_0.1 r209_4
   have sz_t209_1 := Nat.le_trans K202_1.1 r209_4
   have f213 := f203.keep Kq209 (allS gg161 all0)
   have f214 := f204.keep Kq209 (ninS ne162 nin0)
   have f215 := f205.keep Kq209
   have f216 := f208.keep Kq209 (ninS (Ne.symm ne170) nin0)
   have Zs209 := Nat.le_trans Zs202 Kq209.1
   have K209_0 := K202_0.trans Kq209 (allS (Or.inr sz161_0) all0)
   have K209_1 := K202_1.trans Kq209 (allS (Or.inr sz161_1) all0)
   refine own_goW (fun _ k => st209.trans k) ?_
   show own_GW _ _ _ (T209.setTop (mkF m 138 #[.val (.ref p0), .val (.int 4)] [(.ref b161)])) _ _ _ _ _ _
   have CQ217 := CR0.trans (CHr.keep K209_1 all0 CR0.1)
   have CE217 : CHr Z own_EL s.vm s.heap T209.vm T209.heap := by rw [hh, show T209.heap = T209.heap from rfl]; exact CQ217.trans (CHv.at X209 hZ (own_EW hw) CQ217.1)
   exact own_endWO X209 hx hlk Bd.returns rfl (Or.inr (Or.inr (Or.inr (Or.inr ⟨rfl, rfl, rfl⟩)))) (hb hby d7_138) hS0 (show _ ≤ T209.heap.size by rw [show T209.heap = T209.heap from rfl]; exact (Nat.le_trans hk0 K209_1.1)) (by decide) (by decide) CE217 (Q := (Q7 Z p0 zc fm kc n x0 x1 x2 x3 x4 h0 n0)) ⟨b161, t209, kb209, co209, rfl, N209, K209_0, r209_0, r209_1, r209_2, (by rw [hq]; exact r209_3), (by rw [hq]; exact ⟨r209_5, own_tk 4 hxr, by show 4 ≤ 22; decide⟩)⟩
 · have hqn : Int32.ofNat n = (5 : Int32) := by rw [hq]; rfl
   rw [hqn]
   show own_GW _ _ _ (s₁.setTop (mkF m 0 #[.val (.ref p0), .val (.int 5)] [])) _ _ _ _ _ _
   refine own_goW (fun _ k => XS.iloadN X0.here hx rfl (hb hby d7_0) rfl k) ?_
   show own_GW _ _ _ (s₁.setTop (mkF m 1 #[.val (.ref p0), .val (.int 5)] [(.int 5)])) _ _ _ _ _ _
   have hc218 : ¬ ((5 : Int32) = (0 : Int32)) := (by decide)
   refine own_goW (fun _ k => XS.ifYes X0.here hx rfl (pc0 := 1) (pc' := 15) rfl (hb hby d7_1) rfl ((if0 _ _).trans (feq hc218).2) (by decide) (by decide) (XS.iloadN X0.here hx rfl (hb hby d7_15) rfl (XS.iconst X0.here hx rfl (hb hby d7_16) k))) ?_
   show own_GW _ _ _ (s₁.setTop (mkF m 17 #[.val (.ref p0), .val (.int 5)] [(.int 1), (.int 5)])) _ _ _ _ _ _
   have hc219 : ¬ ((5 : Int32) = (1 : Int32)) := (by decide)
   refine own_goW (fun _ k => XS.icmpYes X0.here hx rfl (pc0 := 17) (pc' := 37) rfl (hb hby d7_17) rfl (feq hc219).2 (by decide) (by decide) (XS.iloadN X0.here hx rfl (hb hby d7_37) rfl (XS.iconst X0.here hx rfl (hb hby d7_38) k))) ?_
   show own_GW _ _ _ (s₁.setTop (mkF m 39 #[.val (.ref p0), .val (.int 5)] [(.int 2), (.int 5)])) _ _ _ _ _ _
   have hc220 : ¬ ((5 : Int32) = (2 : Int32)) := (by decide)
   refine own_goW (fun _ k => XS.icmpYes X0.here hx rfl (pc0 := 39) (pc' := 65) rfl (hb hby d7_39) rfl (feq hc220).2 (by decide) (by decide) (XS.iloadN X0.here hx rfl (hb hby d7_65) rfl (XS.iconst X0.here hx rfl (hb hby d7_66) k))) ?_
   show own_GW _ _ _ (s₁.setTop (mkF m 67 #[.val (.ref p0), .val (.int 5)] [(.int 3), (.int 5)])) _ _ _ _ _ _
   have hc221 : ¬ ((5 : Int32) = (3 : Int32)) := (by decide)
   refine own_goW (fun _ k => XS.icmpYes X0.here hx rfl (pc0 := 67) (pc' := 99) rfl (hb hby d7_67) rfl (feq hc221).2 (by decide) (by decide) (XS.iloadN X0.here hx rfl (hb hby d7_99) rfl (XS.iconst X0.here hx rfl (hb hby d7_100) k))) ?_
   show own_GW _ _ _ (s₁.setTop (mkF m 101 #[.val (.ref p0), .val (.int 5)] [(.int 4), (.int 5)])) _ _ _ _ _ _
   have hc222 : ¬ ((5 : Int32) = (4 : Int32)) := (by decide)
   refine own_goW (fun _ k => XS.icmpYes X0.here hx rfl (pc0 := 101) (pc' := 139) rfl (hb hby d7_101) rfl (feq hc222).2 (by decide) (by decide) k) ?_
   obtain ⟨T223, h223, X223, e223, E223, A223, D223, -, st223⟩ := newO X0 hx hZ hown (own_h hw 43 rfl) (own_h hw 9 rfl) (own_h hw 8 rfl) e0 (g := (mkF m 139 #[.val (.ref p0), .val (.int 5)] [])) rfl (hb hby d7_139) (by decide) (by decide)
   obtain ⟨b223, g223⟩ : ∃ z, z = h0.size := ⟨_, rfl⟩
   rw [← g223] at A223 D223 st223
   have ne224 := Nat.ne_of_lt (Nat.lt_of_lt_of_le P_V_p0.lt (Nat.le_of_eq g223.symm))
   have gg223 := Nat.le_trans Z0 (Nat.le_of_eq g223.symm)
   have sz223_0 := Nat.le_trans K0.1 (Nat.le_of_eq g223.symm)
   have sz223_1 := Nat.le_trans KS0.1 (Nat.le_of_eq g223.symm)
   have Zs223 := Nat.le_trans Z0 E223.1
   have K223_0 := K0.ext E223
   have K223_1 := KS0.ext E223
   have f225 := P_Old.ext E223
   have f226 := P_V_p0.ext E223
   have f227 : Exa Z h223 b223 "java/lang/String" := A223
   have f228 : Fld Z h223 b223 "java/lang/String" "value" "[B" .null := D223 (Or.inr (own_h hw 11 rfl)) (ty := (.array .byte)) (by decide)
   have f229 : Fld Z h223 b223 "java/lang/String" "coder" "B" (.int 0) := D223 (Or.inr (own_h hw 12 rfl)) (ty := .byte) (by decide)
   refine own_goW (fun _ k => st223 _ (XS.dup X223.here hx rfl (hb hby d7_142) rfl rfl (XS.iconst X223.here hx rfl (hb hby d7_143) k))) ?_
   obtain ⟨T230, h230, k230, X230, e230, E230, A230, st230⟩ := newP X223 hx hZ (own_h hw 1 rfl) e223 (g := (mkF m 144 #[.val (.ref p0), .val (.int 5)] [(.int 5), (.ref b223), (.ref b223)])) rfl (hb hby d7_144) rfl (by decide) (cap := 5) (by decide) (by decide) (by decide) (by decide)
   obtain ⟨b230, g230⟩ : ∃ z, z = h223.size := ⟨_, rfl⟩
   rw [← g230] at A230 st230
   have ne231 := Nat.ne_of_lt (Nat.lt_of_lt_of_le f226.lt (Nat.le_of_eq g230.symm))
   have ne232 := Nat.ne_of_lt (Nat.lt_of_lt_of_le f227.lt (Nat.le_of_eq g230.symm))
   have gg230 := Nat.le_trans Zs223 (Nat.le_of_eq g230.symm)
   have sz230_0 := Nat.le_trans K223_0.1 (Nat.le_of_eq g230.symm)
   have sz230_1 := Nat.le_trans K223_1.1 (Nat.le_of_eq g230.symm)
   have Zs230 := Nat.le_trans Zs223 E230.1
   have K230_0 := K223_0.ext E230
   have K230_1 := K223_1.ext E230
   have f233 := f225.ext E230
   have f234 := f226.ext E230
   have f235 := f227.ext E230
   have f236 := f228.ext E230
   have f237 := f229.ext E230
   have f238 : Arv Z h230 b230 k230 .char (5 : Int32) [(.int 0), (.int 0), (.int 0), (.int 0), (.int 0)] (.int 0) := (Arv.new A230 (by decide)).pad (pad_rep [] (.int 0) 5)
   refine own_goW (fun _ k => st230 _ (XS.dup X230.here hx rfl (hb hby d7_146) rfl rfl (XS.iconst X230.here hx rfl (hb hby d7_147) (XS.aloadN X230.here hx rfl (hb hby d7_148) rfl rfl (XS.iconst X230.here hx rfl (hb hby d7_149) k))))) ?_
   obtain ⟨cl239, Ar239, q239, S239, Ng239, H239, G239⟩ := id f234
   have in239 : ¬ ((0 : Int32) < 0 ∨ cl239.slots.size ≤ ((0 : Int32)).toNatClampNeg) := inb_of S239 ⟨by decide, by decide⟩
   have at239 : cl239.slots[((0 : Int32)).toNatClampNeg]? = some (.int x0) := H239.at in239 rfl
   refine own_goW (fun _ k => X230.caload hx (j := (0 : Int32)) (v := (.int x0)) (by rw [e230]; exact Ar239.1) (State.isArrayOf_alike hZ.alike Ar239.2.1) Ar239.2.2 in239 at239 (g := (mkF m 150 #[.val (.ref p0), .val (.int 5)] [(.int 0), (.ref p0), (.int 0), (.ref b230), (.ref b230), (.ref b223), (.ref b223)])) rfl rfl (hb hby d7_150) _ k) ?_
   obtain ⟨cl240, Ar240, q240, S240, Ng240, H240, G240⟩ := id f238
   have in240 : ¬ ((0 : Int32) < 0 ∨ cl240.slots.size ≤ ((0 : Int32)).toNatClampNeg) := inb_of S240 ⟨by decide, by decide⟩
   obtain ⟨T240, h240, X240, e240, W240, st240⟩ := stC X230 hx hZ e230 Ar240 (j := (0 : Int32)) in240 (g := (mkF m 151 #[.val (.ref p0), .val (.int 5)] [(.int x0), (.int 0), (.ref b230), (.ref b230), (.ref b223), (.ref b223)])) rfl rfl (hb hby d7_151)
   have N240 := Fr.snoc X240 N0 gg230
   have Zs240 := Nat.le_trans Zs230 (Keep.of_wr W240).1
   have K240_0 := K230_0.wr W240 (Or.inr sz230_0)
   have K240_1 := K230_1.wr W240 (Or.inr sz230_1)
   have f241 := f233.wr W240 gg230
   have f242 := f234.other W240 ne231
   have f243 := f235.wr W240
   have f244 := f236.other W240 (Or.inl ne232)
   have f245 := f237.other W240 (Or.inl ne232)
   have f246 : Arv Z h240 b230 k230 .char (5 : Int32) [(.int x0), (.int 0), (.int 0), (.int 0), (.int 0)] (.int 0) := (by have q := Arv.set Ar240 q240 S240 Ng240 H240 G240 (fits_nar_char _) W240 0 rfl (Nat.le_of_ble_eq_true rfl); rw [(own_rnar x0 (hxr _ (by simp)))] at q; exact q)
   refine own_goW (fun _ k => st240 _ (XS.dup X240.here hx rfl (hb hby d7_152) rfl rfl (XS.iconst X240.here hx rfl (hb hby d7_153) (XS.aloadN X240.here hx rfl (hb hby d7_154) rfl rfl (XS.iconst X240.here hx rfl (hb hby d7_155) k))))) ?_
   obtain ⟨cl247, Ar247, q247, S247, Ng247, H247, G247⟩ := id f242
   have in247 : ¬ ((1 : Int32) < 0 ∨ cl247.slots.size ≤ ((1 : Int32)).toNatClampNeg) := inb_of S247 ⟨by decide, by decide⟩
   have at247 : cl247.slots[((1 : Int32)).toNatClampNeg]? = some (.int x1) := H247.at in247 rfl
   refine own_goW (fun _ k => X240.caload hx (j := (1 : Int32)) (v := (.int x1)) (by rw [e240]; exact Ar247.1) (State.isArrayOf_alike hZ.alike Ar247.2.1) Ar247.2.2 in247 at247 (g := (mkF m 156 #[.val (.ref p0), .val (.int 5)] [(.int 1), (.ref p0), (.int 1), (.ref b230), (.ref b230), (.ref b223), (.ref b223)])) rfl rfl (hb hby d7_156) _ k) ?_
   obtain ⟨cl248, Ar248, q248, S248, Ng248, H248, G248⟩ := id f246
   have in248 : ¬ ((1 : Int32) < 0 ∨ cl248.slots.size ≤ ((1 : Int32)).toNatClampNeg) := inb_of S248 ⟨by decide, by decide⟩
   obtain ⟨T248, h248, X248, e248, W248, st248⟩ := stC X240 hx hZ e240 Ar248 (j := (1 : Int32)) in248 (g := (mkF m 157 #[.val (.ref p0), .val (.int 5)] [(.int x1), (.int 1), (.ref b230), (.ref b230), (.ref b223), (.ref b223)])) rfl rfl (hb hby d7_157)
   have N248 := Fr.snoc X248 N240 gg230
   have Zs248 := Nat.le_trans Zs240 (Keep.of_wr W248).1
   have K248_0 := K240_0.wr W248 (Or.inr sz230_0)
   have K248_1 := K240_1.wr W248 (Or.inr sz230_1)
   have f249 := f241.wr W248 gg230
   have f250 := f242.other W248 ne231
   have f251 := f243.wr W248
   have f252 := f244.other W248 (Or.inl ne232)
   have f253 := f245.other W248 (Or.inl ne232)
   have f254 : Arv Z h248 b230 k230 .char (5 : Int32) [(.int x0), (.int x1), (.int 0), (.int 0), (.int 0)] (.int 0) := (by have q := Arv.set Ar248 q248 S248 Ng248 H248 G248 (fits_nar_char _) W248 1 rfl (Nat.le_of_ble_eq_true rfl); rw [(own_rnar x1 (hxr _ (by simp)))] at q; exact q)
   refine own_goW (fun _ k => st248 _ (XS.dup X248.here hx rfl (hb hby d7_158) rfl rfl (XS.iconst X248.here hx rfl (hb hby d7_159) (XS.aloadN X248.here hx rfl (hb hby d7_160) rfl rfl (XS.iconst X248.here hx rfl (hb hby d7_161) k))))) ?_
   obtain ⟨cl255, Ar255, q255, S255, Ng255, H255, G255⟩ := id f250
   have in255 : ¬ ((2 : Int32) < 0 ∨ cl255.slots.size ≤ ((2 : Int32)).toNatClampNeg) := inb_of S255 ⟨by decide, by decide⟩
   have at255 : cl255.slots[((2 : Int32)).toNatClampNeg]? = some (.int x2) := H255.at in255 rfl
   refine own_goW (fun _ k => X248.caload hx (j := (2 : Int32)) (v := (.int x2)) (by rw [e248]; exact Ar255.1) (State.isArrayOf_alike hZ.alike Ar255.2.1) Ar255.2.2 in255 at255 (g := (mkF m 162 #[.val (.ref p0), .val (.int 5)] [(.int 2), (.ref p0), (.int 2), (.ref b230), (.ref b230), (.ref b223), (.ref b223)])) rfl rfl (hb hby d7_162) _ k) ?_
   obtain ⟨cl256, Ar256, q256, S256, Ng256, H256, G256⟩ := id f254
   have in256 : ¬ ((2 : Int32) < 0 ∨ cl256.slots.size ≤ ((2 : Int32)).toNatClampNeg) := inb_of S256 ⟨by decide, by decide⟩
   obtain ⟨T256, h256, X256, e256, W256, st256⟩ := stC X248 hx hZ e248 Ar256 (j := (2 : Int32)) in256 (g := (mkF m 163 #[.val (.ref p0), .val (.int 5)] [(.int x2), (.int 2), (.ref b230), (.ref b230), (.ref b223), (.ref b223)])) rfl rfl (hb hby d7_163)
   have N256 := Fr.snoc X256 N248 gg230
   have Zs256 := Nat.le_trans Zs248 (Keep.of_wr W256).1
   have K256_0 := K248_0.wr W256 (Or.inr sz230_0)
   have K256_1 := K248_1.wr W256 (Or.inr sz230_1)
   have f257 := f249.wr W256 gg230
   have f258 := f250.other W256 ne231
   have f259 := f251.wr W256
   have f260 := f252.other W256 (Or.inl ne232)
   have f261 := f253.other W256 (Or.inl ne232)
   have f262 : Arv Z h256 b230 k230 .char (5 : Int32) [(.int x0), (.int x1), (.int x2), (.int 0), (.int 0)] (.int 0) := (by have q := Arv.set Ar256 q256 S256 Ng256 H256 G256 (fits_nar_char _) W256 2 rfl (Nat.le_of_ble_eq_true rfl); rw [(own_rnar x2 (hxr _ (by simp)))] at q; exact q)
   refine own_goW (fun _ k => st256 _ (XS.dup X256.here hx rfl (hb hby d7_164) rfl rfl (XS.iconst X256.here hx rfl (hb hby d7_165) (XS.aloadN X256.here hx rfl (hb hby d7_166) rfl rfl (XS.iconst X256.here hx rfl (hb hby d7_167) k))))) ?_
   obtain ⟨cl263, Ar263, q263, S263, Ng263, H263, G263⟩ := id f258
   have in263 : ¬ ((3 : Int32) < 0 ∨ cl263.slots.size ≤ ((3 : Int32)).toNatClampNeg) := inb_of S263 ⟨by decide, by decide⟩
   have at263 : cl263.slots[((3 : Int32)).toNatClampNeg]? = some (.int x3) := H263.at in263 rfl
   refine own_goW (fun _ k => X256.caload hx (j := (3 : Int32)) (v := (.int x3)) (by rw [e256]; exact Ar263.1) (State.isArrayOf_alike hZ.alike Ar263.2.1) Ar263.2.2 in263 at263 (g := (mkF m 168 #[.val (.ref p0), .val (.int 5)] [(.int 3), (.ref p0), (.int 3), (.ref b230), (.ref b230), (.ref b223), (.ref b223)])) rfl rfl (hb hby d7_168) _ k) ?_
   obtain ⟨cl264, Ar264, q264, S264, Ng264, H264, G264⟩ := id f262
   have in264 : ¬ ((3 : Int32) < 0 ∨ cl264.slots.size ≤ ((3 : Int32)).toNatClampNeg) := inb_of S264 ⟨by decide, by decide⟩
   obtain ⟨T264, h264, X264, e264, W264, st264⟩ := stC X256 hx hZ e256 Ar264 (j := (3 : Int32)) in264 (g := (mkF m 169 #[.val (.ref p0), .val (.int 5)] [(.int x3), (.int 3), (.ref b230), (.ref b230), (.ref b223), (.ref b223)])) rfl rfl (hb hby d7_169)
   have N264 := Fr.snoc X264 N256 gg230
   have Zs264 := Nat.le_trans Zs256 (Keep.of_wr W264).1
   have K264_0 := K256_0.wr W264 (Or.inr sz230_0)
   have K264_1 := K256_1.wr W264 (Or.inr sz230_1)
   have f265 := f257.wr W264 gg230
   have f266 := f258.other W264 ne231
   have f267 := f259.wr W264
   have f268 := f260.other W264 (Or.inl ne232)
   have f269 := f261.other W264 (Or.inl ne232)
   have f270 : Arv Z h264 b230 k230 .char (5 : Int32) [(.int x0), (.int x1), (.int x2), (.int x3), (.int 0)] (.int 0) := (by have q := Arv.set Ar264 q264 S264 Ng264 H264 G264 (fits_nar_char _) W264 3 rfl (Nat.le_of_ble_eq_true rfl); rw [(own_rnar x3 (hxr _ (by simp)))] at q; exact q)
   refine own_goW (fun _ k => st264 _ (XS.dup X264.here hx rfl (hb hby d7_170) rfl rfl (XS.iconst X264.here hx rfl (hb hby d7_171) (XS.aloadN X264.here hx rfl (hb hby d7_172) rfl rfl (XS.iconst X264.here hx rfl (hb hby d7_173) k))))) ?_
   obtain ⟨cl271, Ar271, q271, S271, Ng271, H271, G271⟩ := id f266
   have in271 : ¬ ((4 : Int32) < 0 ∨ cl271.slots.size ≤ ((4 : Int32)).toNatClampNeg) := inb_of S271 ⟨by decide, by decide⟩
   have at271 : cl271.slots[((4 : Int32)).toNatClampNeg]? = some (.int x4) := H271.at in271 rfl
   refine own_goW (fun _ k => X264.caload hx (j := (4 : Int32)) (v := (.int x4)) (by rw [e264]; exact Ar271.1) (State.isArrayOf_alike hZ.alike Ar271.2.1) Ar271.2.2 in271 at271 (g := (mkF m 174 #[.val (.ref p0), .val (.int 5)] [(.int 4), (.ref p0), (.int 4), (.ref b230), (.ref b230), (.ref b223), (.ref b223)])) rfl rfl (hb hby d7_174) _ k) ?_
   obtain ⟨cl272, Ar272, q272, S272, Ng272, H272, G272⟩ := id f270
   have in272 : ¬ ((4 : Int32) < 0 ∨ cl272.slots.size ≤ ((4 : Int32)).toNatClampNeg) := inb_of S272 ⟨by decide, by decide⟩
   obtain ⟨T272, h272, X272, e272, W272, st272⟩ := stC X264 hx hZ e264 Ar272 (j := (4 : Int32)) in272 (g := (mkF m 175 #[.val (.ref p0), .val (.int 5)] [(.int x4), (.int 4), (.ref b230), (.ref b230), (.ref b223), (.ref b223)])) rfl rfl (hb hby d7_175)
   have N272 := Fr.snoc X272 N264 gg230
   have Zs272 := Nat.le_trans Zs264 (Keep.of_wr W272).1
   have K272_0 := K264_0.wr W272 (Or.inr sz230_0)
   have K272_1 := K264_1.wr W272 (Or.inr sz230_1)
   have f273 := f265.wr W272 gg230
   have f274 := f266.other W272 ne231
   have f275 := f267.wr W272
   have f276 := f268.other W272 (Or.inl ne232)
   have f277 := f269.other W272 (Or.inl ne232)
   have f278 : Arv Z h272 b230 k230 .char (5 : Int32) [(.int x0), (.int x1), (.int x2), (.int x3), (.int x4)] (.int 0) := (by have q := Arv.set Ar272 q272 S272 Ng272 H272 G272 (fits_nar_char _) W272 4 rfl (Nat.le_of_ble_eq_true rfl); rw [(own_rnar x4 (hxr _ (by simp)))] at q; exact q)
   refine own_goW (fun _ k => st272 _ k) ?_
   obtain ⟨_, _, ⟨T279, L279, k279, n279⟩, -, X279, ⟨Lc279, hQ279, l279, y279, z279⟩, st279⟩ := X272.specialBack hx (y := Y35) rfl hown (mvT hZ (own_h hw 44 rfl)) (mvT hZ (own_h hw 45 rfl)) (mvT hZ (own_h hw 46 rfl)) (by decide) (backOf (W := 1) (rm8a l Z a0 hw [] b223 b230 zc fm 5 k230 ([x0, x1, x2, x3, x4] : List Int32) h272 n0 Zs272 f275 f276 f277 gg223 f273 HA f278 (by decide) (by decide) rfl (own_tk 5 hxr)) hZ (own_h hw 46 rfl) (own_h hw 8 rfl) (by decide) (by decide)) (g := (mkF m 176 #[.val (.ref p0), .val (.int 5)] [(.ref b230), (.ref b223), (.ref b223)])) rfl (by rw [hml]; rfl) (Steps.refl _) (a := b223) (argsL := [(.ref b230)]) (rest := [(.ref b223)]) (lenOf pd_39 rfl) rfl (own_r0 _) (hb hby d7_176) (fun _ _ => ⟨rfl, e272, (by decide : 2 + 2 ≤ _), (by decide : 9 + 15 ≤ _)⟩)
   dsimp only [Pt.U, Pt.locs, Pt.cells, Pt.slots] at X279 l279 y279 z279 st279 hQ279
   rw [l279] at X279
   subst y279 z279
   obtain ⟨t279, kb279, co279, rfl, Nq279, Kq279, r279_0, r279_1, r279_2, r279_3, r279_4, r279_5⟩ := hQ279
   have N279 := Fr.app N272 Nq279
   have ne280 := Nat.ne_of_lt (Nat.lt_of_lt_of_le f274.lt r279_4)
   have ne281 := Nat.ne_of_lt (Nat.lt_of_lt_of_le f275.lt r279_4)
   have ne282 := Nat.ne_of_lt (Nat.lt_of_lt_of_le f278.lt r279_4)
   have gg_t279 := Nat.le_trans Zs272 r279_4
   have sz_t279_0 := Nat.le_trans K272_0.1 r279_4
   have sz_t279_1 := Nat.le_trans K272_1.1 r279_4
   have f283 := f273.keep Kq279 (allS gg223 all0)
   have f284 := f274.keep Kq279 (ninS ne224 nin0)
   have f285 := f275.keep Kq279
   have f286 := f278.keep Kq279 (ninS (Ne.symm ne232) nin0)
   have Zs279 := Nat.le_trans Zs272 Kq279.1
   have K279_0 := K272_0.trans Kq279 (allS (Or.inr sz223_0) all0)
   have K279_1 := K272_1.trans Kq279 (allS (Or.inr sz223_1) all0)
   refine own_goW (fun _ k => st279.trans k) ?_
   show own_GW _ _ _ (T279.setTop (mkF m 179 #[.val (.ref p0), .val (.int 5)] [(.ref b223)])) _ _ _ _ _ _
   have CQ287 := CR0.trans (CHr.keep K279_1 all0 CR0.1)
   have CE287 : CHr Z own_EL s.vm s.heap T279.vm T279.heap := by rw [hh, show T279.heap = T279.heap from rfl]; exact CQ287.trans (CHv.at X279 hZ (own_EW hw) CQ287.1)
   exact own_endWO X279 hx hlk Bd.returns rfl (Or.inr (Or.inr (Or.inr (Or.inr ⟨rfl, rfl, rfl⟩)))) (hb hby d7_179) hS0 (show _ ≤ T279.heap.size by rw [show T279.heap = T279.heap from rfl]; exact (Nat.le_trans hk0 K279_1.1)) (by decide) (by decide) CE287 (Q := (Q7 Z p0 zc fm kc n x0 x1 x2 x3 x4 h0 n0)) ⟨b223, t279, kb279, co279, rfl, N279, K279_0, r279_0, r279_1, r279_2, (by rw [hq]; exact r279_3), (by rw [hq]; exact ⟨r279_5, own_tk 5 hxr, by show 5 ≤ 22; decide⟩)⟩
theorem d46_0 : own_d B46 0 (.iload_n 2) 1 := by decide +kernel
theorem d46_1 : own_d B46 1 (.ifCond .lt 18) 3 := by decide +kernel
theorem d46_4 : own_d B46 4 (.iload_n 2) 1 := by decide +kernel
theorem d46_5 : own_d B46 5 (.iconst 3) 1 := by decide +kernel
theorem d46_6 : own_d B46 6 (.iadd) 1 := by decide +kernel
theorem d46_7 : own_d B46 7 (.iload_n 1) 1 := by decide +kernel
theorem d46_8 : own_d B46 8 (.if_icmp .gt 11) 3 := by decide +kernel
theorem d46_11 : own_d B46 11 (.aload_n 0) 1 := by decide +kernel
theorem d46_12 : own_d B46 12 (.iload_n 2) 1 := by decide +kernel
theorem d46_13 : own_d B46 13 (.caload) 1 := by decide +kernel
theorem d46_14 : own_d B46 14 (.bipush 37) 2 := by decide +kernel
theorem d46_16 : own_d B46 16 (.if_icmp .eq 5) 3 := by decide +kernel
theorem d46_19 : own_d B46 19 (.iconst (-1)) 1 := by decide +kernel
theorem d46_20 : own_d B46 20 (.ireturn) 1 := by decide +kernel
theorem d46_21 : own_d B46 21 (.aload_n 0) 1 := by decide +kernel
theorem d46_22 : own_d B46 22 (.iload_n 2) 1 := by decide +kernel
theorem d46_23 : own_d B46 23 (.iconst 1) 1 := by decide +kernel
theorem d46_24 : own_d B46 24 (.iadd) 1 := by decide +kernel
theorem d46_25 : own_d B46 25 (.caload) 1 := by decide +kernel
theorem d46_26 : own_d B46 26 (.invokestatic 16) 3 := by decide +kernel
theorem d46_29 : own_d B46 29 (.istore_n 3) 1 := by decide +kernel
theorem d46_30 : own_d B46 30 (.aload_n 0) 1 := by decide +kernel
theorem d46_31 : own_d B46 31 (.iload_n 2) 1 := by decide +kernel
theorem d46_32 : own_d B46 32 (.iconst 2) 1 := by decide +kernel
theorem d46_33 : own_d B46 33 (.iadd) 1 := by decide +kernel
theorem d46_34 : own_d B46 34 (.caload) 1 := by decide +kernel
theorem d46_35 : own_d B46 35 (.invokestatic 16) 3 := by decide +kernel
theorem d46_38 : own_d B46 38 (.istore 4) 2 := by decide +kernel
theorem d46_40 : own_d B46 40 (.iload_n 3) 1 := by decide +kernel
theorem d46_41 : own_d B46 41 (.ifCond .lt 8) 3 := by decide +kernel
theorem d46_44 : own_d B46 44 (.iload 4) 2 := by decide +kernel
theorem d46_46 : own_d B46 46 (.ifCond .ge 5) 3 := by decide +kernel
theorem d46_49 : own_d B46 49 (.iconst (-1)) 1 := by decide +kernel
theorem d46_50 : own_d B46 50 (.ireturn) 1 := by decide +kernel
theorem d46_51 : own_d B46 51 (.iload_n 3) 1 := by decide +kernel
theorem d46_52 : own_d B46 52 (.bipush 16) 2 := by decide +kernel
theorem d46_54 : own_d B46 54 (.imul) 1 := by decide +kernel
theorem d46_55 : own_d B46 55 (.iload 4) 2 := by decide +kernel
theorem d46_57 : own_d B46 57 (.iadd) 1 := by decide +kernel
theorem d46_58 : own_d B46 58 (.istore 5) 2 := by decide +kernel
theorem d46_60 : own_d B46 60 (.iload 5) 2 := by decide +kernel
theorem d46_62 : own_d B46 62 (.invokestatic 22) 3 := by decide +kernel
theorem d46_65 : own_d B46 65 (.ifCond .eq 8) 3 := by decide +kernel
theorem d46_68 : own_d B46 68 (.iload 5) 2 := by decide +kernel
theorem d46_70 : own_d B46 70 (.goto 4) 3 := by decide +kernel
theorem d46_73 : own_d B46 73 (.iconst (-1)) 1 := by decide +kernel
theorem d46_74 : own_d B46 74 (.ireturn) 1 := by decide +kernel
theorem ef_46 (m : MethodId) (p0 : Addr) (p2 : Int32) (n : Nat) : entryFrame m #[(.ref p0), (.int (Int32.ofNat n)), (.int p2)] 6 = mkF m 0 #[.val (.ref p0), .val (.int (Int32.ofNat n)), .val (.int p2), .unset, .unset, .unset] [] := by first | (simp [entryFrame, mkF, argsToLocals, Value.category]; done) | rfl
def Q46 (Z : State) (p0 : Addr) (p2 : Int32) (n : Nat) (kc : ClassId) (xs : List Int32) (h0 : Heap) (n0 : Nat) (v : Option Value) (h : Heap) (L : List Loc) : Prop := v = some (.int (own_dcx xs n p2)) ∧ Fr n0 L ∧ h = h0
theorem rm46 (l : Launch) (Z : State) (a0 : Array Value) (hw : ∀ d ∈ tables_1, d.before a0 Z = true) (ws : List Jvm.Cond) (p0 : Addr) (p2 : Int32) (n : Nat) (kc : ClassId) (xs : List Int32) (h0 : Heap) (n0 : Nat) (Z0 : n0 ≤ h0.size) (P_V_p0 : Arv Z h0 p0 kc .char (5 : Int32) (own_ci xs) (.int 0)) (hx5 : xs.length = 5) (hn5 : n ≤ 5) (hp4 : p2.toInt ≤ 4) :
   own_M l Z Y70 method_5_code 6 (some .int) ws ({ frames := 1, cells := 0, slots := 0, locals := 12 } : Room) #[(.ref p0), (.int (Int32.ofNat n)), (.int p2)] h0 (Q46 Z p0 p2 n kc xs h0 n0) := by
 refine own_body (C := "com/example/amid2/amid2/PercentEncodingDecodeUnreservedPinLaw") rfl (plainFor_of_name pn_8) (fun p e s m below meth c s₁ Bd hx hby hml hown hlk hZ X0 e0 => ?_)
 have N0 := Fr.nil n0
 refine own_go (fun _ k => castTop (ef_46 m p0 p2 n) k) ?_
 show own_G _ _ _ (s₁.setTop (mkF m 0 #[.val (.ref p0), .val (.int (Int32.ofNat n)), .val (.int p2), .unset, .unset, .unset] [])) _ _ _ _
 by_cases hpn : p2 < 0
 · skip
   refine own_go (fun _ k => XS.iloadN X0.here hx rfl (hb hby d46_0) rfl k) ?_
   show own_G _ _ _ (s₁.setTop (mkF m 1 #[.val (.ref p0), .val (.int (Int32.ofNat n)), .val (.int p2), .unset, .unset, .unset] [(.int p2)])) _ _ _ _
   have hc1 : p2 < (0 : Int32) := hpn
   refine own_go (fun _ k => XS.ifYes X0.here hx rfl (pc0 := 1) (pc' := 19) rfl (hb hby d46_1) rfl ((if0 _ _).trans (tlt hc1).1) (by decide) (by decide) (XS.iconst X0.here hx rfl (hb hby d46_19) k)) ?_
   show own_G _ _ _ (s₁.setTop (mkF m 20 #[.val (.ref p0), .val (.int (Int32.ofNat n)), .val (.int p2), .unset, .unset, .unset] [(.int (-1))])) _ _ _ _
   exact own_endI X0 hx hlk Bd.returns (hb hby d46_20) (by decide) (by decide) (Q := (Q46 Z p0 p2 n kc xs h0 n0)) (by rw [e0]; exact ⟨(by rw [own_dcx, if_pos hpn]), N0, rfl⟩)
 · obtain ⟨j, hj4, ej⟩ := own_x4 hpn hp4
   have ejn : p2.toNatClampNeg = j := by rw [ej]; exact own_cl j (by omega)
   refine own_go (fun _ k => castTop (g := (mkF m 0 #[.val (.ref p0), .val (.int (Int32.ofNat n)), .val (.int p2), .unset, .unset, .unset] [])) (g' := (mkF m 0 #[.val (.ref p0), .val (.int (Int32.ofNat n)), .val (.int (Int32.ofNat j)), .unset, .unset, .unset] [])) (by rw [ej]) (XS.iloadN X0.here hx rfl (hb hby d46_0) rfl k)) ?_
   show own_G _ _ _ (s₁.setTop (mkF m 1 #[.val (.ref p0), .val (.int (Int32.ofNat n)), .val (.int (Int32.ofNat j)), .unset, .unset, .unset] [(.int (Int32.ofNat j))])) _ _ _ _
   have hc2 : ¬ ((Int32.ofNat j) < (0 : Int32)) := (own_nn j (by omega))
   refine own_go (fun _ k => XS.ifNo X0.here hx rfl (hb hby d46_1) rfl ((if0 _ _).trans (flt hc2).1) (XS.iloadN X0.here hx rfl (hb hby d46_4) rfl (XS.iconst X0.here hx rfl (hb hby d46_5) k))) ?_
   show own_G _ _ _ (s₁.setTop (mkF m 6 #[.val (.ref p0), .val (.int (Int32.ofNat n)), .val (.int (Int32.ofNat j)), .unset, .unset, .unset] [(.int 3), (.int (Int32.ofNat j))])) _ _ _ _
   refine own_go (fun _ k => XS.iadd X0.here hx rfl (hb hby d46_6) rfl k) ?_
   rw [own_inc3 j]
   show own_G _ _ _ (s₁.setTop (mkF m 7 #[.val (.ref p0), .val (.int (Int32.ofNat n)), .val (.int (Int32.ofNat j)), .unset, .unset, .unset] [(.int (Int32.ofNat (j + 3)))])) _ _ _ _
   refine own_go (fun _ k => XS.iloadN X0.here hx rfl (hb hby d46_7) rfl k) ?_
   show own_G _ _ _ (s₁.setTop (mkF m 8 #[.val (.ref p0), .val (.int (Int32.ofNat n)), .val (.int (Int32.ofNat j)), .unset, .unset, .unset] [(.int (Int32.ofNat n)), (.int (Int32.ofNat (j + 3)))])) _ _ _ _
   by_cases hc3 : (Int32.ofNat n) < (Int32.ofNat (j + 3))
   · refine own_go (fun _ k => XS.icmpYes X0.here hx rfl (pc0 := 8) (pc' := 19) rfl (hb hby d46_8) rfl (tlt hc3).2.2.1 (by decide) (by decide) (XS.iconst X0.here hx rfl (hb hby d46_19) k)) ?_
     show own_G _ _ _ (s₁.setTop (mkF m 20 #[.val (.ref p0), .val (.int (Int32.ofNat n)), .val (.int (Int32.ofNat j)), .unset, .unset, .unset] [(.int (-1))])) _ _ _ _
     exact own_endI X0 hx hlk Bd.returns (hb hby d46_20) (by decide) (by decide) (Q := (Q46 Z p0 p2 n kc xs h0 n0)) (by rw [e0]; exact ⟨(by rw [own_dcx, if_neg hpn, ejn, own_dv, if_pos ((own_ltI n (j + 3) (by omega) (by omega)).mp hc3)]), N0, rfl⟩)
   · refine own_go (fun _ k => XS.icmpNo X0.here hx rfl (hb hby d46_8) rfl (flt hc3).2.2.1 k) ?_
     show own_G _ _ _ (s₁.setTop (mkF m 11 #[.val (.ref p0), .val (.int (Int32.ofNat n)), .val (.int (Int32.ofNat j)), .unset, .unset, .unset] [])) _ _ _ _
     have hj3 : j + 3 ≤ n := own_geN hc3 (by omega) (by omega)
     · skip
       refine own_go (fun _ k => XS.aloadN X0.here hx rfl (hb hby d46_11) rfl rfl (XS.iloadN X0.here hx rfl (hb hby d46_12) rfl k)) ?_
       obtain ⟨cl4, Ar4, q4, S4, Ng4, H4, G4⟩ := id P_V_p0
       have in4 : ¬ ((Int32.ofNat j) < 0 ∨ cl4.slots.size ≤ ((Int32.ofNat j)).toNatClampNeg) := inb_of S4 (own_inb (n := 5) (by omega) (by omega))
       have at4 : cl4.slots[((Int32.ofNat j)).toNatClampNeg]? = some (.int (xs.getD j 0)) := H4.at in4 (by rw [own_cl (j) (by omega)]; exact own_ci_at xs (j) (by omega))
       refine own_go (fun _ k => X0.caload hx (j := (Int32.ofNat j)) (v := (.int (xs.getD j 0))) (by rw [e0]; exact Ar4.1) (State.isArrayOf_alike hZ.alike Ar4.2.1) Ar4.2.2 in4 at4 (g := (mkF m 13 #[.val (.ref p0), .val (.int (Int32.ofNat n)), .val (.int (Int32.ofNat j)), .unset, .unset, .unset] [(.int (Int32.ofNat j)), (.ref p0)])) rfl rfl (hb hby d46_13) _ (XS.bipush X0.here hx rfl (hb hby d46_14) k)) ?_
       show own_G _ _ _ (s₁.setTop (mkF m 16 #[.val (.ref p0), .val (.int (Int32.ofNat n)), .val (.int (Int32.ofNat j)), .unset, .unset, .unset] [(.int 37), (.int (xs.getD j 0))])) _ _ _ _
       by_cases hc5 : (xs.getD j 0) = (37 : Int32)
       · refine own_go (fun _ k => XS.icmpYes X0.here hx rfl (pc0 := 16) (pc' := 21) rfl (hb hby d46_16) rfl (teq hc5).1 (by decide) (by decide) (XS.aloadN X0.here hx rfl (hb hby d46_21) rfl rfl (XS.iloadN X0.here hx rfl (hb hby d46_22) rfl (XS.iconst X0.here hx rfl (hb hby d46_23) k)))) ?_
         show own_G _ _ _ (s₁.setTop (mkF m 24 #[.val (.ref p0), .val (.int (Int32.ofNat n)), .val (.int (Int32.ofNat j)), .unset, .unset, .unset] [(.int 1), (.int (Int32.ofNat j)), (.ref p0)])) _ _ _ _
         refine own_go (fun _ k => XS.iadd X0.here hx rfl (hb hby d46_24) rfl k) ?_
         rw [own_inc j]
         show own_G _ _ _ (s₁.setTop (mkF m 25 #[.val (.ref p0), .val (.int (Int32.ofNat n)), .val (.int (Int32.ofNat j)), .unset, .unset, .unset] [(.int (Int32.ofNat (j + 1))), (.ref p0)])) _ _ _ _
         obtain ⟨cl6, Ar6, q6, S6, Ng6, H6, G6⟩ := id P_V_p0
         have in6 : ¬ ((Int32.ofNat (j + 1)) < 0 ∨ cl6.slots.size ≤ ((Int32.ofNat (j + 1))).toNatClampNeg) := inb_of S6 (own_inb (n := 5) (by omega) (by omega))
         have at6 : cl6.slots[((Int32.ofNat (j + 1))).toNatClampNeg]? = some (.int (xs.getD (j + 1) 0)) := H6.at in6 (by rw [own_cl (j + 1) (by omega)]; exact own_ci_at xs (j + 1) (by omega))
         refine own_go (fun _ k => X0.caload hx (j := (Int32.ofNat (j + 1))) (v := (.int (xs.getD (j + 1) 0))) (by rw [e0]; exact Ar6.1) (State.isArrayOf_alike hZ.alike Ar6.2.1) Ar6.2.2 in6 at6 (g := (mkF m 25 #[.val (.ref p0), .val (.int (Int32.ofNat n)), .val (.int (Int32.ofNat j)), .unset, .unset, .unset] [(.int (Int32.ofNat (j + 1))), (.ref p0)])) rfl rfl (hb hby d46_25) _ k) ?_
         obtain ⟨_, _, ⟨T7, L7, k7, n7⟩, -, X7, ⟨Lc7, hQ7, l7, y7, z7⟩, st7⟩ := Jvm.LawKit.callS X0 hx (y := Y64) hown (mvT hZ (own_h hw 237 rfl)) (mvT hZ (own_h hw 238 rfl)) (mvT hZ (own_h hw 4 rfl)) (mvT hZ (own_h hw 239 rfl)) (by decide) (backOf (W := 0) (rm47 l Z a0 hw [] (xs.getD (j + 1) 0) h0 n0) hZ (own_h hw 239 rfl) (own_h hw 4 rfl) (by decide) (by decide)) (g := (mkF m 26 #[.val (.ref p0), .val (.int (Int32.ofNat n)), .val (.int (Int32.ofNat j)), .unset, .unset, .unset] [(.int (xs.getD (j + 1) 0))])) rfl (by rw [hml]; rfl) (argsL := [(.int (xs.getD (j + 1) 0))]) (rest := []) (lenOf pd_34 rfl) rfl (own_r0 _) (hb hby d46_26) (fun _ _ => ⟨rfl, e0, (by decide : 0 + 0 ≤ _), (by decide : 0 + 0 ≤ _)⟩)
         dsimp only [Pt.U, Pt.locs, Pt.cells, Pt.slots] at X7 l7 y7 z7 st7 hQ7
         rw [l7] at X7
         subst y7 z7
         obtain ⟨rfl, Nq7, eh7⟩ := hQ7
         have N7 := Fr.app N0 Nq7
         refine own_go (fun _ k => st7 _ (XS.istoreN X7.here hx rfl (hb hby d46_29) rfl (l' := #[.val (.ref p0), .val (.int (Int32.ofNat n)), .val (.int (Int32.ofNat j)), .val (.int (own_hex (xs.getD (j + 1) 0))), .unset, .unset]) rfl (XS.aloadN X7.here hx rfl (hb hby d46_30) rfl rfl (XS.iloadN X7.here hx rfl (hb hby d46_31) rfl (XS.iconst X7.here hx rfl (hb hby d46_32) k))))) ?_
         show own_G _ _ _ (T7.setTop (mkF m 33 #[.val (.ref p0), .val (.int (Int32.ofNat n)), .val (.int (Int32.ofNat j)), .val (.int (own_hex (xs.getD (j + 1) 0))), .unset, .unset] [(.int 2), (.int (Int32.ofNat j)), (.ref p0)])) _ _ _ _
         refine own_go (fun _ k => XS.iadd X7.here hx rfl (hb hby d46_33) rfl k) ?_
         rw [own_inc2 j]
         show own_G _ _ _ (T7.setTop (mkF m 34 #[.val (.ref p0), .val (.int (Int32.ofNat n)), .val (.int (Int32.ofNat j)), .val (.int (own_hex (xs.getD (j + 1) 0))), .unset, .unset] [(.int (Int32.ofNat (j + 2))), (.ref p0)])) _ _ _ _
         obtain ⟨cl8, Ar8, q8, S8, Ng8, H8, G8⟩ := id P_V_p0
         have in8 : ¬ ((Int32.ofNat (j + 2)) < 0 ∨ cl8.slots.size ≤ ((Int32.ofNat (j + 2))).toNatClampNeg) := inb_of S8 (own_inb (n := 5) (by omega) (by omega))
         have at8 : cl8.slots[((Int32.ofNat (j + 2))).toNatClampNeg]? = some (.int (xs.getD (j + 2) 0)) := H8.at in8 (by rw [own_cl (j + 2) (by omega)]; exact own_ci_at xs (j + 2) (by omega))
         refine own_go (fun _ k => X7.caload hx (j := (Int32.ofNat (j + 2))) (v := (.int (xs.getD (j + 2) 0))) (by rw [eh7]; exact Ar8.1) (State.isArrayOf_alike hZ.alike Ar8.2.1) Ar8.2.2 in8 at8 (g := (mkF m 34 #[.val (.ref p0), .val (.int (Int32.ofNat n)), .val (.int (Int32.ofNat j)), .val (.int (own_hex (xs.getD (j + 1) 0))), .unset, .unset] [(.int (Int32.ofNat (j + 2))), (.ref p0)])) rfl rfl (hb hby d46_34) _ k) ?_
         obtain ⟨_, _, ⟨T9, L9, k9, n9⟩, -, X9, ⟨Lc9, hQ9, l9, y9, z9⟩, st9⟩ := Jvm.LawKit.callS X7 hx (y := Y64) hown (mvT hZ (own_h hw 237 rfl)) (mvT hZ (own_h hw 238 rfl)) (mvT hZ (own_h hw 4 rfl)) (mvT hZ (own_h hw 239 rfl)) (by decide) (backOf (W := 0) (rm47 l Z a0 hw [] (xs.getD (j + 2) 0) h0 n0) hZ (own_h hw 239 rfl) (own_h hw 4 rfl) (by decide) (by decide)) (g := (mkF m 35 #[.val (.ref p0), .val (.int (Int32.ofNat n)), .val (.int (Int32.ofNat j)), .val (.int (own_hex (xs.getD (j + 1) 0))), .unset, .unset] [(.int (xs.getD (j + 2) 0))])) rfl (by rw [hml]; rfl) (argsL := [(.int (xs.getD (j + 2) 0))]) (rest := []) (lenOf pd_34 rfl) rfl (own_r0 _) (hb hby d46_35) (fun _ _ => ⟨rfl, eh7, (by decide : 0 + 0 ≤ _), (by decide : 0 + 0 ≤ _)⟩)
         dsimp only [Pt.U, Pt.locs, Pt.cells, Pt.slots] at X9 l9 y9 z9 st9 hQ9
         rw [l9] at X9
         subst y9 z9
         obtain ⟨rfl, Nq9, eh9⟩ := hQ9
         have N9 := Fr.app N7 Nq9
         refine own_go (fun _ k => st9 _ (XS.istore X9.here hx rfl (hb hby d46_38) rfl (l' := #[.val (.ref p0), .val (.int (Int32.ofNat n)), .val (.int (Int32.ofNat j)), .val (.int (own_hex (xs.getD (j + 1) 0))), .val (.int (own_hex (xs.getD (j + 2) 0))), .unset]) rfl (XS.iloadN X9.here hx rfl (hb hby d46_40) rfl k))) ?_
         show own_G _ _ _ (T9.setTop (mkF m 41 #[.val (.ref p0), .val (.int (Int32.ofNat n)), .val (.int (Int32.ofNat j)), .val (.int (own_hex (xs.getD (j + 1) 0))), .val (.int (own_hex (xs.getD (j + 2) 0))), .unset] [(.int (own_hex (xs.getD (j + 1) 0)))])) _ _ _ _
         by_cases hc10 : (own_hex (xs.getD (j + 1) 0)) < (0 : Int32)
         · refine own_go (fun _ k => XS.ifYes X9.here hx rfl (pc0 := 41) (pc' := 49) rfl (hb hby d46_41) rfl ((if0 _ _).trans (tlt hc10).1) (by decide) (by decide) (XS.iconst X9.here hx rfl (hb hby d46_49) k)) ?_
           show own_G _ _ _ (T9.setTop (mkF m 50 #[.val (.ref p0), .val (.int (Int32.ofNat n)), .val (.int (Int32.ofNat j)), .val (.int (own_hex (xs.getD (j + 1) 0))), .val (.int (own_hex (xs.getD (j + 2) 0))), .unset] [(.int (-1))])) _ _ _ _
           exact own_endI X9 hx hlk Bd.returns (hb hby d46_50) (by decide) (by decide) (Q := (Q46 Z p0 p2 n kc xs h0 n0)) (by rw [eh9]; exact ⟨(by rw [own_dcx, if_neg hpn, ejn, own_dv, if_neg (fun q => hc3 ((own_ltI n (j + 3) (by omega) (by omega)).mpr q)), if_pos hc5, if_pos hc10]), N9, rfl⟩)
         · refine own_go (fun _ k => XS.ifNo X9.here hx rfl (hb hby d46_41) rfl ((if0 _ _).trans (flt hc10).1) (XS.iload X9.here hx rfl (hb hby d46_44) rfl k)) ?_
           show own_G _ _ _ (T9.setTop (mkF m 46 #[.val (.ref p0), .val (.int (Int32.ofNat n)), .val (.int (Int32.ofNat j)), .val (.int (own_hex (xs.getD (j + 1) 0))), .val (.int (own_hex (xs.getD (j + 2) 0))), .unset] [(.int (own_hex (xs.getD (j + 2) 0)))])) _ _ _ _
           by_cases hc11 : (own_hex (xs.getD (j + 2) 0)) < (0 : Int32)
           · refine own_go (fun _ k => XS.ifNo X9.here hx rfl (hb hby d46_46) rfl ((if0 _ _).trans (tlt hc11).2.1) (XS.iconst X9.here hx rfl (hb hby d46_49) k)) ?_
             show own_G _ _ _ (T9.setTop (mkF m 50 #[.val (.ref p0), .val (.int (Int32.ofNat n)), .val (.int (Int32.ofNat j)), .val (.int (own_hex (xs.getD (j + 1) 0))), .val (.int (own_hex (xs.getD (j + 2) 0))), .unset] [(.int (-1))])) _ _ _ _
             exact own_endI X9 hx hlk Bd.returns (hb hby d46_50) (by decide) (by decide) (Q := (Q46 Z p0 p2 n kc xs h0 n0)) (by rw [eh9]; exact ⟨(by rw [own_dcx, if_neg hpn, ejn, own_dv, if_neg (fun q => hc3 ((own_ltI n (j + 3) (by omega) (by omega)).mpr q)), if_pos hc5, if_neg hc10, if_pos hc11]), N9, rfl⟩)
           · refine own_go (fun _ k => XS.ifYes X9.here hx rfl (pc0 := 46) (pc' := 51) rfl (hb hby d46_46) rfl ((if0 _ _).trans (flt hc11).2.1) (by decide) (by decide) (XS.iloadN X9.here hx rfl (hb hby d46_51) rfl (XS.bipush X9.here hx rfl (hb hby d46_52) (XS.imul X9.here hx rfl (hb hby d46_54) rfl (XS.iload X9.here hx rfl (hb hby d46_55) rfl (XS.iadd X9.here hx rfl (hb hby d46_57) rfl (XS.istore X9.here hx rfl (hb hby d46_58) rfl (l' := #[.val (.ref p0), .val (.int (Int32.ofNat n)), .val (.int (Int32.ofNat j)), .val (.int (own_hex (xs.getD (j + 1) 0))), .val (.int (own_hex (xs.getD (j + 2) 0))), .val (.int (((own_hex (xs.getD (j + 1) 0)) * (16 : Int32)) + (own_hex (xs.getD (j + 2) 0))))]) rfl (XS.iload X9.here hx rfl (hb hby d46_60) rfl k)))))))) ?_
             obtain ⟨_, _, ⟨T12, L12, k12, n12⟩, -, X12, ⟨Lc12, hQ12, l12, y12, z12⟩, st12⟩ := Jvm.LawKit.callS X9 hx (y := Y65) hown (mvT hZ (own_h hw 331 rfl)) (mvT hZ (own_h hw 332 rfl)) (mvT hZ (own_h hw 4 rfl)) (mvT hZ (own_h hw 333 rfl)) (by decide) (backOf (W := 0) (rm72 l Z a0 hw [] (((own_hex (xs.getD (j + 1) 0)) * (16 : Int32)) + (own_hex (xs.getD (j + 2) 0))) h0 n0) hZ (own_h hw 333 rfl) (own_h hw 4 rfl) (by decide) (by decide)) (g := (mkF m 62 #[.val (.ref p0), .val (.int (Int32.ofNat n)), .val (.int (Int32.ofNat j)), .val (.int (own_hex (xs.getD (j + 1) 0))), .val (.int (own_hex (xs.getD (j + 2) 0))), .val (.int (((own_hex (xs.getD (j + 1) 0)) * (16 : Int32)) + (own_hex (xs.getD (j + 2) 0))))] [(.int (((own_hex (xs.getD (j + 1) 0)) * (16 : Int32)) + (own_hex (xs.getD (j + 2) 0))))])) rfl (by rw [hml]; rfl) (argsL := [(.int (((own_hex (xs.getD (j + 1) 0)) * (16 : Int32)) + (own_hex (xs.getD (j + 2) 0))))]) (rest := []) (lenOf pd_8 rfl) rfl (own_r0 _) (hb hby d46_62) (fun _ _ => ⟨rfl, eh9, (by decide : 0 + 0 ≤ _), (by decide : 0 + 0 ≤ _)⟩)
             dsimp only [Pt.U, Pt.locs, Pt.cells, Pt.slots] at X12 l12 y12 z12 st12 hQ12
             rw [l12] at X12
             subst y12 z12
             obtain ⟨rfl, Nq12, eh12⟩ := hQ12
             have N12 := Fr.app N9 Nq12
             refine own_go (fun _ k => st12 _ k) ?_
             show own_G _ _ _ (T12.setTop (mkF m 65 #[.val (.ref p0), .val (.int (Int32.ofNat n)), .val (.int (Int32.ofNat j)), .val (.int (own_hex (xs.getD (j + 1) 0))), .val (.int (own_hex (xs.getD (j + 2) 0))), .val (.int (((own_hex (xs.getD (j + 1) 0)) * (16 : Int32)) + (own_hex (xs.getD (j + 2) 0))))] [(.int (own_unr (((own_hex (xs.getD (j + 1) 0)) * (16 : Int32)) + (own_hex (xs.getD (j + 2) 0)))))])) _ _ _ _
             by_cases hc13 : (own_unr (((own_hex (xs.getD (j + 1) 0)) * (16 : Int32)) + (own_hex (xs.getD (j + 2) 0)))) = (0 : Int32)
             · refine own_go (fun _ k => XS.ifYes X12.here hx rfl (pc0 := 65) (pc' := 73) rfl (hb hby d46_65) rfl ((if0 _ _).trans (teq hc13).1) (by decide) (by decide) (XS.iconst X12.here hx rfl (hb hby d46_73) k)) ?_
               show own_G _ _ _ (T12.setTop (mkF m 74 #[.val (.ref p0), .val (.int (Int32.ofNat n)), .val (.int (Int32.ofNat j)), .val (.int (own_hex (xs.getD (j + 1) 0))), .val (.int (own_hex (xs.getD (j + 2) 0))), .val (.int (((own_hex (xs.getD (j + 1) 0)) * (16 : Int32)) + (own_hex (xs.getD (j + 2) 0))))] [(.int (-1))])) _ _ _ _
               exact own_endI X12 hx hlk Bd.returns (hb hby d46_74) (by decide) (by decide) (Q := (Q46 Z p0 p2 n kc xs h0 n0)) (by rw [eh12]; exact ⟨(by rw [own_dcx, if_neg hpn, ejn, own_dv, if_neg (fun q => hc3 ((own_ltI n (j + 3) (by omega) (by omega)).mpr q)), if_pos hc5, if_neg hc10, if_neg hc11, if_pos hc13]), N12, rfl⟩)
             · refine own_go (fun _ k => XS.ifNo X12.here hx rfl (hb hby d46_65) rfl ((if0 _ _).trans (feq hc13).1) (XS.iload X12.here hx rfl (hb hby d46_68) rfl (XS.goto X12.here hx rfl (pc0 := 70) (pc' := 74) rfl (hb hby d46_70) (by decide) (by decide) k))) ?_
               show own_G _ _ _ (T12.setTop (mkF m 74 #[.val (.ref p0), .val (.int (Int32.ofNat n)), .val (.int (Int32.ofNat j)), .val (.int (own_hex (xs.getD (j + 1) 0))), .val (.int (own_hex (xs.getD (j + 2) 0))), .val (.int (((own_hex (xs.getD (j + 1) 0)) * (16 : Int32)) + (own_hex (xs.getD (j + 2) 0))))] [(.int (((own_hex (xs.getD (j + 1) 0)) * (16 : Int32)) + (own_hex (xs.getD (j + 2) 0))))])) _ _ _ _
               exact own_endI X12 hx hlk Bd.returns (hb hby d46_74) (by decide) (by decide) (Q := (Q46 Z p0 p2 n kc xs h0 n0)) (by rw [eh12]; exact ⟨(by rw [own_dcx, if_neg hpn, ejn, own_dv, if_neg (fun q => hc3 ((own_ltI n (j + 3) (by omega) (by omega)).mpr q)), if_pos hc5, if_neg hc10, if_neg hc11, if_neg hc13]), N12, rfl⟩)
       · refine own_go (fun _ k => XS.icmpNo X0.here hx rfl (hb hby d46_16) rfl (feq hc5).1 (XS.iconst X0.here hx rfl (hb hby d46_19) k)) ?_
         show own_G _ _ _ (s₁.setTop (mkF m 20 #[.val (.ref p0), .val (.int (Int32.ofNat n)), .val (.int (Int32.ofNat j)), .unset, .unset, .unset] [(.int (-1))])) _ _ _ _
         exact own_endI X0 hx hlk Bd.returns (hb hby d46_20) (by decide) (by decide) (Q := (Q46 Z p0 p2 n kc xs h0 n0)) (by rw [e0]; exact ⟨(by rw [own_dcx, if_neg hpn, ejn, own_dv, if_neg (fun q => hc3 ((own_ltI n (j + 3) (by omega) (by omega)).mpr q)), if_neg hc5]), N0, rfl⟩)
theorem d45_0 : own_d B45 0 (.iload_n 2) 1 := by decide +kernel
theorem d45_1 : own_d B45 1 (.iload_n 1) 1 := by decide +kernel
theorem d45_2 : own_d B45 2 (.if_icmp .lt 6) 3 := by decide +kernel
theorem d45_5 : own_d B45 5 (.iload 4) 2 := by decide +kernel
theorem d45_7 : own_d B45 7 (.ireturn) 1 := by decide +kernel
theorem d45_8 : own_d B45 8 (.aload_n 0) 1 := by decide +kernel
theorem d45_9 : own_d B45 9 (.iload_n 1) 1 := by decide +kernel
theorem d45_10 : own_d B45 10 (.iload_n 2) 1 := by decide +kernel
theorem d45_11 : own_d B45 11 (.iconst 1) 1 := by decide +kernel
theorem d45_12 : own_d B45 12 (.isub) 1 := by decide +kernel
theorem d45_13 : own_d B45 13 (.invokestatic 26) 3 := by decide +kernel
theorem d45_16 : own_d B45 16 (.ifCond .ge 14) 3 := by decide +kernel
theorem d45_19 : own_d B45 19 (.aload_n 0) 1 := by decide +kernel
theorem d45_20 : own_d B45 20 (.iload_n 1) 1 := by decide +kernel
theorem d45_21 : own_d B45 21 (.iload_n 2) 1 := by decide +kernel
theorem d45_22 : own_d B45 22 (.iconst 2) 1 := by decide +kernel
theorem d45_23 : own_d B45 23 (.isub) 1 := by decide +kernel
theorem d45_24 : own_d B45 24 (.invokestatic 26) 3 := by decide +kernel
theorem d45_27 : own_d B45 27 (.ifCond .lt 6) 3 := by decide +kernel
theorem d45_30 : own_d B45 30 (.iload 4) 2 := by decide +kernel
theorem d45_32 : own_d B45 32 (.ireturn) 1 := by decide +kernel
theorem d45_33 : own_d B45 33 (.aload_n 0) 1 := by decide +kernel
theorem d45_34 : own_d B45 34 (.iload_n 1) 1 := by decide +kernel
theorem d45_35 : own_d B45 35 (.iload_n 2) 1 := by decide +kernel
theorem d45_36 : own_d B45 36 (.invokestatic 26) 3 := by decide +kernel
theorem d45_39 : own_d B45 39 (.istore 5) 2 := by decide +kernel
theorem d45_41 : own_d B45 41 (.aload_n 3) 1 := by decide +kernel
theorem d45_42 : own_d B45 42 (.iload 4) 2 := by decide +kernel
theorem d45_44 : own_d B45 44 (.iload 5) 2 := by decide +kernel
theorem d45_46 : own_d B45 46 (.ifCond .lt 9) 3 := by decide +kernel
theorem d45_49 : own_d B45 49 (.iload 5) 2 := by decide +kernel
theorem d45_51 : own_d B45 51 (.i2c) 1 := by decide +kernel
theorem d45_52 : own_d B45 52 (.goto 6) 3 := by decide +kernel
theorem d45_55 : own_d B45 55 (.aload_n 0) 1 := by decide +kernel
theorem d45_56 : own_d B45 56 (.iload_n 2) 1 := by decide +kernel
theorem d45_57 : own_d B45 57 (.caload) 1 := by decide +kernel
theorem d45_58 : own_d B45 58 (.castore) 1 := by decide +kernel
theorem d45_59 : own_d B45 59 (.iload 4) 2 := by decide +kernel
theorem d45_61 : own_d B45 61 (.iconst 1) 1 := by decide +kernel
theorem d45_62 : own_d B45 62 (.iadd) 1 := by decide +kernel
theorem d45_63 : own_d B45 63 (.ireturn) 1 := by decide +kernel
theorem pd_40 : parseMethodDescriptor "([CII)I" = some ⟨[(.array .char), .int, .int], some .int⟩ := by decide +kernel
theorem ef_45 (m : MethodId) (p0 : Addr) (p3 : Addr) (i : Nat) (es : List Int32) (n : Nat) : entryFrame m #[(.ref p0), (.int (Int32.ofNat n)), (.int (Int32.ofNat i)), (.ref p3), (.int (Int32.ofNat es.length))] 6 = mkF m 0 #[.val (.ref p0), .val (.int (Int32.ofNat n)), .val (.int (Int32.ofNat i)), .val (.ref p3), .val (.int (Int32.ofNat es.length)), .unset] [] := by first | (simp [entryFrame, mkF, argsToLocals, Value.category]; done) | rfl
def Q45 (Z : State) (p0 : Addr) (p3 : Addr) (i : Nat) (ke : ClassId) (es : List Int32) (n : Nat) (kc : ClassId) (xs : List Int32) (h0 : Heap) (n0 : Nat) (v : Option Value) (h : Heap) (L : List Loc) : Prop := v = some (.int (Int32.ofNat (own_em xs n i es).length)) ∧ Fr n0 L ∧ Keep h0 h [p3] ∧ Arv Z h p3 ke .char (5 : Int32) (own_ci (own_em xs n i es)) (.int 0)
theorem rm45 (l : Launch) (Z : State) (a0 : Array Value) (hw : ∀ d ∈ tables_1, d.before a0 Z = true) (ws : List Jvm.Cond) (p0 : Addr) (p3 : Addr) (i : Nat) (ke : ClassId) (es : List Int32) (n : Nat) (kc : ClassId) (xs : List Int32) (h0 : Heap) (n0 : Nat) (Z0 : n0 ≤ h0.size) (P_V_p0 : Arv Z h0 p0 kc .char (5 : Int32) (own_ci xs) (.int 0)) (P_V_p3 : Arv Z h0 p3 ke .char (5 : Int32) (own_ci es) (.int 0)) (hx5 : xs.length = 5) (hn5 : n ≤ 5) (hi4 : i ≤ 4) (hes : es.length ≤ i) (hxr : ∀ c ∈ xs, own_r c) (g_p3 : n0 ≤ p3) (npe : p0 ≠ p3) :
   own_M l Z Y71 method_6_code 6 (some .int) ws ({ frames := 2, cells := 0, slots := 0, locals := 29 } : Room) #[(.ref p0), (.int (Int32.ofNat n)), (.int (Int32.ofNat i)), (.ref p3), (.int (Int32.ofNat es.length))] h0 (Q45 Z p0 p3 i ke es n kc xs h0 n0) := by
 refine own_body (C := "com/example/amid2/amid2/PercentEncodingDecodeUnreservedPinLaw") rfl (plainFor_of_name pn_8) (fun p e s m below meth c s₁ Bd hx hby hml hown hlk hZ X0 e0 => ?_)
 have N0 := Fr.nil n0
 have K0 : Keep h0 h0 [p3] := Keep.refl h0 [p3]
 refine own_go (fun _ k => castTop (ef_45 m p0 p3 i es n) (XS.iloadN X0.here hx rfl (hb hby d45_0) rfl (XS.iloadN X0.here hx rfl (hb hby d45_1) rfl k))) ?_
 show own_G _ _ _ (s₁.setTop (mkF m 2 #[.val (.ref p0), .val (.int (Int32.ofNat n)), .val (.int (Int32.ofNat i)), .val (.ref p3), .val (.int (Int32.ofNat es.length)), .unset] [(.int (Int32.ofNat n)), (.int (Int32.ofNat i))])) _ _ _ _
 by_cases hc1 : (Int32.ofNat i) < (Int32.ofNat n)
 · refine own_go (fun _ k => XS.icmpYes X0.here hx rfl (pc0 := 2) (pc' := 8) rfl (hb hby d45_2) rfl (tlt hc1).1 (by decide) (by decide) (XS.aloadN X0.here hx rfl (hb hby d45_8) rfl rfl (XS.iloadN X0.here hx rfl (hb hby d45_9) rfl (XS.iloadN X0.here hx rfl (hb hby d45_10) rfl (XS.iconst X0.here hx rfl (hb hby d45_11) (XS.isub X0.here hx rfl (hb hby d45_12) rfl k)))))) ?_
   obtain ⟨_, _, ⟨T2, L2, k2, n2⟩, -, X2, ⟨Lc2, hQ2, l2, y2, z2⟩, st2⟩ := Jvm.LawKit.callS X0 hx (y := Y70) hown (mvT hZ (own_h hw 234 rfl)) (mvT hZ (own_h hw 235 rfl)) (mvT hZ (own_h hw 4 rfl)) (mvT hZ (own_h hw 236 rfl)) (by decide) (backOf (W := 0) (rm46 l Z a0 hw [] p0 ((Int32.ofNat i) - (1 : Int32)) n kc xs h0 n0 Z0 P_V_p0 hx5 hn5 (own_s4 i hi4).2.1) hZ (own_h hw 236 rfl) (own_h hw 4 rfl) (by decide) (by decide)) (g := (mkF m 13 #[.val (.ref p0), .val (.int (Int32.ofNat n)), .val (.int (Int32.ofNat i)), .val (.ref p3), .val (.int (Int32.ofNat es.length)), .unset] [(.int ((Int32.ofNat i) - (1 : Int32))), (.int (Int32.ofNat n)), (.ref p0)])) rfl (by rw [hml]; rfl) (argsL := [(.ref p0), (.int (Int32.ofNat n)), (.int ((Int32.ofNat i) - (1 : Int32)))]) (rest := []) (lenOf pd_40 rfl) rfl (own_r0 _) (hb hby d45_13) (fun _ _ => ⟨rfl, e0, (by decide : 0 + 0 ≤ _), (by decide : 0 + 0 ≤ _)⟩)
   dsimp only [Pt.U, Pt.locs, Pt.cells, Pt.slots] at X2 l2 y2 z2 st2 hQ2
   rw [l2] at X2
   subst y2 z2
   obtain ⟨rfl, Nq2, eh2⟩ := hQ2
   have N2 := Fr.app N0 Nq2
   refine own_go (fun _ k => st2 _ k) ?_
   show own_G _ _ _ (T2.setTop (mkF m 16 #[.val (.ref p0), .val (.int (Int32.ofNat n)), .val (.int (Int32.ofNat i)), .val (.ref p3), .val (.int (Int32.ofNat es.length)), .unset] [(.int (own_dcx xs n ((Int32.ofNat i) - (1 : Int32))))])) _ _ _ _
   by_cases hc3 : (own_dcx xs n ((Int32.ofNat i) - (1 : Int32))) < (0 : Int32)
   · refine own_go (fun _ k => XS.ifNo X2.here hx rfl (hb hby d45_16) rfl ((if0 _ _).trans (tlt hc3).2.1) (XS.aloadN X2.here hx rfl (hb hby d45_19) rfl rfl (XS.iloadN X2.here hx rfl (hb hby d45_20) rfl (XS.iloadN X2.here hx rfl (hb hby d45_21) rfl (XS.iconst X2.here hx rfl (hb hby d45_22) (XS.isub X2.here hx rfl (hb hby d45_23) rfl k)))))) ?_
     obtain ⟨_, _, ⟨T4, L4, k4, n4⟩, -, X4, ⟨Lc4, hQ4, l4, y4, z4⟩, st4⟩ := Jvm.LawKit.callS X2 hx (y := Y70) hown (mvT hZ (own_h hw 234 rfl)) (mvT hZ (own_h hw 235 rfl)) (mvT hZ (own_h hw 4 rfl)) (mvT hZ (own_h hw 236 rfl)) (by decide) (backOf (W := 0) (rm46 l Z a0 hw [] p0 ((Int32.ofNat i) - (2 : Int32)) n kc xs h0 n0 Z0 P_V_p0 hx5 hn5 (own_s4 i hi4).2.2) hZ (own_h hw 236 rfl) (own_h hw 4 rfl) (by decide) (by decide)) (g := (mkF m 24 #[.val (.ref p0), .val (.int (Int32.ofNat n)), .val (.int (Int32.ofNat i)), .val (.ref p3), .val (.int (Int32.ofNat es.length)), .unset] [(.int ((Int32.ofNat i) - (2 : Int32))), (.int (Int32.ofNat n)), (.ref p0)])) rfl (by rw [hml]; rfl) (argsL := [(.ref p0), (.int (Int32.ofNat n)), (.int ((Int32.ofNat i) - (2 : Int32)))]) (rest := []) (lenOf pd_40 rfl) rfl (own_r0 _) (hb hby d45_24) (fun _ _ => ⟨rfl, eh2, (by decide : 0 + 0 ≤ _), (by decide : 0 + 0 ≤ _)⟩)
     dsimp only [Pt.U, Pt.locs, Pt.cells, Pt.slots] at X4 l4 y4 z4 st4 hQ4
     rw [l4] at X4
     subst y4 z4
     obtain ⟨rfl, Nq4, eh4⟩ := hQ4
     have N4 := Fr.app N2 Nq4
     refine own_go (fun _ k => st4 _ k) ?_
     show own_G _ _ _ (T4.setTop (mkF m 27 #[.val (.ref p0), .val (.int (Int32.ofNat n)), .val (.int (Int32.ofNat i)), .val (.ref p3), .val (.int (Int32.ofNat es.length)), .unset] [(.int (own_dcx xs n ((Int32.ofNat i) - (2 : Int32))))])) _ _ _ _
     by_cases hc5 : (own_dcx xs n ((Int32.ofNat i) - (2 : Int32))) < (0 : Int32)
     · refine own_go (fun _ k => XS.ifYes X4.here hx rfl (pc0 := 27) (pc' := 33) rfl (hb hby d45_27) rfl ((if0 _ _).trans (tlt hc5).1) (by decide) (by decide) (XS.aloadN X4.here hx rfl (hb hby d45_33) rfl rfl (XS.iloadN X4.here hx rfl (hb hby d45_34) rfl (XS.iloadN X4.here hx rfl (hb hby d45_35) rfl k)))) ?_
       obtain ⟨_, _, ⟨T6, L6, k6, n6⟩, -, X6, ⟨Lc6, hQ6, l6, y6, z6⟩, st6⟩ := Jvm.LawKit.callS X4 hx (y := Y70) hown (mvT hZ (own_h hw 234 rfl)) (mvT hZ (own_h hw 235 rfl)) (mvT hZ (own_h hw 4 rfl)) (mvT hZ (own_h hw 236 rfl)) (by decide) (backOf (W := 0) (rm46 l Z a0 hw [] p0 (Int32.ofNat i) n kc xs h0 n0 Z0 P_V_p0 hx5 hn5 (own_s4 i hi4).1) hZ (own_h hw 236 rfl) (own_h hw 4 rfl) (by decide) (by decide)) (g := (mkF m 36 #[.val (.ref p0), .val (.int (Int32.ofNat n)), .val (.int (Int32.ofNat i)), .val (.ref p3), .val (.int (Int32.ofNat es.length)), .unset] [(.int (Int32.ofNat i)), (.int (Int32.ofNat n)), (.ref p0)])) rfl (by rw [hml]; rfl) (argsL := [(.ref p0), (.int (Int32.ofNat n)), (.int (Int32.ofNat i))]) (rest := []) (lenOf pd_40 rfl) rfl (own_r0 _) (hb hby d45_36) (fun _ _ => ⟨rfl, eh4, (by decide : 0 + 0 ≤ _), (by decide : 0 + 0 ≤ _)⟩)
       dsimp only [Pt.U, Pt.locs, Pt.cells, Pt.slots] at X6 l6 y6 z6 st6 hQ6
       rw [l6] at X6
       subst y6 z6
       obtain ⟨rfl, Nq6, eh6⟩ := hQ6
       have N6 := Fr.app N4 Nq6
       refine own_go (fun _ k => st6 _ (XS.istore X6.here hx rfl (hb hby d45_39) rfl (l' := #[.val (.ref p0), .val (.int (Int32.ofNat n)), .val (.int (Int32.ofNat i)), .val (.ref p3), .val (.int (Int32.ofNat es.length)), .val (.int (own_dcx xs n (Int32.ofNat i)))]) rfl (XS.aloadN X6.here hx rfl (hb hby d45_41) rfl rfl (XS.iload X6.here hx rfl (hb hby d45_42) rfl (XS.iload X6.here hx rfl (hb hby d45_44) rfl k))))) ?_
       show own_G _ _ _ (T6.setTop (mkF m 46 #[.val (.ref p0), .val (.int (Int32.ofNat n)), .val (.int (Int32.ofNat i)), .val (.ref p3), .val (.int (Int32.ofNat es.length)), .val (.int (own_dcx xs n (Int32.ofNat i)))] [(.int (own_dcx xs n (Int32.ofNat i))), (.int (Int32.ofNat es.length)), (.ref p3)])) _ _ _ _
       by_cases hc7 : (own_dcx xs n (Int32.ofNat i)) < (0 : Int32)
       · refine own_go (fun _ k => XS.ifYes X6.here hx rfl (pc0 := 46) (pc' := 55) rfl (hb hby d45_46) rfl ((if0 _ _).trans (tlt hc7).1) (by decide) (by decide) (XS.aloadN X6.here hx rfl (hb hby d45_55) rfl rfl (XS.iloadN X6.here hx rfl (hb hby d45_56) rfl k))) ?_
         obtain ⟨cl8, Ar8, q8, S8, Ng8, H8, G8⟩ := id P_V_p0
         have in8 : ¬ ((Int32.ofNat i) < 0 ∨ cl8.slots.size ≤ ((Int32.ofNat i)).toNatClampNeg) := inb_of S8 (own_inb (n := 5) (by omega) (by omega))
         have at8 : cl8.slots[((Int32.ofNat i)).toNatClampNeg]? = some (.int (xs.getD i 0)) := H8.at in8 (by rw [own_cl (i) (by omega)]; exact own_ci_at xs i (by omega))
         refine own_go (fun _ k => X6.caload hx (j := (Int32.ofNat i)) (v := (.int (xs.getD i 0))) (by rw [eh6]; exact Ar8.1) (State.isArrayOf_alike hZ.alike Ar8.2.1) Ar8.2.2 in8 at8 (g := (mkF m 57 #[.val (.ref p0), .val (.int (Int32.ofNat n)), .val (.int (Int32.ofNat i)), .val (.ref p3), .val (.int (Int32.ofNat es.length)), .val (.int (own_dcx xs n (Int32.ofNat i)))] [(.int (Int32.ofNat i)), (.ref p0), (.int (Int32.ofNat es.length)), (.ref p3)])) rfl rfl (hb hby d45_57) _ k) ?_
         show own_G _ _ _ (T6.setTop (mkF m 58 #[.val (.ref p0), .val (.int (Int32.ofNat n)), .val (.int (Int32.ofNat i)), .val (.ref p3), .val (.int (Int32.ofNat es.length)), .val (.int (own_dcx xs n (Int32.ofNat i)))] [(.int (xs.getD i 0)), (.int (Int32.ofNat es.length)), (.ref p3)])) _ _ _ _
         have f10 : Arv Z h0 p3 ke .char (5 : Int32) (own_ci es ++ [Value.int 0]) (.int 0) := (P_V_p3).pad (fun i_ => own_ci_pad es i_)
         obtain ⟨cl9, Ar9, q9, S9, Ng9, H9, G9⟩ := id f10
         have in9 : ¬ ((Int32.ofNat es.length) < 0 ∨ cl9.slots.size ≤ ((Int32.ofNat es.length)).toNatClampNeg) := inb_of S9 (own_inb (n := 5) (by omega) (by omega))
         obtain ⟨T9, h9, X9, e9, W9, st9⟩ := stC X6 hx hZ eh6 Ar9 (j := (Int32.ofNat es.length)) in9 (g := (mkF m 58 #[.val (.ref p0), .val (.int (Int32.ofNat n)), .val (.int (Int32.ofNat i)), .val (.ref p3), .val (.int (Int32.ofNat es.length)), .val (.int (own_dcx xs n (Int32.ofNat i)))] [(.int (xs.getD i 0)), (.int (Int32.ofNat es.length)), (.ref p3)])) rfl rfl (hb hby d45_58)
         have N9 := Fr.snoc X9 N6 g_p3
         have Zs9 := Nat.le_trans Z0 (Keep.of_wr W9).1
         have K9_0 := K0.wr W9 (Or.inl (List.mem_of_getElem? (i := 0) rfl))
         have f11 := P_V_p0.other W9 npe
         have f12 : Arv Z h9 p3 ke .char (5 : Int32) (own_ci (es ++ [(xs.getD i 0)])) (.int 0) := (by have q := Arv.set Ar9 q9 S9 Ng9 H9 G9 (fits_nar_char _) W9 (es.length) (own_cl (es.length) (by omega)) (by rw [List.length_append, own_ci_len]; show _ < _ + 1; omega); rw [own_rnar _ (hxr _ (own_gm xs i (by omega))), own_ci_s _ _ rfl, ← own_ci_app] at q; exact q)
         refine own_go (fun _ k => st9 _ (XS.iload X9.here hx rfl (hb hby d45_59) rfl (XS.iconst X9.here hx rfl (hb hby d45_61) k))) ?_
         show own_G _ _ _ (T9.setTop (mkF m 62 #[.val (.ref p0), .val (.int (Int32.ofNat n)), .val (.int (Int32.ofNat i)), .val (.ref p3), .val (.int (Int32.ofNat es.length)), .val (.int (own_dcx xs n (Int32.ofNat i)))] [(.int 1), (.int (Int32.ofNat es.length))])) _ _ _ _
         refine own_go (fun _ k => XS.iadd X9.here hx rfl (hb hby d45_62) rfl k) ?_
         rw [own_inc es.length]
         show own_G _ _ _ (T9.setTop (mkF m 63 #[.val (.ref p0), .val (.int (Int32.ofNat n)), .val (.int (Int32.ofNat i)), .val (.ref p3), .val (.int (Int32.ofNat es.length)), .val (.int (own_dcx xs n (Int32.ofNat i)))] [(.int (Int32.ofNat (es.length + 1)))])) _ _ _ _
         exact own_endI X9 hx hlk Bd.returns (hb hby d45_63) (by decide) (by decide) (Q := (Q45 Z p0 p3 i ke es n kc xs h0 n0)) (by rw [e9]; exact ⟨(by rw [own_em, if_neg (fun q => absurd ((own_ltI i n (by omega) (by omega)).mp hc1) (by omega)), if_pos hc3, if_pos hc5, if_pos hc7, own_al]), N9, K9_0, (by rw [own_em, if_neg (fun q => absurd ((own_ltI i n (by omega) (by omega)).mp hc1) (by omega)), if_pos hc3, if_pos hc5, if_pos hc7]; exact f12)⟩)
       · refine own_go (fun _ k => XS.ifNo X6.here hx rfl (hb hby d45_46) rfl ((if0 _ _).trans (flt hc7).1) (XS.iload X6.here hx rfl (hb hby d45_49) rfl k)) ?_
         show own_G _ _ _ (T6.setTop (mkF m 51 #[.val (.ref p0), .val (.int (Int32.ofNat n)), .val (.int (Int32.ofNat i)), .val (.ref p3), .val (.int (Int32.ofNat es.length)), .val (.int (own_dcx xs n (Int32.ofNat i)))] [(.int (own_dcx xs n (Int32.ofNat i))), (.int (Int32.ofNat es.length)), (.ref p3)])) _ _ _ _
         refine own_go (fun _ k => XS.i2c X6.here hx rfl (hb hby d45_51) rfl k) ?_
         rw [own_i2c _ (own_dcr hc7)]
         show own_G _ _ _ (T6.setTop (mkF m 52 #[.val (.ref p0), .val (.int (Int32.ofNat n)), .val (.int (Int32.ofNat i)), .val (.ref p3), .val (.int (Int32.ofNat es.length)), .val (.int (own_dcx xs n (Int32.ofNat i)))] [(.int (own_dcx xs n (Int32.ofNat i))), (.int (Int32.ofNat es.length)), (.ref p3)])) _ _ _ _
         refine own_go (fun _ k => XS.goto X6.here hx rfl (pc0 := 52) (pc' := 58) rfl (hb hby d45_52) (by decide) (by decide) k) ?_
         show own_G _ _ _ (T6.setTop (mkF m 58 #[.val (.ref p0), .val (.int (Int32.ofNat n)), .val (.int (Int32.ofNat i)), .val (.ref p3), .val (.int (Int32.ofNat es.length)), .val (.int (own_dcx xs n (Int32.ofNat i)))] [(.int (own_dcx xs n (Int32.ofNat i))), (.int (Int32.ofNat es.length)), (.ref p3)])) _ _ _ _
         have f14 : Arv Z h0 p3 ke .char (5 : Int32) (own_ci es ++ [Value.int 0]) (.int 0) := (P_V_p3).pad (fun i_ => own_ci_pad es i_)
         obtain ⟨cl13, Ar13, q13, S13, Ng13, H13, G13⟩ := id f14
         have in13 : ¬ ((Int32.ofNat es.length) < 0 ∨ cl13.slots.size ≤ ((Int32.ofNat es.length)).toNatClampNeg) := inb_of S13 (own_inb (n := 5) (by omega) (by omega))
         obtain ⟨T13, h13, X13, e13, W13, st13⟩ := stC X6 hx hZ eh6 Ar13 (j := (Int32.ofNat es.length)) in13 (g := (mkF m 58 #[.val (.ref p0), .val (.int (Int32.ofNat n)), .val (.int (Int32.ofNat i)), .val (.ref p3), .val (.int (Int32.ofNat es.length)), .val (.int (own_dcx xs n (Int32.ofNat i)))] [(.int (own_dcx xs n (Int32.ofNat i))), (.int (Int32.ofNat es.length)), (.ref p3)])) rfl rfl (hb hby d45_58)
         have N13 := Fr.snoc X13 N6 g_p3
         have Zs13 := Nat.le_trans Z0 (Keep.of_wr W13).1
         have K13_0 := K0.wr W13 (Or.inl (List.mem_of_getElem? (i := 0) rfl))
         have f15 := P_V_p0.other W13 npe
         have f16 : Arv Z h13 p3 ke .char (5 : Int32) (own_ci (es ++ [(own_dcx xs n (Int32.ofNat i))])) (.int 0) := (by have q := Arv.set Ar13 q13 S13 Ng13 H13 G13 (fits_nar_char _) W13 (es.length) (own_cl (es.length) (by omega)) (by rw [List.length_append, own_ci_len]; show _ < _ + 1; omega); rw [own_rnar _ (own_dcr hc7), own_ci_s _ _ rfl, ← own_ci_app] at q; exact q)
         refine own_go (fun _ k => st13 _ (XS.iload X13.here hx rfl (hb hby d45_59) rfl (XS.iconst X13.here hx rfl (hb hby d45_61) k))) ?_
         show own_G _ _ _ (T13.setTop (mkF m 62 #[.val (.ref p0), .val (.int (Int32.ofNat n)), .val (.int (Int32.ofNat i)), .val (.ref p3), .val (.int (Int32.ofNat es.length)), .val (.int (own_dcx xs n (Int32.ofNat i)))] [(.int 1), (.int (Int32.ofNat es.length))])) _ _ _ _
         refine own_go (fun _ k => XS.iadd X13.here hx rfl (hb hby d45_62) rfl k) ?_
         rw [own_inc es.length]
         show own_G _ _ _ (T13.setTop (mkF m 63 #[.val (.ref p0), .val (.int (Int32.ofNat n)), .val (.int (Int32.ofNat i)), .val (.ref p3), .val (.int (Int32.ofNat es.length)), .val (.int (own_dcx xs n (Int32.ofNat i)))] [(.int (Int32.ofNat (es.length + 1)))])) _ _ _ _
         exact own_endI X13 hx hlk Bd.returns (hb hby d45_63) (by decide) (by decide) (Q := (Q45 Z p0 p3 i ke es n kc xs h0 n0)) (by rw [e13]; exact ⟨(by rw [own_em, if_neg (fun q => absurd ((own_ltI i n (by omega) (by omega)).mp hc1) (by omega)), if_pos hc3, if_pos hc5, if_neg hc7, own_al]), N13, K13_0, (by rw [own_em, if_neg (fun q => absurd ((own_ltI i n (by omega) (by omega)).mp hc1) (by omega)), if_pos hc3, if_pos hc5, if_neg hc7]; exact f16)⟩)
     · refine own_go (fun _ k => XS.ifNo X4.here hx rfl (hb hby d45_27) rfl ((if0 _ _).trans (flt hc5).1) (XS.iload X4.here hx rfl (hb hby d45_30) rfl k)) ?_
       show own_G _ _ _ (T4.setTop (mkF m 32 #[.val (.ref p0), .val (.int (Int32.ofNat n)), .val (.int (Int32.ofNat i)), .val (.ref p3), .val (.int (Int32.ofNat es.length)), .unset] [(.int (Int32.ofNat es.length))])) _ _ _ _
       exact own_endI X4 hx hlk Bd.returns (hb hby d45_32) (by decide) (by decide) (Q := (Q45 Z p0 p3 i ke es n kc xs h0 n0)) (by rw [eh4]; exact ⟨(by rw [own_em, if_neg (fun q => absurd ((own_ltI i n (by omega) (by omega)).mp hc1) (by omega)), if_pos hc3, if_neg hc5]), N4, K0, (by rw [own_em, if_neg (fun q => absurd ((own_ltI i n (by omega) (by omega)).mp hc1) (by omega)), if_pos hc3, if_neg hc5]; exact P_V_p3)⟩)
   · refine own_go (fun _ k => XS.ifYes X2.here hx rfl (pc0 := 16) (pc' := 30) rfl (hb hby d45_16) rfl ((if0 _ _).trans (flt hc3).2.1) (by decide) (by decide) (XS.iload X2.here hx rfl (hb hby d45_30) rfl k)) ?_
     show own_G _ _ _ (T2.setTop (mkF m 32 #[.val (.ref p0), .val (.int (Int32.ofNat n)), .val (.int (Int32.ofNat i)), .val (.ref p3), .val (.int (Int32.ofNat es.length)), .unset] [(.int (Int32.ofNat es.length))])) _ _ _ _
     exact own_endI X2 hx hlk Bd.returns (hb hby d45_32) (by decide) (by decide) (Q := (Q45 Z p0 p3 i ke es n kc xs h0 n0)) (by rw [eh2]; exact ⟨(by rw [own_em, if_neg (fun q => absurd ((own_ltI i n (by omega) (by omega)).mp hc1) (by omega)), if_neg hc3]), N2, K0, (by rw [own_em, if_neg (fun q => absurd ((own_ltI i n (by omega) (by omega)).mp hc1) (by omega)), if_neg hc3]; exact P_V_p3)⟩)
 · refine own_go (fun _ k => XS.icmpNo X0.here hx rfl (hb hby d45_2) rfl (flt hc1).1 (XS.iload X0.here hx rfl (hb hby d45_5) rfl k)) ?_
   show own_G _ _ _ (s₁.setTop (mkF m 7 #[.val (.ref p0), .val (.int (Int32.ofNat n)), .val (.int (Int32.ofNat i)), .val (.ref p3), .val (.int (Int32.ofNat es.length)), .unset] [(.int (Int32.ofNat es.length))])) _ _ _ _
   exact own_endI X0 hx hlk Bd.returns (hb hby d45_7) (by decide) (by decide) (Q := (Q45 Z p0 p3 i ke es n kc xs h0 n0)) (by rw [e0]; exact ⟨(by rw [own_em, if_pos (own_geN hc1 (by omega) (by omega))]), N0, K0, (by rw [own_em, if_pos (own_geN hc1 (by omega) (by omega))]; exact P_V_p3)⟩)
theorem d48_0 : own_d B48 0 (.iload_n 3) 1 := by decide +kernel
theorem d48_1 : own_d B48 1 (.iload_n 2) 1 := by decide +kernel
theorem d48_2 : own_d B48 2 (.if_icmp .ge 14) 3 := by decide +kernel
theorem d48_5 : own_d B48 5 (.aload_n 0) 1 := by decide +kernel
theorem d48_6 : own_d B48 6 (.iload_n 3) 1 := by decide +kernel
theorem d48_7 : own_d B48 7 (.invokevirtual 9) 3 := by decide +kernel
theorem d48_10 : own_d B48 10 (.aload_n 1) 1 := by decide +kernel
theorem d48_11 : own_d B48 11 (.iload_n 3) 1 := by decide +kernel
theorem d48_12 : own_d B48 12 (.caload) 1 := by decide +kernel
theorem d48_13 : own_d B48 13 (.if_icmp .ne 7) 3 := by decide +kernel
theorem d48_16 : own_d B48 16 (.iconst 1) 1 := by decide +kernel
theorem d48_17 : own_d B48 17 (.goto 4) 3 := by decide +kernel
theorem d48_21 : own_d B48 21 (.ireturn) 1 := by decide +kernel
theorem ef_48 (m : MethodId) (p0 : Addr) (p1 : Addr) (j : Nat) (es : List Int32) : entryFrame m #[(.ref p0), (.ref p1), (.int (Int32.ofNat es.length)), (.int (Int32.ofNat j))] 4 = mkF m 0 #[.val (.ref p0), .val (.ref p1), .val (.int (Int32.ofNat es.length)), .val (.int (Int32.ofNat j))] [] := by first | (simp [entryFrame, mkF, argsToLocals, Value.category]; done) | rfl
def Q48 (Z : State) (p0 : Addr) (p1 : Addr) (j : Nat) (ke : ClassId) (es : List Int32) (zc : Int32) (fm : Value) (co : Int32) (t : Addr) (kb : ClassId) (cs : List Int32) (h0 : Heap) (n0 : Nat) (v : Option Value) (h : Heap) (L : List Loc) : Prop := v = some (.int 1) ∧ Fr n0 L ∧ h = h0
theorem rm48 (l : Launch) (Z : State) (a0 : Array Value) (hw : ∀ d ∈ tables_1, d.before a0 Z = true) (ws : List Jvm.Cond) (p0 : Addr) (p1 : Addr) (j : Nat) (ke : ClassId) (es : List Int32) (zc : Int32) (fm : Value) (co : Int32) (t : Addr) (kb : ClassId) (cs : List Int32) (h0 : Heap) (n0 : Nat) (Z0 : n0 ≤ h0.size) (P_Old : Old Z n0 h0) (HA : own_Z Z zc fm) (P_E_p0 : Exa Z h0 p0 "java/lang/String") (P_F_p0_coder : Fld Z h0 p0 "java/lang/String" "coder" "B" (.int co)) (P_F_p0_value : Fld Z h0 p0 "java/lang/String" "value" "[B" (.ref t)) (P_V_t : Arv Z h0 t kb .byte (own_cap co cs.length) (own_sv co cs) (.int 0)) (hs : own_OK co cs) (P_V_p1 : Arv Z h0 p1 ke .char (5 : Int32) (own_ci es) (.int 0)) (hre : cs = es) (he5 : es.length ≤ 5) (hj4 : j ≤ 4) :
   own_M l Z Y72 method_8_code 4 (some .boolean) ws ({ frames := 5, cells := 0, slots := 0, locals := 66 } : Room) #[(.ref p0), (.ref p1), (.int (Int32.ofNat es.length)), (.int (Int32.ofNat j))] h0 (Q48 Z p0 p1 j ke es zc fm co t kb cs h0 n0) := by
 refine own_body (C := "com/example/amid2/amid2/PercentEncodingDecodeUnreservedPinLaw") rfl (plainFor_of_name pn_8) (fun p e s m below meth c s₁ Bd hx hby hml hown hlk hZ X0 e0 => ?_)
 have N0 := Fr.nil n0
 obtain ⟨Zcs, hcs, Zsi, hfm, Zad, Zhi, Zlo⟩ := id HA
 refine own_go (fun _ k => castTop (ef_48 m p0 p1 j es) (XS.iloadN X0.here hx rfl (hb hby d48_0) rfl (XS.iloadN X0.here hx rfl (hb hby d48_1) rfl k))) ?_
 show own_G _ _ _ (s₁.setTop (mkF m 2 #[.val (.ref p0), .val (.ref p1), .val (.int (Int32.ofNat es.length)), .val (.int (Int32.ofNat j))] [(.int (Int32.ofNat es.length)), (.int (Int32.ofNat j))])) _ _ _ _
 by_cases hc1 : (Int32.ofNat j) < (Int32.ofNat es.length)
 · refine own_go (fun _ k => XS.icmpNo X0.here hx rfl (hb hby d48_2) rfl (tlt hc1).2.1 k) ?_
   show own_G _ _ _ (s₁.setTop (mkF m 5 #[.val (.ref p0), .val (.ref p1), .val (.int (Int32.ofNat es.length)), .val (.int (Int32.ofNat j))] [])) _ _ _ _
   have hjl : j < es.length := (own_ltI j es.length (by omega) (by omega)).mp hc1
   · skip
     refine own_go (fun _ k => XS.aloadN X0.here hx rfl (hb hby d48_5) rfl rfl (XS.iloadN X0.here hx rfl (hb hby d48_6) rfl k)) ?_
     obtain ⟨cq2, kq2, q2a, q2b, q2c⟩ := isOf hZ e0 P_E_p0
     obtain ⟨_, _, ⟨T2, L2, k2, n2⟩, -, X2, ⟨Lc2, hQ2, l2, y2, z2⟩, st2⟩ := X0.virtualBack hx (y := Y16) (z := Y16) hown (mvT hZ (own_h hw 15 rfl)) (mvT hZ (own_h hw 16 rfl)) (notFace_of_selects (args := #[]) (mvT hZ (own_h hw 18 rfl))) (mvT hZ (own_h hw 18 rfl)) (mvT hZ (own_h hw 17 rfl)) (by decide) (backOf (W := 0) (rm2 l Z a0 hw [] p0 j zc fm co t kb cs h0 n0 Z0 P_Old HA P_E_p0 P_F_p0_coder P_F_p0_value P_V_t hs (by rw [hre]; exact hjl)) hZ (own_h hw 19 rfl) (own_h hw 8 rfl) (by decide) (by decide)) q2a q2c (g := (mkF m 7 #[.val (.ref p0), .val (.ref p1), .val (.int (Int32.ofNat es.length)), .val (.int (Int32.ofNat j))] [(.int (Int32.ofNat j)), (.ref p0)])) rfl (by rw [hml]; rfl) (Steps.refl _) (argsL := [(.int (Int32.ofNat j))]) (rest := []) (lenOf pd_28 rfl) rfl (own_r0 _) (hb hby d48_7) (fun _ _ => ⟨rfl, e0, (by decide : 0 + 0 ≤ _), (by decide : 0 + 0 ≤ _)⟩)
     dsimp only [Pt.U, Pt.locs, Pt.cells, Pt.slots] at X2 l2 y2 z2 st2 hQ2
     rw [l2] at X2
     subst y2 z2
     obtain ⟨rfl, Nq2, eh2⟩ := hQ2
     have N2 := Fr.app N0 Nq2
     refine own_go (fun _ k => st2.trans (XS.aloadN X2.here hx rfl (hb hby d48_10) rfl rfl (XS.iloadN X2.here hx rfl (hb hby d48_11) rfl k))) ?_
     obtain ⟨cl3, Ar3, q3, S3, Ng3, H3, G3⟩ := id P_V_p1
     have in3 : ¬ ((Int32.ofNat j) < 0 ∨ cl3.slots.size ≤ ((Int32.ofNat j)).toNatClampNeg) := inb_of S3 (own_inb (n := 5) (by omega) (by omega))
     have at3 : cl3.slots[((Int32.ofNat j)).toNatClampNeg]? = some (.int (es.getD j 0)) := H3.at in3 (by rw [own_cl (j) (by omega)]; exact own_ci_at es j hjl)
     refine own_go (fun _ k => X2.caload hx (j := (Int32.ofNat j)) (v := (.int (es.getD j 0))) (by rw [eh2]; exact Ar3.1) (State.isArrayOf_alike hZ.alike Ar3.2.1) Ar3.2.2 in3 at3 (g := (mkF m 12 #[.val (.ref p0), .val (.ref p1), .val (.int (Int32.ofNat es.length)), .val (.int (Int32.ofNat j))] [(.int (Int32.ofNat j)), (.ref p1), (.int (cs.getD j 0))])) rfl rfl (hb hby d48_12) _ k) ?_
     show own_G _ _ _ (T2.setTop (mkF m 13 #[.val (.ref p0), .val (.ref p1), .val (.int (Int32.ofNat es.length)), .val (.int (Int32.ofNat j))] [(.int (es.getD j 0)), (.int (cs.getD j 0))])) _ _ _ _
     have hc4 : (cs.getD j 0) = (es.getD j 0) := (by rw [hre])
     refine own_go (fun _ k => XS.icmpNo X2.here hx rfl (hb hby d48_13) rfl (teq hc4).2 (XS.iconst X2.here hx rfl (hb hby d48_16) (XS.goto X2.here hx rfl (pc0 := 17) (pc' := 21) rfl (hb hby d48_17) (by decide) (by decide) k))) ?_
     show own_G _ _ _ (T2.setTop (mkF m 21 #[.val (.ref p0), .val (.ref p1), .val (.int (Int32.ofNat es.length)), .val (.int (Int32.ofNat j))] [(.int 1)])) _ _ _ _
     exact own_endN X2 hx hlk (t := .boolean) Bd.returns (by simp) (hb hby d48_21) (by decide) (by decide) (Q := (Q48 Z p0 p1 j ke es zc fm co t kb cs h0 n0)) (by rw [eh2]; exact ⟨rfl, N2, rfl⟩)
 · refine own_go (fun _ k => XS.icmpYes X0.here hx rfl (pc0 := 2) (pc' := 16) rfl (hb hby d48_2) rfl (flt hc1).2.1 (by decide) (by decide) (XS.iconst X0.here hx rfl (hb hby d48_16) (XS.goto X0.here hx rfl (pc0 := 17) (pc' := 21) rfl (hb hby d48_17) (by decide) (by decide) k))) ?_
   show own_G _ _ _ (s₁.setTop (mkF m 21 #[.val (.ref p0), .val (.ref p1), .val (.int (Int32.ofNat es.length)), .val (.int (Int32.ofNat j))] [(.int 1)])) _ _ _ _
   exact own_endN X0 hx hlk (t := .boolean) Bd.returns (by simp) (hb hby d48_21) (by decide) (by decide) (Q := (Q48 Z p0 p1 j ke es zc fm co t kb cs h0 n0)) (by rw [e0]; exact ⟨rfl, N0, rfl⟩)
theorem own_gtk (xs : List Int32) (n k : Nat) (h : k < n) : (xs.take n).getD k 0 = xs.getD k 0 := by
 simp only [List.getD_eq_getElem?_getD, List.getElem?_take_of_lt h]
theorem own_iu : ∀ k : Fin 256, own_isu (Int32.ofNat k.val) = own_unr (Int32.ofNat k.val) := by decide +kernel
theorem own_iuv (v : Int32) (h : 0 ≤ v.toInt ∧ v.toInt ≤ 255) : own_isu v = own_unr v := by
 have e : v = Int32.ofNat v.toInt.toNat := by
   apply Int32.toInt_inj.mp
   rw [own_ix _ (by omega)]
   omega
 rw [e]
 exact own_iu ⟨v.toInt.toNat, by omega⟩
theorem own_lnk (xs : List Int32) (n j : Nat) (hx : xs.length = 5) (hn : n ≤ 5) : own_dv xs n j = if own_tp (xs.take n) j = true then own_oct (xs.take n) (j + 1) else -1 := by
 have len : (xs.take n).length = n := by rw [List.length_take]; omega
 by_cases h3 : n < j + 3
 · rw [own_dv, if_pos h3, if_neg]
   rw [own_trf2 (by rw [own_oct, if_pos (by rw [len]; omega)]; decide)]
   decide
 · have g0 := own_gtk xs n j (by omega)
   have g1 := own_gtk xs n (j + 1) (by omega)
   have g2 := own_gtk xs n (j + 1 + 1) (by omega)
   have eo : own_oct (xs.take n) (j + 1) = if own_hex (xs.getD (j + 1) 0) < 0 then -1 else if own_hex (xs.getD (j + 2) 0) < 0 then -1 else own_hex (xs.getD (j + 1) 0) * 16 + own_hex (xs.getD (j + 2) 0) := by
     rw [own_oct, if_neg (by rw [len]; omega), g1, g2, own_hh, own_hh]
   rw [own_dv, if_neg h3]
   by_cases h37 : xs.getD j 0 = 37
   · rw [if_pos h37]
     by_cases ha : own_hex (xs.getD (j + 1) 0) < 0
     · rw [if_pos ha] at eo ⊢
       rw [own_trf2 (by rw [eo]; decide)]
       rfl
     · rw [if_neg ha] at eo ⊢
       by_cases hb : own_hex (xs.getD (j + 2) 0) < 0
       · rw [if_pos hb] at eo ⊢
         rw [own_trf2 (by rw [eo]; decide)]
         rfl
       · rw [if_neg hb] at eo ⊢
         have hv := own_hv16 (own_hex (xs.getD (j + 1) 0)) (own_hex (xs.getD (j + 2) 0)) ⟨own_nneg ha, by rw [← own_hh]; exact (own_hexb _).2⟩ ⟨own_nneg hb, by rw [← own_hh]; exact (own_hexb _).2⟩
         by_cases hu : own_unr (own_hex (xs.getD (j + 1) 0) * 16 + own_hex (xs.getD (j + 2) 0)) = 0
         · rw [if_pos hu, own_trf3 (by rw [eo, own_iuv _ hv]; exact hu)]
           rfl
         · rw [if_neg hu, own_trt (by rw [g0]; exact h37) (by rw [eo, Int32.lt_iff_toInt_lt]; exact Int.not_lt.mpr hv.1) (by rw [eo, own_iuv _ hv]; exact hu), if_pos rfl, eo]
   · rw [if_neg h37, own_trf1 (by rw [g0]; exact h37)]
     rfl
theorem own_trc {cs : List Int32} {j : Nat} (h : own_tp cs j = true) : cs.getD j 0 = 37 ∧ ¬ own_oct cs (j + 1) < 0 := by
 unfold own_tp at h
 simp only [Bool.and_eq_true, decide_eq_true_eq] at h
 exact ⟨h.1, h.2.1⟩
theorem own_trh {cs : List Int32} {j : Nat} (h : own_tp cs j = true) : j + 3 ≤ cs.length ∧ ¬ own_hexd (cs.getD (j + 1) 0) < 0 ∧ ¬ own_hexd (cs.getD (j + 2) 0) < 0 := by
 have q := (own_trc h).2
 unfold own_oct at q
 split at q
 · exact absurd (by decide) q
 · split at q
   · exact absurd (by decide) q
   · split at q
     · exact absurd (by decide) q
     · rename_i h1 h2 h3
       exact ⟨by omega, h2, h3⟩
theorem own_h37 {x : Int32} (h : ¬ own_hexd x < 0) : ¬ x = 37 := fun e => h (by rw [e]; decide)
theorem own_ex1 {cs : List Int32} {j : Nat} (h : own_tp cs j = true) : own_tp cs (j + 1) = false := own_trf1 (own_h37 (own_trh h).2.1)
theorem own_ex2 {cs : List Int32} {j : Nat} (h : own_tp cs j = true) : own_tp cs (j + 2) = false := own_trf1 (own_h37 (own_trh h).2.2)
def own_EM (xs : List Int32) (n : Nat) : Nat → List Int32
 | 0 => []
 | i + 1 => own_em xs n i (own_EM xs n i)
theorem own_EMx (xs : List Int32) (n i : Nat) (h : n ≤ i) : ∀ k, own_EM xs n (i + k) = own_EM xs n i := by
 intro k
 induction k with
 | zero => rfl
 | succ k ih =>
   show own_em xs n (i + k) (own_EM xs n (i + k)) = _
   rw [own_em, if_pos (by omega)]; exact ih
def own_cn (cs : List Int32) (i d : Nat) : Prop := d ≤ i → own_tp cs (i - d) = false
theorem own_dcn (xs : List Int32) (n i : Nat) (hx : xs.length = 5) (hn : n ≤ 5) (hi : i ≤ 4) (d : Nat) (x : Int32) (e : d ≤ i → x = Int32.ofNat (i - d)) (e' : ¬ d ≤ i → x < 0) : (own_cn (xs.take n) i d → own_dcx xs n x < 0) ∧ (d ≤ i → own_tp (xs.take n) (i - d) = true → ¬ own_dcx xs n x < 0 ∧ own_dcx xs n x = own_oct (xs.take n) (i - d + 1)) := by
 by_cases hd : d ≤ i
 · have ed : own_dcx xs n x = own_dv xs n (i - d) := by rw [e hd, own_dcx, if_neg (own_nn _ (by omega)), own_cl _ (by omega)]
   rw [ed, own_lnk xs n (i - d) hx hn]
   refine ⟨fun q => ?_, fun _ q => ?_⟩
   · rw [q hd, if_neg (by decide)]; decide
   · rw [if_pos q]; exact ⟨(own_trc q).2, rfl⟩
 · refine ⟨fun _ => ?_, fun q => absurd q hd⟩
   rw [own_dcx, if_pos (e' hd)]; decide
theorem own_s1 (i : Nat) (h : i ≤ 4) : (1 ≤ i → Int32.ofNat i - 1 = Int32.ofNat (i - 1)) ∧ (¬ 1 ≤ i → Int32.ofNat i - 1 < 0) ∧ (2 ≤ i → Int32.ofNat i - 2 = Int32.ofNat (i - 2)) ∧ (¬ 2 ≤ i → Int32.ofNat i - 2 < 0) := (by decide +kernel : ∀ k : Fin 5, (1 ≤ k.val → Int32.ofNat k.val - 1 = Int32.ofNat (k.val - 1)) ∧ (¬ 1 ≤ k.val → Int32.ofNat k.val - 1 < 0) ∧ (2 ≤ k.val → Int32.ofNat k.val - 2 = Int32.ofNat (k.val - 2)) ∧ (¬ 2 ≤ k.val → Int32.ofNat k.val - 2 < 0)) ⟨i, by omega⟩
section Emit
variable {xs : List Int32} {n i : Nat} {es : List Int32}
theorem own_e1 (hx : xs.length = 5) (hn : n ≤ 5) (hi : i < n) (c1 : own_cn (xs.take n) i 1) (c2 : own_cn (xs.take n) i 2) (h : own_tp (xs.take n) i = false) : own_em xs n i es = es ++ [(xs.take n).getD i 0] := by
 have s := own_s1 i (by omega)
 have d0 := (own_dcn xs n i hx hn (by omega) 0 (Int32.ofNat i) (fun _ => rfl) (fun q => absurd (Nat.zero_le i) q)).1 (fun _ => h)
 rw [own_em, if_neg (by omega), if_pos ((own_dcn xs n i hx hn (by omega) 1 _ s.1 s.2.1).1 c1), if_pos ((own_dcn xs n i hx hn (by omega) 2 _ s.2.2.1 s.2.2.2).1 c2), if_pos d0, own_gtk xs n i hi]
theorem own_e3 (hx : xs.length = 5) (hn : n ≤ 5) (hi : i < n) (c1 : own_cn (xs.take n) i 1) (c2 : own_cn (xs.take n) i 2) (h : own_tp (xs.take n) i = true) : own_em xs n i es = es ++ [own_oct (xs.take n) (i + 1)] := by
 have s := own_s1 i (by omega)
 have d0 := (own_dcn xs n i hx hn (by omega) 0 (Int32.ofNat i) (fun _ => rfl) (fun q => absurd (Nat.zero_le i) q)).2 (Nat.zero_le i) h
 rw [own_em, if_neg (by omega), if_pos ((own_dcn xs n i hx hn (by omega) 1 _ s.1 s.2.1).1 c1), if_pos ((own_dcn xs n i hx hn (by omega) 2 _ s.2.2.1 s.2.2.2).1 c2), if_neg d0.1, d0.2]
 rfl
theorem own_ed (hx : xs.length = 5) (hn : n ≤ 5) (hi : i < n) (h1 : 1 ≤ i) (h : own_tp (xs.take n) (i - 1) = true) : own_em xs n i es = es := by
 have s := own_s1 i (by omega)
 rw [own_em, if_neg (by omega), if_neg ((own_dcn xs n i hx hn (by omega) 1 _ s.1 s.2.1).2 h1 h).1]
theorem own_ee (hx : xs.length = 5) (hn : n ≤ 5) (hi : i < n) (h2 : 2 ≤ i) (h1 : own_tp (xs.take n) (i - 1) = false) (h : own_tp (xs.take n) (i - 2) = true) : own_em xs n i es = es := by
 have s := own_s1 i (by omega)
 rw [own_em, if_neg (by omega), if_pos ((own_dcn xs n i hx hn (by omega) 1 _ s.1 s.2.1).1 (fun _ => h1)), if_neg ((own_dcn xs n i hx hn (by omega) 2 _ s.2.2.1 s.2.2.2).2 h2 h).1]
end Emit
theorem own_inv (xs : List Int32) (n : Nat) (hx : xs.length = 5) (hn : n ≤ 5) : ∀ (f i : Nat), n ≤ i + f → i ≤ n → own_cn (xs.take n) i 1 → own_cn (xs.take n) i 2 → (∀ gg, (xs.take n).length < i + gg → own_EM xs n i ++ own_D (xs.take n) gg i = own_DL (xs.take n)) → own_EM xs n 5 = own_DL (xs.take n) := by
 have len : (xs.take n).length = n := by rw [List.length_take]; omega
 intro f
 induction f with
 | zero =>
   intro i hf hin c1 c2 hv
   have e : i = n := by omega
   subst e
   have q := own_hvx hv (by omega)
   rw [← q, show 5 = i + (5 - i) from by omega]
   exact own_EMx xs i i (Nat.le_refl _) (5 - i)
 | succ f ih =>
   intro i hf hin c1 c2 hv
   by_cases hi : i < n
   · by_cases ht : own_tp (xs.take n) i = true
     · have h3 := (own_trh ht).1
       have t1 := own_ex1 ht
       have t2 := own_ex2 ht
       have e1 : own_EM xs n (i + 1) = own_EM xs n i ++ [own_oct (xs.take n) (i + 1)] := own_e3 hx hn hi c1 c2 ht
       have e2 : own_EM xs n (i + 2) = own_EM xs n (i + 1) := own_ed hx hn (by omega) (by omega) ht
       have e3 : own_EM xs n (i + 3) = own_EM xs n (i + 2) := own_ee hx hn (by omega) (by omega) t1 ht
       refine ih (i + 3) (by omega) (by omega) (fun _ => t2) (fun _ => t1) ?_
       rw [e3, e2, e1]
       exact own_hv3 hv (by omega) ht
     · have hf2 : own_tp (xs.take n) i = false := by simpa using ht
       have e1 : own_EM xs n (i + 1) = own_EM xs n i ++ [(xs.take n).getD i 0] := own_e1 hx hn hi c1 c2 hf2
       refine ih (i + 1) (by omega) (by omega) (fun _ => hf2) (fun q => c1 (by omega)) ?_
       rw [e1]
       exact own_hv1 hv (by omega) hf2
   · exact ih i (by omega) hin c1 c2 hv
theorem own_law (x0 x1 x2 x3 x4 : Int32) (n : Nat) (hn : n ≤ 5) : own_DL (([x0, x1, x2, x3, x4] : List Int32).take n) = own_em [x0, x1, x2, x3, x4] n 4 (own_em [x0, x1, x2, x3, x4] n 3 (own_em [x0, x1, x2, x3, x4] n 2 (own_em [x0, x1, x2, x3, x4] n 1 (own_em [x0, x1, x2, x3, x4] n 0 [])))) :=
 (own_inv [x0, x1, x2, x3, x4] n rfl hn n 0 (by omega) (Nat.zero_le _) (fun q => absurd q (by omega)) (fun q => absurd q (by omega)) (fun gg hg => own_Df _ gg _ 0 hg (by omega))).symm

theorem pd_41 : parseMethodDescriptor "([CI)Ljava/lang/String;" = some ⟨[(.array .char), .int], some (.object "java/lang/String")⟩ := by decide +kernel
theorem pd_42 : parseMethodDescriptor "(Ljava/lang/String;)Ljava/lang/String;" = some ⟨[(.object "java/lang/String")], some (.object "java/lang/String")⟩ := by decide +kernel
theorem pd_43 : parseMethodDescriptor "([CII[CI)I" = some ⟨[(.array .char), .int, .int, (.array .char), .int], some .int⟩ := by decide +kernel
theorem pd_44 : parseMethodDescriptor "(Ljava/lang/String;[CII)Z" = some ⟨[(.object "java/lang/String"), (.array .char), .int, .int], some .boolean⟩ := by decide +kernel
theorem ef_0 (m : MethodId) (p0 : Int32) (p1 : Int32) (p2 : Int32) (p3 : Int32) (p4 : Int32) (p5 : Int32) : entryFrame m #[(.int p0), (.int p1), (.int p2), (.int p3), (.int p4), (.int p5)] maxLocals = mkF m 0 #[.val (.int p0), .val (.int p1), .val (.int p2), .val (.int p3), .val (.int p4), .val (.int p5), .unset, .unset, .unset, .unset, .unset, .unset] [] := by first | (simp [entryFrame, mkF, argsToLocals, Value.category, maxLocals]; done) | rfl
def Q0 (Z : State) (p0 : Int32) (p1 : Int32) (p2 : Int32) (p3 : Int32) (p4 : Int32) (p5 : Int32) (zc : Int32) (fm : Value) (im : Value) (h0 : Heap) (n0 : Nat) (v : Option Value) (h : Heap) (L : List Loc) : Prop := v = some (.int 1) ∧ Fr n0 L ∧ Keep h0 h []
theorem rm0 (l : Launch) (Z : State) (a0 : Array Value) (hw : ∀ d ∈ tables_1, d.before a0 Z = true) (ws : List Jvm.Cond) (p0 : Int32) (p1 : Int32) (p2 : Int32) (p3 : Int32) (p4 : Int32) (p5 : Int32) (zc : Int32) (fm : Value) (im : Value) (h0 : Heap) (n0 : Nat) (Z0 : n0 ≤ h0.size) (P_Old : Old Z n0 h0) (HA : own_Z Z zc fm) (Zio : Sta Z Z.heap "jdk/internal/util/Preconditions" "IOOBE_FORMATTER" "Ljava/util/function/BiFunction;" im) (him : im.isRef = true) :
   MetFree l x (head1 (Jvm.Cond.code x code maxLocals ret :: ws) room_1) (fun a U => a = #[(.int p0), (.int p1), (.int p2), (.int p3), (.int p4), (.int p5)] ∧ Z.Warmed39 U.vm ∧ U.heap = h0 ∧ CHv Z own_EL U.vm h0) (fun _ _ _ _ _ => True) (fun _ U o U' => ∃ v L, o = .returned v ∧ (Q0 Z p0 p1 p2 p3 p4 p5 zc fm im h0 n0) v U'.heap L ∧ CHr Z own_EL U.vm U.heap U'.vm U'.heap ∧ ReturnedEndW U o U' L room_1.cells room_1.slots) := by
 refine MetFree.of_bodySF (plainFor_of_name pn_8) hisR ?_
 intro p e s m args below meth c s₁ Bd hml0 hP hK
 obtain ⟨rfl, hZ, hh, H0⟩ := hP
 have hx := Bd.exec
 have hby := Bd.bytes
 have hml : c.maxLocals = 12 := hml0
 have hown : s.vm.findClass "com/example/amid2/amid2/PercentEncodingDecodeUnreservedPinLaw" = some m.cls := findClass_of_methodNamed Bd.named
 have hnm := (name_of_methodNamed Bd.named Bd.method).1
 have hlk : meth.locks = false := BodyLoose.notSynchronized Bd
 have X0 : Stand p l e room_1 (s.setVm s.vm) m #[(.int p0), (.int p1), (.int p2), (.int p3), (.int p4), (.int p5)] below meth c s₁ [] 0 0 := Stand.of_body Bd
 have e0 : s₁.heap = h0 := by rw [← hh, Bd.state]; rfl
 have N0 := Fr.nil n0
 have hS0 := (State.WarmedH.refl s).since s.heap.size
 have hk0 : s.heap.size ≤ h0.size := by rw [hh]; exact Nat.le_refl _
 have CR0 : CHr Z own_EL s.vm h0 s.vm h0 := CHr.refl H0
 have KS0 : Keep h0 h0 [] := Keep.refl _ _
 obtain ⟨Zcs, hcs, Zsi, hfm, Zad, Zhi, Zlo⟩ := id HA
 have K0 : Keep h0 h0 [] := Keep.refl h0 []
 show own_GW p.tables e below (s₁.setTop (entryFrame m #[(.int p0), (.int p1), (.int p2), (.int p3), (.int p4), (.int p5)] maxLocals)) s room_1.cells room_1.slots Z own_EL (Q0 Z p0 p1 p2 p3 p4 p5 zc fm im h0 n0)
 refine own_goW (fun _ k => castTop (ef_0 m p0 p1 p2 p3 p4 p5) (XS.iload X0.here hx rfl (hb hby at_0) rfl (X0.ldcInt hx hown (mvT hZ (own_h hw 0 rfl)) (g := (mkF m 2 #[.val (.int p0), .val (.int p1), .val (.int p2), .val (.int p3), .val (.int p4), .val (.int p5), .unset, .unset, .unset, .unset, .unset, .unset] [(.int p5)])) rfl (hb hby at_2) _ (XS.iand X0.here hx rfl (hb hby at_4) rfl (XS.bipush X0.here hx rfl (hb hby at_5) (iremM X0 hx rfl (hb hby at_7) rfl (by decide) k)))))) ?_
 show own_GW _ _ _ (s₁.setTop (mkF m 8 #[.val (.int p0), .val (.int p1), .val (.int p2), .val (.int p3), .val (.int p4), .val (.int p5), .unset, .unset, .unset, .unset, .unset, .unset] [(.int ((p5 &&& (2147483647 : Int32)) % (6 : Int32)))])) _ _ _ _ _ _
 obtain ⟨n, hn5, en⟩ := own_n6 p5
 · rw [en]
   show own_GW _ _ _ (s₁.setTop (mkF m 8 #[.val (.int p0), .val (.int p1), .val (.int p2), .val (.int p3), .val (.int p4), .val (.int p5), .unset, .unset, .unset, .unset, .unset, .unset] [(.int (Int32.ofNat n))])) _ _ _ _ _ _
   refine own_goW (fun _ k => XS.istore X0.here hx rfl (hb hby at_8) rfl (l' := #[.val (.int p0), .val (.int p1), .val (.int p2), .val (.int p3), .val (.int p4), .val (.int p5), .val (.int (Int32.ofNat n)), .unset, .unset, .unset, .unset, .unset]) rfl (XS.iconst X0.here hx rfl (hb hby at_10) k)) ?_
   obtain ⟨T1, h1, k1, X1, e1, E1, A1, st1⟩ := newP X0 hx hZ (own_h hw 1 rfl) e0 (g := (mkF m 11 #[.val (.int p0), .val (.int p1), .val (.int p2), .val (.int p3), .val (.int p4), .val (.int p5), .val (.int (Int32.ofNat n)), .unset, .unset, .unset, .unset, .unset] [(.int 5)])) rfl (hb hby at_11) rfl (by decide) (cap := 5) (by decide) (by decide) (by decide) (by decide)
   obtain ⟨b1, g1⟩ : ∃ z, z = h0.size := ⟨_, rfl⟩
   rw [← g1] at A1 st1
   have gg1 := Nat.le_trans Z0 (Nat.le_of_eq g1.symm)
   have sz1_0 := Nat.le_trans K0.1 (Nat.le_of_eq g1.symm)
   have sz1_1 := Nat.le_trans KS0.1 (Nat.le_of_eq g1.symm)
   have Zs1 := Nat.le_trans Z0 E1.1
   have K1_0 := K0.ext E1
   have K1_1 := KS0.ext E1
   have f2 := P_Old.ext E1
   have f3 : Arv Z h1 b1 k1 .char (5 : Int32) [(.int 0), (.int 0), (.int 0), (.int 0), (.int 0)] (.int 0) := (Arv.new A1 (by decide)).pad (pad_rep [] (.int 0) 5)
   refine own_goW (fun _ k => st1 _ (XS.dup X1.here hx rfl (hb hby at_13) rfl rfl (XS.iconst X1.here hx rfl (hb hby at_14) (XS.iloadN X1.here hx rfl (hb hby at_15) rfl k)))) ?_
   show own_GW _ _ _ (T1.setTop (mkF m 16 #[.val (.int p0), .val (.int p1), .val (.int p2), .val (.int p3), .val (.int p4), .val (.int p5), .val (.int (Int32.ofNat n)), .unset, .unset, .unset, .unset, .unset] [(.int p0), (.int 0), (.ref b1), (.ref b1)])) _ _ _ _ _ _
   have CQ4 := CR0.trans (CHr.keep K1_1 all0 CR0.1)
   obtain ⟨_, _, ⟨T4, L4, k4, n4⟩, -, X4, hS'4, gh4, ⟨Lc4, hQ4, l4, y4, z4, CC4⟩, st4⟩ := callSS X1 hx (y := Y68) hown (mvT hZ (own_h hw 2 rfl)) (mvT hZ (own_h hw 3 rfl)) (mvT hZ (own_h hw 4 rfl)) (mvT hZ (own_h hw 5 rfl)) (by decide) (backOfSH (W := 3) (rm1 l Z a0 hw [] p0 zc fm h1 n0 Zs1 f2 HA) hZ (own_h hw 5 rfl) (own_h hw 4 rfl) (by decide) (by decide) (own_EW hw) CQ4.1) (g := (mkF m 16 #[.val (.int p0), .val (.int p1), .val (.int p2), .val (.int p3), .val (.int p4), .val (.int p5), .val (.int (Int32.ofNat n)), .unset, .unset, .unset, .unset, .unset] [(.int p0), (.int 0), (.ref b1), (.ref b1)])) rfl (by rw [hml]; rfl) (argsL := [(.int p0)]) (rest := [(.int 0), (.ref b1), (.ref b1)]) (lenOf pd_28 rfl) rfl (own_r0 _) (hb hby at_16) (fun _ _ => ⟨rfl, e1, (by decide : 1 + 2 ≤ _), (by decide : 5 + 92 ≤ _)⟩)
   dsimp only [Pt.U, Pt.locs, Pt.cells, Pt.slots] at X4 l4 y4 z4 st4 hQ4 hS'4 gh4 CC4
   rw [l4] at X4
   subst y4 z4
   have hk4 : h1.size ≤ T4.heap.size := by rw [← show T1.heap = h1 from e1]; exact gh4
   obtain ⟨X4, hS4, hZ, hown⟩ := rebS hS0 (Nat.le_trans hk0 K1_1.1) X4 hS'4 hk4 hZ hown
   have CR4 := CQ4.trans CC4
   obtain ⟨cx4, rfl, Nq4, Kq4, r4_0⟩ := hQ4
   have N4 := Fr.app N0 Nq4
   have f5 := f2.keep Kq4 all0
   have f6 := f3.keep Kq4 nin0
   have Zs4 := Nat.le_trans Zs1 Kq4.1
   have K4_0 := K1_0.trans Kq4 all0
   have sf7 : Safe Z own_EL T4.vm T4.heap b1 := (by obtain ⟨c_, A_, -⟩ := f6; exact Safe.arr hZ.alike A_ (by decide))
   have KS4 : Keep T4.heap T4.heap [b1] := Keep.refl _ _
   refine own_goW (fun _ k => st4.trans k) ?_
   obtain ⟨cl8, Ar8, q8, S8, Ng8, H8, G8⟩ := id f6
   have in8 : ¬ ((0 : Int32) < 0 ∨ cl8.slots.size ≤ ((0 : Int32)).toNatClampNeg) := inb_of S8 ⟨by decide, by decide⟩
   obtain ⟨T8, h8, X8, e8, W8, st8⟩ := stC X4 hx hZ rfl Ar8 (j := (0 : Int32)) in8 (g := (mkF m 19 #[.val (.int p0), .val (.int p1), .val (.int p2), .val (.int p3), .val (.int p4), .val (.int p5), .val (.int (Int32.ofNat n)), .unset, .unset, .unset, .unset, .unset] [(.int cx4), (.int 0), (.ref b1), (.ref b1)])) rfl rfl (hb hby at_19)
   have N8 := Fr.snoc X8 N4 gg1
   have Zs8 := Nat.le_trans Zs4 (Keep.of_wr W8).1
   have K8_0 := K4_0.wr W8 (Or.inr sz1_0)
   have K8_1 := KS4.wr W8 (Or.inl (List.mem_of_getElem? (i := 0) rfl))
   have f9 := f5.wr W8 gg1
   have f10 : Arv Z h8 b1 k1 .char (5 : Int32) [(.int cx4), (.int 0), (.int 0), (.int 0), (.int 0)] (.int 0) := (by have q := Arv.set Ar8 q8 S8 Ng8 H8 G8 (fits_nar_char _) W8 0 rfl (Nat.le_of_ble_eq_true rfl); rw [(own_rnar _ r4_0)] at q; exact q)
   refine own_goW (fun _ k => st8 _ (XS.dup X8.here hx rfl (hb hby at_20) rfl rfl (XS.iconst X8.here hx rfl (hb hby at_21) (XS.iloadN X8.here hx rfl (hb hby at_22) rfl k)))) ?_
   show own_GW _ _ _ (T8.setTop (mkF m 23 #[.val (.int p0), .val (.int p1), .val (.int p2), .val (.int p3), .val (.int p4), .val (.int p5), .val (.int (Int32.ofNat n)), .unset, .unset, .unset, .unset, .unset] [(.int p1), (.int 1), (.ref b1), (.ref b1)])) _ _ _ _ _ _
   have CQ11 := CR4.trans (CHr.keep K8_1 (allS sf7 all0) CR4.1)
   obtain ⟨_, _, ⟨T11, L11, k11, n11⟩, -, X11, hS'11, gh11, ⟨Lc11, hQ11, l11, y11, z11, CC11⟩, st11⟩ := callSS X8 hx (y := Y68) hown (mvT hZ (own_h hw 2 rfl)) (mvT hZ (own_h hw 3 rfl)) (mvT hZ (own_h hw 4 rfl)) (mvT hZ (own_h hw 5 rfl)) (by decide) (backOfSH (W := 3) (rm1 l Z a0 hw [] p1 zc fm h8 n0 Zs8 f9 HA) hZ (own_h hw 5 rfl) (own_h hw 4 rfl) (by decide) (by decide) (own_EW hw) CQ11.1) (g := (mkF m 23 #[.val (.int p0), .val (.int p1), .val (.int p2), .val (.int p3), .val (.int p4), .val (.int p5), .val (.int (Int32.ofNat n)), .unset, .unset, .unset, .unset, .unset] [(.int p1), (.int 1), (.ref b1), (.ref b1)])) rfl (by rw [hml]; rfl) (argsL := [(.int p1)]) (rest := [(.int 1), (.ref b1), (.ref b1)]) (lenOf pd_28 rfl) rfl (own_r0 _) (hb hby at_23) (fun _ _ => ⟨rfl, e8, (by decide : 3 + 2 ≤ _), (by decide : 97 + 92 ≤ _)⟩)
   dsimp only [Pt.U, Pt.locs, Pt.cells, Pt.slots] at X11 l11 y11 z11 st11 hQ11 hS'11 gh11 CC11
   rw [l11] at X11
   subst y11 z11
   have hk11 : h8.size ≤ T11.heap.size := by rw [← show T8.heap = h8 from e8]; exact gh11
   obtain ⟨X11, hS11, hZ, hown⟩ := rebS hS4 (Nat.le_trans (Nat.le_refl _) K8_1.1) X11 hS'11 hk11 hZ hown
   have CR11 := CQ11.trans CC11
   obtain ⟨cx11, rfl, Nq11, Kq11, r11_0⟩ := hQ11
   have N11 := Fr.app N8 Nq11
   have f12 := f9.keep Kq11 all0
   have f13 := f10.keep Kq11 nin0
   have Zs11 := Nat.le_trans Zs8 Kq11.1
   have K11_0 := K8_0.trans Kq11 all0
   have sf14 : Safe Z own_EL T11.vm T11.heap b1 := (by obtain ⟨c_, A_, -⟩ := f13; exact Safe.arr hZ.alike A_ (by decide))
   have KS11 : Keep T11.heap T11.heap [b1] := Keep.refl _ _
   refine own_goW (fun _ k => st11.trans k) ?_
   obtain ⟨cl15, Ar15, q15, S15, Ng15, H15, G15⟩ := id f13
   have in15 : ¬ ((1 : Int32) < 0 ∨ cl15.slots.size ≤ ((1 : Int32)).toNatClampNeg) := inb_of S15 ⟨by decide, by decide⟩
   obtain ⟨T15, h15, X15, e15, W15, st15⟩ := stC X11 hx hZ rfl Ar15 (j := (1 : Int32)) in15 (g := (mkF m 26 #[.val (.int p0), .val (.int p1), .val (.int p2), .val (.int p3), .val (.int p4), .val (.int p5), .val (.int (Int32.ofNat n)), .unset, .unset, .unset, .unset, .unset] [(.int cx11), (.int 1), (.ref b1), (.ref b1)])) rfl rfl (hb hby at_26)
   have N15 := Fr.snoc X15 N11 gg1
   have Zs15 := Nat.le_trans Zs11 (Keep.of_wr W15).1
   have K15_0 := K11_0.wr W15 (Or.inr sz1_0)
   have K15_1 := KS11.wr W15 (Or.inl (List.mem_of_getElem? (i := 0) rfl))
   have f16 := f12.wr W15 gg1
   have f17 : Arv Z h15 b1 k1 .char (5 : Int32) [(.int cx4), (.int cx11), (.int 0), (.int 0), (.int 0)] (.int 0) := (by have q := Arv.set Ar15 q15 S15 Ng15 H15 G15 (fits_nar_char _) W15 1 rfl (Nat.le_of_ble_eq_true rfl); rw [(own_rnar _ r11_0)] at q; exact q)
   refine own_goW (fun _ k => st15 _ (XS.dup X15.here hx rfl (hb hby at_27) rfl rfl (XS.iconst X15.here hx rfl (hb hby at_28) (XS.iloadN X15.here hx rfl (hb hby at_29) rfl k)))) ?_
   show own_GW _ _ _ (T15.setTop (mkF m 30 #[.val (.int p0), .val (.int p1), .val (.int p2), .val (.int p3), .val (.int p4), .val (.int p5), .val (.int (Int32.ofNat n)), .unset, .unset, .unset, .unset, .unset] [(.int p2), (.int 2), (.ref b1), (.ref b1)])) _ _ _ _ _ _
   have CQ18 := CR11.trans (CHr.keep K15_1 (allS sf14 all0) CR11.1)
   obtain ⟨_, _, ⟨T18, L18, k18, n18⟩, -, X18, hS'18, gh18, ⟨Lc18, hQ18, l18, y18, z18, CC18⟩, st18⟩ := callSS X15 hx (y := Y68) hown (mvT hZ (own_h hw 2 rfl)) (mvT hZ (own_h hw 3 rfl)) (mvT hZ (own_h hw 4 rfl)) (mvT hZ (own_h hw 5 rfl)) (by decide) (backOfSH (W := 3) (rm1 l Z a0 hw [] p2 zc fm h15 n0 Zs15 f16 HA) hZ (own_h hw 5 rfl) (own_h hw 4 rfl) (by decide) (by decide) (own_EW hw) CQ18.1) (g := (mkF m 30 #[.val (.int p0), .val (.int p1), .val (.int p2), .val (.int p3), .val (.int p4), .val (.int p5), .val (.int (Int32.ofNat n)), .unset, .unset, .unset, .unset, .unset] [(.int p2), (.int 2), (.ref b1), (.ref b1)])) rfl (by rw [hml]; rfl) (argsL := [(.int p2)]) (rest := [(.int 2), (.ref b1), (.ref b1)]) (lenOf pd_28 rfl) rfl (own_r0 _) (hb hby at_30) (fun _ _ => ⟨rfl, e15, (by decide : 5 + 2 ≤ _), (by decide : 189 + 92 ≤ _)⟩)
   dsimp only [Pt.U, Pt.locs, Pt.cells, Pt.slots] at X18 l18 y18 z18 st18 hQ18 hS'18 gh18 CC18
   rw [l18] at X18
   subst y18 z18
   have hk18 : h15.size ≤ T18.heap.size := by rw [← show T15.heap = h15 from e15]; exact gh18
   obtain ⟨X18, hS18, hZ, hown⟩ := rebS hS11 (Nat.le_trans (Nat.le_refl _) K15_1.1) X18 hS'18 hk18 hZ hown
   have CR18 := CQ18.trans CC18
   obtain ⟨cx18, rfl, Nq18, Kq18, r18_0⟩ := hQ18
   have N18 := Fr.app N15 Nq18
   have f19 := f16.keep Kq18 all0
   have f20 := f17.keep Kq18 nin0
   have Zs18 := Nat.le_trans Zs15 Kq18.1
   have K18_0 := K15_0.trans Kq18 all0
   have sf21 : Safe Z own_EL T18.vm T18.heap b1 := (by obtain ⟨c_, A_, -⟩ := f20; exact Safe.arr hZ.alike A_ (by decide))
   have KS18 : Keep T18.heap T18.heap [b1] := Keep.refl _ _
   refine own_goW (fun _ k => st18.trans k) ?_
   obtain ⟨cl22, Ar22, q22, S22, Ng22, H22, G22⟩ := id f20
   have in22 : ¬ ((2 : Int32) < 0 ∨ cl22.slots.size ≤ ((2 : Int32)).toNatClampNeg) := inb_of S22 ⟨by decide, by decide⟩
   obtain ⟨T22, h22, X22, e22, W22, st22⟩ := stC X18 hx hZ rfl Ar22 (j := (2 : Int32)) in22 (g := (mkF m 33 #[.val (.int p0), .val (.int p1), .val (.int p2), .val (.int p3), .val (.int p4), .val (.int p5), .val (.int (Int32.ofNat n)), .unset, .unset, .unset, .unset, .unset] [(.int cx18), (.int 2), (.ref b1), (.ref b1)])) rfl rfl (hb hby at_33)
   have N22 := Fr.snoc X22 N18 gg1
   have Zs22 := Nat.le_trans Zs18 (Keep.of_wr W22).1
   have K22_0 := K18_0.wr W22 (Or.inr sz1_0)
   have K22_1 := KS18.wr W22 (Or.inl (List.mem_of_getElem? (i := 0) rfl))
   have f23 := f19.wr W22 gg1
   have f24 : Arv Z h22 b1 k1 .char (5 : Int32) [(.int cx4), (.int cx11), (.int cx18), (.int 0), (.int 0)] (.int 0) := (by have q := Arv.set Ar22 q22 S22 Ng22 H22 G22 (fits_nar_char _) W22 2 rfl (Nat.le_of_ble_eq_true rfl); rw [(own_rnar _ r18_0)] at q; exact q)
   refine own_goW (fun _ k => st22 _ (XS.dup X22.here hx rfl (hb hby at_34) rfl rfl (XS.iconst X22.here hx rfl (hb hby at_35) (XS.iloadN X22.here hx rfl (hb hby at_36) rfl k)))) ?_
   show own_GW _ _ _ (T22.setTop (mkF m 37 #[.val (.int p0), .val (.int p1), .val (.int p2), .val (.int p3), .val (.int p4), .val (.int p5), .val (.int (Int32.ofNat n)), .unset, .unset, .unset, .unset, .unset] [(.int p3), (.int 3), (.ref b1), (.ref b1)])) _ _ _ _ _ _
   have CQ25 := CR18.trans (CHr.keep K22_1 (allS sf21 all0) CR18.1)
   obtain ⟨_, _, ⟨T25, L25, k25, n25⟩, -, X25, hS'25, gh25, ⟨Lc25, hQ25, l25, y25, z25, CC25⟩, st25⟩ := callSS X22 hx (y := Y68) hown (mvT hZ (own_h hw 2 rfl)) (mvT hZ (own_h hw 3 rfl)) (mvT hZ (own_h hw 4 rfl)) (mvT hZ (own_h hw 5 rfl)) (by decide) (backOfSH (W := 3) (rm1 l Z a0 hw [] p3 zc fm h22 n0 Zs22 f23 HA) hZ (own_h hw 5 rfl) (own_h hw 4 rfl) (by decide) (by decide) (own_EW hw) CQ25.1) (g := (mkF m 37 #[.val (.int p0), .val (.int p1), .val (.int p2), .val (.int p3), .val (.int p4), .val (.int p5), .val (.int (Int32.ofNat n)), .unset, .unset, .unset, .unset, .unset] [(.int p3), (.int 3), (.ref b1), (.ref b1)])) rfl (by rw [hml]; rfl) (argsL := [(.int p3)]) (rest := [(.int 3), (.ref b1), (.ref b1)]) (lenOf pd_28 rfl) rfl (own_r0 _) (hb hby at_37) (fun _ _ => ⟨rfl, e22, (by decide : 7 + 2 ≤ _), (by decide : 281 + 92 ≤ _)⟩)
   dsimp only [Pt.U, Pt.locs, Pt.cells, Pt.slots] at X25 l25 y25 z25 st25 hQ25 hS'25 gh25 CC25
   rw [l25] at X25
   subst y25 z25
   have hk25 : h22.size ≤ T25.heap.size := by rw [← show T22.heap = h22 from e22]; exact gh25
   obtain ⟨X25, hS25, hZ, hown⟩ := rebS hS18 (Nat.le_trans (Nat.le_refl _) K22_1.1) X25 hS'25 hk25 hZ hown
   have CR25 := CQ25.trans CC25
   obtain ⟨cx25, rfl, Nq25, Kq25, r25_0⟩ := hQ25
   have N25 := Fr.app N22 Nq25
   have f26 := f23.keep Kq25 all0
   have f27 := f24.keep Kq25 nin0
   have Zs25 := Nat.le_trans Zs22 Kq25.1
   have K25_0 := K22_0.trans Kq25 all0
   have sf28 : Safe Z own_EL T25.vm T25.heap b1 := (by obtain ⟨c_, A_, -⟩ := f27; exact Safe.arr hZ.alike A_ (by decide))
   have KS25 : Keep T25.heap T25.heap [b1] := Keep.refl _ _
   refine own_goW (fun _ k => st25.trans k) ?_
   obtain ⟨cl29, Ar29, q29, S29, Ng29, H29, G29⟩ := id f27
   have in29 : ¬ ((3 : Int32) < 0 ∨ cl29.slots.size ≤ ((3 : Int32)).toNatClampNeg) := inb_of S29 ⟨by decide, by decide⟩
   obtain ⟨T29, h29, X29, e29, W29, st29⟩ := stC X25 hx hZ rfl Ar29 (j := (3 : Int32)) in29 (g := (mkF m 40 #[.val (.int p0), .val (.int p1), .val (.int p2), .val (.int p3), .val (.int p4), .val (.int p5), .val (.int (Int32.ofNat n)), .unset, .unset, .unset, .unset, .unset] [(.int cx25), (.int 3), (.ref b1), (.ref b1)])) rfl rfl (hb hby at_40)
   have N29 := Fr.snoc X29 N25 gg1
   have Zs29 := Nat.le_trans Zs25 (Keep.of_wr W29).1
   have K29_0 := K25_0.wr W29 (Or.inr sz1_0)
   have K29_1 := KS25.wr W29 (Or.inl (List.mem_of_getElem? (i := 0) rfl))
   have f30 := f26.wr W29 gg1
   have f31 : Arv Z h29 b1 k1 .char (5 : Int32) [(.int cx4), (.int cx11), (.int cx18), (.int cx25), (.int 0)] (.int 0) := (by have q := Arv.set Ar29 q29 S29 Ng29 H29 G29 (fits_nar_char _) W29 3 rfl (Nat.le_of_ble_eq_true rfl); rw [(own_rnar _ r25_0)] at q; exact q)
   refine own_goW (fun _ k => st29 _ (XS.dup X29.here hx rfl (hb hby at_41) rfl rfl (XS.iconst X29.here hx rfl (hb hby at_42) (XS.iload X29.here hx rfl (hb hby at_43) rfl k)))) ?_
   show own_GW _ _ _ (T29.setTop (mkF m 45 #[.val (.int p0), .val (.int p1), .val (.int p2), .val (.int p3), .val (.int p4), .val (.int p5), .val (.int (Int32.ofNat n)), .unset, .unset, .unset, .unset, .unset] [(.int p4), (.int 4), (.ref b1), (.ref b1)])) _ _ _ _ _ _
   have CQ32 := CR25.trans (CHr.keep K29_1 (allS sf28 all0) CR25.1)
   obtain ⟨_, _, ⟨T32, L32, k32, n32⟩, -, X32, hS'32, gh32, ⟨Lc32, hQ32, l32, y32, z32, CC32⟩, st32⟩ := callSS X29 hx (y := Y68) hown (mvT hZ (own_h hw 2 rfl)) (mvT hZ (own_h hw 3 rfl)) (mvT hZ (own_h hw 4 rfl)) (mvT hZ (own_h hw 5 rfl)) (by decide) (backOfSH (W := 3) (rm1 l Z a0 hw [] p4 zc fm h29 n0 Zs29 f30 HA) hZ (own_h hw 5 rfl) (own_h hw 4 rfl) (by decide) (by decide) (own_EW hw) CQ32.1) (g := (mkF m 45 #[.val (.int p0), .val (.int p1), .val (.int p2), .val (.int p3), .val (.int p4), .val (.int p5), .val (.int (Int32.ofNat n)), .unset, .unset, .unset, .unset, .unset] [(.int p4), (.int 4), (.ref b1), (.ref b1)])) rfl (by rw [hml]; rfl) (argsL := [(.int p4)]) (rest := [(.int 4), (.ref b1), (.ref b1)]) (lenOf pd_28 rfl) rfl (own_r0 _) (hb hby at_45) (fun _ _ => ⟨rfl, e29, (by decide : 9 + 2 ≤ _), (by decide : 373 + 92 ≤ _)⟩)
   dsimp only [Pt.U, Pt.locs, Pt.cells, Pt.slots] at X32 l32 y32 z32 st32 hQ32 hS'32 gh32 CC32
   rw [l32] at X32
   subst y32 z32
   have hk32 : h29.size ≤ T32.heap.size := by rw [← show T29.heap = h29 from e29]; exact gh32
   obtain ⟨X32, hS32, hZ, hown⟩ := rebS hS25 (Nat.le_trans (Nat.le_refl _) K29_1.1) X32 hS'32 hk32 hZ hown
   have CR32 := CQ32.trans CC32
   obtain ⟨cx32, rfl, Nq32, Kq32, r32_0⟩ := hQ32
   have N32 := Fr.app N29 Nq32
   have f33 := f30.keep Kq32 all0
   have f34 := f31.keep Kq32 nin0
   have Zs32 := Nat.le_trans Zs29 Kq32.1
   have K32_0 := K29_0.trans Kq32 all0
   have sf35 : Safe Z own_EL T32.vm T32.heap b1 := (by obtain ⟨c_, A_, -⟩ := f34; exact Safe.arr hZ.alike A_ (by decide))
   have KS32 : Keep T32.heap T32.heap [b1] := Keep.refl _ _
   refine own_goW (fun _ k => st32.trans k) ?_
   obtain ⟨cl36, Ar36, q36, S36, Ng36, H36, G36⟩ := id f34
   have in36 : ¬ ((4 : Int32) < 0 ∨ cl36.slots.size ≤ ((4 : Int32)).toNatClampNeg) := inb_of S36 ⟨by decide, by decide⟩
   obtain ⟨T36, h36, X36, e36, W36, st36⟩ := stC X32 hx hZ rfl Ar36 (j := (4 : Int32)) in36 (g := (mkF m 48 #[.val (.int p0), .val (.int p1), .val (.int p2), .val (.int p3), .val (.int p4), .val (.int p5), .val (.int (Int32.ofNat n)), .unset, .unset, .unset, .unset, .unset] [(.int cx32), (.int 4), (.ref b1), (.ref b1)])) rfl rfl (hb hby at_48)
   have N36 := Fr.snoc X36 N32 gg1
   have Zs36 := Nat.le_trans Zs32 (Keep.of_wr W36).1
   have K36_0 := K32_0.wr W36 (Or.inr sz1_0)
   have K36_1 := KS32.wr W36 (Or.inl (List.mem_of_getElem? (i := 0) rfl))
   have f37 := f33.wr W36 gg1
   have f38 : Arv Z h36 b1 k1 .char (5 : Int32) [(.int cx4), (.int cx11), (.int cx18), (.int cx25), (.int cx32)] (.int 0) := (by have q := Arv.set Ar36 q36 S36 Ng36 H36 G36 (fits_nar_char _) W36 4 rfl (Nat.le_of_ble_eq_true rfl); rw [(own_rnar _ r32_0)] at q; exact q)
   refine own_goW (fun _ k => st36 _ (XS.astore X36.here hx rfl (hb hby at_49) rfl rfl (l' := #[.val (.int p0), .val (.int p1), .val (.int p2), .val (.int p3), .val (.int p4), .val (.int p5), .val (.int (Int32.ofNat n)), .val (.ref b1), .unset, .unset, .unset, .unset]) rfl (XS.aload X36.here hx rfl (hb hby at_51) rfl rfl (XS.iload X36.here hx rfl (hb hby at_53) rfl k)))) ?_
   show own_GW _ _ _ (T36.setTop (mkF m 55 #[.val (.int p0), .val (.int p1), .val (.int p2), .val (.int p3), .val (.int p4), .val (.int p5), .val (.int (Int32.ofNat n)), .val (.ref b1), .unset, .unset, .unset, .unset] [(.int (Int32.ofNat n)), (.ref b1)])) _ _ _ _ _ _
   have CQ39 := CR32.trans (CHr.keep K36_1 (allS sf35 all0) CR32.1)
   obtain ⟨_, _, ⟨T39, L39, k39, n39⟩, -, X39, hS'39, gh39, ⟨Lc39, hQ39, l39, y39, z39, CC39⟩, st39⟩ := callSS X36 hx (y := Y69) hown (mvT hZ (own_h hw 40 rfl)) (mvT hZ (own_h hw 41 rfl)) (mvT hZ (own_h hw 4 rfl)) (mvT hZ (own_h hw 42 rfl)) (by decide) (backOfSH (W := 0) (rm7 l Z a0 hw [] b1 zc fm k1 n cx4 cx11 cx18 cx25 cx32 h36 n0 Zs36 f37 HA f38 hn5 (own_all5 r4_0 r11_0 r18_0 r25_0 r32_0)) hZ (own_h hw 42 rfl) (own_h hw 4 rfl) (by decide) (by decide) (own_EW hw) CQ39.1) (g := (mkF m 55 #[.val (.int p0), .val (.int p1), .val (.int p2), .val (.int p3), .val (.int p4), .val (.int p5), .val (.int (Int32.ofNat n)), .val (.ref b1), .unset, .unset, .unset, .unset] [(.int (Int32.ofNat n)), (.ref b1)])) rfl (by rw [hml]; rfl) (argsL := [(.ref b1), (.int (Int32.ofNat n))]) (rest := []) (lenOf pd_41 rfl) rfl (own_r0 _) (hb hby at_55) (fun _ _ => ⟨rfl, e36, (by decide : 11 + 6 ≤ _), (by decide : 465 + 24 ≤ _)⟩)
   dsimp only [Pt.U, Pt.locs, Pt.cells, Pt.slots] at X39 l39 y39 z39 st39 hQ39 hS'39 gh39 CC39
   rw [l39] at X39
   subst y39 z39
   have hk39 : h36.size ≤ T39.heap.size := by rw [← show T36.heap = h36 from e36]; exact gh39
   obtain ⟨X39, hS39, hZ, hown⟩ := rebS hS32 (Nat.le_trans (Nat.le_refl _) K36_1.1) X39 hS'39 hk39 hZ hown
   have CR39 := CQ39.trans CC39
   obtain ⟨b39, t39, kb39, co39, rfl, Nq39, Kq39, r39_0, r39_1, r39_2, r39_3, r39_4⟩ := hQ39
   have N39 := Fr.app N36 Nq39
   have f40 := f37.keep Kq39 all0
   have f41 := f38.keep Kq39 nin0
   have Zs39 := Nat.le_trans Zs36 Kq39.1
   have K39_0 := K36_0.trans Kq39 all0
   have KS39 : Keep T39.heap T39.heap [] := Keep.refl _ _
   refine own_goW (fun _ k => st39.trans (XS.astore X39.here hx rfl (hb hby at_58) rfl rfl (l' := #[.val (.int p0), .val (.int p1), .val (.int p2), .val (.int p3), .val (.int p4), .val (.int p5), .val (.int (Int32.ofNat n)), .val (.ref b1), .val (.ref b39), .unset, .unset, .unset]) rfl (XS.aload X39.here hx rfl (hb hby at_60) rfl rfl k))) ?_
   obtain ⟨_, _, ⟨T42, L42, k42, n42⟩, -, X42, ⟨Lc42, hQ42, l42, y42, z42⟩, st42⟩ := Jvm.LawKit.callS X39 hx (y := Y67) hown (mvT hZ (own_h hw 64 rfl)) (mvT hZ (own_h hw 65 rfl)) (mvT hZ (own_h hw 66 rfl)) (mvT hZ (own_h hw 67 rfl)) (by decide) (backOf (W := 0) (rm14 l Z a0 hw [] b39 zc fm im co39 t39 kb39 (([cx4, cx11, cx18, cx25, cx32] : List Int32).take n) T39.heap n0 Zs39 f40 HA Zio him r39_0 r39_1 r39_2 r39_3 r39_4 (own_tk5 _ n hn5)) hZ (own_h hw 67 rfl) (own_h hw 66 rfl) (by decide) (by decide)) (g := (mkF m 62 #[.val (.int p0), .val (.int p1), .val (.int p2), .val (.int p3), .val (.int p4), .val (.int p5), .val (.int (Int32.ofNat n)), .val (.ref b1), .val (.ref b39), .unset, .unset, .unset] [(.ref b39)])) rfl (by rw [hml]; rfl) (argsL := [(.ref b39)]) (rest := []) (lenOf pd_42 rfl) rfl (own_r0 _) (hb hby at_62) (fun _ _ => ⟨rfl, rfl, (by decide : 17 + 15 ≤ _), (by decide : 489 + 133 ≤ _)⟩)
   dsimp only [Pt.U, Pt.locs, Pt.cells, Pt.slots] at X42 l42 y42 z42 st42 hQ42
   rw [l42] at X42
   subst y42 z42
   obtain ⟨r42, tr42, kr42, cr42, rfl, Nq42, Kq42, r42_0, r42_1, r42_2, r42_3, r42_4⟩ := hQ42
   have N42 := Fr.app N39 Nq42
   have f43 := f40.keep Kq42 all0
   have f44 := f41.keep Kq42 nin0
   have f45 := r39_0.keep Kq42
   have f46 := r39_1.keep Kq42 nin0
   have f47 := r39_2.keep Kq42 nin0
   have f48 := r39_3.keep Kq42 nin0
   have Zs42 := Nat.le_trans Zs39 Kq42.1
   have K42_0 := K39_0.trans Kq42 all0
   have K42_1 := KS39.trans Kq42 all0
   refine own_goW (fun _ k => st42 _ (XS.astore X42.here hx rfl (hb hby at_65) rfl rfl (l' := #[.val (.int p0), .val (.int p1), .val (.int p2), .val (.int p3), .val (.int p4), .val (.int p5), .val (.int (Int32.ofNat n)), .val (.ref b1), .val (.ref b39), .val (.ref r42), .unset, .unset]) rfl (XS.iconst X42.here hx rfl (hb hby at_67) k))) ?_
   obtain ⟨T49, h49, k49, X49, e49, E49, A49, st49⟩ := newP X42 hx hZ (own_h hw 1 rfl) rfl (g := (mkF m 68 #[.val (.int p0), .val (.int p1), .val (.int p2), .val (.int p3), .val (.int p4), .val (.int p5), .val (.int (Int32.ofNat n)), .val (.ref b1), .val (.ref b39), .val (.ref r42), .unset, .unset] [(.int 5)])) rfl (hb hby at_68) rfl (by decide) (cap := 5) (by decide) (by decide) (by decide) (by decide)
   obtain ⟨b49, g49⟩ : ∃ z, z = T42.heap.size := ⟨_, rfl⟩
   rw [← g49] at A49 st49
   have ne50 := Nat.ne_of_lt (Nat.lt_of_lt_of_le f44.lt (Nat.le_of_eq g49.symm))
   have ne51 := Nat.ne_of_lt (Nat.lt_of_lt_of_le f45.lt (Nat.le_of_eq g49.symm))
   have ne52 := Nat.ne_of_lt (Nat.lt_of_lt_of_le f48.lt (Nat.le_of_eq g49.symm))
   have ne53 := Nat.ne_of_lt (Nat.lt_of_lt_of_le r42_0.lt (Nat.le_of_eq g49.symm))
   have ne54 := Nat.ne_of_lt (Nat.lt_of_lt_of_le r42_3.lt (Nat.le_of_eq g49.symm))
   have gg49 := Nat.le_trans Zs42 (Nat.le_of_eq g49.symm)
   have sz49_0 := Nat.le_trans K42_0.1 (Nat.le_of_eq g49.symm)
   have sz49_1 := Nat.le_trans K42_1.1 (Nat.le_of_eq g49.symm)
   have Zs49 := Nat.le_trans Zs42 E49.1
   have K49_0 := K42_0.ext E49
   have K49_1 := K42_1.ext E49
   have f55 := f43.ext E49
   have f56 := f44.ext E49
   have f57 := f45.ext E49
   have f58 := f46.ext E49
   have f59 := f47.ext E49
   have f60 := f48.ext E49
   have f61 := r42_0.ext E49
   have f62 := r42_1.ext E49
   have f63 := r42_2.ext E49
   have f64 := r42_3.ext E49
   have f65 : Arv Z h49 b49 k49 .char (5 : Int32) [] (.int 0) := Arv.new A49 (by decide)
   refine own_goW (fun _ k => st49 _ (XS.astore X49.here hx rfl (hb hby at_70) rfl rfl (l' := #[.val (.int p0), .val (.int p1), .val (.int p2), .val (.int p3), .val (.int p4), .val (.int p5), .val (.int (Int32.ofNat n)), .val (.ref b1), .val (.ref b39), .val (.ref r42), .val (.ref b49), .unset]) rfl (XS.iconst X49.here hx rfl (hb hby at_72) (XS.istore X49.here hx rfl (hb hby at_73) rfl (l' := #[.val (.int p0), .val (.int p1), .val (.int p2), .val (.int p3), .val (.int p4), .val (.int p5), .val (.int (Int32.ofNat n)), .val (.ref b1), .val (.ref b39), .val (.ref r42), .val (.ref b49), .val (.int 0)]) rfl (XS.aload X49.here hx rfl (hb hby at_75) rfl rfl (XS.iload X49.here hx rfl (hb hby at_77) rfl (XS.iconst X49.here hx rfl (hb hby at_79) (XS.aload X49.here hx rfl (hb hby at_80) rfl rfl (XS.iload X49.here hx rfl (hb hby at_82) rfl k))))))))) ?_
   obtain ⟨_, _, ⟨T66, L66, k66, n66⟩, -, X66, ⟨Lc66, hQ66, l66, y66, z66⟩, st66⟩ := Jvm.LawKit.callS X49 hx (y := Y71) hown (mvT hZ (own_h hw 231 rfl)) (mvT hZ (own_h hw 232 rfl)) (mvT hZ (own_h hw 4 rfl)) (mvT hZ (own_h hw 233 rfl)) (by decide) (backOf (W := 0) (rm45 l Z a0 hw [] b1 b49 0 k49 ([] : List Int32) n k1 ([cx4, cx11, cx18, cx25, cx32] : List Int32) h49 n0 Zs49 f56 f65 rfl hn5 (by decide) (Nat.le_refl 0) (own_all5 r4_0 r11_0 r18_0 r25_0 r32_0) gg49 ne50) hZ (own_h hw 233 rfl) (own_h hw 4 rfl) (by decide) (by decide)) (g := (mkF m 84 #[.val (.int p0), .val (.int p1), .val (.int p2), .val (.int p3), .val (.int p4), .val (.int p5), .val (.int (Int32.ofNat n)), .val (.ref b1), .val (.ref b39), .val (.ref r42), .val (.ref b49), .val (.int 0)] [(.int 0), (.ref b49), (.int 0), (.int (Int32.ofNat n)), (.ref b1)])) rfl (by rw [hml]; rfl) (argsL := [(.ref b1), (.int (Int32.ofNat n)), (.int 0), (.ref b49), (.int 0)]) (rest := []) (lenOf pd_43 rfl) rfl (own_r0 _) (hb hby at_84) (fun _ _ => ⟨rfl, e49, (by decide : 33 + 0 ≤ _), (by decide : 627 + 0 ≤ _)⟩)
   dsimp only [Pt.U, Pt.locs, Pt.cells, Pt.slots] at X66 l66 y66 z66 st66 hQ66
   rw [l66] at X66
   subst y66 z66
   obtain ⟨rfl, Nq66, Kq66, r66_0⟩ := hQ66
   have N66 := Fr.app N42 Nq66
   have f67 := f55.keep Kq66 (allS gg49 all0)
   have f68 := f56.keep Kq66 (ninS ne50 nin0)
   have f69 := f57.keep Kq66
   have f70 := f58.keep Kq66 (ninS ne51 nin0)
   have f71 := f59.keep Kq66 (ninS ne51 nin0)
   have f72 := f60.keep Kq66 (ninS ne52 nin0)
   have f73 := f61.keep Kq66
   have f74 := f62.keep Kq66 (ninS ne53 nin0)
   have f75 := f63.keep Kq66 (ninS ne53 nin0)
   have f76 := f64.keep Kq66 (ninS ne54 nin0)
   have Zs66 := Nat.le_trans Zs49 Kq66.1
   have K66_0 := K49_0.trans Kq66 (allS (Or.inr sz49_0) all0)
   have K66_1 := K49_1.trans Kq66 (allS (Or.inr sz49_1) all0)
   refine own_goW (fun _ k => st66 _ (XS.istore X66.here hx rfl (hb hby at_87) rfl (l' := #[.val (.int p0), .val (.int p1), .val (.int p2), .val (.int p3), .val (.int p4), .val (.int p5), .val (.int (Int32.ofNat n)), .val (.ref b1), .val (.ref b39), .val (.ref r42), .val (.ref b49), .val (.int (Int32.ofNat (own_em ([cx4, cx11, cx18, cx25, cx32] : List Int32) n 0 ([] : List Int32)).length))]) rfl (XS.aload X66.here hx rfl (hb hby at_89) rfl rfl (XS.iload X66.here hx rfl (hb hby at_91) rfl (XS.iconst X66.here hx rfl (hb hby at_93) (XS.aload X66.here hx rfl (hb hby at_94) rfl rfl (XS.iload X66.here hx rfl (hb hby at_96) rfl k))))))) ?_
   obtain ⟨_, _, ⟨T77, L77, k77, n77⟩, -, X77, ⟨Lc77, hQ77, l77, y77, z77⟩, st77⟩ := Jvm.LawKit.callS X66 hx (y := Y71) hown (mvT hZ (own_h hw 231 rfl)) (mvT hZ (own_h hw 232 rfl)) (mvT hZ (own_h hw 4 rfl)) (mvT hZ (own_h hw 233 rfl)) (by decide) (backOf (W := 0) (rm45 l Z a0 hw [] b1 b49 1 k49 (own_em ([cx4, cx11, cx18, cx25, cx32] : List Int32) n 0 ([] : List Int32)) n k1 ([cx4, cx11, cx18, cx25, cx32] : List Int32) T66.heap n0 Zs66 f68 r66_0 rfl hn5 (by decide) (own_em_len (Nat.le_refl 0)) (own_all5 r4_0 r11_0 r18_0 r25_0 r32_0) gg49 ne50) hZ (own_h hw 233 rfl) (own_h hw 4 rfl) (by decide) (by decide)) (g := (mkF m 98 #[.val (.int p0), .val (.int p1), .val (.int p2), .val (.int p3), .val (.int p4), .val (.int p5), .val (.int (Int32.ofNat n)), .val (.ref b1), .val (.ref b39), .val (.ref r42), .val (.ref b49), .val (.int (Int32.ofNat (own_em ([cx4, cx11, cx18, cx25, cx32] : List Int32) n 0 ([] : List Int32)).length))] [(.int (Int32.ofNat (own_em ([cx4, cx11, cx18, cx25, cx32] : List Int32) n 0 ([] : List Int32)).length)), (.ref b49), (.int 1), (.int (Int32.ofNat n)), (.ref b1)])) rfl (by rw [hml]; rfl) (argsL := [(.ref b1), (.int (Int32.ofNat n)), (.int 1), (.ref b49), (.int (Int32.ofNat (own_em ([cx4, cx11, cx18, cx25, cx32] : List Int32) n 0 ([] : List Int32)).length))]) (rest := []) (lenOf pd_43 rfl) rfl (own_r0 _) (hb hby at_98) (fun _ _ => ⟨rfl, rfl, (by decide : 33 + 0 ≤ _), (by decide : 627 + 0 ≤ _)⟩)
   dsimp only [Pt.U, Pt.locs, Pt.cells, Pt.slots] at X77 l77 y77 z77 st77 hQ77
   rw [l77] at X77
   subst y77 z77
   obtain ⟨rfl, Nq77, Kq77, r77_0⟩ := hQ77
   have N77 := Fr.app N66 Nq77
   have f78 := f67.keep Kq77 (allS gg49 all0)
   have f79 := f68.keep Kq77 (ninS ne50 nin0)
   have f80 := f69.keep Kq77
   have f81 := f70.keep Kq77 (ninS ne51 nin0)
   have f82 := f71.keep Kq77 (ninS ne51 nin0)
   have f83 := f72.keep Kq77 (ninS ne52 nin0)
   have f84 := f73.keep Kq77
   have f85 := f74.keep Kq77 (ninS ne53 nin0)
   have f86 := f75.keep Kq77 (ninS ne53 nin0)
   have f87 := f76.keep Kq77 (ninS ne54 nin0)
   have Zs77 := Nat.le_trans Zs66 Kq77.1
   have K77_0 := K66_0.trans Kq77 (allS (Or.inr sz49_0) all0)
   have K77_1 := K66_1.trans Kq77 (allS (Or.inr sz49_1) all0)
   refine own_goW (fun _ k => st77 _ (XS.istore X77.here hx rfl (hb hby at_101) rfl (l' := #[.val (.int p0), .val (.int p1), .val (.int p2), .val (.int p3), .val (.int p4), .val (.int p5), .val (.int (Int32.ofNat n)), .val (.ref b1), .val (.ref b39), .val (.ref r42), .val (.ref b49), .val (.int (Int32.ofNat (own_em ([cx4, cx11, cx18, cx25, cx32] : List Int32) n 1 (own_em ([cx4, cx11, cx18, cx25, cx32] : List Int32) n 0 ([] : List Int32))).length))]) rfl (XS.aload X77.here hx rfl (hb hby at_103) rfl rfl (XS.iload X77.here hx rfl (hb hby at_105) rfl (XS.iconst X77.here hx rfl (hb hby at_107) (XS.aload X77.here hx rfl (hb hby at_108) rfl rfl (XS.iload X77.here hx rfl (hb hby at_110) rfl k))))))) ?_
   obtain ⟨_, _, ⟨T88, L88, k88, n88⟩, -, X88, ⟨Lc88, hQ88, l88, y88, z88⟩, st88⟩ := Jvm.LawKit.callS X77 hx (y := Y71) hown (mvT hZ (own_h hw 231 rfl)) (mvT hZ (own_h hw 232 rfl)) (mvT hZ (own_h hw 4 rfl)) (mvT hZ (own_h hw 233 rfl)) (by decide) (backOf (W := 0) (rm45 l Z a0 hw [] b1 b49 2 k49 (own_em ([cx4, cx11, cx18, cx25, cx32] : List Int32) n 1 (own_em ([cx4, cx11, cx18, cx25, cx32] : List Int32) n 0 ([] : List Int32))) n k1 ([cx4, cx11, cx18, cx25, cx32] : List Int32) T77.heap n0 Zs77 f79 r77_0 rfl hn5 (by decide) (own_em_len (own_em_len (Nat.le_refl 0))) (own_all5 r4_0 r11_0 r18_0 r25_0 r32_0) gg49 ne50) hZ (own_h hw 233 rfl) (own_h hw 4 rfl) (by decide) (by decide)) (g := (mkF m 112 #[.val (.int p0), .val (.int p1), .val (.int p2), .val (.int p3), .val (.int p4), .val (.int p5), .val (.int (Int32.ofNat n)), .val (.ref b1), .val (.ref b39), .val (.ref r42), .val (.ref b49), .val (.int (Int32.ofNat (own_em ([cx4, cx11, cx18, cx25, cx32] : List Int32) n 1 (own_em ([cx4, cx11, cx18, cx25, cx32] : List Int32) n 0 ([] : List Int32))).length))] [(.int (Int32.ofNat (own_em ([cx4, cx11, cx18, cx25, cx32] : List Int32) n 1 (own_em ([cx4, cx11, cx18, cx25, cx32] : List Int32) n 0 ([] : List Int32))).length)), (.ref b49), (.int 2), (.int (Int32.ofNat n)), (.ref b1)])) rfl (by rw [hml]; rfl) (argsL := [(.ref b1), (.int (Int32.ofNat n)), (.int 2), (.ref b49), (.int (Int32.ofNat (own_em ([cx4, cx11, cx18, cx25, cx32] : List Int32) n 1 (own_em ([cx4, cx11, cx18, cx25, cx32] : List Int32) n 0 ([] : List Int32))).length))]) (rest := []) (lenOf pd_43 rfl) rfl (own_r0 _) (hb hby at_112) (fun _ _ => ⟨rfl, rfl, (by decide : 33 + 0 ≤ _), (by decide : 627 + 0 ≤ _)⟩)
   dsimp only [Pt.U, Pt.locs, Pt.cells, Pt.slots] at X88 l88 y88 z88 st88 hQ88
   rw [l88] at X88
   subst y88 z88
   obtain ⟨rfl, Nq88, Kq88, r88_0⟩ := hQ88
   have N88 := Fr.app N77 Nq88
   have f89 := f78.keep Kq88 (allS gg49 all0)
   have f90 := f79.keep Kq88 (ninS ne50 nin0)
   have f91 := f80.keep Kq88
   have f92 := f81.keep Kq88 (ninS ne51 nin0)
   have f93 := f82.keep Kq88 (ninS ne51 nin0)
   have f94 := f83.keep Kq88 (ninS ne52 nin0)
   have f95 := f84.keep Kq88
   have f96 := f85.keep Kq88 (ninS ne53 nin0)
   have f97 := f86.keep Kq88 (ninS ne53 nin0)
   have f98 := f87.keep Kq88 (ninS ne54 nin0)
   have Zs88 := Nat.le_trans Zs77 Kq88.1
   have K88_0 := K77_0.trans Kq88 (allS (Or.inr sz49_0) all0)
   have K88_1 := K77_1.trans Kq88 (allS (Or.inr sz49_1) all0)
   refine own_goW (fun _ k => st88 _ (XS.istore X88.here hx rfl (hb hby at_115) rfl (l' := #[.val (.int p0), .val (.int p1), .val (.int p2), .val (.int p3), .val (.int p4), .val (.int p5), .val (.int (Int32.ofNat n)), .val (.ref b1), .val (.ref b39), .val (.ref r42), .val (.ref b49), .val (.int (Int32.ofNat (own_em ([cx4, cx11, cx18, cx25, cx32] : List Int32) n 2 (own_em ([cx4, cx11, cx18, cx25, cx32] : List Int32) n 1 (own_em ([cx4, cx11, cx18, cx25, cx32] : List Int32) n 0 ([] : List Int32)))).length))]) rfl (XS.aload X88.here hx rfl (hb hby at_117) rfl rfl (XS.iload X88.here hx rfl (hb hby at_119) rfl (XS.iconst X88.here hx rfl (hb hby at_121) (XS.aload X88.here hx rfl (hb hby at_122) rfl rfl (XS.iload X88.here hx rfl (hb hby at_124) rfl k))))))) ?_
   obtain ⟨_, _, ⟨T99, L99, k99, n99⟩, -, X99, ⟨Lc99, hQ99, l99, y99, z99⟩, st99⟩ := Jvm.LawKit.callS X88 hx (y := Y71) hown (mvT hZ (own_h hw 231 rfl)) (mvT hZ (own_h hw 232 rfl)) (mvT hZ (own_h hw 4 rfl)) (mvT hZ (own_h hw 233 rfl)) (by decide) (backOf (W := 0) (rm45 l Z a0 hw [] b1 b49 3 k49 (own_em ([cx4, cx11, cx18, cx25, cx32] : List Int32) n 2 (own_em ([cx4, cx11, cx18, cx25, cx32] : List Int32) n 1 (own_em ([cx4, cx11, cx18, cx25, cx32] : List Int32) n 0 ([] : List Int32)))) n k1 ([cx4, cx11, cx18, cx25, cx32] : List Int32) T88.heap n0 Zs88 f90 r88_0 rfl hn5 (by decide) (own_em_len (own_em_len (own_em_len (Nat.le_refl 0)))) (own_all5 r4_0 r11_0 r18_0 r25_0 r32_0) gg49 ne50) hZ (own_h hw 233 rfl) (own_h hw 4 rfl) (by decide) (by decide)) (g := (mkF m 126 #[.val (.int p0), .val (.int p1), .val (.int p2), .val (.int p3), .val (.int p4), .val (.int p5), .val (.int (Int32.ofNat n)), .val (.ref b1), .val (.ref b39), .val (.ref r42), .val (.ref b49), .val (.int (Int32.ofNat (own_em ([cx4, cx11, cx18, cx25, cx32] : List Int32) n 2 (own_em ([cx4, cx11, cx18, cx25, cx32] : List Int32) n 1 (own_em ([cx4, cx11, cx18, cx25, cx32] : List Int32) n 0 ([] : List Int32)))).length))] [(.int (Int32.ofNat (own_em ([cx4, cx11, cx18, cx25, cx32] : List Int32) n 2 (own_em ([cx4, cx11, cx18, cx25, cx32] : List Int32) n 1 (own_em ([cx4, cx11, cx18, cx25, cx32] : List Int32) n 0 ([] : List Int32)))).length)), (.ref b49), (.int 3), (.int (Int32.ofNat n)), (.ref b1)])) rfl (by rw [hml]; rfl) (argsL := [(.ref b1), (.int (Int32.ofNat n)), (.int 3), (.ref b49), (.int (Int32.ofNat (own_em ([cx4, cx11, cx18, cx25, cx32] : List Int32) n 2 (own_em ([cx4, cx11, cx18, cx25, cx32] : List Int32) n 1 (own_em ([cx4, cx11, cx18, cx25, cx32] : List Int32) n 0 ([] : List Int32)))).length))]) (rest := []) (lenOf pd_43 rfl) rfl (own_r0 _) (hb hby at_126) (fun _ _ => ⟨rfl, rfl, (by decide : 33 + 0 ≤ _), (by decide : 627 + 0 ≤ _)⟩)
   dsimp only [Pt.U, Pt.locs, Pt.cells, Pt.slots] at X99 l99 y99 z99 st99 hQ99
   rw [l99] at X99
   subst y99 z99
   obtain ⟨rfl, Nq99, Kq99, r99_0⟩ := hQ99
   have N99 := Fr.app N88 Nq99
   have f100 := f89.keep Kq99 (allS gg49 all0)
   have f101 := f90.keep Kq99 (ninS ne50 nin0)
   have f102 := f91.keep Kq99
   have f103 := f92.keep Kq99 (ninS ne51 nin0)
   have f104 := f93.keep Kq99 (ninS ne51 nin0)
   have f105 := f94.keep Kq99 (ninS ne52 nin0)
   have f106 := f95.keep Kq99
   have f107 := f96.keep Kq99 (ninS ne53 nin0)
   have f108 := f97.keep Kq99 (ninS ne53 nin0)
   have f109 := f98.keep Kq99 (ninS ne54 nin0)
   have Zs99 := Nat.le_trans Zs88 Kq99.1
   have K99_0 := K88_0.trans Kq99 (allS (Or.inr sz49_0) all0)
   have K99_1 := K88_1.trans Kq99 (allS (Or.inr sz49_1) all0)
   refine own_goW (fun _ k => st99 _ (XS.istore X99.here hx rfl (hb hby at_129) rfl (l' := #[.val (.int p0), .val (.int p1), .val (.int p2), .val (.int p3), .val (.int p4), .val (.int p5), .val (.int (Int32.ofNat n)), .val (.ref b1), .val (.ref b39), .val (.ref r42), .val (.ref b49), .val (.int (Int32.ofNat (own_em ([cx4, cx11, cx18, cx25, cx32] : List Int32) n 3 (own_em ([cx4, cx11, cx18, cx25, cx32] : List Int32) n 2 (own_em ([cx4, cx11, cx18, cx25, cx32] : List Int32) n 1 (own_em ([cx4, cx11, cx18, cx25, cx32] : List Int32) n 0 ([] : List Int32))))).length))]) rfl (XS.aload X99.here hx rfl (hb hby at_131) rfl rfl (XS.iload X99.here hx rfl (hb hby at_133) rfl (XS.iconst X99.here hx rfl (hb hby at_135) (XS.aload X99.here hx rfl (hb hby at_136) rfl rfl (XS.iload X99.here hx rfl (hb hby at_138) rfl k))))))) ?_
   obtain ⟨_, _, ⟨T110, L110, k110, n110⟩, -, X110, ⟨Lc110, hQ110, l110, y110, z110⟩, st110⟩ := Jvm.LawKit.callS X99 hx (y := Y71) hown (mvT hZ (own_h hw 231 rfl)) (mvT hZ (own_h hw 232 rfl)) (mvT hZ (own_h hw 4 rfl)) (mvT hZ (own_h hw 233 rfl)) (by decide) (backOf (W := 0) (rm45 l Z a0 hw [] b1 b49 4 k49 (own_em ([cx4, cx11, cx18, cx25, cx32] : List Int32) n 3 (own_em ([cx4, cx11, cx18, cx25, cx32] : List Int32) n 2 (own_em ([cx4, cx11, cx18, cx25, cx32] : List Int32) n 1 (own_em ([cx4, cx11, cx18, cx25, cx32] : List Int32) n 0 ([] : List Int32))))) n k1 ([cx4, cx11, cx18, cx25, cx32] : List Int32) T99.heap n0 Zs99 f101 r99_0 rfl hn5 (by decide) (own_em_len (own_em_len (own_em_len (own_em_len (Nat.le_refl 0))))) (own_all5 r4_0 r11_0 r18_0 r25_0 r32_0) gg49 ne50) hZ (own_h hw 233 rfl) (own_h hw 4 rfl) (by decide) (by decide)) (g := (mkF m 140 #[.val (.int p0), .val (.int p1), .val (.int p2), .val (.int p3), .val (.int p4), .val (.int p5), .val (.int (Int32.ofNat n)), .val (.ref b1), .val (.ref b39), .val (.ref r42), .val (.ref b49), .val (.int (Int32.ofNat (own_em ([cx4, cx11, cx18, cx25, cx32] : List Int32) n 3 (own_em ([cx4, cx11, cx18, cx25, cx32] : List Int32) n 2 (own_em ([cx4, cx11, cx18, cx25, cx32] : List Int32) n 1 (own_em ([cx4, cx11, cx18, cx25, cx32] : List Int32) n 0 ([] : List Int32))))).length))] [(.int (Int32.ofNat (own_em ([cx4, cx11, cx18, cx25, cx32] : List Int32) n 3 (own_em ([cx4, cx11, cx18, cx25, cx32] : List Int32) n 2 (own_em ([cx4, cx11, cx18, cx25, cx32] : List Int32) n 1 (own_em ([cx4, cx11, cx18, cx25, cx32] : List Int32) n 0 ([] : List Int32))))).length)), (.ref b49), (.int 4), (.int (Int32.ofNat n)), (.ref b1)])) rfl (by rw [hml]; rfl) (argsL := [(.ref b1), (.int (Int32.ofNat n)), (.int 4), (.ref b49), (.int (Int32.ofNat (own_em ([cx4, cx11, cx18, cx25, cx32] : List Int32) n 3 (own_em ([cx4, cx11, cx18, cx25, cx32] : List Int32) n 2 (own_em ([cx4, cx11, cx18, cx25, cx32] : List Int32) n 1 (own_em ([cx4, cx11, cx18, cx25, cx32] : List Int32) n 0 ([] : List Int32))))).length))]) (rest := []) (lenOf pd_43 rfl) rfl (own_r0 _) (hb hby at_140) (fun _ _ => ⟨rfl, rfl, (by decide : 33 + 0 ≤ _), (by decide : 627 + 0 ≤ _)⟩)
   dsimp only [Pt.U, Pt.locs, Pt.cells, Pt.slots] at X110 l110 y110 z110 st110 hQ110
   rw [l110] at X110
   subst y110 z110
   obtain ⟨rfl, Nq110, Kq110, r110_0⟩ := hQ110
   have N110 := Fr.app N99 Nq110
   have f111 := f100.keep Kq110 (allS gg49 all0)
   have f112 := f101.keep Kq110 (ninS ne50 nin0)
   have f113 := f102.keep Kq110
   have f114 := f103.keep Kq110 (ninS ne51 nin0)
   have f115 := f104.keep Kq110 (ninS ne51 nin0)
   have f116 := f105.keep Kq110 (ninS ne52 nin0)
   have f117 := f106.keep Kq110
   have f118 := f107.keep Kq110 (ninS ne53 nin0)
   have f119 := f108.keep Kq110 (ninS ne53 nin0)
   have f120 := f109.keep Kq110 (ninS ne54 nin0)
   have Zs110 := Nat.le_trans Zs99 Kq110.1
   have K110_0 := K99_0.trans Kq110 (allS (Or.inr sz49_0) all0)
   have K110_1 := K99_1.trans Kq110 (allS (Or.inr sz49_1) all0)
   refine own_goW (fun _ k => st110 _ (XS.istore X110.here hx rfl (hb hby at_143) rfl (l' := #[.val (.int p0), .val (.int p1), .val (.int p2), .val (.int p3), .val (.int p4), .val (.int p5), .val (.int (Int32.ofNat n)), .val (.ref b1), .val (.ref b39), .val (.ref r42), .val (.ref b49), .val (.int (Int32.ofNat (own_em ([cx4, cx11, cx18, cx25, cx32] : List Int32) n 4 (own_em ([cx4, cx11, cx18, cx25, cx32] : List Int32) n 3 (own_em ([cx4, cx11, cx18, cx25, cx32] : List Int32) n 2 (own_em ([cx4, cx11, cx18, cx25, cx32] : List Int32) n 1 (own_em ([cx4, cx11, cx18, cx25, cx32] : List Int32) n 0 ([] : List Int32)))))).length))]) rfl k)) ?_
   show own_GW _ _ _ (T110.setTop (mkF m 145 #[.val (.int p0), .val (.int p1), .val (.int p2), .val (.int p3), .val (.int p4), .val (.int p5), .val (.int (Int32.ofNat n)), .val (.ref b1), .val (.ref b39), .val (.ref r42), .val (.ref b49), .val (.int (Int32.ofNat (own_em ([cx4, cx11, cx18, cx25, cx32] : List Int32) n 4 (own_em ([cx4, cx11, cx18, cx25, cx32] : List Int32) n 3 (own_em ([cx4, cx11, cx18, cx25, cx32] : List Int32) n 2 (own_em ([cx4, cx11, cx18, cx25, cx32] : List Int32) n 1 (own_em ([cx4, cx11, cx18, cx25, cx32] : List Int32) n 0 ([] : List Int32)))))).length))] [])) _ _ _ _ _ _
   have hlaw : own_DL (([cx4, cx11, cx18, cx25, cx32] : List Int32).take n) = (own_em ([cx4, cx11, cx18, cx25, cx32] : List Int32) n 4 (own_em ([cx4, cx11, cx18, cx25, cx32] : List Int32) n 3 (own_em ([cx4, cx11, cx18, cx25, cx32] : List Int32) n 2 (own_em ([cx4, cx11, cx18, cx25, cx32] : List Int32) n 1 (own_em ([cx4, cx11, cx18, cx25, cx32] : List Int32) n 0 ([] : List Int32)))))) := own_law cx4 cx11 cx18 cx25 cx32 n hn5
   · skip
     refine own_goW (fun _ k => XS.aload X110.here hx rfl (hb hby at_145) rfl rfl (XS.ifnullNo X110.here hx rfl (hb hby at_147) rfl (XS.aload X110.here hx rfl (hb hby at_150) rfl rfl k))) ?_
     obtain ⟨cq121, kq121, q121a, q121b, q121c⟩ := isOf hZ rfl f117
     obtain ⟨_, _, ⟨T121, L121, k121, n121⟩, -, X121, ⟨Lc121, hQ121, l121, y121, z121⟩, st121⟩ := X110.virtualBack hx (y := Y15) (z := Y15) hown (mvT hZ (own_h hw 240 rfl)) (mvT hZ (own_h hw 79 rfl)) (notFace_of_selects (args := #[]) (mvT hZ (own_h hw 81 rfl))) (mvT hZ (own_h hw 81 rfl)) (mvT hZ (own_h hw 80 rfl)) (by decide) (backOf (W := 0) (rm17 l Z a0 hw [] r42 zc fm cr42 tr42 kr42 (own_DL (([cx4, cx11, cx18, cx25, cx32] : List Int32).take n)) T110.heap n0 Zs110 f111 HA f117 f118 f119 f120 r42_4) hZ (own_h hw 82 rfl) (own_h hw 8 rfl) (by decide) (by decide)) q121a q121c (g := (mkF m 152 #[.val (.int p0), .val (.int p1), .val (.int p2), .val (.int p3), .val (.int p4), .val (.int p5), .val (.int (Int32.ofNat n)), .val (.ref b1), .val (.ref b39), .val (.ref r42), .val (.ref b49), .val (.int (Int32.ofNat (own_em ([cx4, cx11, cx18, cx25, cx32] : List Int32) n 4 (own_em ([cx4, cx11, cx18, cx25, cx32] : List Int32) n 3 (own_em ([cx4, cx11, cx18, cx25, cx32] : List Int32) n 2 (own_em ([cx4, cx11, cx18, cx25, cx32] : List Int32) n 1 (own_em ([cx4, cx11, cx18, cx25, cx32] : List Int32) n 0 ([] : List Int32)))))).length))] [(.ref r42)])) rfl (by rw [hml]; rfl) (Steps.refl _) (argsL := []) (rest := []) (lenOf pd_13 rfl) rfl (own_r0 _) (hb hby at_152) (fun _ _ => ⟨rfl, rfl, (by decide : 33 + 0 ≤ _), (by decide : 627 + 0 ≤ _)⟩)
     dsimp only [Pt.U, Pt.locs, Pt.cells, Pt.slots] at X121 l121 y121 z121 st121 hQ121
     rw [l121] at X121
     subst y121 z121
     obtain ⟨rfl, Nq121, eh121⟩ := hQ121
     have N121 := Fr.app N110 Nq121
     refine own_goW (fun _ k => st121.trans (XS.iload X121.here hx rfl (hb hby at_155) rfl k)) ?_
     show own_GW _ _ _ (T121.setTop (mkF m 157 #[.val (.int p0), .val (.int p1), .val (.int p2), .val (.int p3), .val (.int p4), .val (.int p5), .val (.int (Int32.ofNat n)), .val (.ref b1), .val (.ref b39), .val (.ref r42), .val (.ref b49), .val (.int (Int32.ofNat (own_em ([cx4, cx11, cx18, cx25, cx32] : List Int32) n 4 (own_em ([cx4, cx11, cx18, cx25, cx32] : List Int32) n 3 (own_em ([cx4, cx11, cx18, cx25, cx32] : List Int32) n 2 (own_em ([cx4, cx11, cx18, cx25, cx32] : List Int32) n 1 (own_em ([cx4, cx11, cx18, cx25, cx32] : List Int32) n 0 ([] : List Int32)))))).length))] [(.int (Int32.ofNat (own_em ([cx4, cx11, cx18, cx25, cx32] : List Int32) n 4 (own_em ([cx4, cx11, cx18, cx25, cx32] : List Int32) n 3 (own_em ([cx4, cx11, cx18, cx25, cx32] : List Int32) n 2 (own_em ([cx4, cx11, cx18, cx25, cx32] : List Int32) n 1 (own_em ([cx4, cx11, cx18, cx25, cx32] : List Int32) n 0 ([] : List Int32)))))).length)), (.int (Int32.ofNat (own_DL (([cx4, cx11, cx18, cx25, cx32] : List Int32).take n)).length))])) _ _ _ _ _ _
     have hc122 : (Int32.ofNat (own_DL (([cx4, cx11, cx18, cx25, cx32] : List Int32).take n)).length) = (Int32.ofNat (own_em ([cx4, cx11, cx18, cx25, cx32] : List Int32) n 4 (own_em ([cx4, cx11, cx18, cx25, cx32] : List Int32) n 3 (own_em ([cx4, cx11, cx18, cx25, cx32] : List Int32) n 2 (own_em ([cx4, cx11, cx18, cx25, cx32] : List Int32) n 1 (own_em ([cx4, cx11, cx18, cx25, cx32] : List Int32) n 0 ([] : List Int32)))))).length) := (by rw [hlaw])
     refine own_goW (fun _ k => XS.icmpYes X121.here hx rfl (pc0 := 157) (pc' := 162) rfl (hb hby at_157) rfl (teq hc122).1 (by decide) (by decide) (XS.aload X121.here hx rfl (hb hby at_162) rfl rfl (XS.aload X121.here hx rfl (hb hby at_164) rfl rfl (XS.iload X121.here hx rfl (hb hby at_166) rfl (XS.iconst X121.here hx rfl (hb hby at_168) k))))) ?_
     obtain ⟨_, _, ⟨T123, L123, k123, n123⟩, -, X123, ⟨Lc123, hQ123, l123, y123, z123⟩, st123⟩ := Jvm.LawKit.callS X121 hx (y := Y72) hown (mvT hZ (own_h hw 241 rfl)) (mvT hZ (own_h hw 242 rfl)) (mvT hZ (own_h hw 4 rfl)) (mvT hZ (own_h hw 243 rfl)) (by decide) (backOf (W := 0) (rm48 l Z a0 hw [] r42 b49 0 k49 (own_em ([cx4, cx11, cx18, cx25, cx32] : List Int32) n 4 (own_em ([cx4, cx11, cx18, cx25, cx32] : List Int32) n 3 (own_em ([cx4, cx11, cx18, cx25, cx32] : List Int32) n 2 (own_em ([cx4, cx11, cx18, cx25, cx32] : List Int32) n 1 (own_em ([cx4, cx11, cx18, cx25, cx32] : List Int32) n 0 ([] : List Int32)))))) zc fm cr42 tr42 kr42 (own_DL (([cx4, cx11, cx18, cx25, cx32] : List Int32).take n)) T110.heap n0 Zs110 f111 HA f117 f118 f119 f120 r42_4 r110_0 hlaw (own_em_len (own_em_len (own_em_len (own_em_len (own_em_len (Nat.le_refl 0)))))) (by decide)) hZ (own_h hw 243 rfl) (own_h hw 4 rfl) (by decide) (by decide)) (g := (mkF m 169 #[.val (.int p0), .val (.int p1), .val (.int p2), .val (.int p3), .val (.int p4), .val (.int p5), .val (.int (Int32.ofNat n)), .val (.ref b1), .val (.ref b39), .val (.ref r42), .val (.ref b49), .val (.int (Int32.ofNat (own_em ([cx4, cx11, cx18, cx25, cx32] : List Int32) n 4 (own_em ([cx4, cx11, cx18, cx25, cx32] : List Int32) n 3 (own_em ([cx4, cx11, cx18, cx25, cx32] : List Int32) n 2 (own_em ([cx4, cx11, cx18, cx25, cx32] : List Int32) n 1 (own_em ([cx4, cx11, cx18, cx25, cx32] : List Int32) n 0 ([] : List Int32)))))).length))] [(.int 0), (.int (Int32.ofNat (own_em ([cx4, cx11, cx18, cx25, cx32] : List Int32) n 4 (own_em ([cx4, cx11, cx18, cx25, cx32] : List Int32) n 3 (own_em ([cx4, cx11, cx18, cx25, cx32] : List Int32) n 2 (own_em ([cx4, cx11, cx18, cx25, cx32] : List Int32) n 1 (own_em ([cx4, cx11, cx18, cx25, cx32] : List Int32) n 0 ([] : List Int32)))))).length)), (.ref b49), (.ref r42)])) rfl (by rw [hml]; rfl) (argsL := [(.ref r42), (.ref b49), (.int (Int32.ofNat (own_em ([cx4, cx11, cx18, cx25, cx32] : List Int32) n 4 (own_em ([cx4, cx11, cx18, cx25, cx32] : List Int32) n 3 (own_em ([cx4, cx11, cx18, cx25, cx32] : List Int32) n 2 (own_em ([cx4, cx11, cx18, cx25, cx32] : List Int32) n 1 (own_em ([cx4, cx11, cx18, cx25, cx32] : List Int32) n 0 ([] : List Int32)))))).length)), (.int 0)]) (rest := []) (lenOf pd_44 rfl) rfl (own_r0 _) (hb hby at_169) (fun _ _ => ⟨rfl, eh121, (by decide : 33 + 0 ≤ _), (by decide : 627 + 0 ≤ _)⟩)
     dsimp only [Pt.U, Pt.locs, Pt.cells, Pt.slots] at X123 l123 y123 z123 st123 hQ123
     rw [l123] at X123
     subst y123 z123
     obtain ⟨rfl, Nq123, eh123⟩ := hQ123
     have N123 := Fr.app N121 Nq123
     refine own_goW (fun _ k => st123 _ k) ?_
     show own_GW _ _ _ (T123.setTop (mkF m 172 #[.val (.int p0), .val (.int p1), .val (.int p2), .val (.int p3), .val (.int p4), .val (.int p5), .val (.int (Int32.ofNat n)), .val (.ref b1), .val (.ref b39), .val (.ref r42), .val (.ref b49), .val (.int (Int32.ofNat (own_em ([cx4, cx11, cx18, cx25, cx32] : List Int32) n 4 (own_em ([cx4, cx11, cx18, cx25, cx32] : List Int32) n 3 (own_em ([cx4, cx11, cx18, cx25, cx32] : List Int32) n 2 (own_em ([cx4, cx11, cx18, cx25, cx32] : List Int32) n 1 (own_em ([cx4, cx11, cx18, cx25, cx32] : List Int32) n 0 ([] : List Int32)))))).length))] [(.int 1)])) _ _ _ _ _ _
     have hc124 : ¬ ((1 : Int32) = (0 : Int32)) := (by decide)
     refine own_goW (fun _ k => XS.ifNo X123.here hx rfl (hb hby at_172) rfl ((if0 _ _).trans (feq hc124).1) (XS.aload X123.here hx rfl (hb hby at_175) rfl rfl (XS.aload X123.here hx rfl (hb hby at_177) rfl rfl (XS.iload X123.here hx rfl (hb hby at_179) rfl (XS.iconst X123.here hx rfl (hb hby at_181) k))))) ?_
     obtain ⟨_, _, ⟨T125, L125, k125, n125⟩, -, X125, ⟨Lc125, hQ125, l125, y125, z125⟩, st125⟩ := Jvm.LawKit.callS X123 hx (y := Y72) hown (mvT hZ (own_h hw 241 rfl)) (mvT hZ (own_h hw 242 rfl)) (mvT hZ (own_h hw 4 rfl)) (mvT hZ (own_h hw 243 rfl)) (by decide) (backOf (W := 0) (rm48 l Z a0 hw [] r42 b49 1 k49 (own_em ([cx4, cx11, cx18, cx25, cx32] : List Int32) n 4 (own_em ([cx4, cx11, cx18, cx25, cx32] : List Int32) n 3 (own_em ([cx4, cx11, cx18, cx25, cx32] : List Int32) n 2 (own_em ([cx4, cx11, cx18, cx25, cx32] : List Int32) n 1 (own_em ([cx4, cx11, cx18, cx25, cx32] : List Int32) n 0 ([] : List Int32)))))) zc fm cr42 tr42 kr42 (own_DL (([cx4, cx11, cx18, cx25, cx32] : List Int32).take n)) T110.heap n0 Zs110 f111 HA f117 f118 f119 f120 r42_4 r110_0 hlaw (own_em_len (own_em_len (own_em_len (own_em_len (own_em_len (Nat.le_refl 0)))))) (by decide)) hZ (own_h hw 243 rfl) (own_h hw 4 rfl) (by decide) (by decide)) (g := (mkF m 182 #[.val (.int p0), .val (.int p1), .val (.int p2), .val (.int p3), .val (.int p4), .val (.int p5), .val (.int (Int32.ofNat n)), .val (.ref b1), .val (.ref b39), .val (.ref r42), .val (.ref b49), .val (.int (Int32.ofNat (own_em ([cx4, cx11, cx18, cx25, cx32] : List Int32) n 4 (own_em ([cx4, cx11, cx18, cx25, cx32] : List Int32) n 3 (own_em ([cx4, cx11, cx18, cx25, cx32] : List Int32) n 2 (own_em ([cx4, cx11, cx18, cx25, cx32] : List Int32) n 1 (own_em ([cx4, cx11, cx18, cx25, cx32] : List Int32) n 0 ([] : List Int32)))))).length))] [(.int 1), (.int (Int32.ofNat (own_em ([cx4, cx11, cx18, cx25, cx32] : List Int32) n 4 (own_em ([cx4, cx11, cx18, cx25, cx32] : List Int32) n 3 (own_em ([cx4, cx11, cx18, cx25, cx32] : List Int32) n 2 (own_em ([cx4, cx11, cx18, cx25, cx32] : List Int32) n 1 (own_em ([cx4, cx11, cx18, cx25, cx32] : List Int32) n 0 ([] : List Int32)))))).length)), (.ref b49), (.ref r42)])) rfl (by rw [hml]; rfl) (argsL := [(.ref r42), (.ref b49), (.int (Int32.ofNat (own_em ([cx4, cx11, cx18, cx25, cx32] : List Int32) n 4 (own_em ([cx4, cx11, cx18, cx25, cx32] : List Int32) n 3 (own_em ([cx4, cx11, cx18, cx25, cx32] : List Int32) n 2 (own_em ([cx4, cx11, cx18, cx25, cx32] : List Int32) n 1 (own_em ([cx4, cx11, cx18, cx25, cx32] : List Int32) n 0 ([] : List Int32)))))).length)), (.int 1)]) (rest := []) (lenOf pd_44 rfl) rfl (own_r0 _) (hb hby at_182) (fun _ _ => ⟨rfl, eh123, (by decide : 33 + 0 ≤ _), (by decide : 627 + 0 ≤ _)⟩)
     dsimp only [Pt.U, Pt.locs, Pt.cells, Pt.slots] at X125 l125 y125 z125 st125 hQ125
     rw [l125] at X125
     subst y125 z125
     obtain ⟨rfl, Nq125, eh125⟩ := hQ125
     have N125 := Fr.app N123 Nq125
     refine own_goW (fun _ k => st125 _ k) ?_
     show own_GW _ _ _ (T125.setTop (mkF m 185 #[.val (.int p0), .val (.int p1), .val (.int p2), .val (.int p3), .val (.int p4), .val (.int p5), .val (.int (Int32.ofNat n)), .val (.ref b1), .val (.ref b39), .val (.ref r42), .val (.ref b49), .val (.int (Int32.ofNat (own_em ([cx4, cx11, cx18, cx25, cx32] : List Int32) n 4 (own_em ([cx4, cx11, cx18, cx25, cx32] : List Int32) n 3 (own_em ([cx4, cx11, cx18, cx25, cx32] : List Int32) n 2 (own_em ([cx4, cx11, cx18, cx25, cx32] : List Int32) n 1 (own_em ([cx4, cx11, cx18, cx25, cx32] : List Int32) n 0 ([] : List Int32)))))).length))] [(.int 1)])) _ _ _ _ _ _
     have hc126 : ¬ ((1 : Int32) = (0 : Int32)) := (by decide)
     refine own_goW (fun _ k => XS.ifNo X125.here hx rfl (hb hby at_185) rfl ((if0 _ _).trans (feq hc126).1) (XS.aload X125.here hx rfl (hb hby at_188) rfl rfl (XS.aload X125.here hx rfl (hb hby at_190) rfl rfl (XS.iload X125.here hx rfl (hb hby at_192) rfl (XS.iconst X125.here hx rfl (hb hby at_194) k))))) ?_
     obtain ⟨_, _, ⟨T127, L127, k127, n127⟩, -, X127, ⟨Lc127, hQ127, l127, y127, z127⟩, st127⟩ := Jvm.LawKit.callS X125 hx (y := Y72) hown (mvT hZ (own_h hw 241 rfl)) (mvT hZ (own_h hw 242 rfl)) (mvT hZ (own_h hw 4 rfl)) (mvT hZ (own_h hw 243 rfl)) (by decide) (backOf (W := 0) (rm48 l Z a0 hw [] r42 b49 2 k49 (own_em ([cx4, cx11, cx18, cx25, cx32] : List Int32) n 4 (own_em ([cx4, cx11, cx18, cx25, cx32] : List Int32) n 3 (own_em ([cx4, cx11, cx18, cx25, cx32] : List Int32) n 2 (own_em ([cx4, cx11, cx18, cx25, cx32] : List Int32) n 1 (own_em ([cx4, cx11, cx18, cx25, cx32] : List Int32) n 0 ([] : List Int32)))))) zc fm cr42 tr42 kr42 (own_DL (([cx4, cx11, cx18, cx25, cx32] : List Int32).take n)) T110.heap n0 Zs110 f111 HA f117 f118 f119 f120 r42_4 r110_0 hlaw (own_em_len (own_em_len (own_em_len (own_em_len (own_em_len (Nat.le_refl 0)))))) (by decide)) hZ (own_h hw 243 rfl) (own_h hw 4 rfl) (by decide) (by decide)) (g := (mkF m 195 #[.val (.int p0), .val (.int p1), .val (.int p2), .val (.int p3), .val (.int p4), .val (.int p5), .val (.int (Int32.ofNat n)), .val (.ref b1), .val (.ref b39), .val (.ref r42), .val (.ref b49), .val (.int (Int32.ofNat (own_em ([cx4, cx11, cx18, cx25, cx32] : List Int32) n 4 (own_em ([cx4, cx11, cx18, cx25, cx32] : List Int32) n 3 (own_em ([cx4, cx11, cx18, cx25, cx32] : List Int32) n 2 (own_em ([cx4, cx11, cx18, cx25, cx32] : List Int32) n 1 (own_em ([cx4, cx11, cx18, cx25, cx32] : List Int32) n 0 ([] : List Int32)))))).length))] [(.int 2), (.int (Int32.ofNat (own_em ([cx4, cx11, cx18, cx25, cx32] : List Int32) n 4 (own_em ([cx4, cx11, cx18, cx25, cx32] : List Int32) n 3 (own_em ([cx4, cx11, cx18, cx25, cx32] : List Int32) n 2 (own_em ([cx4, cx11, cx18, cx25, cx32] : List Int32) n 1 (own_em ([cx4, cx11, cx18, cx25, cx32] : List Int32) n 0 ([] : List Int32)))))).length)), (.ref b49), (.ref r42)])) rfl (by rw [hml]; rfl) (argsL := [(.ref r42), (.ref b49), (.int (Int32.ofNat (own_em ([cx4, cx11, cx18, cx25, cx32] : List Int32) n 4 (own_em ([cx4, cx11, cx18, cx25, cx32] : List Int32) n 3 (own_em ([cx4, cx11, cx18, cx25, cx32] : List Int32) n 2 (own_em ([cx4, cx11, cx18, cx25, cx32] : List Int32) n 1 (own_em ([cx4, cx11, cx18, cx25, cx32] : List Int32) n 0 ([] : List Int32)))))).length)), (.int 2)]) (rest := []) (lenOf pd_44 rfl) rfl (own_r0 _) (hb hby at_195) (fun _ _ => ⟨rfl, eh125, (by decide : 33 + 0 ≤ _), (by decide : 627 + 0 ≤ _)⟩)
     dsimp only [Pt.U, Pt.locs, Pt.cells, Pt.slots] at X127 l127 y127 z127 st127 hQ127
     rw [l127] at X127
     subst y127 z127
     obtain ⟨rfl, Nq127, eh127⟩ := hQ127
     have N127 := Fr.app N125 Nq127
     refine own_goW (fun _ k => st127 _ k) ?_
     show own_GW _ _ _ (T127.setTop (mkF m 198 #[.val (.int p0), .val (.int p1), .val (.int p2), .val (.int p3), .val (.int p4), .val (.int p5), .val (.int (Int32.ofNat n)), .val (.ref b1), .val (.ref b39), .val (.ref r42), .val (.ref b49), .val (.int (Int32.ofNat (own_em ([cx4, cx11, cx18, cx25, cx32] : List Int32) n 4 (own_em ([cx4, cx11, cx18, cx25, cx32] : List Int32) n 3 (own_em ([cx4, cx11, cx18, cx25, cx32] : List Int32) n 2 (own_em ([cx4, cx11, cx18, cx25, cx32] : List Int32) n 1 (own_em ([cx4, cx11, cx18, cx25, cx32] : List Int32) n 0 ([] : List Int32)))))).length))] [(.int 1)])) _ _ _ _ _ _
     have hc128 : ¬ ((1 : Int32) = (0 : Int32)) := (by decide)
     refine own_goW (fun _ k => XS.ifNo X127.here hx rfl (hb hby at_198) rfl ((if0 _ _).trans (feq hc128).1) (XS.aload X127.here hx rfl (hb hby at_201) rfl rfl (XS.aload X127.here hx rfl (hb hby at_203) rfl rfl (XS.iload X127.here hx rfl (hb hby at_205) rfl (XS.iconst X127.here hx rfl (hb hby at_207) k))))) ?_
     obtain ⟨_, _, ⟨T129, L129, k129, n129⟩, -, X129, ⟨Lc129, hQ129, l129, y129, z129⟩, st129⟩ := Jvm.LawKit.callS X127 hx (y := Y72) hown (mvT hZ (own_h hw 241 rfl)) (mvT hZ (own_h hw 242 rfl)) (mvT hZ (own_h hw 4 rfl)) (mvT hZ (own_h hw 243 rfl)) (by decide) (backOf (W := 0) (rm48 l Z a0 hw [] r42 b49 3 k49 (own_em ([cx4, cx11, cx18, cx25, cx32] : List Int32) n 4 (own_em ([cx4, cx11, cx18, cx25, cx32] : List Int32) n 3 (own_em ([cx4, cx11, cx18, cx25, cx32] : List Int32) n 2 (own_em ([cx4, cx11, cx18, cx25, cx32] : List Int32) n 1 (own_em ([cx4, cx11, cx18, cx25, cx32] : List Int32) n 0 ([] : List Int32)))))) zc fm cr42 tr42 kr42 (own_DL (([cx4, cx11, cx18, cx25, cx32] : List Int32).take n)) T110.heap n0 Zs110 f111 HA f117 f118 f119 f120 r42_4 r110_0 hlaw (own_em_len (own_em_len (own_em_len (own_em_len (own_em_len (Nat.le_refl 0)))))) (by decide)) hZ (own_h hw 243 rfl) (own_h hw 4 rfl) (by decide) (by decide)) (g := (mkF m 208 #[.val (.int p0), .val (.int p1), .val (.int p2), .val (.int p3), .val (.int p4), .val (.int p5), .val (.int (Int32.ofNat n)), .val (.ref b1), .val (.ref b39), .val (.ref r42), .val (.ref b49), .val (.int (Int32.ofNat (own_em ([cx4, cx11, cx18, cx25, cx32] : List Int32) n 4 (own_em ([cx4, cx11, cx18, cx25, cx32] : List Int32) n 3 (own_em ([cx4, cx11, cx18, cx25, cx32] : List Int32) n 2 (own_em ([cx4, cx11, cx18, cx25, cx32] : List Int32) n 1 (own_em ([cx4, cx11, cx18, cx25, cx32] : List Int32) n 0 ([] : List Int32)))))).length))] [(.int 3), (.int (Int32.ofNat (own_em ([cx4, cx11, cx18, cx25, cx32] : List Int32) n 4 (own_em ([cx4, cx11, cx18, cx25, cx32] : List Int32) n 3 (own_em ([cx4, cx11, cx18, cx25, cx32] : List Int32) n 2 (own_em ([cx4, cx11, cx18, cx25, cx32] : List Int32) n 1 (own_em ([cx4, cx11, cx18, cx25, cx32] : List Int32) n 0 ([] : List Int32)))))).length)), (.ref b49), (.ref r42)])) rfl (by rw [hml]; rfl) (argsL := [(.ref r42), (.ref b49), (.int (Int32.ofNat (own_em ([cx4, cx11, cx18, cx25, cx32] : List Int32) n 4 (own_em ([cx4, cx11, cx18, cx25, cx32] : List Int32) n 3 (own_em ([cx4, cx11, cx18, cx25, cx32] : List Int32) n 2 (own_em ([cx4, cx11, cx18, cx25, cx32] : List Int32) n 1 (own_em ([cx4, cx11, cx18, cx25, cx32] : List Int32) n 0 ([] : List Int32)))))).length)), (.int 3)]) (rest := []) (lenOf pd_44 rfl) rfl (own_r0 _) (hb hby at_208) (fun _ _ => ⟨rfl, eh127, (by decide : 33 + 0 ≤ _), (by decide : 627 + 0 ≤ _)⟩)
     dsimp only [Pt.U, Pt.locs, Pt.cells, Pt.slots] at X129 l129 y129 z129 st129 hQ129
     rw [l129] at X129
     subst y129 z129
     obtain ⟨rfl, Nq129, eh129⟩ := hQ129
     have N129 := Fr.app N127 Nq129
     refine own_goW (fun _ k => st129 _ k) ?_
     show own_GW _ _ _ (T129.setTop (mkF m 211 #[.val (.int p0), .val (.int p1), .val (.int p2), .val (.int p3), .val (.int p4), .val (.int p5), .val (.int (Int32.ofNat n)), .val (.ref b1), .val (.ref b39), .val (.ref r42), .val (.ref b49), .val (.int (Int32.ofNat (own_em ([cx4, cx11, cx18, cx25, cx32] : List Int32) n 4 (own_em ([cx4, cx11, cx18, cx25, cx32] : List Int32) n 3 (own_em ([cx4, cx11, cx18, cx25, cx32] : List Int32) n 2 (own_em ([cx4, cx11, cx18, cx25, cx32] : List Int32) n 1 (own_em ([cx4, cx11, cx18, cx25, cx32] : List Int32) n 0 ([] : List Int32)))))).length))] [(.int 1)])) _ _ _ _ _ _
     have hc130 : ¬ ((1 : Int32) = (0 : Int32)) := (by decide)
     refine own_goW (fun _ k => XS.ifNo X129.here hx rfl (hb hby at_211) rfl ((if0 _ _).trans (feq hc130).1) (XS.aload X129.here hx rfl (hb hby at_214) rfl rfl (XS.aload X129.here hx rfl (hb hby at_216) rfl rfl (XS.iload X129.here hx rfl (hb hby at_218) rfl (XS.iconst X129.here hx rfl (hb hby at_220) k))))) ?_
     obtain ⟨_, _, ⟨T131, L131, k131, n131⟩, -, X131, ⟨Lc131, hQ131, l131, y131, z131⟩, st131⟩ := Jvm.LawKit.callS X129 hx (y := Y72) hown (mvT hZ (own_h hw 241 rfl)) (mvT hZ (own_h hw 242 rfl)) (mvT hZ (own_h hw 4 rfl)) (mvT hZ (own_h hw 243 rfl)) (by decide) (backOf (W := 0) (rm48 l Z a0 hw [] r42 b49 4 k49 (own_em ([cx4, cx11, cx18, cx25, cx32] : List Int32) n 4 (own_em ([cx4, cx11, cx18, cx25, cx32] : List Int32) n 3 (own_em ([cx4, cx11, cx18, cx25, cx32] : List Int32) n 2 (own_em ([cx4, cx11, cx18, cx25, cx32] : List Int32) n 1 (own_em ([cx4, cx11, cx18, cx25, cx32] : List Int32) n 0 ([] : List Int32)))))) zc fm cr42 tr42 kr42 (own_DL (([cx4, cx11, cx18, cx25, cx32] : List Int32).take n)) T110.heap n0 Zs110 f111 HA f117 f118 f119 f120 r42_4 r110_0 hlaw (own_em_len (own_em_len (own_em_len (own_em_len (own_em_len (Nat.le_refl 0)))))) (by decide)) hZ (own_h hw 243 rfl) (own_h hw 4 rfl) (by decide) (by decide)) (g := (mkF m 221 #[.val (.int p0), .val (.int p1), .val (.int p2), .val (.int p3), .val (.int p4), .val (.int p5), .val (.int (Int32.ofNat n)), .val (.ref b1), .val (.ref b39), .val (.ref r42), .val (.ref b49), .val (.int (Int32.ofNat (own_em ([cx4, cx11, cx18, cx25, cx32] : List Int32) n 4 (own_em ([cx4, cx11, cx18, cx25, cx32] : List Int32) n 3 (own_em ([cx4, cx11, cx18, cx25, cx32] : List Int32) n 2 (own_em ([cx4, cx11, cx18, cx25, cx32] : List Int32) n 1 (own_em ([cx4, cx11, cx18, cx25, cx32] : List Int32) n 0 ([] : List Int32)))))).length))] [(.int 4), (.int (Int32.ofNat (own_em ([cx4, cx11, cx18, cx25, cx32] : List Int32) n 4 (own_em ([cx4, cx11, cx18, cx25, cx32] : List Int32) n 3 (own_em ([cx4, cx11, cx18, cx25, cx32] : List Int32) n 2 (own_em ([cx4, cx11, cx18, cx25, cx32] : List Int32) n 1 (own_em ([cx4, cx11, cx18, cx25, cx32] : List Int32) n 0 ([] : List Int32)))))).length)), (.ref b49), (.ref r42)])) rfl (by rw [hml]; rfl) (argsL := [(.ref r42), (.ref b49), (.int (Int32.ofNat (own_em ([cx4, cx11, cx18, cx25, cx32] : List Int32) n 4 (own_em ([cx4, cx11, cx18, cx25, cx32] : List Int32) n 3 (own_em ([cx4, cx11, cx18, cx25, cx32] : List Int32) n 2 (own_em ([cx4, cx11, cx18, cx25, cx32] : List Int32) n 1 (own_em ([cx4, cx11, cx18, cx25, cx32] : List Int32) n 0 ([] : List Int32)))))).length)), (.int 4)]) (rest := []) (lenOf pd_44 rfl) rfl (own_r0 _) (hb hby at_221) (fun _ _ => ⟨rfl, eh129, (by decide : 33 + 0 ≤ _), (by decide : 627 + 0 ≤ _)⟩)
     dsimp only [Pt.U, Pt.locs, Pt.cells, Pt.slots] at X131 l131 y131 z131 st131 hQ131
     rw [l131] at X131
     subst y131 z131
     obtain ⟨rfl, Nq131, eh131⟩ := hQ131
     have N131 := Fr.app N129 Nq131
     refine own_goW (fun _ k => st131 _ k) ?_
     show own_GW _ _ _ (T131.setTop (mkF m 224 #[.val (.int p0), .val (.int p1), .val (.int p2), .val (.int p3), .val (.int p4), .val (.int p5), .val (.int (Int32.ofNat n)), .val (.ref b1), .val (.ref b39), .val (.ref r42), .val (.ref b49), .val (.int (Int32.ofNat (own_em ([cx4, cx11, cx18, cx25, cx32] : List Int32) n 4 (own_em ([cx4, cx11, cx18, cx25, cx32] : List Int32) n 3 (own_em ([cx4, cx11, cx18, cx25, cx32] : List Int32) n 2 (own_em ([cx4, cx11, cx18, cx25, cx32] : List Int32) n 1 (own_em ([cx4, cx11, cx18, cx25, cx32] : List Int32) n 0 ([] : List Int32)))))).length))] [(.int 1)])) _ _ _ _ _ _
     have hc132 : ¬ ((1 : Int32) = (0 : Int32)) := (by decide)
     refine own_goW (fun _ k => XS.ifNo X131.here hx rfl (hb hby at_224) rfl ((if0 _ _).trans (feq hc132).1) (XS.iconst X131.here hx rfl (hb hby at_227) (XS.goto X131.here hx rfl (pc0 := 228) (pc' := 232) rfl (hb hby at_228) (by decide) (by decide) k))) ?_
     show own_GW _ _ _ (T131.setTop (mkF m 232 #[.val (.int p0), .val (.int p1), .val (.int p2), .val (.int p3), .val (.int p4), .val (.int p5), .val (.int (Int32.ofNat n)), .val (.ref b1), .val (.ref b39), .val (.ref r42), .val (.ref b49), .val (.int (Int32.ofNat (own_em ([cx4, cx11, cx18, cx25, cx32] : List Int32) n 4 (own_em ([cx4, cx11, cx18, cx25, cx32] : List Int32) n 3 (own_em ([cx4, cx11, cx18, cx25, cx32] : List Int32) n 2 (own_em ([cx4, cx11, cx18, cx25, cx32] : List Int32) n 1 (own_em ([cx4, cx11, cx18, cx25, cx32] : List Int32) n 0 ([] : List Int32)))))).length))] [(.int 1)])) _ _ _ _ _ _
     have CQ133 := CR39.trans (CHr.keep K110_1 all0 CR39.1)
     have CE133 : CHr Z own_EL s.vm s.heap T131.vm T131.heap := by rw [hh, show T131.heap = T110.heap from eh131]; exact CQ133.trans (CHv.at X131 hZ (own_EW hw) CQ133.1)
     exact own_endWN X131 hx hlk (t := .boolean) Bd.returns (by simp) (hb hby at_232) hS39 (show _ ≤ T131.heap.size by rw [show T131.heap = T110.heap from eh131]; exact (Nat.le_trans (Nat.le_refl _) K110_1.1)) (by decide) (by decide) CE133 (Q := (Q0 Z p0 p1 p2 p3 p4 p5 zc fm im h0 n0)) (by rw [eh131]; exact ⟨rfl, N131, K110_0⟩)
theorem comes_1 {Post : Tables → Env → Array Value → State → Outcome → State → Prop} (hpost : ∀ tb e args s v u, (limb_1_1.after args s (.returned v) u = true ∧ limb_1_2.after args s (.returned v) u = true ∧ True) → ReturnedEndW s (.returned v) u (Jvm.fieldLocs frame_1_writes args s ++ Jvm.arrayLocs frame_1_arrays args s ++ Jvm.staticLocs frame_1_statics s) 40 2304 → Post tb e args s (.returned v) u) :
   ArmFor flags0 classFile x code maxLocals ret World_1 tables_1 room_1 Calls_1 rest_1 Pre_1 Post := by
 intro l hfl _ _ p e ha hc hk s m args below hf hA hF happ hP
 obtain ⟨hcalls, hrest, hpre⟩ := hP
 obtain ⟨-, -, -, hnamed, -, -, -, hat⟩ := (Spec.applies_iff hf).mp happ
 obtain ⟨hg, hn⟩ := and_e (Cond.before_iff.mp (show (Jvm.Cond.and given_1 narrow_1).before args s = true from hpre))
 obtain ⟨g0, hg1⟩ := and_e hg
 obtain ⟨a0, r0⟩ := and_e hg1
 obtain ⟨a1, r1⟩ := and_e r0
 obtain ⟨a2, r2⟩ := and_e r1
 obtain ⟨a3, r3⟩ := and_e r2
 obtain ⟨a4, r4⟩ := and_e r3
 obtain ⟨w0, w1, w2, w3, w4, w5, rfl⟩ : ∃ w0 w1 w2 w3 w4 w5 : Value, args = #[w0, w1, w2, w3, w4, w5] := by
   have hs : args.size = 6 := by simpa [Cond.value, given_1] using g0
   obtain ⟨L⟩ := args
   match L, hs with
   | [w0, w1, w2, w3, w4, w5], _ => exact ⟨w0, w1, w2, w3, w4, w5, rfl⟩
 have hw := fun d (hd : d ∈ tables_1) => atoms_spec (ws := Jvm.Cond.code x code maxLocals ret :: tables_1) hat d (List.mem_cons_of_mem _ hd)
 have hfit : Fit s := fun {y c} hc i hi => by
   obtain ⟨ha, rfl⟩ := Array.getElem?_eq_some_iff.mp hc
   have q := List.all_eq_true.mp ((Array.all_eq_true_iff_forall_mem.mp hF) _ (Array.getElem_mem ha)) i (List.mem_range.mpr hi)
   simpa [Array.getElem?_eq_getElem hi] using q
 obtain ⟨i0, ei0⟩ := is_v a0
 obtain rfl : w0 = (.int i0) := Option.some.inj ei0
 obtain ⟨i1, ei1⟩ := is_v a1
 obtain rfl : w1 = (.int i1) := Option.some.inj ei1
 obtain ⟨i2, ei2⟩ := is_v a2
 obtain rfl : w2 = (.int i2) := Option.some.inj ei2
 obtain ⟨i3, ei3⟩ := is_v a3
 obtain rfl : w3 = (.int i3) := Option.some.inj ei3
 obtain ⟨i4, ei4⟩ := is_v a4
 obtain rfl : w4 = (.int i4) := Option.some.inj ei4
 obtain ⟨i5, ei5⟩ := is_v r4
 obtain rfl : w5 = (.int i5) := Option.some.inj ei5
 obtain ⟨hsets, hown0⟩ := atoms_of _ (rest_1_c_eq ▸ (show rest_1_c.before _ s = true from hrest))
 have n5 := not_v (Cond.before_iff.mp (hsets _ (List.mem_of_getElem? (i := 2) rfl)))
 obtain ⟨zc, ez⟩ := is_v (Cond.before_iff.mp (hsets _ (List.mem_of_getElem? (i := 1) rfl)))
 have SZ : Sta s s.heap "java/lang/String" "COMPACT_STRINGS" "Z" (.int zc) := Sta.start ez (Or.inl (hsets _ (List.mem_of_getElem? (i := 0) rfl)))
 have hz : ¬ (zc = (0 : Int32)) := gotF (Cond.eq_ints ez (Term.int_eval (0))) n5
 obtain ⟨fm, ef, rf⟩ := isR_v (Cond.before_iff.mp (hsets _ (List.mem_of_getElem? (i := 8) rfl)))
 have SF : Sta s s.heap "jdk/internal/util/Preconditions" "SIOOBE_FORMATTER" "Ljava/util/function/BiFunction;" fm := Sta.start ef (Or.inl (hsets _ (List.mem_of_getElem? (i := 7) rfl)))
 have ead := eqv_i (F := .int 1) (Term.int_eval 1) (Cond.before_iff.mp (hsets _ (List.mem_of_getElem? (i := 12) rfl)))
 have SA := Sta.start ead (Or.inl (hsets _ (List.mem_of_getElem? (i := 11) rfl)))
 have ehi := eqv_i (F := .int 0) (Term.int_eval 0) (Cond.before_iff.mp (hsets _ (List.mem_of_getElem? (i := 15) rfl)))
 have SH := Sta.start ehi (Or.inl (hsets _ (List.mem_of_getElem? (i := 14) rfl)))
 have elo := eqv_i (F := .int 8) (Term.int_eval 8) (Cond.before_iff.mp (hsets _ (List.mem_of_getElem? (i := 18) rfl)))
 have SL := Sta.start elo (Or.inl (hsets _ (List.mem_of_getElem? (i := 17) rfl)))
 obtain ⟨im, eim, fim⟩ := static_fit hfit (own_h hw 141 rfl) (ty := .object "java/util/function/BiFunction") (by decide)
 have SI := Sta.start eim (Or.inr ⟨(own_h hw 36 rfl), (own_h hw 141 rfl)⟩)
 have ri : im.isRef = true := by cases im <;> simp_all [fits, Value.isRef]
 obtain ⟨hcl, -⟩ := hcalls
 have hCH : CHv s own_EL s.vm s.heap := CHv.start (own_EW hw) (fun p hp => hcl p hp) (hsets _ (List.mem_of_getElem? (i := 2) rfl)) (own_h hw 10 rfl) (own_h hw 9 rfl)
 obtain ⟨n, o, h1, h2, h3, _, L, rfl, ⟨rfl, N, -⟩, -, hq⟩ := rm0 l s _ hw tables_1 i0 i1 i2 i3 i4 i5 zc fm im s.heap s.heap.size (Nat.le_refl _) (Old.start s) ⟨SZ, hz, SF, rf, SA, SH, SL⟩ SI ri p e ha hc hk s m _ below hf ((Spec.applies_iff_loose hf).mp happ).1 ⟨rfl, State.Warmed39.refl s, rfl, hCH⟩ trivial
 refine ⟨n, _, h1, h2, h3, hpost _ _ _ _ _ _ ⟨Cond.after_iff.mpr rfl, Cond.after_iff.mpr (eq_i res_at (Term.int_eval (1)) (rfl)), trivial⟩ ⟨hq.1, hq.2.1, hq.2.2.1, (hq.2.2.2.sift fun y hy => Or.inr (N y hy)).mono (by decide) (by decide)⟩⟩
theorem main_1_1 : Claimed_1_1 := comes_1 fun _ _ _ _ _ _ h hF => ⟨h.1, hF⟩
theorem main_1_2 : Claimed_1_2 := comes_1 fun _ _ _ _ _ _ h hF => ⟨h.2.1, hF⟩
end Jvm.Pilot.@@N@@
namespace Jvm.Pilot.@@N@@
open Jvm Jvm.ClassFile Sem Op Lib Jvm.Free Jvm.Stand Jvm.Pilot.@@N@@.Jvm.D
/-! MADE BY PROGRAM (witnessworld.py) out of the Statement's table words and the real class files: 26 classes; the members and pool entries that the words name. The judged class is class 1, her method 8. -/
namespace start1
open Jvm.ClassFile
abbrev fi (a n d : Nat) : FieldInfo := { accessFlags := a, nameIndex := n, descriptorIndex := d, attributes := #[] }
abbrev mi (a n d : Nat) : MethodInfo := { accessFlags := a, nameIndex := n, descriptorIndex := d, attributes := #[] }
abbrev mc (a b : Nat) (c : ByteArray) : Code := { maxStack := a, maxLocals := b, code := c, exceptionTable := #[], attributes := #[] }
abbrev me (n d : String) (ps : List FieldType) (r : Option FieldType) (a : Nat) (c : Option Code) : Method := { name := n, desc := d, sig := { parameters := ps, returnType := r }, accessFlags := a, code := c }
abbrev fd (n : String) (t : FieldType) (a s k : Nat) : Field := { name := n, type := t, accessFlags := a, slot := s, constantValue := k }
def u (s : String) : CpInfo := .utf8 (stringToUtf16 s)
/-- a pool by its gaps: so many unusable entries, then the entry; so many at the end -/
def gap : Nat → List CpInfo → List CpInfo
  | 0, r => r
  | n + 1, r => .unusable :: gap n r
def poolList (es : List (Nat × CpInfo)) (last : Nat) : List CpInfo := es.foldr (fun e r => gap e.1 (e.2 :: r)) (gap last [])
def pool (es : List (Nat × CpInfo)) (last : Nat) : Array CpInfo := ⟨poolList es last⟩
def fileOf (pool : Array CpInfo) (this : Nat) (attrs : Array Attribute := #[]) (ms : Array MethodInfo := #[]) (fl : Nat := 33) (sup : Nat := 0) (ifs : Array Nat := #[]) (fds : Array FieldInfo := #[]) : ClassFile where
  minorVersion := 0
  majorVersion := 65
  constantPool := pool
  accessFlags := fl
  thisClass := this
  superClass := sup
  interfaces := ifs
  fields := fds
  methods := ms
  attributes := attrs
def plain (name : String) (sup : Option ClassId) : Class where
  name := name
  kind := .ordinary
  loader := none
  accessFlags := 33
  super := sup
  interfaces := #[]
  cf := none
  fields := #[]
  methods := #[]
  instanceTypes := #[]
  staticTypes := #[]
  resolved := #[]
  callSites := []
  init := .initialized
  statics := none
  mirror := none

def pool0 : Array CpInfo := pool [(5, u "<init>"), (0, u "()V"), (1, .class_ 10), (1, u "java/lang/Object"), (85, u "clone"), (0, u "()Ljava/lang/Object;")] 26

def k0c0 : Code := mc 0 1 object_method_1_code
def k0m0 : Method := me "<init>" "()V" [] (none) 1 (some k0c0)
def k0m1 : Method := me "clone" "()Ljava/lang/Object;" [] (some (.object "java/lang/Object")) 260 (none)
/-- java/lang/Object -/
def k0 : Class := { plain "java/lang/Object" none with
  accessFlags := 33
  interfaces := #[]
  cf := some (fileOf pool0 8 #[] #[mi 1 5 6, mi 260 96 97] 33 0 #[] #[])
  fields := #[]
  methods := #[k0m0, k0m1]
  instanceTypes := #[]
  staticTypes := #[]
  resolved := Array.replicate 124 none
  statics := none }

def pool1 : Array CpInfo := pool [(2, .class_ 4), (1, u "java/lang/Object"), (0, u "<init>"), (0, u "()V"), (0, .string 8), (0, u "0123456789abcdefABCDEF"), (0, .methodref 10 11), (0, .class_ 12), (0, .nameAndType 13 14), (0, u "java/lang/String"), (0, u "charAt"), (0, u "(I)C"), (0, .integer 65535), (0, .methodref 17 18), (0, .class_ 19), (0, .nameAndType 20 21), (0, u "com/example/amid2/amid2/PercentEncodingDecodeUnreservedPinLaw"), (0, u "hex"), (0, u "(C)I"), (0, .methodref 17 23), (0, .nameAndType 24 25), (0, u "unreserved"), (0, u "(I)Z"), (0, .methodref 17 27), (0, .nameAndType 28 29), (0, u "dec"), (0, u "([CII)I"), (0, .methodref 10 31), (0, .nameAndType 5 32), (0, u "([C)V"), (0, .integer 2147483647), (0, .methodref 17 35), (0, .nameAndType 36 14), (0, u "draw"), (0, .methodref 17 38), (0, .nameAndType 39 40), (0, u "make"), (0, u "([CI)Ljava/lang/String;"), (0, .methodref 42 43), (0, .class_ 44), (0, .nameAndType 45 46), (0, u "com/example/amid2/amid2/PercentEncoding"), (0, u "decodeUnreserved"), (0, u "(Ljava/lang/String;)Ljava/lang/String;"), (0, .methodref 17 48), (0, .nameAndType 49 50), (0, u "emit"), (0, u "([CII[CI)I"), (0, .methodref 10 52), (0, .nameAndType 53 54), (0, u "length"), (0, u "()I"), (0, .methodref 17 56), (0, .nameAndType 57 58), (0, u "same"), (0, u "(Ljava/lang/String;[CII)Z"), (5, u "law"), (0, u "(IIIIII)Z")] 2

def k1m0 : Method := me "<init>" "()V" [] (none) 2 (none)
def k1c1 : Code := mc 3 3 method_2_code
def k1m1 : Method := me "draw" "(I)C" [.int] (some .char) 10 (some k1c1)
def k1c2 : Code := mc 2 1 method_3_code
def k1m2 : Method := me "hex" "(C)I" [.char] (some .int) 10 (some k1c2)
def k1c3 : Code := mc 2 1 method_4_code
def k1m3 : Method := me "unreserved" "(I)Z" [.int] (some .boolean) 10 (some k1c3)
def k1c4 : Code := mc 3 6 method_5_code
def k1m4 : Method := me "dec" "([CII)I" [(.array .char), .int, .int] (some .int) 10 (some k1c4)
def k1c5 : Code := mc 4 6 method_6_code
def k1m5 : Method := me "emit" "([CII[CI)I" [(.array .char), .int, .int, (.array .char), .int] (some .int) 10 (some k1c5)
def k1c6 : Code := mc 7 2 method_7_code
def k1m6 : Method := me "make" "([CI)Ljava/lang/String;" [(.array .char), .int] (some (.object "java/lang/String")) 10 (some k1c6)
def k1c7 : Code := mc 3 4 method_8_code
def k1m7 : Method := me "same" "(Ljava/lang/String;[CII)Z" [(.object "java/lang/String"), (.array .char), .int, .int] (some .boolean) 10 (some k1c7)
def k1c8 : Code := mc 5 12 code
def k1m8 : Method := me "law" "(IIIIII)Z" [.int, .int, .int, .int, .int, .int] (some .boolean) 9 (some k1c8)
/-- com/example/amid2/amid2/PercentEncodingDecodeUnreservedPinLaw -/
def k1 : Class := { plain "com/example/amid2/amid2/PercentEncodingDecodeUnreservedPinLaw" (some 0) with
  accessFlags := 49
  interfaces := #[]
  cf := some (fileOf pool1 17 #[] #[mi 2 5 6, mi 10 36 14, mi 10 20 21, mi 10 24 25, mi 10 28 29, mi 10 49 50, mi 10 39 40, mi 10 57 58, mi 9 64 65] 49 2 #[] #[])
  fields := #[]
  methods := #[k1m0, k1m1, k1m2, k1m3, k1m4, k1m5, k1m6, k1m7, k1m8]
  instanceTypes := #[]
  staticTypes := #[]
  resolved := Array.replicate 68 none
  statics := none }

def pool2 : Array CpInfo := pool [(1, .class_ 2), (0, u "java/io/Serializable"), (0, .class_ 4), (0, u "java/lang/Object")] 2

/-- java/io/Serializable -/
def k2 : Class := { plain "java/io/Serializable" (some 0) with
  accessFlags := 1537
  interfaces := #[]
  cf := some (fileOf pool2 1 #[] #[] 1537 3 #[] #[])
  fields := #[]
  methods := #[]
  instanceTypes := #[]
  staticTypes := #[]
  resolved := Array.replicate 7 none
  statics := none }

def pool3 : Array CpInfo := pool [(1, .class_ 2), (0, u "java/lang/Comparable"), (0, .class_ 4), (0, u "java/lang/Object")] 7

/-- java/lang/Comparable -/
def k3 : Class := { plain "java/lang/Comparable" (some 0) with
  accessFlags := 1537
  interfaces := #[]
  cf := some (fileOf pool3 1 #[] #[] 1537 3 #[] #[])
  fields := #[]
  methods := #[]
  instanceTypes := #[]
  staticTypes := #[]
  resolved := Array.replicate 12 none
  statics := none }

def pool4 : Array CpInfo := pool [(2, .class_ 4), (1, u "java/lang/CharSequence"), (0, u "length"), (0, u "()I"), (40, .class_ 48), (0, u "java/lang/CharSequence$1CodePointIterator"), (10, .class_ 60), (0, u "java/lang/CharSequence$1CharIterator"), (5, .class_ 67), (0, u "java/lang/Object")] 63

def k4m0 : Method := me "length" "()I" [] (some .int) 1025 (none)
/-- java/lang/CharSequence -/
def k4 : Class := { plain "java/lang/CharSequence" (some 0) with
  accessFlags := 1537
  interfaces := #[]
  cf := some (fileOf pool4 2 #[.nestMembers #[47, 59]] #[mi 1025 5 6] 1537 66 #[] #[])
  fields := #[]
  methods := #[k4m0]
  instanceTypes := #[]
  staticTypes := #[]
  resolved := Array.replicate 131 none
  statics := none }

def pool5 : Array CpInfo := pool [(1, .class_ 2), (0, u "java/lang/constant/Constable"), (0, .class_ 4), (0, u "java/lang/Object")] 6

/-- java/lang/constant/Constable -/
def k5 : Class := { plain "java/lang/constant/Constable" (some 0) with
  accessFlags := 1537
  interfaces := #[]
  cf := some (fileOf pool5 1 #[] #[] 1537 3 #[] #[])
  fields := #[]
  methods := #[]
  instanceTypes := #[]
  staticTypes := #[]
  resolved := Array.replicate 11 none
  statics := none }

def pool6 : Array CpInfo := pool [(1, .class_ 2), (0, u "java/lang/constant/ConstantDesc"), (0, .class_ 4), (0, u "java/lang/Object")] 32

/-- java/lang/constant/ConstantDesc -/
def k6 : Class := { plain "java/lang/constant/ConstantDesc" (some 0) with
  accessFlags := 1537
  interfaces := #[]
  cf := some (fileOf pool6 1 #[] #[] 1537 3 #[] #[])
  fields := #[]
  methods := #[]
  instanceTypes := #[]
  staticTypes := #[]
  resolved := Array.replicate 37 none
  statics := none }

def pool7 : Array CpInfo := pool [(1, .methodref 2 3), (0, .class_ 4), (0, .nameAndType 5 6), (0, u "java/lang/Object"), (0, u "<init>"), (0, u "()V"), (0, .string 8), (0, u ""), (0, .fieldref 10 11), (0, .class_ 12), (0, .nameAndType 13 14), (0, u "java/lang/String"), (0, u "value"), (0, u "[B"), (0, .fieldref 10 16), (0, .nameAndType 17 18), (0, u "coder"), (0, u "B"), (2, u "hash"), (0, u "I"), (2, u "hashIsZero"), (0, u "Z"), (0, .methodref 10 28), (0, .nameAndType 5 29), (0, u "([CIILjava/lang/Void;)V"), (6, u "checkBoundsOffCount"), (0, u "(III)I"), (0, .fieldref 10 39), (0, .nameAndType 40 26), (0, u "COMPACT_STRINGS"), (1, .class_ 44), (1, u "java/lang/StringUTF16"), (0, u "compress"), (1, .methodref 42 48), (0, .nameAndType 49 50), (0, u "coderFromArrayLen"), (0, u "([BI)B"), (3, .methodref 55 56), (0, .class_ 57), (0, .nameAndType 58 59), (0, u "java/util/Arrays"), (0, u "copyOfRange"), (0, u "([BII)[B"), (47, .class_ 109), (1, u "java/lang/StringLatin1"), (32, u "()Z"), (34, .methodref 42 178), (0, .nameAndType 45 179), (0, u "([CII)[B"), (154, u "()I"), (0, .methodref 10 336), (0, .nameAndType 17 337), (0, u "()B"), (2, u "()[B"), (22, u "([BI)C"), (27, u "(II)V"), (35, u "(I)C"), (61, .methodref 10 490), (0, .nameAndType 5 491), (0, u "(Ljava/lang/AbstractStringBuilder;Ljava/lang/Void;)V"), (0, .methodref 10 493), (0, .nameAndType 494 142), (0, u "isLatin1"), (0, .methodref 107 496), (0, .nameAndType 497 363), (0, u "charAt"), (0, .methodref 42 496), (2, u "checkIndex"), (3, .methodref 10 506), (0, .nameAndType 507 334), (0, u "length"), (5, u "checkFromToIndex"), (9, u "checkBoundsBeginEnd"), (0, u "(III)V"), (24, .methodref 550 506), (0, .class_ 551), (0, u "java/lang/AbstractStringBuilder"), (0, .methodref 550 553), (0, .nameAndType 554 340), (0, u "getValue"), (20, .class_ 576), (0, u "java/lang/CharSequence"), (22, u "CASE_INSENSITIVE_ORDER"), (0, u "Ljava/util/Comparator;"), (32, .methodref 10 634), (0, .nameAndType 635 636), (0, u "indexOf"), (0, u "(II)I"), (0, .methodref 107 638), (0, .nameAndType 635 639), (0, u "([BIII)I"), (0, .methodref 42 638), (124, u "(I)I"), (244, u "([C)V"), (36, .methodref 550 493), (0, .fieldref 550 1049), (0, .nameAndType 1050 26), (0, u "maybeLatin1"), (2, .fieldref 1054 1055), (0, .class_ 1056), (0, .nameAndType 1057 1058), (0, u "jdk/internal/util/Preconditions"), (0, u "SIOOBE_FORMATTER"), (0, u "Ljava/util/function/BiFunction;"), (0, .methodref 1054 1060), (0, .nameAndType 501 1061), (0, u "(IILjava/util/function/BiFunction;)I"), (0, .methodref 1054 1063), (0, .nameAndType 513 1064), (0, u "(IIILjava/util/function/BiFunction;)I"), (0, .methodref 1054 1066), (0, .nameAndType 1067 1064), (0, u "checkFromIndexSize"), (33, u "serialPersistentFields"), (0, u "[Ljava/io/ObjectStreamField;"), (0, .class_ 1104), (0, u "java/lang/String$CaseInsensitiveComparator"), (1, .class_ 1107), (0, u "java/io/Serializable"), (0, .class_ 1109), (0, u "java/lang/Comparable"), (0, .class_ 1111), (0, u "java/lang/constant/Constable"), (0, .class_ 1113), (0, u "java/lang/constant/ConstantDesc"), (2, u "serialVersionUID"), (0, u "J"), (3, u "REPL"), (0, u "C"), (2, u "LATIN1"), (1, u "UTF16"), (105, u "(Ljava/lang/StringBuilder;)V")] 217

def k7m0 : Method := me "<init>" "()V" [] (none) 1 (none)
def k7c1 : Code := mc 5 2 jdk_42_method_3_code
def k7m1 : Method := me "<init>" "([C)V" [(.array .char)] (none) 1 (some k7c1)
def k7c2 : Code := mc 3 2 jdk_42_method_53_code
def k7m2 : Method := me "<init>" "(Ljava/lang/StringBuilder;)V" [(.object "java/lang/StringBuilder")] (none) 1 (some k7c2)
def k7c3 : Code := mc 2 1 jdk_42_method_54_code
def k7m3 : Method := me "length" "()I" [] (some .int) 1 (some k7c3)
def k7c4 : Code := mc 2 2 jdk_42_method_56_code
def k7m4 : Method := me "charAt" "(I)C" [.int] (some .char) 1 (some k7c4)
def k7c5 : Code := mc 3 2 jdk_42_method_79_code
def k7m5 : Method := me "indexOf" "(I)I" [.int] (some .int) 1 (some k7c5)
def k7c6 : Code := mc 4 3 jdk_42_method_80_code
def k7m6 : Method := me "indexOf" "(II)I" [.int, .int] (some .int) 1 (some k7c6)
def k7c7 : Code := mc 4 6 jdk_42_method_149_code
def k7m7 : Method := me "<init>" "([CIILjava/lang/Void;)V" [(.array .char), .int, .int, (.object "java/lang/Void")] (none) 2 (some k7c7)
def k7c8 : Code := mc 5 5 jdk_42_method_150_code
def k7m8 : Method := me "<init>" "(Ljava/lang/AbstractStringBuilder;Ljava/lang/Void;)V" [(.object "java/lang/AbstractStringBuilder"), (.object "java/lang/Void")] (none) 0 (some k7c8)
def k7c9 : Code := mc 1 1 jdk_42_method_152_code
def k7m9 : Method := me "coder" "()B" [] (some .byte) 0 (some k7c9)
def k7c10 : Code := mc 1 1 jdk_42_method_153_code
def k7m10 : Method := me "value" "()[B" [] (some (.array .byte)) 0 (some k7c10)
def k7c11 : Code := mc 1 1 jdk_42_method_154_code
def k7m11 : Method := me "isLatin1" "()Z" [] (some .boolean) 0 (some k7c11)
def k7c12 : Code := mc 3 2 jdk_42_method_155_code
def k7m12 : Method := me "checkIndex" "(II)V" [.int, .int] (none) 8 (some k7c12)
def k7c13 : Code := mc 4 3 jdk_42_method_157_code
def k7m13 : Method := me "checkBoundsOffCount" "(III)I" [.int, .int, .int] (some .int) 8 (some k7c13)
def k7c14 : Code := mc 4 3 jdk_42_method_158_code
def k7m14 : Method := me "checkBoundsBeginEnd" "(III)V" [.int, .int, .int] (none) 8 (some k7c14)
/-- java/lang/String -/
def k7 : Class := { plain "java/lang/String" (some 0) with
  accessFlags := 49
  interfaces := #[2, 3, 4, 5, 6]
  cf := some (fileOf pool7 10 #[.nestMembers #[1103]] #[mi 1 5 6, mi 1 5 1010, mi 1 5 1233, mi 1 507 334, mi 1 497 427, mi 1 635 765, mi 1 635 636, mi 2 5 29, mi 0 5 491, mi 0 17 337, mi 0 13 340, mi 0 494 142, mi 8 501 391, mi 8 36 37, mi 8 523 524] 49 2 #[1106, 1108, 575, 1110, 1112] #[fi 18 13 14, fi 18 17 18, fi 2 21 22, fi 2 25 26, fi 26 1116 1117, fi 24 40 26, fi 26 1101 1102, fi 26 1121 1122, fi 25 599 600, fi 24 1125 18, fi 24 1127 18])
  fields := #[fd "value" (.array .byte) 18 0 0, fd "coder" .byte 18 1 0, fd "hash" .int 2 2 0, fd "hashIsZero" .boolean 2 3 0, fd "serialVersionUID" .long 26 0 0, fd "COMPACT_STRINGS" .boolean 24 1 0, fd "serialPersistentFields" (.array (.object "java/io/ObjectStreamField")) 26 2 0, fd "REPL" .char 26 3 0, fd "CASE_INSENSITIVE_ORDER" (.object "java/util/Comparator") 25 4 0, fd "LATIN1" .byte 24 5 0, fd "UTF16" .byte 24 6 0]
  methods := #[k7m0, k7m1, k7m2, k7m3, k7m4, k7m5, k7m6, k7m7, k7m8, k7m9, k7m10, k7m11, k7m12, k7m13, k7m14]
  instanceTypes := #[(.array .byte), .byte, .int, .boolean]
  staticTypes := #[.long, .boolean, (.array (.object "java/io/ObjectStreamField")), .char, (.object "java/util/Comparator"), .byte, .byte]
  resolved := Array.replicate 1451 none
  statics := some 0 }

def pool8 : Array CpInfo := pool [(1, .class_ 2), (0, u "java/lang/String"), (1, .class_ 6), (1, u "java/lang/Object"), (0, u "<init>"), (0, u "()V"), (0, .methodref 1 10), (0, .nameAndType 11 12), (0, u "checkIndex"), (0, u "(II)V"), (1, .class_ 16), (1, u "java/lang/StringLatin1"), (0, u "inflate"), (2, .class_ 22), (1, u "java/lang/StringUTF16"), (3, .nameAndType 17 27), (0, u "([BI[BII)V"), (10, .methodref 39 40), (0, .class_ 41), (0, .nameAndType 42 43), (0, u "java/lang/Math"), (0, u "min"), (0, u "(II)I"), (9, u "([BI)C"), (34, .methodref 14 89), (0, .nameAndType 90 91), (0, u "canEncode"), (0, u "(I)Z"), (0, .methodref 39 93), (0, .nameAndType 94 43), (0, u "max"), (0, .methodref 14 96), (0, .nameAndType 97 98), (0, u "indexOfChar"), (0, u "([BIII)I"), (2, u "indexOf"), (3, u "(C)Z"), (15, u "$assertionsDisabled"), (0, u "Z"), (98, .class_ 223), (1, u "java/lang/StringLatin1$LinesSpliterator"), (16, .methodref 20 26), (11, u "charAt"), (137, .class_ 391), (0, u "java/lang/StringLatin1$CharsSpliterator")] 3

def k8m0 : Method := me "<init>" "()V" [] (none) 0 (none)
def k8c1 : Code := mc 2 2 jdk_43_method_2_code
def k8m1 : Method := me "charAt" "([BI)C" [(.array .byte), .int] (some .char) 9 (some k8c1)
def k8c2 : Code := mc 2 1 jdk_43_method_3_code
def k8m2 : Method := me "canEncode" "(C)Z" [.char] (some .boolean) 9 (some k8c2)
def k8c3 : Code := mc 2 1 jdk_43_method_4_code
def k8m3 : Method := me "canEncode" "(I)Z" [.int] (some .boolean) 9 (some k8c3)
def k8c4 : Code := mc 4 4 jdk_43_method_22_code
def k8m4 : Method := me "indexOf" "([BIII)I" [(.array .byte), .int, .int, .int] (some .int) 9 (some k8c4)
def k8c5 : Code := mc 2 6 jdk_43_method_23_code
def k8m5 : Method := me "indexOfChar" "([BIII)I" [(.array .byte), .int, .int, .int] (some .int) 10 (some k8c5)
def k8c6 : Code := mc 5 5 jdk_43_method_50_code
def k8m6 : Method := me "inflate" "([BI[BII)V" [(.array .byte), .int, (.array .byte), .int, .int] (none) 9 (some k8c6)
/-- java/lang/StringLatin1 -/
def k8 : Class := { plain "java/lang/StringLatin1" (some 0) with
  accessFlags := 48
  interfaces := #[]
  cf := some (fileOf pool8 14 #[.nestMembers #[390, 221]] #[mi 0 7 8, mi 9 252 53, mi 9 90 105, mi 9 90 91, mi 9 101 98, mi 10 97 98, mi 9 17 27] 48 4 #[] #[fi 4120 121 122])
  fields := #[fd "$assertionsDisabled" .boolean 4120 0 0]
  methods := #[k8m0, k8m1, k8m2, k8m3, k8m4, k8m5, k8m6]
  instanceTypes := #[]
  staticTypes := #[.boolean]
  resolved := Array.replicate 395 none
  statics := none }

def pool9 : Array CpInfo := pool [(2, .class_ 4), (1, u "java/lang/Object"), (0, u "<init>"), (0, u "()V"), (17, .class_ 26), (1, u "jdk/internal/util/Preconditions"), (6, u "checkIndex"), (13, u "checkFromToIndex"), (1, u "checkFromIndexSize"), (5, .class_ 56), (0, u "jdk/internal/util/Preconditions$4"), (57, .class_ 115), (0, u "jdk/internal/util/Preconditions$1"), (7, u "SIOOBE_FORMATTER"), (0, u "Ljava/util/function/BiFunction;"), (0, .class_ 126), (0, u "jdk/internal/util/Preconditions$2"), (3, u "AIOOBE_FORMATTER"), (0, .class_ 132), (0, u "jdk/internal/util/Preconditions$3"), (3, u "IOOBE_FORMATTER"), (41, u "(IILjava/util/function/BiFunction;)I"), (4, u "(IIILjava/util/function/BiFunction;)I")] 10

def k9m0 : Method := me "<init>" "()V" [] (none) 1 (none)
def k9c1 : Code := mc 3 3 jdk_41_method_11_code
def k9m1 : Method := me "checkIndex" "(IILjava/util/function/BiFunction;)I" [.int, .int, (.object "java/util/function/BiFunction")] (some .int) 9 (some k9c1)
def k9c2 : Code := mc 4 4 jdk_41_method_12_code
def k9m2 : Method := me "checkFromToIndex" "(IIILjava/util/function/BiFunction;)I" [.int, .int, .int, (.object "java/util/function/BiFunction")] (some .int) 9 (some k9c2)
def k9c3 : Code := mc 4 4 jdk_41_method_13_code
def k9m3 : Method := me "checkFromIndexSize" "(IIILjava/util/function/BiFunction;)I" [.int, .int, .int, (.object "java/util/function/BiFunction")] (some .int) 9 (some k9c3)
/-- jdk/internal/util/Preconditions -/
def k9 : Class := { plain "jdk/internal/util/Preconditions" (some 0) with
  accessFlags := 33
  interfaces := #[]
  cf := some (fileOf pool9 24 #[.nestMembers #[55, 131, 125, 114]] #[mi 1 5 6, mi 9 33 178, mi 9 47 183, mi 9 49 183] 33 2 #[] #[fi 25 123 124, fi 25 130 124, fi 25 136 124])
  fields := #[fd "SIOOBE_FORMATTER" (.object "java/util/function/BiFunction") 25 0 0, fd "AIOOBE_FORMATTER" (.object "java/util/function/BiFunction") 25 1 0, fd "IOOBE_FORMATTER" (.object "java/util/function/BiFunction") 25 2 0]
  methods := #[k9m0, k9m1, k9m2, k9m3]
  instanceTypes := #[]
  staticTypes := #[(.object "java/util/function/BiFunction"), (.object "java/util/function/BiFunction"), (.object "java/util/function/BiFunction")]
  resolved := Array.replicate 194 none
  statics := some 1 }

def pool10 : Array CpInfo := pool [(3, .class_ 4), (0, u "java/lang/String"), (1, .class_ 8), (1, u "java/lang/Object"), (0, u "<init>"), (0, u "()V"), (0, .methodref 12 13), (0, .class_ 14), (0, .nameAndType 15 16), (0, u "java/lang/StringUTF16"), (0, u "newBytesLength"), (0, u "(I)I"), (3, .integer 1073741823), (23, .fieldref 12 45), (0, .nameAndType 46 47), (0, u "$assertionsDisabled"), (0, u "Z"), (0, .methodref 12 49), (0, .nameAndType 50 51), (0, u "length"), (0, u "([B)I"), (7, .fieldref 12 60), (0, .nameAndType 61 62), (0, u "HI_BYTE_SHIFT"), (0, u "I"), (0, .fieldref 12 64), (0, .nameAndType 65 62), (0, u "LO_BYTE_SHIFT"), (1, .methodref 12 68), (0, .nameAndType 69 70), (0, u "checkIndex"), (0, u "(I[B)V"), (0, .methodref 12 72), (0, .nameAndType 73 74), (0, u "getChar"), (0, u "([BI)C"), (21, .methodref 12 97), (0, .nameAndType 98 99), (0, u "checkBoundsBeginEnd"), (0, u "(II[B)V"), (7, .methodref 12 108), (0, .nameAndType 109 110), (0, u "newBytesFor"), (0, u "(I)[B"), (0, .methodref 12 112), (0, .nameAndType 113 114), (0, u "putChar"), (0, u "([BII)V"), (0, .methodref 12 116), (0, .nameAndType 117 118), (0, u "compress"), (0, u "([CI[BII)I"), (0, .methodref 12 120), (0, .nameAndType 121 122), (0, u "toBytes"), (0, u "([CII)[B"), (17, u "inflate"), (0, u "([BI[BII)V"), (31, .methodref 12 174), (0, .nameAndType 175 99), (0, u "checkBoundsOffCount"), (7, .methodref 184 185), (0, .class_ 186), (0, .nameAndType 187 188), (0, u "java/lang/Math"), (0, u "min"), (0, u "(II)I"), (35, .methodref 184 225), (0, .nameAndType 226 188), (0, u "max"), (0, .integer 65536), (0, .methodref 12 229), (0, .nameAndType 230 231), (0, u "indexOfChar"), (0, u "([BIII)I"), (9, .methodref 3 242), (0, .nameAndType 98 243), (0, u "(III)V"), (0, .methodref 12 245), (0, .nameAndType 246 231), (0, u "indexOfCharUnsafe"), (14, u "coderFromArrayLen"), (0, u "([BI)B"), (5, u "indexOf"), (12, u "(III)I"), (87, .class_ 371), (1, u "java/lang/StringUTF16$LinesSpliterator"), (20, u "charAt"), (21, .methodref 3 415), (0, .nameAndType 69 416), (0, u "(II)V"), (2, .methodref 3 420), (0, .nameAndType 175 281), (9, u "MAX_LENGTH"), (155, u "putCharSB"), (40, .class_ 628), (0, u "java/lang/StringUTF16$CodePointsSpliterator"), (0, .class_ 630), (0, u "java/lang/StringUTF16$CharsSpliterator")] 4

def k10m0 : Method := me "<init>" "()V" [] (none) 0 (none)
def k10c1 : Code := mc 1 1 jdk_52_method_2_code
def k10m1 : Method := me "newBytesFor" "(I)[B" [.int] (some (.array .byte)) 9 (some k10c1)
def k10c2 : Code := mc 4 1 jdk_52_method_3_code
def k10m2 : Method := me "newBytesLength" "(I)I" [.int] (some .int) 9 (some k10c2)
def k10c3 : Code := mc 4 3 jdk_52_method_4_code
def k10m3 : Method := me "putChar" "([BII)V" [(.array .byte), .int, .int] (none) 8 (some k10c3)
def k10c4 : Code := mc 3 2 jdk_52_method_5_code
def k10m4 : Method := me "getChar" "([BI)C" [(.array .byte), .int] (some .char) 8 (some k10c4)
def k10c5 : Code := mc 2 1 jdk_52_method_6_code
def k10m5 : Method := me "length" "([B)I" [(.array .byte)] (some .int) 9 (some k10c5)
def k10c6 : Code := mc 4 5 jdk_52_method_14_code
def k10m6 : Method := me "toBytes" "([CII)[B" [(.array .char), .int, .int] (some (.array .byte)) 9 (some k10c6)
def k10c7 : Code := mc 2 2 jdk_52_method_15_code
def k10m7 : Method := me "coderFromArrayLen" "([BI)B" [(.array .byte), .int] (some .byte) 8 (some k10c7)
def k10c8 : Code := mc 5 6 jdk_52_method_16_code
def k10m8 : Method := me "compress" "([CII)[B" [(.array .char), .int, .int] (some (.array .byte)) 9 (some k10c8)
def k10c9 : Code := mc 3 7 jdk_52_method_21_code
def k10m9 : Method := me "compress" "([CI[BII)I" [(.array .char), .int, (.array .byte), .int, .int] (some .int) 9 (some k10c9)
def k10c10 : Code := mc 4 4 jdk_52_method_40_code
def k10m10 : Method := me "indexOf" "([BIII)I" [(.array .byte), .int, .int, .int] (some .int) 9 (some k10c10)
def k10c11 : Code := mc 4 4 jdk_52_method_47_code
def k10m11 : Method := me "indexOfChar" "([BIII)I" [(.array .byte), .int, .int, .int] (some .int) 10 (some k10c11)
def k10c12 : Code := mc 2 5 jdk_52_method_48_code
def k10m12 : Method := me "indexOfCharUnsafe" "([BIII)I" [(.array .byte), .int, .int, .int] (some .int) 10 (some k10c12)
def k10c13 : Code := mc 3 3 jdk_52_method_71_code
def k10m13 : Method := me "putCharSB" "([BII)V" [(.array .byte), .int, .int] (none) 9 (some k10c13)
def k10c14 : Code := mc 2 2 jdk_52_method_83_code
def k10m14 : Method := me "charAt" "([BI)C" [(.array .byte), .int] (some .char) 9 (some k10c14)
def k10c15 : Code := mc 4 6 jdk_52_method_86_code
def k10m15 : Method := me "inflate" "([BI[BII)V" [(.array .byte), .int, (.array .byte), .int, .int] (none) 9 (some k10c15)
def k10c16 : Code := mc 2 2 jdk_52_method_91_code
def k10m16 : Method := me "checkIndex" "(I[B)V" [.int, (.array .byte)] (none) 9 (some k10c16)
def k10c17 : Code := mc 3 3 jdk_52_method_93_code
def k10m17 : Method := me "checkBoundsBeginEnd" "(II[B)V" [.int, .int, (.array .byte)] (none) 9 (some k10c17)
def k10c18 : Code := mc 3 3 jdk_52_method_94_code
def k10m18 : Method := me "checkBoundsOffCount" "(II[B)V" [.int, .int, (.array .byte)] (none) 9 (some k10c18)
/-- java/lang/StringUTF16 -/
def k10 : Class := { plain "java/lang/StringUTF16" (some 0) with
  accessFlags := 48
  interfaces := #[]
  cf := some (fileOf pool10 12 #[.nestMembers #[627, 629, 369]] #[mi 0 9 10, mi 9 109 110, mi 9 15 16, mi 8 113 114, mi 8 73 74, mi 9 50 51, mi 9 121 122, mi 8 261 262, mi 9 117 122, mi 9 117 118, mi 9 268 231, mi 10 230 231, mi 10 246 231, mi 9 586 114, mi 9 392 74, mi 9 140 141, mi 9 69 70, mi 9 98 99, mi 9 175 99] 48 6 #[] #[fi 26 61 62, fi 26 65 62, fi 24 430 62, fi 4120 46 47])
  fields := #[fd "HI_BYTE_SHIFT" .int 26 0 0, fd "LO_BYTE_SHIFT" .int 26 1 0, fd "MAX_LENGTH" .int 24 2 0, fd "$assertionsDisabled" .boolean 4120 3 0]
  methods := #[k10m0, k10m1, k10m2, k10m3, k10m4, k10m5, k10m6, k10m7, k10m8, k10m9, k10m10, k10m11, k10m12, k10m13, k10m14, k10m15, k10m16, k10m17, k10m18]
  instanceTypes := #[]
  staticTypes := #[.int, .int, .int, .boolean]
  resolved := Array.replicate 635 none
  statics := some 2 }

def pool11 : Array CpInfo := pool [(2, .class_ 4), (1, u "java/lang/Object"), (0, u "<init>"), (0, u "()V"), (0, .methodref 8 9), (0, .class_ 10), (0, .nameAndType 11 12), (0, u "java/lang/String"), (0, u "indexOf"), (0, u "(I)I"), (0, .class_ 14), (0, u "java/lang/StringBuilder"), (0, .methodref 8 16), (0, .nameAndType 17 18), (0, u "length"), (0, u "()I"), (0, .methodref 13 20), (0, .nameAndType 5 21), (0, u "(I)V"), (0, .methodref 13 23), (0, .nameAndType 24 25), (0, u "append"), (0, u "(Ljava/lang/CharSequence;II)Ljava/lang/StringBuilder;"), (0, .methodref 8 27), (0, .nameAndType 28 29), (0, u "charAt"), (0, u "(I)C"), (0, .methodref 31 32), (0, .class_ 33), (0, .nameAndType 34 35), (0, u "com/example/amid2/amid2/PercentEncoding"), (0, u "octetAt"), (0, u "(Ljava/lang/String;I)I"), (0, .methodref 31 37), (0, .nameAndType 38 39), (0, u "isUnreserved"), (0, u "(C)Z"), (0, .methodref 13 41), (0, .nameAndType 24 42), (0, u "(C)Ljava/lang/StringBuilder;"), (0, .methodref 13 44), (0, .nameAndType 45 46), (0, u "toString"), (0, u "()Ljava/lang/String;"), (0, .methodref 31 48), (0, .nameAndType 49 50), (0, u "hexDigit"), (0, u "(C)I"), (3, u "decodeUnreserved"), (0, u "(Ljava/lang/String;)Ljava/lang/String;")] 2

def k11m0 : Method := me "<init>" "()V" [] (none) 2 (none)
def k11c1 : Code := mc 2 1 prog_14_method_2_code
def k11m1 : Method := me "isUnreserved" "(C)Z" [.char] (some .boolean) 8 (some k11c1)
def k11c2 : Code := mc 4 6 prog_14_method_3_code
def k11m2 : Method := me "decodeUnreserved" "(Ljava/lang/String;)Ljava/lang/String;" [(.object "java/lang/String")] (some (.object "java/lang/String")) 8 (some k11c2)
def k11c3 : Code := mc 3 4 prog_14_method_4_code
def k11m3 : Method := me "octetAt" "(Ljava/lang/String;I)I" [(.object "java/lang/String"), .int] (some .int) 10 (some k11c3)
def k11c4 : Code := mc 2 1 prog_14_method_5_code
def k11m4 : Method := me "hexDigit" "(C)I" [.char] (some .int) 10 (some k11c4)
/-- com/example/amid2/amid2/PercentEncoding -/
def k11 : Class := { plain "com/example/amid2/amid2/PercentEncoding" (some 0) with
  accessFlags := 48
  interfaces := #[]
  cf := some (fileOf pool11 31 #[] #[mi 2 5 6, mi 8 38 39, mi 8 54 55, mi 10 34 35, mi 10 49 50] 48 2 #[] #[])
  fields := #[]
  methods := #[k11m0, k11m1, k11m2, k11m3, k11m4]
  instanceTypes := #[]
  staticTypes := #[]
  resolved := Array.replicate 58 none
  statics := none }

def pool12 : Array CpInfo := pool [(1, .class_ 2), (0, u "java/lang/Math"), (1, .class_ 6), (1, u "java/lang/Object"), (0, u "<init>"), (0, u "()V"), (89, .class_ 100), (1, u "java/lang/Math$RandomNumberGeneratorHolder"), (71, u "negativeZeroFloatBits"), (0, u "J"), (2, u "negativeZeroDoubleBits"), (21, u "max"), (2, u "min"), (43, u "$assertionsDisabled"), (0, u "Z"), (88, u "(II)I"), (2, u "twoToTheDoubleScaleDown"), (0, u "D"), (4, u "twoToTheDoubleScaleUp"), (9, u "E"), (3, u "PI"), (2, u "TAU"), (2, u "DEGREES_TO_RADIANS"), (0, u "RADIANS_TO_DEGREES")] 94

def k12m0 : Method := me "<init>" "()V" [] (none) 2 (none)
def k12c1 : Code := mc 2 2 jdk_29_method_65_code
def k12m1 : Method := me "max" "(II)I" [.int, .int] (some .int) 9 (some k12c1)
def k12c2 : Code := mc 2 2 jdk_29_method_69_code
def k12m2 : Method := me "min" "(II)I" [.int, .int] (some .int) 9 (some k12c2)
/-- java/lang/Math -/
def k12 : Class := { plain "java/lang/Math" (some 0) with
  accessFlags := 49
  interfaces := #[]
  cf := some (fileOf pool12 1 #[.nestMembers #[98]] #[mi 2 7 8, mi 9 198 335, mi 9 201 335] 49 4 #[] #[fi 25 354 339, fi 25 358 339, fi 25 361 339, fi 26 364 339, fi 26 365 339, fi 26 172 173, fi 26 176 173, fi 8 344 339, fi 8 338 339, fi 4120 245 246])
  fields := #[fd "E" .double 25 0 0, fd "PI" .double 25 1 0, fd "TAU" .double 25 2 0, fd "DEGREES_TO_RADIANS" .double 26 3 0, fd "RADIANS_TO_DEGREES" .double 26 4 0, fd "negativeZeroFloatBits" .long 26 5 0, fd "negativeZeroDoubleBits" .long 26 6 0, fd "twoToTheDoubleScaleUp" .double 8 7 0, fd "twoToTheDoubleScaleDown" .double 8 8 0, fd "$assertionsDisabled" .boolean 4120 9 0]
  methods := #[k12m0, k12m1, k12m2]
  instanceTypes := #[]
  staticTypes := #[.double, .double, .double, .double, .double, .long, .long, .double, .double, .boolean]
  resolved := Array.replicate 460 none
  statics := none }

def pool13 : Array CpInfo := pool [(1, .class_ 2), (0, u "java/lang/Appendable"), (0, .class_ 4), (0, u "java/lang/Object")] 9

/-- java/lang/Appendable -/
def k13 : Class := { plain "java/lang/Appendable" (some 0) with
  accessFlags := 1537
  interfaces := #[]
  cf := some (fileOf pool13 1 #[] #[] 1537 3 #[] #[])
  fields := #[]
  methods := #[]
  instanceTypes := #[]
  staticTypes := #[]
  resolved := Array.replicate 14 none
  statics := none }

def pool14 : Array CpInfo := pool [(1, .class_ 2), (0, u "java/lang/String"), (0, .methodref 4 5), (0, .class_ 6), (0, .nameAndType 7 8), (0, u "java/lang/Object"), (0, u "<init>"), (0, u "()V"), (1, .class_ 12), (1, u "java/lang/AbstractStringBuilder"), (0, u "EMPTYVALUE"), (0, u "[B"), (0, .fieldref 10 16), (0, .nameAndType 17 14), (0, u "value"), (0, .fieldref 1 19), (0, .nameAndType 20 21), (0, u "COMPACT_STRINGS"), (0, u "Z"), (0, .fieldref 10 23), (0, .nameAndType 24 25), (0, u "coder"), (0, u "B"), (0, .methodref 27 28), (0, .class_ 29), (0, .nameAndType 30 31), (0, u "java/lang/StringUTF16"), (0, u "newBytesFor"), (0, u "(I)[B"), (1, .nameAndType 34 35), (0, u "length"), (0, u "()I"), (9, u "append"), (1, .interfaceMethodref 48 33), (0, .class_ 49), (0, u "java/lang/CharSequence"), (25, u "maybeLatin1"), (3, .fieldref 10 80), (0, .nameAndType 81 82), (0, u "count"), (0, u "I"), (0, .methodref 10 84), (0, .nameAndType 85 86), (0, u "isLatin1"), (0, u "()Z"), (1, .class_ 90), (1, u "java/lang/StringLatin1"), (9, .methodref 10 101), (0, .nameAndType 102 103), (0, u "ensureCapacityInternal"), (0, u "(I)V"), (21, .methodref 88 126), (0, .nameAndType 127 128), (0, u "inflate"), (0, u "([BI[BII)V"), (7, u "([BII)V"), (24, .methodref 162 163), (0, .class_ 164), (0, .nameAndType 165 166), (0, u "jdk/internal/util/Preconditions"), (0, u "checkFromToIndex"), (0, u "(IIILjava/util/function/BiFunction;)I"), (15, u "Ljava/util/function/BiFunction;"), (0, .fieldref 162 184), (0, .nameAndType 185 182), (0, u "IOOBE_FORMATTER"), (5, .methodref 88 192), (0, .nameAndType 193 194), (0, u "canEncode"), (0, u "(C)Z"), (0, .methodref 10 196), (0, .nameAndType 127 8), (0, .methodref 27 198), (0, .nameAndType 199 136), (0, u "putCharSB"), (25, u "(Ljava/lang/CharSequence;II)Ljava/lang/AbstractStringBuilder;"), (6, .methodref 10 233), (0, .nameAndType 234 235), (0, u "appendChars"), (0, u "(Ljava/lang/String;II)V"), (56, u "(C)Ljava/lang/AbstractStringBuilder;"), (16, .methodref 310 311), (0, .class_ 312), (0, .nameAndType 313 314), (0, u "java/lang/System"), (0, u "arraycopy"), (0, u "(Ljava/lang/Object;ILjava/lang/Object;II)V"), (76, .nameAndType 392 393), (0, u "charAt"), (0, u "(I)C"), (6, .methodref 1 84), (0, .methodref 1 402), (0, .nameAndType 17 403), (0, u "()[B"), (0, .methodref 1 391), (39, .class_ 445), (0, u "java/lang/Appendable"), (106, u "getValue")] 56

def k14m0 : Method := me "<init>" "()V" [] (none) 0 (none)
def k14c1 : Code := mc 2 2 jdk_68_method_2_code
def k14m1 : Method := me "<init>" "(I)V" [.int] (none) 0 (some k14c1)
def k14c2 : Code := mc 1 1 jdk_68_method_6_code
def k14m2 : Method := me "length" "()I" [] (some .int) 1 (some k14c2)
def k14c3 : Code := mc 4 3 jdk_68_method_9_code
def k14m3 : Method := me "ensureCapacityInternal" "(I)V" [.int] (none) 2 (some k14c3)
def k14c4 : Code := mc 5 2 jdk_68_method_11_code
def k14m4 : Method := me "inflate" "()V" [] (none) 2 (some k14c4)
def k14c5 : Code := mc 4 5 jdk_68_method_27_code
def k14m5 : Method := me "append" "(Ljava/lang/CharSequence;II)Ljava/lang/AbstractStringBuilder;" [(.object "java/lang/CharSequence"), .int, .int] (some (.object "java/lang/AbstractStringBuilder")) 1 (some k14c5)
def k14c6 : Code := mc 5 2 jdk_68_method_31_code
def k14m6 : Method := me "append" "(C)Ljava/lang/AbstractStringBuilder;" [.char] (some (.object "java/lang/AbstractStringBuilder")) 1 (some k14c6)
def k14c7 : Code := mc 1 1 jdk_68_method_64_code
def k14m7 : Method := me "getValue" "()[B" [] (some (.array .byte)) 16 (some k14c7)
def k14c8 : Code := mc 1 1 jdk_68_method_68_code
def k14m8 : Method := me "isLatin1" "()Z" [] (some .boolean) 16 (some k14c8)
def k14c9 : Code := mc 6 8 jdk_68_method_75_code
def k14m9 : Method := me "appendChars" "(Ljava/lang/String;II)V" [(.object "java/lang/String"), .int, .int] (none) 18 (some k14c9)
/-- java/lang/AbstractStringBuilder -/
def k14 : Class := { plain "java/lang/AbstractStringBuilder" (some 0) with
  accessFlags := 1056
  interfaces := #[13, 4]
  cf := some (fileOf pool14 10 #[] #[mi 0 7 8, mi 0 7 103, mi 1 34 35, mi 2 102 103, mi 2 127 8, mi 1 45 225, mi 1 45 292, mi 16 552 403, mi 16 85 86, mi 18 234 235] 1056 4 #[444, 48] #[fi 0 17 14, fi 0 24 25, fi 0 75 21, fi 0 81 82, fi 26 13 14])
  fields := #[fd "value" (.array .byte) 0 0 0, fd "coder" .byte 0 1 0, fd "maybeLatin1" .boolean 0 2 0, fd "count" .int 0 3 0, fd "EMPTYVALUE" (.array .byte) 26 0 0]
  methods := #[k14m0, k14m1, k14m2, k14m3, k14m4, k14m5, k14m6, k14m7, k14m8, k14m9]
  instanceTypes := #[(.array .byte), .byte, .boolean, .int]
  staticTypes := #[(.array .byte)]
  resolved := Array.replicate 609 none
  statics := none }

def pool15 : Array CpInfo := pool [(1, .methodref 2 3), (0, .class_ 4), (0, .nameAndType 5 6), (0, u "java/lang/AbstractStringBuilder"), (0, u "<init>"), (0, u "(I)V"), (11, .class_ 20), (1, u "java/lang/String"), (3, .class_ 26), (1, u "java/lang/StringBuilder"), (0, u "append"), (10, .methodref 2 39), (0, .nameAndType 27 40), (0, u "(Ljava/lang/CharSequence;II)Ljava/lang/AbstractStringBuilder;"), (9, .methodref 2 51), (0, .nameAndType 27 52), (0, u "(C)Ljava/lang/AbstractStringBuilder;"), (84, .methodref 18 138), (0, .nameAndType 5 139), (0, u "(Ljava/lang/StringBuilder;)V"), (5, u "()V"), (10, u "()I"), (129, u "(C)Ljava/lang/StringBuilder;"), (11, u "(Ljava/lang/CharSequence;II)Ljava/lang/StringBuilder;"), (44, .methodref 2 344), (0, .nameAndType 345 156), (0, u "length"), (3, .class_ 350), (0, u "java/lang/Appendable"), (0, .class_ 352), (0, u "java/io/Serializable"), (0, .class_ 354), (0, u "java/lang/Comparable"), (0, .class_ 356), (0, u "java/lang/CharSequence"), (0, u "serialVersionUID"), (0, u "J"), (40, u "toString"), (0, u "()Ljava/lang/String;")] 21

def k15m0 : Method := me "<init>" "()V" [] (none) 1 (none)
def k15c1 : Code := mc 2 2 jdk_67_method_2_code
def k15m1 : Method := me "<init>" "(I)V" [.int] (none) 1 (some k15c1)
def k15c2 : Code := mc 4 4 jdk_67_method_10_code
def k15m2 : Method := me "append" "(Ljava/lang/CharSequence;II)Ljava/lang/StringBuilder;" [(.object "java/lang/CharSequence"), .int, .int] (some (.object "java/lang/StringBuilder")) 1 (some k15c2)
def k15c3 : Code := mc 2 2 jdk_67_method_14_code
def k15m3 : Method := me "append" "(C)Ljava/lang/StringBuilder;" [.char] (some (.object "java/lang/StringBuilder")) 1 (some k15c3)
def k15c4 : Code := mc 3 1 jdk_67_method_42_code
def k15m4 : Method := me "toString" "()Ljava/lang/String;" [] (some (.object "java/lang/String")) 1 (some k15c4)
def k15c5 : Code := mc 1 1 jdk_67_method_93_code
def k15m5 : Method := me "length" "()I" [] (some .int) 4161 (some k15c5)
/-- java/lang/StringBuilder -/
def k15 : Class := { plain "java/lang/StringBuilder" (some 14) with
  accessFlags := 49
  interfaces := #[13, 2, 3, 4]
  cf := some (fileOf pool15 24 #[] #[mi 1 5 145, mi 1 5 6, mi 1 27 298, mi 1 27 286, mi 1 399 400, mi 4161 345 156] 49 2 #[349, 351, 353, 355] #[fi 24 357 358])
  fields := #[fd "serialVersionUID" .long 24 0 0]
  methods := #[k15m0, k15m1, k15m2, k15m3, k15m4, k15m5]
  instanceTypes := #[(.array .byte), .byte, .boolean, .int]
  staticTypes := #[.long]
  resolved := Array.replicate 422 none
  statics := none }

def pool16 : Array CpInfo := pool [(2, .class_ 4), (1, u "java/lang/Object"), (0, u "<init>"), (0, u "()V"), (1, .class_ 10), (1, u "java/lang/System"), (0, u "allowSecurityManager"), (0, u "I"), (16, u "cons"), (0, u "Ljava/io/Console;"), (77, .class_ 110), (1, u "java/lang/System$CallersHolder"), (43, u "initialErrStream"), (0, u "Ljava/io/PrintStream;"), (19, u "security"), (0, u "Ljava/lang/SecurityManager;"), (31, .class_ 209), (0, u "java/lang/System$1"), (7, u "props"), (0, u "Ljava/util/Properties;"), (2, u "lineSeparator"), (0, u "Ljava/lang/String;"), (96, .class_ 321), (1, u "java/lang/System$LoggerFinder"), (5, .class_ 328), (0, u "java/lang/System$Logger"), (67, u "err"), (2, u "out"), (91, u "notSupportedJnuEncoding"), (15, u "in"), (17, u "initialIn"), (0, u "Ljava/io/InputStream;"), (35, u "bootLayer"), (0, u "Ljava/lang/ModuleLayer;"), (99, .class_ 664), (0, u "java/lang/System$2"), (9, u "NEVER"), (2, u "MAYBE"), (49, u "arraycopy"), (0, u "(Ljava/lang/Object;ILjava/lang/Object;II)V"), (72, .class_ 802), (0, u "java/lang/System$Logger$Level")] 31

def k16m0 : Method := me "<init>" "()V" [] (none) 2 (none)
def k16m1 : Method := me "arraycopy" "(Ljava/lang/Object;ILjava/lang/Object;II)V" [(.object "java/lang/Object"), .int, (.object "java/lang/Object"), .int, .int] (none) 265 (none)
/-- java/lang/System -/
def k16 : Class := { plain "java/lang/System" (some 0) with
  accessFlags := 49
  interfaces := #[]
  cf := some (fileOf pool16 8 #[.nestMembers #[319, 327, 801, 108, 663, 208]] #[mi 2 5 6, mi 265 727 728] 49 2 #[] #[fi 25 507 526, fi 25 399 155, fi 25 396 155, fi 10 525 526, fi 26 674 12, fi 26 677 12, fi 10 11 12, fi 74 175 176, fi 10 491 222, fi 74 29 30, fi 74 154 155, fi 10 217 218, fi 10 221 222, fi 8 562 563])
  fields := #[fd "in" (.object "java/io/InputStream") 25 0 0, fd "out" (.object "java/io/PrintStream") 25 1 0, fd "err" (.object "java/io/PrintStream") 25 2 0, fd "initialIn" (.object "java/io/InputStream") 10 3 0, fd "NEVER" .int 26 4 0, fd "MAYBE" .int 26 5 0, fd "allowSecurityManager" .int 10 6 0, fd "security" (.object "java/lang/SecurityManager") 74 7 0, fd "notSupportedJnuEncoding" (.object "java/lang/String") 10 8 0, fd "cons" (.object "java/io/Console") 74 9 0, fd "initialErrStream" (.object "java/io/PrintStream") 74 10 0, fd "props" (.object "java/util/Properties") 10 11 0, fd "lineSeparator" (.object "java/lang/String") 10 12 0, fd "bootLayer" (.object "java/lang/ModuleLayer") 8 13 0]
  methods := #[k16m0, k16m1]
  instanceTypes := #[]
  staticTypes := #[(.object "java/io/InputStream"), (.object "java/io/PrintStream"), (.object "java/io/PrintStream"), (.object "java/io/InputStream"), .int, .int, .int, (.object "java/lang/SecurityManager"), (.object "java/lang/String"), (.object "java/io/Console"), (.object "java/io/PrintStream"), (.object "java/util/Properties"), (.object "java/lang/String"), (.object "java/lang/ModuleLayer")]
  resolved := Array.replicate 834 none
  statics := none }

def pool17 : Array CpInfo := pool [(2, .class_ 4), (1, u "java/lang/Object"), (0, u "<init>"), (0, u "()V"), (7, .class_ 16), (1, u "java/util/Arrays"), (57, .class_ 76), (1, u "java/util/Arrays$NaturalOrder"), (32, u "()Ljava/lang/Object;"), (3, .class_ 115), (1, u "java/util/Arrays$LegacyMergeSort"), (1, u "Z"), (10, .nameAndType 129 109), (0, u "clone"), (9, u "copyOfRange"), (10, .methodref 151 152), (0, .class_ 153), (0, .nameAndType 154 155), (0, u "java/lang/System"), (0, u "arraycopy"), (0, u "(Ljava/lang/Object;ILjava/lang/Object;II)V"), (148, .methodref 305 306), (0, .class_ 307), (0, .nameAndType 308 309), (0, u "java/lang/Math"), (0, u "min"), (0, u "(II)I"), (0, .methodref 311 128), (0, .class_ 312), (0, u "[B"), (26, .methodref 14 340), (0, .nameAndType 341 342), (0, u "copyOfRangeByte"), (0, u "([BII)[B"), (0, .methodref 14 344), (0, .nameAndType 345 346), (0, u "checkLength"), (0, u "(II)V"), (28, .class_ 376), (0, u "java/util/Arrays$ArrayList"), (68, u "$assertionsDisabled"), (269, u "MIN_ARRAY_SORT_GRAN"), (0, u "I"), (2, u "INSERTIONSORT_THRESHOLD"), (255, .class_ 976), (0, u "java/util/Arrays$ArrayItr")] 52

def k17m0 : Method := me "<init>" "()V" [] (none) 2 (none)
def k17c1 : Code := mc 4 2 jdk_65_method_131_code
def k17m1 : Method := me "checkLength" "(II)V" [.int, .int] (none) 10 (some k17c1)
def k17c2 : Code := mc 3 3 jdk_65_method_132_code
def k17m2 : Method := me "copyOfRange" "([BII)[B" [(.array .byte), .int, .int] (some (.array .byte)) 9 (some k17c2)
def k17c3 : Code := mc 6 5 jdk_65_method_133_code
def k17m3 : Method := me "copyOfRangeByte" "([BII)[B" [(.array .byte), .int, .int] (some (.array .byte)) 10 (some k17c3)
/-- java/util/Arrays -/
def k17 : Class := { plain "java/util/Arrays" (some 0) with
  accessFlags := 49
  interfaces := #[]
  cf := some (fileOf pool17 14 #[.nestMembers #[975, 375, 113, 74]] #[mi 2 5 6, mi 10 345 346, mi 9 139 342, mi 10 341 342] 49 2 #[] #[fi 26 715 716, fi 26 719 716, fi 4120 445 117])
  fields := #[fd "MIN_ARRAY_SORT_GRAN" .int 26 0 0, fd "INSERTIONSORT_THRESHOLD" .int 26 1 0, fd "$assertionsDisabled" .boolean 4120 2 0]
  methods := #[k17m0, k17m1, k17m2, k17m3]
  instanceTypes := #[]
  staticTypes := #[.int, .int, .boolean]
  resolved := Array.replicate 1029 none
  statics := none }

def pool18 : Array CpInfo := pool [(1, .class_ 2), (0, u "java/lang/Cloneable"), (0, .class_ 4), (0, u "java/lang/Object")] 2

/-- java/lang/Cloneable -/
def k18 : Class := { plain "java/lang/Cloneable" (some 0) with
  accessFlags := 1537
  interfaces := #[]
  cf := some (fileOf pool18 1 #[] #[] 1537 3 #[] #[])
  fields := #[]
  methods := #[]
  instanceTypes := #[]
  staticTypes := #[]
  resolved := Array.replicate 7 none
  statics := none }

def pool19 : Array CpInfo := pool [(9, u "<init>"), (6, .class_ 18), (1, u "java/lang/Object"), (0, u "()V"), (1, .class_ 23), (1, u "jdk/internal/util/ArraysSupport"), (0, u "LOG2_ARRAY_LONG_INDEX_SCALE"), (0, u "I"), (2, u "U"), (0, u "Ljdk/internal/misc/Unsafe;"), (8, u "BIG_ENDIAN"), (0, u "Z"), (8, u "LOG2_BYTE_BIT_SIZE"), (4, u "LOG2_ARRAY_INT_INDEX_SCALE"), (54, u "JLA"), (0, u "Ljdk/internal/access/JavaLangAccess;"), (11, u "LOG2_ARRAY_BOOLEAN_INDEX_SCALE"), (9, u "LOG2_ARRAY_BYTE_INDEX_SCALE"), (5, u "LOG2_ARRAY_CHAR_INDEX_SCALE"), (5, u "LOG2_ARRAY_SHORT_INDEX_SCALE"), (18, u "LOG2_ARRAY_FLOAT_INDEX_SCALE"), (24, u "LOG2_ARRAY_DOUBLE_INDEX_SCALE"), (89, u "T_BOOLEAN"), (2, u "T_CHAR"), (1, u "T_FLOAT"), (1, u "T_DOUBLE"), (1, u "T_BYTE"), (1, u "T_SHORT"), (1, u "T_INT"), (1, u "T_LONG"), (1, u "SOFT_MAX_ARRAY_LENGTH")] 83

def k19m0 : Method := me "<init>" "()V" [] (none) 2 (none)
/-- jdk/internal/util/ArraysSupport -/
def k19 : Class := { plain "jdk/internal/util/ArraysSupport" (some 0) with
  accessFlags := 33
  interfaces := #[]
  cf := some (fileOf pool19 21 #[] #[mi 2 9 19] 33 16 #[] #[fi 24 28 29, fi 26 38 39, fi 25 121 25, fi 25 131 25, fi 25 137 25, fi 25 143 25, fi 25 53 25, fi 25 24 25, fi 25 162 25, fi 25 187 25, fi 26 48 25, fi 25 277 25, fi 25 280 25, fi 25 282 25, fi 25 284 25, fi 25 286 25, fi 25 288 25, fi 25 290 25, fi 25 292 25, fi 26 108 109, fi 25 294 25])
  fields := #[fd "U" (.object "jdk/internal/misc/Unsafe") 24 0 0, fd "BIG_ENDIAN" .boolean 26 1 0, fd "LOG2_ARRAY_BOOLEAN_INDEX_SCALE" .int 25 2 0, fd "LOG2_ARRAY_BYTE_INDEX_SCALE" .int 25 3 0, fd "LOG2_ARRAY_CHAR_INDEX_SCALE" .int 25 4 0, fd "LOG2_ARRAY_SHORT_INDEX_SCALE" .int 25 5 0, fd "LOG2_ARRAY_INT_INDEX_SCALE" .int 25 6 0, fd "LOG2_ARRAY_LONG_INDEX_SCALE" .int 25 7 0, fd "LOG2_ARRAY_FLOAT_INDEX_SCALE" .int 25 8 0, fd "LOG2_ARRAY_DOUBLE_INDEX_SCALE" .int 25 9 0, fd "LOG2_BYTE_BIT_SIZE" .int 26 10 0, fd "T_BOOLEAN" .int 25 11 0, fd "T_CHAR" .int 25 12 0, fd "T_FLOAT" .int 25 13 0, fd "T_DOUBLE" .int 25 14 0, fd "T_BYTE" .int 25 15 0, fd "T_SHORT" .int 25 16 0, fd "T_INT" .int 25 17 0, fd "T_LONG" .int 25 18 0, fd "JLA" (.object "jdk/internal/access/JavaLangAccess") 26 19 0, fd "SOFT_MAX_ARRAY_LENGTH" .int 25 20 0]
  methods := #[k19m0]
  instanceTypes := #[]
  staticTypes := #[(.object "jdk/internal/misc/Unsafe"), .boolean, .int, .int, .int, .int, .int, .int, .int, .int, .int, .int, .int, .int, .int, .int, .int, .int, .int, (.object "jdk/internal/access/JavaLangAccess"), .int]
  resolved := Array.replicate 378 none
  statics := none }

/-- the primitive byte -/
def k20 : Class := { plain "byte" none with kind := .primitive 'B', accessFlags := 0x411 }
/-- [B -/
def k21 : Class := { plain "[B" (some 0) with kind := .array 20 .byte, interfaces := #[18, 2], accessFlags := 1041 }

/-- the primitive char -/
def k22 : Class := { plain "char" none with kind := .primitive 'C', accessFlags := 0x411 }
/-- [C -/
def k23 : Class := { plain "[C" (some 0) with kind := .array 22 .char, interfaces := #[18, 2], accessFlags := 1041 }

/-- the primitive int -/
def k24 : Class := { plain "int" none with kind := .primitive 'I', accessFlags := 0x411 }
/-- [I -/
def k25 : Class := { plain "[I" (some 0) with kind := .array 24 .int, interfaces := #[18, 2], accessFlags := 1041 }

def heap : Heap := #[{ cls := 7, slots := #[.long 0, .int 1, .null, .int 0, .null, .int 0, .int 0], vm := .statics 7 },
  { cls := 9, slots := #[.ref 3, .null, .null], vm := .statics 9 },
  { cls := 10, slots := #[.int 0, .int 8, .int 0, .int 1], vm := .statics 10 },
  { cls := 0, slots := #[], vm := .none }]
def classes : Array Class := #[k0, k1, k2, k3, k4, k5, k6, k7, k8, k9, k10, k11, k12, k13, k14, k15, k16, k17, k18, k19, k20, k21, k22, k23, k24, k25]
def interned : List (Array UInt16 × Addr) := []
def slotsUsed : Nat := 14
def theMethod : MethodId := ⟨1, 8⟩
def args0 : Array Value := #[.int 2, .int 65, .int 66, .int 67, .int 66, .int 3]
def aboutOver (below : List Frame) : State where
  vm := { classes := classes, interned := interned.toArray }
  heap := heap
  slotsUsed := slotsUsed
  threads := #[{ frames := .invoking theMethod args0 :: below }]
def below0 : List Frame := [.native { method := ⟨0, 0⟩, args := #[] }]
def about1 : State := aboutOver below0
def p0 : Program := .bare "" "" ""
def e0 : Env := launch0.env 0 0 0
theorem w_frames : about1.frames = Frame.invoking theMethod args0 :: below0 := rfl
theorem w_args : argsFit about1.vm theMethod args0 = true := by decide +kernel
theorem w_heap : heapFits about1 = true := by decide +kernel
theorem w_runnable : about1.curStatus? = some .runnable := by decide +kernel
theorem w_alone : about1.alone = true := by decide +kernel
theorem w_named : about1.methodNamed? x = some theMethod := by decide +kernel
theorem w_hears : about1.hears theMethod below0 = true := by decide +kernel
theorem w_ripe : about1.ripe theMethod args0 below0 = true := by decide +kernel
theorem w_running : about1.status = .running := rfl
theorem w_room : about1.hasRoom e0.platform room_1 = true :=
  launch0.hasRoom_least _ room_1 (by decide +kernel) (by decide +kernel) (by decide +kernel) (by decide +kernel) (by decide +kernel) (by decide +kernel)
theorem allAtoms_all (ts : List Jvm.Cond) (a : Array Jvm.Value) (st : Jvm.State) : (allAtoms ts).before a st = ts.all (fun c => c.before a st) := by
  induction ts with
  | nil => rfl
  | cons c t ih =>
    show (Jvm.Cond.and c (allAtoms t)).before a st = _
    rw [Jvm.Cond.before_and, ih, List.all_cons]
def words1 : List Jvm.Cond := Jvm.Cond.code x code maxLocals ret :: tables_1
/-- a 'code' word, met by the world's own term for the bytes: nothing is compared byte by byte -/
theorem code_word {y : MethodName} {bytes : ByteArray} {mx : Nat} {rt : Option FieldType} {a : Array Value} {s : State} {m : MethodId} {meth : Method} {c : Code} (h1 : s.methodNamed? y = some m) (h2 : s.vm.method? m = some meth) (h3 : meth.code = some c) (h4 : c.code = bytes)
    (h5 : (c.maxLocals == mx && c.exceptionTable.isEmpty && decide (c.maxStack ≤ mostOperands) && decide (meth.sig.returnType = rt) && !meth.locks && decide (parseMethodDescriptor y.desc = some meth.sig)) = true) : (Jvm.Cond.code y bytes mx rt).before a s = true := by
  simp only [Bool.and_eq_true, beq_iff_eq, Bool.not_eq_true', decide_eq_true_eq] at h5
  obtain ⟨⟨⟨⟨⟨g1, g2⟩, g3⟩, g4⟩, g5⟩, g6⟩ := h5
  simp [Cond.before, Cond.holds, Cond.value, h1, h2, h3, h4, g1, g2, g3, g4, g5, g6]
def isCode : Jvm.Cond → Bool
  | .code _ _ _ _ => true
  | _ => false
theorem all_split {L : List Jvm.Cond} {P : Jvm.Cond → Bool} (h1 : L.all (fun c => isCode c || P c) = true) (h2 : ∀ c ∈ L.filter isCode, P c = true) : L.all P = true := by
  refine List.all_eq_true.mpr fun c hc => ?_
  have h := List.all_eq_true.mp h1 c hc
  rcases Bool.eq_false_or_eq_true (isCode c) with hi | hi
  · exact h2 c (List.mem_filter.mpr ⟨hc, hi⟩)
  · simpa [hi] using h
theorem w_c0 : (Jvm.Cond.code x code maxLocals ret).before args0 about1 = true := code_word (m := ⟨1, 8⟩) (meth := k1m8) (c := k1c8) (by decide +kernel) rfl rfl rfl (by decide +kernel)
theorem w_c1 : (Jvm.Cond.code Y68 method_2_code 3 (some .char)).before args0 about1 = true := code_word (m := ⟨1, 1⟩) (meth := k1m1) (c := k1c1) (by decide +kernel) rfl rfl rfl (by decide +kernel)
theorem w_c2 : (Jvm.Cond.code Y16 jdk_42_method_56_code 2 (some .char)).before args0 about1 = true := code_word (m := ⟨7, 4⟩) (meth := k7m4) (c := k7c4) (by decide +kernel) rfl rfl rfl (by decide +kernel)
theorem w_c3 : (Jvm.Cond.code Y13 jdk_42_method_154_code 1 (some .boolean)).before args0 about1 = true := code_word (m := ⟨7, 11⟩) (meth := k7m11) (c := k7c11) (by decide +kernel) rfl rfl rfl (by decide +kernel)
theorem w_c4 : (Jvm.Cond.code Y12 jdk_43_method_2_code 2 (some .char)).before args0 about1 = true := code_word (m := ⟨8, 1⟩) (meth := k8m1) (c := k8c1) (by decide +kernel) rfl rfl rfl (by decide +kernel)
theorem w_c5 : (Jvm.Cond.code Y2 jdk_42_method_155_code 2 none).before args0 about1 = true := code_word (m := ⟨7, 12⟩) (meth := k7m12) (c := k7c12) (by decide +kernel) rfl rfl rfl (by decide +kernel)
theorem w_c6 : (Jvm.Cond.code Y1 jdk_41_method_11_code 3 (some .int)).before args0 about1 = true := code_word (m := ⟨9, 1⟩) (meth := k9m1) (c := k9c1) (by decide +kernel) rfl rfl rfl (by decide +kernel)
theorem w_c7 : (Jvm.Cond.code Y69 method_7_code 2 (some (.object "java/lang/String"))).before args0 about1 = true := code_word (m := ⟨1, 6⟩) (meth := k1m6) (c := k1c6) (by decide +kernel) rfl rfl rfl (by decide +kernel)
theorem w_c8 : (Jvm.Cond.code Y35 jdk_42_method_3_code 2 none).before args0 about1 = true := code_word (m := ⟨7, 1⟩) (meth := k7m1) (c := k7c1) (by decide +kernel) rfl rfl rfl (by decide +kernel)
theorem w_c9 : (Jvm.Cond.code Y34 jdk_42_method_149_code 6 none).before args0 about1 = true := code_word (m := ⟨7, 7⟩) (meth := k7m7) (c := k7c7) (by decide +kernel) rfl rfl rfl (by decide +kernel)
theorem w_c10 : (Jvm.Cond.code ⟨"java/lang/Object", "<init>", "()V"⟩ object_method_1_code 1 none).before args0 about1 = true := code_word (m := ⟨0, 0⟩) (meth := k0m0) (c := k0c0) (by decide +kernel) rfl rfl rfl (by decide +kernel)
theorem w_c11 : (Jvm.Cond.code Y32 jdk_52_method_16_code 6 (some (.array .byte))).before args0 about1 = true := code_word (m := ⟨10, 8⟩) (meth := k10m8) (c := k10c8) (by decide +kernel) rfl rfl rfl (by decide +kernel)
theorem w_c12 : (Jvm.Cond.code Y31 jdk_52_method_21_code 7 (some .int)).before args0 about1 = true := code_word (m := ⟨10, 9⟩) (meth := k10m9) (c := k10c9) (by decide +kernel) rfl rfl rfl (by decide +kernel)
theorem w_c13 : (Jvm.Cond.code Y33 jdk_52_method_15_code 2 (some .byte)).before args0 about1 = true := code_word (m := ⟨10, 7⟩) (meth := k10m7) (c := k10c7) (by decide +kernel) rfl rfl rfl (by decide +kernel)
theorem w_c14 : (Jvm.Cond.code Y67 prog_14_method_3_code 6 (some (.object "java/lang/String"))).before args0 about1 = true := code_word (m := ⟨11, 2⟩) (meth := k11m2) (c := k11c2) (by decide +kernel) rfl rfl rfl (by decide +kernel)
theorem w_c15 : (Jvm.Cond.code Y27 jdk_42_method_79_code 2 (some .int)).before args0 about1 = true := code_word (m := ⟨7, 5⟩) (meth := k7m5) (c := k7c5) (by decide +kernel) rfl rfl rfl (by decide +kernel)
theorem w_c16 : (Jvm.Cond.code Y26 jdk_42_method_80_code 3 (some .int)).before args0 about1 = true := code_word (m := ⟨7, 6⟩) (meth := k7m6) (c := k7c6) (by decide +kernel) rfl rfl rfl (by decide +kernel)
theorem w_c17 : (Jvm.Cond.code Y15 jdk_42_method_54_code 1 (some .int)).before args0 about1 = true := code_word (m := ⟨7, 3⟩) (meth := k7m3) (c := k7c3) (by decide +kernel) rfl rfl rfl (by decide +kernel)
theorem w_c18 : (Jvm.Cond.code Y14 jdk_42_method_152_code 1 (some .byte)).before args0 about1 = true := code_word (m := ⟨7, 9⟩) (meth := k7m9) (c := k7c9) (by decide +kernel) rfl rfl rfl (by decide +kernel)
theorem w_c19 : (Jvm.Cond.code Y21 jdk_43_method_22_code 4 (some .int)).before args0 about1 = true := code_word (m := ⟨8, 4⟩) (meth := k8m4) (c := k8c4) (by decide +kernel) rfl rfl rfl (by decide +kernel)
theorem w_c20 : (Jvm.Cond.code Y19 jdk_43_method_4_code 1 (some .boolean)).before args0 about1 = true := code_word (m := ⟨8, 3⟩) (meth := k8m3) (c := k8c3) (by decide +kernel) rfl rfl rfl (by decide +kernel)
theorem w_c21 : (Jvm.Cond.code Y17 jdk_29_method_65_code 2 (some .int)).before args0 about1 = true := code_word (m := ⟨12, 1⟩) (meth := k12m1) (c := k12c1) (by decide +kernel) rfl rfl rfl (by decide +kernel)
theorem w_c22 : (Jvm.Cond.code Y18 jdk_29_method_69_code 2 (some .int)).before args0 about1 = true := code_word (m := ⟨12, 2⟩) (meth := k12m2) (c := k12c2) (by decide +kernel) rfl rfl rfl (by decide +kernel)
theorem w_c23 : (Jvm.Cond.code Y20 jdk_43_method_23_code 6 (some .int)).before args0 about1 = true := code_word (m := ⟨8, 5⟩) (meth := k8m5) (c := k8c5) (by decide +kernel) rfl rfl rfl (by decide +kernel)
theorem w_c24 : (Jvm.Cond.code Y37 jdk_67_method_2_code 2 none).before args0 about1 = true := code_word (m := ⟨15, 1⟩) (meth := k15m1) (c := k15c1) (by decide +kernel) rfl rfl rfl (by decide +kernel)
theorem w_c25 : (Jvm.Cond.code Y36 jdk_68_method_2_code 2 none).before args0 about1 = true := code_word (m := ⟨14, 1⟩) (meth := k14m1) (c := k14c1) (by decide +kernel) rfl rfl rfl (by decide +kernel)
theorem w_c26 : (Jvm.Cond.code Y55 jdk_67_method_10_code 4 (some (.object "java/lang/StringBuilder"))).before args0 about1 = true := code_word (m := ⟨15, 2⟩) (meth := k15m2) (c := k15c2) (by decide +kernel) rfl rfl rfl (by decide +kernel)
theorem w_c27 : (Jvm.Cond.code Y53 jdk_68_method_27_code 5 (some (.object "java/lang/AbstractStringBuilder"))).before args0 about1 = true := code_word (m := ⟨14, 5⟩) (meth := k14m5) (c := k14c5) (by decide +kernel) rfl rfl rfl (by decide +kernel)
theorem w_c28 : (Jvm.Cond.code Y3 jdk_41_method_12_code 4 (some .int)).before args0 about1 = true := code_word (m := ⟨9, 2⟩) (meth := k9m2) (c := k9c2) (by decide +kernel) rfl rfl rfl (by decide +kernel)
theorem w_c29 : (Jvm.Cond.code Y44 jdk_68_method_9_code 3 none).before args0 about1 = true := code_word (m := ⟨14, 3⟩) (meth := k14m3) (c := k14c3) (by decide +kernel) rfl rfl rfl (by decide +kernel)
theorem w_c30 : (Jvm.Cond.code Y52 jdk_68_method_75_code 8 none).before args0 about1 = true := code_word (m := ⟨14, 9⟩) (meth := k14m9) (c := k14c9) (by decide +kernel) rfl rfl rfl (by decide +kernel)
theorem w_c31 : (Jvm.Cond.code Y38 jdk_68_method_68_code 1 (some .boolean)).before args0 about1 = true := code_word (m := ⟨14, 8⟩) (meth := k14m8) (c := k14c8) (by decide +kernel) rfl rfl rfl (by decide +kernel)
theorem w_c32 : (Jvm.Cond.code Y40 jdk_42_method_153_code 1 (some (.array .byte))).before args0 about1 = true := code_word (m := ⟨7, 10⟩) (meth := k7m10) (c := k7c10) (by decide +kernel) rfl rfl rfl (by decide +kernel)
theorem w_c33 : (Jvm.Cond.code Y66 prog_14_method_4_code 4 (some .int)).before args0 about1 = true := code_word (m := ⟨11, 3⟩) (meth := k11m3) (c := k11c3) (by decide +kernel) rfl rfl rfl (by decide +kernel)
theorem w_c34 : (Jvm.Cond.code Y62 prog_14_method_5_code 1 (some .int)).before args0 about1 = true := code_word (m := ⟨11, 4⟩) (meth := k11m4) (c := k11c4) (by decide +kernel) rfl rfl rfl (by decide +kernel)
theorem w_c35 : (Jvm.Cond.code Y51 jdk_67_method_14_code 2 (some (.object "java/lang/StringBuilder"))).before args0 about1 = true := code_word (m := ⟨15, 3⟩) (meth := k15m3) (c := k15c3) (by decide +kernel) rfl rfl rfl (by decide +kernel)
theorem w_c36 : (Jvm.Cond.code Y50 jdk_68_method_31_code 2 (some (.object "java/lang/AbstractStringBuilder"))).before args0 about1 = true := code_word (m := ⟨14, 6⟩) (meth := k14m6) (c := k14c6) (by decide +kernel) rfl rfl rfl (by decide +kernel)
theorem w_c37 : (Jvm.Cond.code Y39 jdk_43_method_3_code 1 (some .boolean)).before args0 about1 = true := code_word (m := ⟨8, 2⟩) (meth := k8m2) (c := k8c2) (by decide +kernel) rfl rfl rfl (by decide +kernel)
theorem w_c38 : (Jvm.Cond.code Y61 jdk_67_method_42_code 1 (some (.object "java/lang/String"))).before args0 about1 = true := code_word (m := ⟨15, 4⟩) (meth := k15m4) (c := k15c4) (by decide +kernel) rfl rfl rfl (by decide +kernel)
theorem w_c39 : (Jvm.Cond.code Y60 jdk_42_method_53_code 2 none).before args0 about1 = true := code_word (m := ⟨7, 2⟩) (meth := k7m2) (c := k7c2) (by decide +kernel) rfl rfl rfl (by decide +kernel)
theorem w_c40 : (Jvm.Cond.code Y59 jdk_42_method_150_code 5 none).before args0 about1 = true := code_word (m := ⟨7, 8⟩) (meth := k7m8) (c := k7c8) (by decide +kernel) rfl rfl rfl (by decide +kernel)
theorem w_c41 : (Jvm.Cond.code Y41 jdk_68_method_64_code 1 (some (.array .byte))).before args0 about1 = true := code_word (m := ⟨14, 7⟩) (meth := k14m7) (c := k14c7) (by decide +kernel) rfl rfl rfl (by decide +kernel)
theorem w_c42 : (Jvm.Cond.code Y43 jdk_67_method_93_code 1 (some .int)).before args0 about1 = true := code_word (m := ⟨15, 5⟩) (meth := k15m5) (c := k15c5) (by decide +kernel) rfl rfl rfl (by decide +kernel)
theorem w_c43 : (Jvm.Cond.code Y42 jdk_68_method_6_code 1 (some .int)).before args0 about1 = true := code_word (m := ⟨14, 2⟩) (meth := k14m2) (c := k14c2) (by decide +kernel) rfl rfl rfl (by decide +kernel)
theorem w_c44 : (Jvm.Cond.code Y58 jdk_65_method_132_code 3 (some (.array .byte))).before args0 about1 = true := code_word (m := ⟨17, 2⟩) (meth := k17m2) (c := k17c2) (by decide +kernel) rfl rfl rfl (by decide +kernel)
theorem w_c45 : (Jvm.Cond.code Y71 method_6_code 6 (some .int)).before args0 about1 = true := code_word (m := ⟨1, 5⟩) (meth := k1m5) (c := k1c5) (by decide +kernel) rfl rfl rfl (by decide +kernel)
theorem w_c46 : (Jvm.Cond.code Y70 method_5_code 6 (some .int)).before args0 about1 = true := code_word (m := ⟨1, 4⟩) (meth := k1m4) (c := k1c4) (by decide +kernel) rfl rfl rfl (by decide +kernel)
theorem w_c47 : (Jvm.Cond.code Y64 method_3_code 1 (some .int)).before args0 about1 = true := code_word (m := ⟨1, 2⟩) (meth := k1m2) (c := k1c2) (by decide +kernel) rfl rfl rfl (by decide +kernel)
theorem w_c48 : (Jvm.Cond.code Y72 method_8_code 4 (some .boolean)).before args0 about1 = true := code_word (m := ⟨1, 7⟩) (meth := k1m7) (c := k1c7) (by decide +kernel) rfl rfl rfl (by decide +kernel)
theorem w_c49 : (Jvm.Cond.code Y30 jdk_52_method_14_code 5 (some (.array .byte))).before args0 about1 = true := code_word (m := ⟨10, 6⟩) (meth := k10m6) (c := k10c6) (by decide +kernel) rfl rfl rfl (by decide +kernel)
theorem w_c50 : (Jvm.Cond.code Y29 jdk_52_method_2_code 1 (some (.array .byte))).before args0 about1 = true := code_word (m := ⟨10, 1⟩) (meth := k10m1) (c := k10c1) (by decide +kernel) rfl rfl rfl (by decide +kernel)
theorem w_c51 : (Jvm.Cond.code Y28 jdk_52_method_3_code 1 (some .int)).before args0 about1 = true := code_word (m := ⟨10, 2⟩) (meth := k10m2) (c := k10c2) (by decide +kernel) rfl rfl rfl (by decide +kernel)
theorem w_c52 : (Jvm.Cond.code Y8 jdk_52_method_4_code 3 none).before args0 about1 = true := code_word (m := ⟨10, 3⟩) (meth := k10m3) (c := k10c3) (by decide +kernel) rfl rfl rfl (by decide +kernel)
theorem w_c53 : (Jvm.Cond.code Y9 jdk_52_method_5_code 2 (some .char)).before args0 about1 = true := code_word (m := ⟨10, 4⟩) (meth := k10m4) (c := k10c4) (by decide +kernel) rfl rfl rfl (by decide +kernel)
theorem w_c54 : (Jvm.Cond.code Y25 jdk_52_method_40_code 4 (some .int)).before args0 about1 = true := code_word (m := ⟨10, 10⟩) (meth := k10m10) (c := k10c10) (by decide +kernel) rfl rfl rfl (by decide +kernel)
theorem w_c55 : (Jvm.Cond.code Y24 jdk_52_method_47_code 4 (some .int)).before args0 about1 = true := code_word (m := ⟨10, 11⟩) (meth := k10m11) (c := k10c11) (by decide +kernel) rfl rfl rfl (by decide +kernel)
theorem w_c56 : (Jvm.Cond.code Y22 jdk_52_method_93_code 3 none).before args0 about1 = true := code_word (m := ⟨10, 17⟩) (meth := k10m17) (c := k10c17) (by decide +kernel) rfl rfl rfl (by decide +kernel)
theorem w_c57 : (Jvm.Cond.code Y7 jdk_52_method_6_code 1 (some .int)).before args0 about1 = true := code_word (m := ⟨10, 5⟩) (meth := k10m5) (c := k10c5) (by decide +kernel) rfl rfl rfl (by decide +kernel)
theorem w_c58 : (Jvm.Cond.code Y4 jdk_42_method_158_code 3 none).before args0 about1 = true := code_word (m := ⟨7, 14⟩) (meth := k7m14) (c := k7c14) (by decide +kernel) rfl rfl rfl (by decide +kernel)
theorem w_c59 : (Jvm.Cond.code Y23 jdk_52_method_48_code 5 (some .int)).before args0 about1 = true := code_word (m := ⟨10, 12⟩) (meth := k10m12) (c := k10c12) (by decide +kernel) rfl rfl rfl (by decide +kernel)
theorem w_c60 : (Jvm.Cond.code Y11 jdk_52_method_83_code 2 (some .char)).before args0 about1 = true := code_word (m := ⟨10, 14⟩) (meth := k10m14) (c := k10c14) (by decide +kernel) rfl rfl rfl (by decide +kernel)
theorem w_c61 : (Jvm.Cond.code Y10 jdk_52_method_91_code 2 none).before args0 about1 = true := code_word (m := ⟨10, 16⟩) (meth := k10m16) (c := k10c16) (by decide +kernel) rfl rfl rfl (by decide +kernel)
theorem w_c62 : (Jvm.Cond.code Y48 jdk_68_method_11_code 2 none).before args0 about1 = true := code_word (m := ⟨14, 4⟩) (meth := k14m4) (c := k14c4) (by decide +kernel) rfl rfl rfl (by decide +kernel)
theorem w_c63 : (Jvm.Cond.code Y47 jdk_43_method_50_code 5 none).before args0 about1 = true := code_word (m := ⟨8, 6⟩) (meth := k8m6) (c := k8c6) (by decide +kernel) rfl rfl rfl (by decide +kernel)
theorem w_c64 : (Jvm.Cond.code Y46 jdk_52_method_86_code 6 none).before args0 about1 = true := code_word (m := ⟨10, 15⟩) (meth := k10m15) (c := k10c15) (by decide +kernel) rfl rfl rfl (by decide +kernel)
theorem w_c65 : (Jvm.Cond.code Y45 jdk_52_method_94_code 3 none).before args0 about1 = true := code_word (m := ⟨10, 18⟩) (meth := k10m18) (c := k10c18) (by decide +kernel) rfl rfl rfl (by decide +kernel)
theorem w_c66 : (Jvm.Cond.code Y6 jdk_42_method_157_code 3 (some .int)).before args0 about1 = true := code_word (m := ⟨7, 13⟩) (meth := k7m13) (c := k7c13) (by decide +kernel) rfl rfl rfl (by decide +kernel)
theorem w_c67 : (Jvm.Cond.code Y5 jdk_41_method_13_code 4 (some .int)).before args0 about1 = true := code_word (m := ⟨9, 3⟩) (meth := k9m3) (c := k9c3) (by decide +kernel) rfl rfl rfl (by decide +kernel)
theorem w_c68 : (Jvm.Cond.code Y49 jdk_52_method_71_code 3 none).before args0 about1 = true := code_word (m := ⟨10, 13⟩) (meth := k10m13) (c := k10c13) (by decide +kernel) rfl rfl rfl (by decide +kernel)
theorem w_c69 : (Jvm.Cond.code Y63 prog_14_method_2_code 1 (some .boolean)).before args0 about1 = true := code_word (m := ⟨11, 1⟩) (meth := k11m1) (c := k11c1) (by decide +kernel) rfl rfl rfl (by decide +kernel)
theorem w_c70 : (Jvm.Cond.code Y57 jdk_65_method_133_code 5 (some (.array .byte))).before args0 about1 = true := code_word (m := ⟨17, 3⟩) (meth := k17m3) (c := k17c3) (by decide +kernel) rfl rfl rfl (by decide +kernel)
theorem w_c71 : (Jvm.Cond.code Y56 jdk_65_method_131_code 2 none).before args0 about1 = true := code_word (m := ⟨17, 1⟩) (meth := k17m1) (c := k17c1) (by decide +kernel) rfl rfl rfl (by decide +kernel)
theorem w_c72 : (Jvm.Cond.code Y65 method_4_code 1 (some .boolean)).before args0 about1 = true := code_word (m := ⟨1, 3⟩) (meth := k1m3) (c := k1c3) (by decide +kernel) rfl rfl rfl (by decide +kernel)
def codes1 : List Jvm.Cond := [Jvm.Cond.code x code maxLocals ret, Jvm.Cond.code ⟨"com/example/amid2/amid2/PercentEncodingDecodeUnreservedPinLaw", "draw", "(I)C"⟩ method_2_code 3 (some .char), Jvm.Cond.code ⟨"java/lang/String", "charAt", "(I)C"⟩ jdk_42_method_56_code 2 (some .char), Jvm.Cond.code ⟨"java/lang/String", "isLatin1", "()Z"⟩ jdk_42_method_154_code 1 (some .boolean), Jvm.Cond.code ⟨"java/lang/StringLatin1", "charAt", "([BI)C"⟩ jdk_43_method_2_code 2 (some .char), Jvm.Cond.code ⟨"java/lang/String", "checkIndex", "(II)V"⟩ jdk_42_method_155_code 2 none, Jvm.Cond.code ⟨"jdk/internal/util/Preconditions", "checkIndex", "(IILjava/util/function/BiFunction;)I"⟩ jdk_41_method_11_code 3 (some .int), Jvm.Cond.code ⟨"com/example/amid2/amid2/PercentEncodingDecodeUnreservedPinLaw", "make", "([CI)Ljava/lang/String;"⟩ method_7_code 2 (some (.object "java/lang/String")), Jvm.Cond.code ⟨"java/lang/String", "<init>", "([C)V"⟩ jdk_42_method_3_code 2 none, Jvm.Cond.code ⟨"java/lang/String", "<init>", "([CIILjava/lang/Void;)V"⟩ jdk_42_method_149_code 6 none, Jvm.Cond.code ⟨"java/lang/Object", "<init>", "()V"⟩ object_method_1_code 1 none, Jvm.Cond.code ⟨"java/lang/StringUTF16", "compress", "([CII)[B"⟩ jdk_52_method_16_code 6 (some (.array .byte)), Jvm.Cond.code ⟨"java/lang/StringUTF16", "compress", "([CI[BII)I"⟩ jdk_52_method_21_code 7 (some .int), Jvm.Cond.code ⟨"java/lang/StringUTF16", "coderFromArrayLen", "([BI)B"⟩ jdk_52_method_15_code 2 (some .byte), Jvm.Cond.code ⟨"com/example/amid2/amid2/PercentEncoding", "decodeUnreserved", "(Ljava/lang/String;)Ljava/lang/String;"⟩ prog_14_method_3_code 6 (some (.object "java/lang/String")), Jvm.Cond.code ⟨"java/lang/String", "indexOf", "(I)I"⟩ jdk_42_method_79_code 2 (some .int), Jvm.Cond.code ⟨"java/lang/String", "indexOf", "(II)I"⟩ jdk_42_method_80_code 3 (some .int), Jvm.Cond.code ⟨"java/lang/String", "length", "()I"⟩ jdk_42_method_54_code 1 (some .int), Jvm.Cond.code ⟨"java/lang/String", "coder", "()B"⟩ jdk_42_method_152_code 1 (some .byte), Jvm.Cond.code ⟨"java/lang/StringLatin1", "indexOf", "([BIII)I"⟩ jdk_43_method_22_code 4 (some .int), Jvm.Cond.code ⟨"java/lang/StringLatin1", "canEncode", "(I)Z"⟩ jdk_43_method_4_code 1 (some .boolean), Jvm.Cond.code ⟨"java/lang/Math", "max", "(II)I"⟩ jdk_29_method_65_code 2 (some .int), Jvm.Cond.code ⟨"java/lang/Math", "min", "(II)I"⟩ jdk_29_method_69_code 2 (some .int), Jvm.Cond.code ⟨"java/lang/StringLatin1", "indexOfChar", "([BIII)I"⟩ jdk_43_method_23_code 6 (some .int), Jvm.Cond.code ⟨"java/lang/StringBuilder", "<init>", "(I)V"⟩ jdk_67_method_2_code 2 none, Jvm.Cond.code ⟨"java/lang/AbstractStringBuilder", "<init>", "(I)V"⟩ jdk_68_method_2_code 2 none, Jvm.Cond.code ⟨"java/lang/StringBuilder", "append", "(Ljava/lang/CharSequence;II)Ljava/lang/StringBuilder;"⟩ jdk_67_method_10_code 4 (some (.object "java/lang/StringBuilder")), Jvm.Cond.code ⟨"java/lang/AbstractStringBuilder", "append", "(Ljava/lang/CharSequence;II)Ljava/lang/AbstractStringBuilder;"⟩ jdk_68_method_27_code 5 (some (.object "java/lang/AbstractStringBuilder")), Jvm.Cond.code ⟨"jdk/internal/util/Preconditions", "checkFromToIndex", "(IIILjava/util/function/BiFunction;)I"⟩ jdk_41_method_12_code 4 (some .int), Jvm.Cond.code ⟨"java/lang/AbstractStringBuilder", "ensureCapacityInternal", "(I)V"⟩ jdk_68_method_9_code 3 none, Jvm.Cond.code ⟨"java/lang/AbstractStringBuilder", "appendChars", "(Ljava/lang/String;II)V"⟩ jdk_68_method_75_code 8 none, Jvm.Cond.code ⟨"java/lang/AbstractStringBuilder", "isLatin1", "()Z"⟩ jdk_68_method_68_code 1 (some .boolean), Jvm.Cond.code ⟨"java/lang/String", "value", "()[B"⟩ jdk_42_method_153_code 1 (some (.array .byte)), Jvm.Cond.code ⟨"com/example/amid2/amid2/PercentEncoding", "octetAt", "(Ljava/lang/String;I)I"⟩ prog_14_method_4_code 4 (some .int), Jvm.Cond.code ⟨"com/example/amid2/amid2/PercentEncoding", "hexDigit", "(C)I"⟩ prog_14_method_5_code 1 (some .int), Jvm.Cond.code ⟨"java/lang/StringBuilder", "append", "(C)Ljava/lang/StringBuilder;"⟩ jdk_67_method_14_code 2 (some (.object "java/lang/StringBuilder")), Jvm.Cond.code ⟨"java/lang/AbstractStringBuilder", "append", "(C)Ljava/lang/AbstractStringBuilder;"⟩ jdk_68_method_31_code 2 (some (.object "java/lang/AbstractStringBuilder")), Jvm.Cond.code ⟨"java/lang/StringLatin1", "canEncode", "(C)Z"⟩ jdk_43_method_3_code 1 (some .boolean), Jvm.Cond.code ⟨"java/lang/StringBuilder", "toString", "()Ljava/lang/String;"⟩ jdk_67_method_42_code 1 (some (.object "java/lang/String")), Jvm.Cond.code ⟨"java/lang/String", "<init>", "(Ljava/lang/StringBuilder;)V"⟩ jdk_42_method_53_code 2 none, Jvm.Cond.code ⟨"java/lang/String", "<init>", "(Ljava/lang/AbstractStringBuilder;Ljava/lang/Void;)V"⟩ jdk_42_method_150_code 5 none, Jvm.Cond.code ⟨"java/lang/AbstractStringBuilder", "getValue", "()[B"⟩ jdk_68_method_64_code 1 (some (.array .byte)), Jvm.Cond.code ⟨"java/lang/StringBuilder", "length", "()I"⟩ jdk_67_method_93_code 1 (some .int), Jvm.Cond.code ⟨"java/lang/AbstractStringBuilder", "length", "()I"⟩ jdk_68_method_6_code 1 (some .int), Jvm.Cond.code ⟨"java/util/Arrays", "copyOfRange", "([BII)[B"⟩ jdk_65_method_132_code 3 (some (.array .byte)), Jvm.Cond.code ⟨"com/example/amid2/amid2/PercentEncodingDecodeUnreservedPinLaw", "emit", "([CII[CI)I"⟩ method_6_code 6 (some .int), Jvm.Cond.code ⟨"com/example/amid2/amid2/PercentEncodingDecodeUnreservedPinLaw", "dec", "([CII)I"⟩ method_5_code 6 (some .int), Jvm.Cond.code ⟨"com/example/amid2/amid2/PercentEncodingDecodeUnreservedPinLaw", "hex", "(C)I"⟩ method_3_code 1 (some .int), Jvm.Cond.code ⟨"com/example/amid2/amid2/PercentEncodingDecodeUnreservedPinLaw", "same", "(Ljava/lang/String;[CII)Z"⟩ method_8_code 4 (some .boolean), Jvm.Cond.code ⟨"java/lang/StringUTF16", "toBytes", "([CII)[B"⟩ jdk_52_method_14_code 5 (some (.array .byte)), Jvm.Cond.code ⟨"java/lang/StringUTF16", "newBytesFor", "(I)[B"⟩ jdk_52_method_2_code 1 (some (.array .byte)), Jvm.Cond.code ⟨"java/lang/StringUTF16", "newBytesLength", "(I)I"⟩ jdk_52_method_3_code 1 (some .int), Jvm.Cond.code ⟨"java/lang/StringUTF16", "putChar", "([BII)V"⟩ jdk_52_method_4_code 3 none, Jvm.Cond.code ⟨"java/lang/StringUTF16", "getChar", "([BI)C"⟩ jdk_52_method_5_code 2 (some .char), Jvm.Cond.code ⟨"java/lang/StringUTF16", "indexOf", "([BIII)I"⟩ jdk_52_method_40_code 4 (some .int), Jvm.Cond.code ⟨"java/lang/StringUTF16", "indexOfChar", "([BIII)I"⟩ jdk_52_method_47_code 4 (some .int), Jvm.Cond.code ⟨"java/lang/StringUTF16", "checkBoundsBeginEnd", "(II[B)V"⟩ jdk_52_method_93_code 3 none, Jvm.Cond.code ⟨"java/lang/StringUTF16", "length", "([B)I"⟩ jdk_52_method_6_code 1 (some .int), Jvm.Cond.code ⟨"java/lang/String", "checkBoundsBeginEnd", "(III)V"⟩ jdk_42_method_158_code 3 none, Jvm.Cond.code ⟨"java/lang/StringUTF16", "indexOfCharUnsafe", "([BIII)I"⟩ jdk_52_method_48_code 5 (some .int), Jvm.Cond.code ⟨"java/lang/StringUTF16", "charAt", "([BI)C"⟩ jdk_52_method_83_code 2 (some .char), Jvm.Cond.code ⟨"java/lang/StringUTF16", "checkIndex", "(I[B)V"⟩ jdk_52_method_91_code 2 none, Jvm.Cond.code ⟨"java/lang/AbstractStringBuilder", "inflate", "()V"⟩ jdk_68_method_11_code 2 none, Jvm.Cond.code ⟨"java/lang/StringLatin1", "inflate", "([BI[BII)V"⟩ jdk_43_method_50_code 5 none, Jvm.Cond.code ⟨"java/lang/StringUTF16", "inflate", "([BI[BII)V"⟩ jdk_52_method_86_code 6 none, Jvm.Cond.code ⟨"java/lang/StringUTF16", "checkBoundsOffCount", "(II[B)V"⟩ jdk_52_method_94_code 3 none, Jvm.Cond.code ⟨"java/lang/String", "checkBoundsOffCount", "(III)I"⟩ jdk_42_method_157_code 3 (some .int), Jvm.Cond.code ⟨"jdk/internal/util/Preconditions", "checkFromIndexSize", "(IIILjava/util/function/BiFunction;)I"⟩ jdk_41_method_13_code 4 (some .int), Jvm.Cond.code ⟨"java/lang/StringUTF16", "putCharSB", "([BII)V"⟩ jdk_52_method_71_code 3 none, Jvm.Cond.code ⟨"com/example/amid2/amid2/PercentEncoding", "isUnreserved", "(C)Z"⟩ prog_14_method_2_code 1 (some .boolean), Jvm.Cond.code ⟨"java/util/Arrays", "copyOfRangeByte", "([BII)[B"⟩ jdk_65_method_133_code 5 (some (.array .byte)), Jvm.Cond.code ⟨"java/util/Arrays", "checkLength", "(II)V"⟩ jdk_65_method_131_code 2 none, Jvm.Cond.code ⟨"com/example/amid2/amid2/PercentEncodingDecodeUnreservedPinLaw", "unreserved", "(I)Z"⟩ method_4_code 1 (some .boolean)]
theorem codes_eq : words1.filter isCode = codes1 := by decide +kernel
theorem w_codes : ∀ c ∈ words1.filter isCode, c.before args0 about1 = true := by
  rw [codes_eq]
  intro c hc
  simp only [codes1, List.mem_cons, List.not_mem_nil, or_false] at hc
  rcases hc with rfl | rfl | rfl | rfl | rfl | rfl | rfl | rfl | rfl | rfl | rfl | rfl | rfl | rfl | rfl | rfl | rfl | rfl | rfl | rfl | rfl | rfl | rfl | rfl | rfl | rfl | rfl | rfl | rfl | rfl | rfl | rfl | rfl | rfl | rfl | rfl | rfl | rfl | rfl | rfl | rfl | rfl | rfl | rfl | rfl | rfl | rfl | rfl | rfl | rfl | rfl | rfl | rfl | rfl | rfl | rfl | rfl | rfl | rfl | rfl | rfl | rfl | rfl | rfl | rfl | rfl | rfl | rfl | rfl | rfl | rfl | rfl | rfl
  · exact w_c0
  · exact w_c1
  · exact w_c2
  · exact w_c3
  · exact w_c4
  · exact w_c5
  · exact w_c6
  · exact w_c7
  · exact w_c8
  · exact w_c9
  · exact w_c10
  · exact w_c11
  · exact w_c12
  · exact w_c13
  · exact w_c14
  · exact w_c15
  · exact w_c16
  · exact w_c17
  · exact w_c18
  · exact w_c19
  · exact w_c20
  · exact w_c21
  · exact w_c22
  · exact w_c23
  · exact w_c24
  · exact w_c25
  · exact w_c26
  · exact w_c27
  · exact w_c28
  · exact w_c29
  · exact w_c30
  · exact w_c31
  · exact w_c32
  · exact w_c33
  · exact w_c34
  · exact w_c35
  · exact w_c36
  · exact w_c37
  · exact w_c38
  · exact w_c39
  · exact w_c40
  · exact w_c41
  · exact w_c42
  · exact w_c43
  · exact w_c44
  · exact w_c45
  · exact w_c46
  · exact w_c47
  · exact w_c48
  · exact w_c49
  · exact w_c50
  · exact w_c51
  · exact w_c52
  · exact w_c53
  · exact w_c54
  · exact w_c55
  · exact w_c56
  · exact w_c57
  · exact w_c58
  · exact w_c59
  · exact w_c60
  · exact w_c61
  · exact w_c62
  · exact w_c63
  · exact w_c64
  · exact w_c65
  · exact w_c66
  · exact w_c67
  · exact w_c68
  · exact w_c69
  · exact w_c70
  · exact w_c71
  · exact w_c72
theorem w_t1 : (words1.take 24).all (fun c => isCode c || c.before args0 about1) = true := by decide +kernel
theorem w_t2 : ((words1.drop 24).take 24).all (fun c => isCode c || c.before args0 about1) = true := by decide +kernel
theorem w_t3 : (((words1.drop 24).drop 24).take 24).all (fun c => isCode c || c.before args0 about1) = true := by decide +kernel
theorem w_t4 : ((((words1.drop 24).drop 24).drop 24).take 24).all (fun c => isCode c || c.before args0 about1) = true := by decide +kernel
theorem w_t5 : (((((words1.drop 24).drop 24).drop 24).drop 24).take 24).all (fun c => isCode c || c.before args0 about1) = true := by decide +kernel
theorem w_t6 : ((((((words1.drop 24).drop 24).drop 24).drop 24).drop 24).take 24).all (fun c => isCode c || c.before args0 about1) = true := by decide +kernel
theorem w_t7 : (((((((words1.drop 24).drop 24).drop 24).drop 24).drop 24).drop 24).take 24).all (fun c => isCode c || c.before args0 about1) = true := by decide +kernel
theorem w_t8 : ((((((((words1.drop 24).drop 24).drop 24).drop 24).drop 24).drop 24).drop 24).take 24).all (fun c => isCode c || c.before args0 about1) = true := by decide +kernel
theorem w_t9 : (((((((((words1.drop 24).drop 24).drop 24).drop 24).drop 24).drop 24).drop 24).drop 24).take 24).all (fun c => isCode c || c.before args0 about1) = true := by decide +kernel
theorem w_t10 : ((((((((((words1.drop 24).drop 24).drop 24).drop 24).drop 24).drop 24).drop 24).drop 24).drop 24).take 24).all (fun c => isCode c || c.before args0 about1) = true := by decide +kernel
theorem w_t11 : (((((((((((words1.drop 24).drop 24).drop 24).drop 24).drop 24).drop 24).drop 24).drop 24).drop 24).drop 24).take 24).all (fun c => isCode c || c.before args0 about1) = true := by decide +kernel
theorem w_t12 : ((((((((((((words1.drop 24).drop 24).drop 24).drop 24).drop 24).drop 24).drop 24).drop 24).drop 24).drop 24).drop 24).take 24).all (fun c => isCode c || c.before args0 about1) = true := by decide +kernel
theorem w_t13 : (((((((((((((words1.drop 24).drop 24).drop 24).drop 24).drop 24).drop 24).drop 24).drop 24).drop 24).drop 24).drop 24).drop 24).take 24).all (fun c => isCode c || c.before args0 about1) = true := by decide +kernel
theorem w_t14 : (((((((((((((words1.drop 24).drop 24).drop 24).drop 24).drop 24).drop 24).drop 24).drop 24).drop 24).drop 24).drop 24).drop 24).drop 24).all (fun c => isCode c || c.before args0 about1) = true := by decide +kernel
theorem w_tables : (allAtoms (Jvm.Cond.code x code maxLocals ret :: tables_1)).before args0 about1 = true := by
  rw [allAtoms_all]
  show words1.all (fun c => c.before args0 about1) = true
  refine all_split ?_ w_codes
  rw [← List.take_append_drop 24 words1, List.all_append, w_t1, ← List.take_append_drop 24 (words1.drop 24), List.all_append, w_t2, ← List.take_append_drop 24 ((words1.drop 24).drop 24), List.all_append, w_t3, ← List.take_append_drop 24 (((words1.drop 24).drop 24).drop 24), List.all_append, w_t4, ← List.take_append_drop 24 ((((words1.drop 24).drop 24).drop 24).drop 24), List.all_append, w_t5, ← List.take_append_drop 24 (((((words1.drop 24).drop 24).drop 24).drop 24).drop 24), List.all_append, w_t6, ← List.take_append_drop 24 ((((((words1.drop 24).drop 24).drop 24).drop 24).drop 24).drop 24), List.all_append, w_t7, ← List.take_append_drop 24 (((((((words1.drop 24).drop 24).drop 24).drop 24).drop 24).drop 24).drop 24), List.all_append, w_t8, ← List.take_append_drop 24 ((((((((words1.drop 24).drop 24).drop 24).drop 24).drop 24).drop 24).drop 24).drop 24), List.all_append, w_t9, ← List.take_append_drop 24 (((((((((words1.drop 24).drop 24).drop 24).drop 24).drop 24).drop 24).drop 24).drop 24).drop 24), List.all_append, w_t10, ← List.take_append_drop 24 ((((((((((words1.drop 24).drop 24).drop 24).drop 24).drop 24).drop 24).drop 24).drop 24).drop 24).drop 24), List.all_append, w_t11, ← List.take_append_drop 24 (((((((((((words1.drop 24).drop 24).drop 24).drop 24).drop 24).drop 24).drop 24).drop 24).drop 24).drop 24).drop 24), List.all_append, w_t12, ← List.take_append_drop 24 ((((((((((((words1.drop 24).drop 24).drop 24).drop 24).drop 24).drop 24).drop 24).drop 24).drop 24).drop 24).drop 24).drop 24), List.all_append, w_t13, w_t14]
  rfl
theorem w_rest : rest_1_c.before args0 about1 = true := by decide +kernel
theorem w_case : (Jvm.Cond.and given_1 narrow_1).before args0 about1 = true := by decide +kernel
theorem w_consts : constsHeld consts_1 about1 := Jvm.Lit.constsHeldB_iff.mp (by decide +kernel)
theorem w_applies : (headSpec (Jvm.Cond.code x code maxLocals ret :: tables_1) room_1).applies x e0.platform about1 = true :=
  (Spec.applies_iff w_frames).mpr ⟨w_running, w_runnable, w_alone, w_named, w_hears, w_ripe, w_room, w_tables⟩
theorem atStart : AtStart classFile x code maxLocals ret World_1 tables_1 room_1 Calls_1 rest_1 Pre_1 launch0 p0 e0 about1 theMethod args0 below0 :=
  ⟨lists_1, trivial, launch0.admits_env _ _ _, launch0.least_env, fairChoices_fair.cas, fairChoices_fair.clock, w_frames, w_args, w_heap, w_applies, ⟨w_consts, trivial⟩, w_rest, w_case⟩
end start1
theorem witness_1 : WitnessClaimed_1 := ⟨start1.p0, start1.e0, start1.about1, start1.theMethod, start1.args0, start1.below0, start1.atStart⟩
end Jvm.Pilot.@@N@@
