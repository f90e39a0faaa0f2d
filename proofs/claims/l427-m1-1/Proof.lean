import JvmDerived
import JvmDerived.Pilot.@@N@@Statement
import JvmDerived.Pilot.@@N@@Code
set_option linter.unusedVariables false
set_option linter.unusedSimpArgs false
@@BLOCK:NumsL.lean.txt@@
namespace Jvm.Pilot.@@N@@
open Jvm Jvm.ClassFile Sem Op Lib Jvm.Free Jvm.Stand Jvm.LawKit Jvm.RoadKit Bundle Jvm.Pilot.@@N@@.Jvm.D
/-! general: a run that comes to its end with what Q says -/
def own_G (tb : Tables) (e : Env) (below : List Frame) (S : State) (s : State) (C N : Nat) (Q : Option Value → Heap → List Loc → Prop) : Prop :=
  ∃ t o, Steps tb e below S t ∧ t.status = .running ∧ Ended t below o ∧ ∃ v L, o = .returned v ∧ Q v t.heap L ∧ FrameEnd s o t L C N
def own_P (n0 : Nat) (h0 : Heap) (w : Option Value) (v : Option Value) (h : Heap) (L : List Loc) : Prop := v = w ∧ Fr n0 L ∧ h = h0
section Own
variable {tb : Tables} {p : Program} {l : Launch} {e : Env} {R : Room} {s : State} {m : MethodId} {args : Array Value} {below : List Frame} {meth : Method} {c : Code} {T S S' : State} {locs : List Loc} {cells slots C N n0 : Nat} {h0 : Heap} {Q : Option Value → Heap → List Loc → Prop}
theorem own_go (h : ∀ t, Steps tb e below S' t → Steps tb e below S t) (k : own_G tb e below S' s C N Q) : own_G tb e below S s C N Q := by
  obtain ⟨t, o, a, b⟩ := k
  exact ⟨t, o, h t a, b⟩
theorem own_tr (h : Steps tb e below S S') (k : own_G tb e below S' s C N Q) : own_G tb e below S s C N Q := by
  obtain ⟨t, o, a, b⟩ := k
  exact ⟨t, o, h.trans a, b⟩
theorem own_itI {P : Prop} [Decidable P] {A B : Int32} (h : P) (k : own_G tb e below S s C N (own_P n0 h0 (some (.int A)))) : own_G tb e below S s C N (own_P n0 h0 (some (.int (if P then A else B)))) := by rw [if_pos h]; exact k
theorem own_ifI {P : Prop} [Decidable P] {A B : Int32} (h : ¬ P) (k : own_G tb e below S s C N (own_P n0 h0 (some (.int B)))) : own_G tb e below S s C N (own_P n0 h0 (some (.int (if P then A else B)))) := by rw [if_neg h]; exact k
theorem own_itJ {P : Prop} [Decidable P] {A B : Int64} (h : P) (k : own_G tb e below S s C N (own_P n0 h0 (some (.long A)))) : own_G tb e below S s C N (own_P n0 h0 (some (.long (if P then A else B)))) := by rw [if_pos h]; exact k
theorem own_ifJ {P : Prop} [Decidable P] {A B : Int64} (h : ¬ P) (k : own_G tb e below S s C N (own_P n0 h0 (some (.long B)))) : own_G tb e below S s C N (own_P n0 h0 (some (.long (if P then A else B)))) := by rw [if_neg h]; exact k
theorem own_endO {w : Value} {t : FieldType} {i : Instr} (X : Stand p l e R s m args below meth c T locs cells slots) (hx : p.tables.exec = Jvm.exec) (hlk : meth.locks = false) {pc : Nat} {Ls : Array Slot} {rest : List Value} (hret : meth.sig.returnType = some t) (hn : narrow t w = w)
    (hi : (i = .ireturn ∧ (t = .int ∨ t = .boolean ∨ t = .byte ∨ t = .char ∨ t = .short) ∧ ∃ z, w = .int z) ∨ (i = .lreturn ∧ t = .long ∧ ∃ z, w = .long z) ∨ (i = .dreturn ∧ t = .double ∧ ∃ z, w = .double z) ∨ (i = .freturn ∧ t = .float ∧ ∃ z, w = .float z) ∨ (i = .areturn ∧ t.isReference = true ∧ w.isRef = true))
    (hd : decode c.code pc = .ok (i, 1)) (hC : cells ≤ C) (hN : slots ≤ N) (hQ : Q (some w) T.heap locs) : own_G p.tables e below (T.setTop (mkF m pc Ls (w :: rest))) s C N Q := by
  obtain ⟨fs, hr, hrun, hended, hW, hsame⟩ := X.leave (v := some w) (fun h => by rw [hret] at h; cases h) hlk
  exact ⟨_, _, retOut X hx hret hn hi hd hr, hrun, hended, _, _, rfl, hQ, ⟨_, rfl⟩, hW, hsame.mono hC hN⟩
theorem own_endI {z : Int32} (X : Stand p l e R s m args below meth c T locs cells slots) (hx : p.tables.exec = Jvm.exec) (hlk : meth.locks = false) {pc : Nat} {Ls : Array Slot} {rest : List Value} (hret : meth.sig.returnType = some .int)
    (hd : decode c.code pc = .ok (.ireturn, 1)) (hC : cells ≤ C) (hN : slots ≤ N) (hQ : Q (some (.int z)) T.heap locs) : own_G p.tables e below (T.setTop (mkF m pc Ls (.int z :: rest))) s C N Q :=
  own_endO X hx hlk hret rfl (Or.inl ⟨rfl, Or.inl rfl, z, rfl⟩) hd hC hN hQ
theorem own_endJ {z : Int64} (X : Stand p l e R s m args below meth c T locs cells slots) (hx : p.tables.exec = Jvm.exec) (hlk : meth.locks = false) {pc : Nat} {Ls : Array Slot} {rest : List Value} (hret : meth.sig.returnType = some .long)
    (hd : decode c.code pc = .ok (.lreturn, 1)) (hC : cells ≤ C) (hN : slots ≤ N) (hQ : Q (some (.long z)) T.heap locs) : own_G p.tables e below (T.setTop (mkF m pc Ls (.long z :: rest))) s C N Q :=
  own_endO X hx hlk hret rfl (Or.inr (Or.inl ⟨rfl, rfl, z, rfl⟩)) hd hC hN hQ
theorem own_endR {w : Value} {t : FieldType} (X : Stand p l e R s m args below meth c T locs cells slots) (hx : p.tables.exec = Jvm.exec) (hlk : meth.locks = false) {pc : Nat} {Ls : Array Slot} {rest : List Value} (hret : meth.sig.returnType = some t) (hn : narrow t w = w) (ht : t.isReference = true) (hw : w.isRef = true)
    (hd : decode c.code pc = .ok (.areturn, 1)) (hC : cells ≤ C) (hN : slots ≤ N) (hQ : Q (some w) T.heap locs) : own_G p.tables e below (T.setTop (mkF m pc Ls (w :: rest))) s C N Q :=
  own_endO X hx hlk hret hn (Or.inr (Or.inr (Or.inr (Or.inr ⟨rfl, ht, hw⟩)))) hd hC hN hQ
theorem own_endN {z : Int32} {t : FieldType} (X : Stand p l e R s m args below meth c T locs cells slots) (hx : p.tables.exec = Jvm.exec) (hlk : meth.locks = false) {pc : Nat} {Ls : Array Slot} {rest : List Value} (hret : meth.sig.returnType = some t) (ht : t = .boolean ∨ t = .byte ∨ t = .char ∨ t = .short)
    (hd : decode c.code pc = .ok (.ireturn, 1)) (hC : cells ≤ C) (hN : slots ≤ N) (hQ : Q (some (.int (nar t z))) T.heap locs) : own_G p.tables e below (T.setTop (mkF m pc Ls (.int z :: rest))) s C N Q := by
  obtain ⟨fs, hr, hrun, hended, hW, hsame⟩ := X.leave (v := some (.int (nar t z))) (fun h => by rw [hret] at h; cases h) hlk
  exact ⟨_, _, retN X hx hret ht hd hr, hrun, hended, _, _, rfl, hQ, ⟨_, rfl⟩, hW, hsame.mono hC hN⟩
theorem own_endV (X : Stand p l e R s m args below meth c T locs cells slots) (hx : p.tables.exec = Jvm.exec) (hlk : meth.locks = false) {pc : Nat} {Ls : Array Slot} (hret : meth.sig.returnType = none)
    (hd : decode c.code pc = .ok (.return_, 1)) (hC : cells ≤ C) (hN : slots ≤ N) (hQ : Q none T.heap locs) : own_G p.tables e below (T.setTop (mkF m pc Ls [])) s C N Q := by
  obtain ⟨fs, hr, hrun, hended, hW, hsame⟩ := X.leave (v := none) (fun _ => rfl) hlk
  exact ⟨_, _, X.returnOut hx hret hd hr, hrun, hended, _, _, rfl, hQ, ⟨_, rfl⟩, hW, hsame.mono hC hN⟩
end Own
def own_nh (m h b : Int64) : Int64 := if m - h < b then h else h + b
def own_rr (m h b : Int64) : Int32 := if m - h < b then 0 else 1
theorem own_sub (a b : Int64) : ∃ k : Int, (a - b).toInt = a.toInt - b.toInt + 18446744073709551616 * k ∧ -9223372036854775808 ≤ (a - b).toInt ∧ (a-b).toInt < 9223372036854775808 := by
  refine ⟨-((a.toInt - b.toInt - (a-b).toInt) / 18446744073709551616), ?_, Int64.le_toInt _, Int64.toInt_lt _⟩
  have h := Int64.toInt_sub a b
  rw [Int.bmod_def] at h
  split at h <;> omega
theorem own_add (a b : Int64) : ∃ k : Int, (a + b).toInt = a.toInt + b.toInt + 18446744073709551616 * k ∧ -9223372036854775808 ≤ (a + b).toInt ∧ (a+b).toInt < 9223372036854775808 := by
  refine ⟨-((a.toInt + b.toInt - (a+b).toInt) / 18446744073709551616), ?_, Int64.le_toInt _, Int64.toInt_lt _⟩
  have h := Int64.toInt_add a b
  rw [Int.bmod_def] at h
  split at h <;> omega
theorem own_c1 {m h b : Int64} (h0 : 0 ≤ h.toInt) (h1 : h.toInt ≤ m.toInt) (hb : 0 ≤ b.toInt) (hc : ¬ m - h < b) : ¬ h + b < 0 := by
  obtain ⟨k, e, b1, b2⟩ := own_sub m h
  obtain ⟨k', e', b1', b2'⟩ := own_add h b
  have := m.toInt_lt
  have := b.toInt_lt
  simp only [Int64.lt_iff_toInt_lt, Int64.reduceToInt] at *
  omega
theorem own_c2 {m h b : Int64} (h0 : 0 ≤ h.toInt) (h1 : h.toInt ≤ m.toInt) (hb : 0 ≤ b.toInt) (hc : ¬ m - h < b) : ¬ m < h + b := by
  obtain ⟨k, e, b1, b2⟩ := own_sub m h
  obtain ⟨k', e', b1', b2'⟩ := own_add h b
  have := m.toInt_lt
  have := b.toInt_lt
  simp only [Int64.lt_iff_toInt_lt, Int64.reduceToInt] at *
  omega
theorem own_c3 {m h b : Int64} (h0 : 0 ≤ h.toInt) (h1 : h.toInt ≤ m.toInt) (hb : 0 ≤ b.toInt) (hc : m - h < b) (hn : ¬ h + b < 0) : m < h + b := by
  obtain ⟨k, e, b1, b2⟩ := own_sub m h
  obtain ⟨k', e', b1', b2'⟩ := own_add h b
  have := m.toInt_lt
  have := b.toInt_lt
  simp only [Int64.lt_iff_toInt_lt, Int64.reduceToInt] at *
  omega
theorem own_inv {m h b : Int64} (h0 : 0 ≤ h.toInt) (h1 : h.toInt ≤ m.toInt) (hb : 0 ≤ b.toInt) : 0 ≤ (own_nh m h b).toInt ∧ (own_nh m h b).toInt ≤ m.toInt := by
  unfold own_nh
  split
  · exact ⟨h0, h1⟩
  · rename_i hc
    have q1 := own_c1 h0 h1 hb hc
    have q2 := own_c2 h0 h1 hb hc
    simp only [Int64.lt_iff_toInt_lt, Int64.reduceToInt] at *
    omega
theorem own_nn {x : Int64} (h : 0 ≤ x.toInt) : ¬ x < 0 := by
  simp only [Int64.lt_iff_toInt_lt, Int64.reduceToInt]
  omega
theorem own_mask (x : Int64) : 0 ≤ (x &&& 9223372036854775807).toInt := by
  have e := Jvm.Kit.i64_mask x 9223372036854775807 (k := 63) (by decide) (by decide)
  rw [e]; omega
theorem own_z0 : 0 ≤ (0 : Int64).toInt := by decide

theorem d1_0 : decode prog_15_method_2_code 0 = .ok (.aload_n 0, 1) := by decide +kernel
theorem d1_1 : decode prog_15_method_2_code 1 = .ok (.invokespecial 14, 3) := by decide +kernel
theorem d1_4 : decode prog_15_method_2_code 4 = .ok (.aload_n 0, 1) := by decide +kernel
theorem d1_5 : decode prog_15_method_2_code 5 = .ok (.lload_n 1, 1) := by decide +kernel
theorem d1_6 : decode prog_15_method_2_code 6 = .ok (.putfield 19, 3) := by decide +kernel
theorem d1_9 : decode prog_15_method_2_code 9 = .ok (.aload_n 0, 1) := by decide +kernel
theorem d1_10 : decode prog_15_method_2_code 10 = .ok (.lload_n 3, 1) := by decide +kernel
theorem d1_11 : decode prog_15_method_2_code 11 = .ok (.putfield 22, 3) := by decide +kernel
theorem d1_14 : decode prog_15_method_2_code 14 = .ok (.return_, 1) := by decide +kernel
theorem pn_0 : plainName "com/example/floe/floe/catalog/ManifestMemory" = true := by first | (simp [plainName, overriddenIn]; done) | decide +kernel
theorem ef_1 (m : MethodId) (p0 : Addr) (p1 : Int64) (p2 : Int64) : entryFrame m #[(.ref p0), (.long p1), (.long p2)] 5 = mkF m 0 #[.val (.ref p0), .val (.long p1), .second, .val (.long p2), .second] [] := by first | (simp [entryFrame, mkF, argsToLocals, Value.category]; done) | rfl
def Q1 (Z : State) (p0 : Addr) (p1 : Int64) (p2 : Int64) (h0 : Heap) (n0 : Nat) (v : Option Value) (h : Heap) (L : List Loc) : Prop := v = none ∧ Fr n0 L ∧ Keep h0 h [p0] ∧ Exa Z h p0 "com/example/floe/floe/catalog/ManifestMemory" ∧ Fld Z h p0 "com/example/floe/floe/catalog/ManifestMemory" "mostTogether" "J" (.long p2) ∧ Fld Z h p0 "com/example/floe/floe/catalog/ManifestMemory" "held" "J" (.long (0 : Int64))
set_option maxRecDepth 65536 in
set_option maxHeartbeats 40000000 in
theorem rm1 (l : Launch) (Z : State) (a0 : Array Value) (hw : ∀ d ∈ tables_1, d.before a0 Z = true) (ws : List Jvm.Cond) (p0 : Addr) (p1 : Int64) (p2 : Int64) (h0 : Heap) (n0 : Nat) (Z0 : n0 ≤ h0.size) (P_E_p0 : Exa Z h0 p0 "com/example/floe/floe/catalog/ManifestMemory") (P_F_p0_mostOfOneFile : Fld Z h0 p0 "com/example/floe/floe/catalog/ManifestMemory" "mostOfOneFile" "J" (.long (0 : Int64))) (P_F_p0_mostTogether : Fld Z h0 p0 "com/example/floe/floe/catalog/ManifestMemory" "mostTogether" "J" (.long (0 : Int64))) (P_F_p0_held : Fld Z h0 p0 "com/example/floe/floe/catalog/ManifestMemory" "held" "J" (.long (0 : Int64))) (g_p0 : n0 ≤ p0) :
    MetFree l (⟨"com/example/floe/floe/catalog/ManifestMemory", "<init>", "(JJ)V"⟩ : MethodName) (head1 (Jvm.Cond.code (⟨"com/example/floe/floe/catalog/ManifestMemory", "<init>", "(JJ)V"⟩ : MethodName) prog_15_method_2_code 5 none :: ws) ({ frames := 1, cells := 0, slots := 0, locals := 12 } : Room)) (fun a U => a = #[(.ref p0), (.long p1), (.long p2)] ∧ Z.Warmed39 U.vm ∧ U.heap = h0) (fun _ _ _ _ _ => True) (fun _ U o U' => ∃ v L, o = .returned v ∧ (Q1 Z p0 p1 p2 h0 n0) v U'.heap L ∧ FrameEnd U o U' L ({ frames := 1, cells := 0, slots := 0, locals := 12 } : Room).cells ({ frames := 1, cells := 0, slots := 0, locals := 12 } : Room).slots) := by
  refine MetFree.of_bodySF (plainFor_of_name pn_0) hisR ?_
  intro p e s m args below meth c s₁ Bd hml0 hP hK
  obtain ⟨rfl, hZ, hh⟩ := hP
  have hx := Bd.exec
  have hby := Bd.bytes
  have hml : c.maxLocals = 5 := hml0
  have hown : s.vm.findClass "com/example/floe/floe/catalog/ManifestMemory" = some m.cls := findClass_of_methodNamed Bd.named
  have hnm := (name_of_methodNamed Bd.named Bd.method).1
  have hlk : meth.locks = false := BodyLoose.notSynchronized Bd
  have X0 : Stand p l e ({ frames := 1, cells := 0, slots := 0, locals := 12 } : Room) s m #[(.ref p0), (.long p1), (.long p2)] below meth c s₁ [] 0 0 := Stand.of_body Bd
  have e0 : s₁.heap = h0 := by rw [← hh, Bd.state]; rfl
  have N0 := Fr.nil n0
  have K0 : Keep h0 h0 [p0] := Keep.refl h0 [p0]
  show own_G p.tables e below (s₁.setTop (entryFrame m #[(.ref p0), (.long p1), (.long p2)] 5)) s ({ frames := 1, cells := 0, slots := 0, locals := 12 } : Room).cells ({ frames := 1, cells := 0, slots := 0, locals := 12 } : Room).slots (Q1 Z p0 p1 p2 h0 n0)
  refine own_go (fun t k => castTop (ef_1 m p0 p1 p2) k) ?_
  show own_G _ _ _ (s₁.setTop (mkF m 0 #[.val (.ref p0), .val (.long p1), .second, .val (.long p2), .second] [])) _ _ _ _
  refine own_go (fun t k => XS.aloadN X0.here hx rfl (hb hby d1_0) rfl rfl k) ?_
  show own_G _ _ _ (s₁.setTop (mkF m 1 #[.val (.ref p0), .val (.long p1), .second, .val (.long p2), .second] [(.ref p0)])) _ _ _ _
  obtain ⟨T1, X1, e1, st1⟩ := initO X0 hx hZ hown (hw _ (List.mem_of_getElem? (i := 7) rfl)) (hw _ (List.mem_of_getElem? (i := 8) rfl)) (hw _ (List.mem_of_getElem? (i := 9) rfl)) e0 (g := (mkF m 1 #[.val (.ref p0), .val (.long p1), .second, .val (.long p2), .second] [(.ref p0)])) rfl (by rw [hml]; rfl) rfl (hb hby d1_1) (by decide) (W := 0) (by show 2 * 0 + _ ≤ _; exact Nat.le_of_eq rfl) (by decide)
  refine own_go (fun t k => st1 _ k) ?_
  show own_G _ _ _ (T1.setTop (mkF m 4 #[.val (.ref p0), .val (.long p1), .second, .val (.long p2), .second] [])) _ _ _ _
  refine own_go (fun t k => XS.aloadN X1.here hx rfl (hb hby d1_4) rfl rfl k) ?_
  show own_G _ _ _ (T1.setTop (mkF m 5 #[.val (.ref p0), .val (.long p1), .second, .val (.long p2), .second] [(.ref p0)])) _ _ _ _
  refine own_go (fun t k => XS.lloadN X1.here hx rfl (hb hby d1_5) rfl k) ?_
  show own_G _ _ _ (T1.setTop (mkF m 6 #[.val (.ref p0), .val (.long p1), .second, .val (.long p2), .second] [(.long p1), (.ref p0)])) _ _ _ _
  obtain ⟨T2, h2, X2, e2, W2, st2⟩ := putF X1 hx hZ hown (host := "") (Or.inl (hw _ (List.mem_of_getElem? (i := 10) rfl))) Via.refl e1 P_F_p0_mostOfOneFile P_E_p0 (Or.inr ⟨(hw _ (List.mem_of_getElem? (i := 11) rfl)), rfl, hnm⟩) (hw _ (List.mem_of_getElem? (i := 2) rfl)) (ty := .long) (by decide) rfl rfl (g := (mkF m 6 #[.val (.ref p0), .val (.long p1), .second, .val (.long p2), .second] [(.long p1), (.ref p0)])) rfl rfl (hb hby d1_6)
  have N2 := Fr.snoc X2 N0 g_p0
  have Zs2 : n0 ≤ h2.size := Nat.le_trans Z0 (Keep.of_wr W2).1
  have K2_0 : Keep h0 h2 [p0] := K0.wr W2 (Or.inl (List.mem_of_getElem? (i := 0) rfl))
  have f3 : Exa Z h2 p0 "com/example/floe/floe/catalog/ManifestMemory" := P_E_p0.wr W2
  have f4 : Fld Z h2 p0 "com/example/floe/floe/catalog/ManifestMemory" "mostOfOneFile" "J" (.long p1) := P_F_p0_mostOfOneFile.same W2
  have f5 : Fld Z h2 p0 "com/example/floe/floe/catalog/ManifestMemory" "mostTogether" "J" (.long (0 : Int64)) := P_F_p0_mostTogether.other W2 (Or.inr (slot_ne (Or.inr (hw _ (List.mem_of_getElem? (i := 13) rfl))) (Or.inr (hw _ (List.mem_of_getElem? (i := 11) rfl))) (by decide) (t := .long) (t' := .long) (by decide) (by decide)))
  have f6 : Fld Z h2 p0 "com/example/floe/floe/catalog/ManifestMemory" "held" "J" (.long (0 : Int64)) := P_F_p0_held.other W2 (Or.inr (slot_ne (Or.inl (hw _ (List.mem_of_getElem? (i := 20) rfl))) (Or.inr (hw _ (List.mem_of_getElem? (i := 11) rfl))) (by decide) (t := .long) (t' := .long) (by decide) (by decide)))
  refine own_go (fun t k => st2 _ k) ?_
  show own_G _ _ _ (T2.setTop (mkF m 9 #[.val (.ref p0), .val (.long p1), .second, .val (.long p2), .second] [])) _ _ _ _
  refine own_go (fun t k => XS.aloadN X2.here hx rfl (hb hby d1_9) rfl rfl k) ?_
  show own_G _ _ _ (T2.setTop (mkF m 10 #[.val (.ref p0), .val (.long p1), .second, .val (.long p2), .second] [(.ref p0)])) _ _ _ _
  refine own_go (fun t k => XS.lloadN X2.here hx rfl (hb hby d1_10) rfl k) ?_
  show own_G _ _ _ (T2.setTop (mkF m 11 #[.val (.ref p0), .val (.long p1), .second, .val (.long p2), .second] [(.long p2), (.ref p0)])) _ _ _ _
  obtain ⟨T7, h7, X7, e7, W7, st7⟩ := putF X2 hx hZ hown (host := "") (Or.inl (hw _ (List.mem_of_getElem? (i := 12) rfl))) Via.refl e2 f5 f3 (Or.inr ⟨(hw _ (List.mem_of_getElem? (i := 13) rfl)), rfl, hnm⟩) (hw _ (List.mem_of_getElem? (i := 2) rfl)) (ty := .long) (by decide) rfl rfl (g := (mkF m 11 #[.val (.ref p0), .val (.long p1), .second, .val (.long p2), .second] [(.long p2), (.ref p0)])) rfl rfl (hb hby d1_11)
  have N7 := Fr.snoc X7 N2 g_p0
  have Zs7 : n0 ≤ h7.size := Nat.le_trans Zs2 (Keep.of_wr W7).1
  have K7_0 : Keep h0 h7 [p0] := K2_0.wr W7 (Or.inl (List.mem_of_getElem? (i := 0) rfl))
  have f8 : Exa Z h7 p0 "com/example/floe/floe/catalog/ManifestMemory" := f3.wr W7
  have f9 : Fld Z h7 p0 "com/example/floe/floe/catalog/ManifestMemory" "mostOfOneFile" "J" (.long p1) := f4.other W7 (Or.inr (slot_ne (Or.inr (hw _ (List.mem_of_getElem? (i := 11) rfl))) (Or.inr (hw _ (List.mem_of_getElem? (i := 13) rfl))) (by decide) (t := .long) (t' := .long) (by decide) (by decide)))
  have f10 : Fld Z h7 p0 "com/example/floe/floe/catalog/ManifestMemory" "mostTogether" "J" (.long p2) := f5.same W7
  have f11 : Fld Z h7 p0 "com/example/floe/floe/catalog/ManifestMemory" "held" "J" (.long (0 : Int64)) := f6.other W7 (Or.inr (slot_ne (Or.inl (hw _ (List.mem_of_getElem? (i := 20) rfl))) (Or.inr (hw _ (List.mem_of_getElem? (i := 13) rfl))) (by decide) (t := .long) (t' := .long) (by decide) (by decide)))
  refine own_go (fun t k => st7 _ k) ?_
  show own_G _ _ _ (T7.setTop (mkF m 14 #[.val (.ref p0), .val (.long p1), .second, .val (.long p2), .second] [])) _ _ _ _
  exact own_endV X7 hx hlk Bd.returns (hb hby d1_14) (by decide) (by decide) (Q := (Q1 Z p0 p1 p2 h0 n0)) (by rw [e7]; exact ⟨rfl, N7, K7_0, f8, f10, f11⟩)
theorem d3_0 : decode prog_15_method_5_code 0 = .ok (.aload_n 0, 1) := by decide +kernel
theorem d3_1 : decode prog_15_method_5_code 1 = .ok (.getfield 25, 3) := by decide +kernel
theorem d3_4 : decode prog_15_method_5_code 4 = .ok (.lreturn, 1) := by decide +kernel
theorem ef_3 (m : MethodId) (p0 : Addr) : entryFrame m #[(.ref p0)] 1 = mkF m 0 #[.val (.ref p0)] [] := by first | (simp [entryFrame, mkF, argsToLocals, Value.category]; done) | rfl
def Q3 (Z : State) (p0 : Addr) (q : Int64) (h0 : Heap) (n0 : Nat) (v : Option Value) (h : Heap) (L : List Loc) : Prop := v = some (.long q) ∧ Fr n0 L ∧ h = h0
set_option maxRecDepth 65536 in
set_option maxHeartbeats 40000000 in
theorem rm3 (l : Launch) (Z : State) (a0 : Array Value) (hw : ∀ d ∈ tables_1, d.before a0 Z = true) (ws : List Jvm.Cond) (p0 : Addr) (q : Int64) (h0 : Heap) (n0 : Nat) (Z0 : n0 ≤ h0.size) (P_F_p0_held : Fld Z h0 p0 "com/example/floe/floe/catalog/ManifestMemory" "held" "J" (.long q)) :
    MetFree l (⟨"com/example/floe/floe/catalog/ManifestMemory", "held", "()J"⟩ : MethodName) (head1 (Jvm.Cond.code (⟨"com/example/floe/floe/catalog/ManifestMemory", "held", "()J"⟩ : MethodName) prog_15_method_5_code 1 (some .long) :: ws) ({ frames := 0, cells := 0, slots := 0, locals := 0 } : Room)) (fun a U => a = #[(.ref p0)] ∧ Z.Warmed39 U.vm ∧ U.heap = h0) (fun _ _ _ _ _ => True) (fun _ U o U' => ∃ v L, o = .returned v ∧ (Q3 Z p0 q h0 n0) v U'.heap L ∧ FrameEnd U o U' L ({ frames := 0, cells := 0, slots := 0, locals := 0 } : Room).cells ({ frames := 0, cells := 0, slots := 0, locals := 0 } : Room).slots) := by
  refine MetFree.of_bodySF (plainFor_of_name pn_0) hisR ?_
  intro p e s m args below meth c s₁ Bd hml0 hP hK
  obtain ⟨rfl, hZ, hh⟩ := hP
  have hx := Bd.exec
  have hby := Bd.bytes
  have hml : c.maxLocals = 1 := hml0
  have hown : s.vm.findClass "com/example/floe/floe/catalog/ManifestMemory" = some m.cls := findClass_of_methodNamed Bd.named
  have hnm := (name_of_methodNamed Bd.named Bd.method).1
  have hlk : meth.locks = false := BodyLoose.notSynchronized Bd
  have X0 : Stand p l e ({ frames := 0, cells := 0, slots := 0, locals := 0 } : Room) s m #[(.ref p0)] below meth c s₁ [] 0 0 := Stand.of_body Bd
  have e0 : s₁.heap = h0 := by rw [← hh, Bd.state]; rfl
  have N0 := Fr.nil n0
  show own_G p.tables e below (s₁.setTop (entryFrame m #[(.ref p0)] 1)) s ({ frames := 0, cells := 0, slots := 0, locals := 0 } : Room).cells ({ frames := 0, cells := 0, slots := 0, locals := 0 } : Room).slots (Q3 Z p0 q h0 n0)
  refine own_go (fun t k => castTop (ef_3 m p0) k) ?_
  show own_G _ _ _ (s₁.setTop (mkF m 0 #[.val (.ref p0)] [])) _ _ _ _
  refine own_go (fun t k => XS.aloadN X0.here hx rfl (hb hby d3_0) rfl rfl k) ?_
  show own_G _ _ _ (s₁.setTop (mkF m 1 #[.val (.ref p0)] [(.ref p0)])) _ _ _ _
  obtain ⟨T1, X1, e1, st1⟩ := getF X0 hx hZ hown (host := "") (Or.inl (hw _ (List.mem_of_getElem? (i := 19) rfl))) Via.refl e0 P_F_p0_held (g := (mkF m 1 #[.val (.ref p0)] [(.ref p0)])) rfl rfl (hb hby d3_1)
  refine own_go (fun t k => st1 _ k) ?_
  show own_G _ _ _ (T1.setTop (mkF m 4 #[.val (.ref p0)] [(.long q)])) _ _ _ _
  exact own_endJ X1 hx hlk Bd.returns (hb hby d3_4) (by decide) (by decide) (Q := (Q3 Z p0 q h0 n0)) (by rw [e1]; exact ⟨rfl, N0, rfl⟩)
theorem d6_0 : decode prog_15_method_4_code 0 = .ok (.aload_n 0, 1) := by decide +kernel
theorem d6_1 : decode prog_15_method_4_code 1 = .ok (.getfield 22, 3) := by decide +kernel
theorem d6_4 : decode prog_15_method_4_code 4 = .ok (.lreturn, 1) := by decide +kernel
theorem ef_6 (m : MethodId) (p0 : Addr) : entryFrame m #[(.ref p0)] 1 = mkF m 0 #[.val (.ref p0)] [] := by first | (simp [entryFrame, mkF, argsToLocals, Value.category]; done) | rfl
def Q6 (Z : State) (p0 : Addr) (q : Int64) (h0 : Heap) (n0 : Nat) (v : Option Value) (h : Heap) (L : List Loc) : Prop := v = some (.long q) ∧ Fr n0 L ∧ h = h0
set_option maxRecDepth 65536 in
set_option maxHeartbeats 40000000 in
theorem rm6 (l : Launch) (Z : State) (a0 : Array Value) (hw : ∀ d ∈ tables_1, d.before a0 Z = true) (ws : List Jvm.Cond) (p0 : Addr) (q : Int64) (h0 : Heap) (n0 : Nat) (Z0 : n0 ≤ h0.size) (P_F_p0_mostTogether : Fld Z h0 p0 "com/example/floe/floe/catalog/ManifestMemory" "mostTogether" "J" (.long q)) :
    MetFree l (⟨"com/example/floe/floe/catalog/ManifestMemory", "mostTogether", "()J"⟩ : MethodName) (head1 (Jvm.Cond.code (⟨"com/example/floe/floe/catalog/ManifestMemory", "mostTogether", "()J"⟩ : MethodName) prog_15_method_4_code 1 (some .long) :: ws) ({ frames := 0, cells := 0, slots := 0, locals := 0 } : Room)) (fun a U => a = #[(.ref p0)] ∧ Z.Warmed39 U.vm ∧ U.heap = h0) (fun _ _ _ _ _ => True) (fun _ U o U' => ∃ v L, o = .returned v ∧ (Q6 Z p0 q h0 n0) v U'.heap L ∧ FrameEnd U o U' L ({ frames := 0, cells := 0, slots := 0, locals := 0 } : Room).cells ({ frames := 0, cells := 0, slots := 0, locals := 0 } : Room).slots) := by
  refine MetFree.of_bodySF (plainFor_of_name pn_0) hisR ?_
  intro p e s m args below meth c s₁ Bd hml0 hP hK
  obtain ⟨rfl, hZ, hh⟩ := hP
  have hx := Bd.exec
  have hby := Bd.bytes
  have hml : c.maxLocals = 1 := hml0
  have hown : s.vm.findClass "com/example/floe/floe/catalog/ManifestMemory" = some m.cls := findClass_of_methodNamed Bd.named
  have hnm := (name_of_methodNamed Bd.named Bd.method).1
  have hlk : meth.locks = false := BodyLoose.notSynchronized Bd
  have X0 : Stand p l e ({ frames := 0, cells := 0, slots := 0, locals := 0 } : Room) s m #[(.ref p0)] below meth c s₁ [] 0 0 := Stand.of_body Bd
  have e0 : s₁.heap = h0 := by rw [← hh, Bd.state]; rfl
  have N0 := Fr.nil n0
  show own_G p.tables e below (s₁.setTop (entryFrame m #[(.ref p0)] 1)) s ({ frames := 0, cells := 0, slots := 0, locals := 0 } : Room).cells ({ frames := 0, cells := 0, slots := 0, locals := 0 } : Room).slots (Q6 Z p0 q h0 n0)
  refine own_go (fun t k => castTop (ef_6 m p0) k) ?_
  show own_G _ _ _ (s₁.setTop (mkF m 0 #[.val (.ref p0)] [])) _ _ _ _
  refine own_go (fun t k => XS.aloadN X0.here hx rfl (hb hby d6_0) rfl rfl k) ?_
  show own_G _ _ _ (s₁.setTop (mkF m 1 #[.val (.ref p0)] [(.ref p0)])) _ _ _ _
  obtain ⟨T1, X1, e1, st1⟩ := getF X0 hx hZ hown (host := "") (Or.inl (hw _ (List.mem_of_getElem? (i := 12) rfl))) Via.refl e0 P_F_p0_mostTogether (g := (mkF m 1 #[.val (.ref p0)] [(.ref p0)])) rfl rfl (hb hby d6_1)
  refine own_go (fun t k => st1 _ k) ?_
  show own_G _ _ _ (T1.setTop (mkF m 4 #[.val (.ref p0)] [(.long q)])) _ _ _ _
  exact own_endJ X1 hx hlk Bd.returns (hb hby d6_4) (by decide) (by decide) (Q := (Q6 Z p0 q h0 n0)) (by rw [e1]; exact ⟨rfl, N0, rfl⟩)
theorem d5_0 : decode prog_15_method_6_code 0 = .ok (.lload_n 1, 1) := by decide +kernel
theorem d5_1 : decode prog_15_method_6_code 1 = .ok (.aload_n 0, 1) := by decide +kernel
theorem d5_2 : decode prog_15_method_6_code 2 = .ok (.getfield 22, 3) := by decide +kernel
theorem d5_5 : decode prog_15_method_6_code 5 = .ok (.aload_n 0, 1) := by decide +kernel
theorem d5_6 : decode prog_15_method_6_code 6 = .ok (.getfield 25, 3) := by decide +kernel
theorem d5_9 : decode prog_15_method_6_code 9 = .ok (.lsub, 1) := by decide +kernel
theorem d5_10 : decode prog_15_method_6_code 10 = .ok (.lcmp, 1) := by decide +kernel
theorem d5_11 : decode prog_15_method_6_code 11 = .ok (.ifCond .le 5, 3) := by decide +kernel
theorem d5_14 : decode prog_15_method_6_code 14 = .ok (.iconst 0, 1) := by decide +kernel
theorem d5_15 : decode prog_15_method_6_code 15 = .ok (.ireturn, 1) := by decide +kernel
theorem d5_16 : decode prog_15_method_6_code 16 = .ok (.aload_n 0, 1) := by decide +kernel
theorem d5_17 : decode prog_15_method_6_code 17 = .ok (.dup, 1) := by decide +kernel
theorem d5_18 : decode prog_15_method_6_code 18 = .ok (.getfield 25, 3) := by decide +kernel
theorem d5_21 : decode prog_15_method_6_code 21 = .ok (.lload_n 1, 1) := by decide +kernel
theorem d5_22 : decode prog_15_method_6_code 22 = .ok (.ladd, 1) := by decide +kernel
theorem d5_23 : decode prog_15_method_6_code 23 = .ok (.putfield 25, 3) := by decide +kernel
theorem d5_26 : decode prog_15_method_6_code 26 = .ok (.iconst 1, 1) := by decide +kernel
theorem d5_27 : decode prog_15_method_6_code 27 = .ok (.ireturn, 1) := by decide +kernel
theorem ef_5 (m : MethodId) (p0 : Addr) (p1 : Int64) : entryFrame m #[(.ref p0), (.long p1)] 3 = mkF m 0 #[.val (.ref p0), .val (.long p1), .second] [] := by first | (simp [entryFrame, mkF, argsToLocals, Value.category]; done) | rfl
def Q5 (Z : State) (p0 : Addr) (p1 : Int64) (q1 : Int64) (q2 : Int64) (h0 : Heap) (n0 : Nat) (v : Option Value) (h : Heap) (L : List Loc) : Prop := v = some (.int (own_rr q1 q2 p1)) ∧ Fr n0 L ∧ Keep h0 h [p0] ∧ Exa Z h p0 "com/example/floe/floe/catalog/ManifestMemory" ∧ Fld Z h p0 "com/example/floe/floe/catalog/ManifestMemory" "mostTogether" "J" (.long q1) ∧ Fld Z h p0 "com/example/floe/floe/catalog/ManifestMemory" "held" "J" (.long (own_nh q1 q2 p1))
set_option maxRecDepth 65536 in
set_option maxHeartbeats 40000000 in
theorem rm5 (l : Launch) (Z : State) (a0 : Array Value) (hw : ∀ d ∈ tables_1, d.before a0 Z = true) (ws : List Jvm.Cond) (p0 : Addr) (p1 : Int64) (q1 : Int64) (q2 : Int64) (h0 : Heap) (n0 : Nat) (Z0 : n0 ≤ h0.size) (P_E_p0 : Exa Z h0 p0 "com/example/floe/floe/catalog/ManifestMemory") (P_F_p0_mostTogether : Fld Z h0 p0 "com/example/floe/floe/catalog/ManifestMemory" "mostTogether" "J" (.long q1)) (P_F_p0_held : Fld Z h0 p0 "com/example/floe/floe/catalog/ManifestMemory" "held" "J" (.long q2)) (g_p0 : n0 ≤ p0) :
    MetFree l (⟨"com/example/floe/floe/catalog/ManifestMemory", "take", "(J)Z"⟩ : MethodName) (head1 (Jvm.Cond.code (⟨"com/example/floe/floe/catalog/ManifestMemory", "take", "(J)Z"⟩ : MethodName) prog_15_method_6_code 3 (some .boolean) :: ws) ({ frames := 0, cells := 0, slots := 0, locals := 0 } : Room)) (fun a U => a = #[(.ref p0), (.long p1)] ∧ Z.Warmed39 U.vm ∧ U.heap = h0) (fun _ _ _ _ _ => True) (fun _ U o U' => ∃ v L, o = .returned v ∧ (Q5 Z p0 p1 q1 q2 h0 n0) v U'.heap L ∧ FrameEnd U o U' L ({ frames := 0, cells := 0, slots := 0, locals := 0 } : Room).cells ({ frames := 0, cells := 0, slots := 0, locals := 0 } : Room).slots) := by
  refine MetFree.of_bodySF (plainFor_of_name pn_0) hisR ?_
  intro p e s m args below meth c s₁ Bd hml0 hP hK
  obtain ⟨rfl, hZ, hh⟩ := hP
  have hx := Bd.exec
  have hby := Bd.bytes
  have hml : c.maxLocals = 3 := hml0
  have hown : s.vm.findClass "com/example/floe/floe/catalog/ManifestMemory" = some m.cls := findClass_of_methodNamed Bd.named
  have hnm := (name_of_methodNamed Bd.named Bd.method).1
  have hlk : meth.locks = false := BodyLoose.notSynchronized Bd
  have X0 : Stand p l e ({ frames := 0, cells := 0, slots := 0, locals := 0 } : Room) s m #[(.ref p0), (.long p1)] below meth c s₁ [] 0 0 := Stand.of_body Bd
  have e0 : s₁.heap = h0 := by rw [← hh, Bd.state]; rfl
  have N0 := Fr.nil n0
  have K0 : Keep h0 h0 [p0] := Keep.refl h0 [p0]
  show own_G p.tables e below (s₁.setTop (entryFrame m #[(.ref p0), (.long p1)] 3)) s ({ frames := 0, cells := 0, slots := 0, locals := 0 } : Room).cells ({ frames := 0, cells := 0, slots := 0, locals := 0 } : Room).slots (Q5 Z p0 p1 q1 q2 h0 n0)
  refine own_go (fun t k => castTop (ef_5 m p0 p1) k) ?_
  show own_G _ _ _ (s₁.setTop (mkF m 0 #[.val (.ref p0), .val (.long p1), .second] [])) _ _ _ _
  refine own_go (fun t k => XS.lloadN X0.here hx rfl (hb hby d5_0) rfl k) ?_
  show own_G _ _ _ (s₁.setTop (mkF m 1 #[.val (.ref p0), .val (.long p1), .second] [(.long p1)])) _ _ _ _
  refine own_go (fun t k => XS.aloadN X0.here hx rfl (hb hby d5_1) rfl rfl k) ?_
  show own_G _ _ _ (s₁.setTop (mkF m 2 #[.val (.ref p0), .val (.long p1), .second] [(.ref p0), (.long p1)])) _ _ _ _
  obtain ⟨T1, X1, e1, st1⟩ := getF X0 hx hZ hown (host := "") (Or.inl (hw _ (List.mem_of_getElem? (i := 12) rfl))) Via.refl e0 P_F_p0_mostTogether (g := (mkF m 2 #[.val (.ref p0), .val (.long p1), .second] [(.ref p0), (.long p1)])) rfl rfl (hb hby d5_2)
  refine own_go (fun t k => st1 _ k) ?_
  show own_G _ _ _ (T1.setTop (mkF m 5 #[.val (.ref p0), .val (.long p1), .second] [(.long q1), (.long p1)])) _ _ _ _
  refine own_go (fun t k => XS.aloadN X1.here hx rfl (hb hby d5_5) rfl rfl k) ?_
  show own_G _ _ _ (T1.setTop (mkF m 6 #[.val (.ref p0), .val (.long p1), .second] [(.ref p0), (.long q1), (.long p1)])) _ _ _ _
  obtain ⟨T2, X2, e2, st2⟩ := getF X1 hx hZ hown (host := "") (Or.inl (hw _ (List.mem_of_getElem? (i := 19) rfl))) Via.refl e1 P_F_p0_held (g := (mkF m 6 #[.val (.ref p0), .val (.long p1), .second] [(.ref p0), (.long q1), (.long p1)])) rfl rfl (hb hby d5_6)
  refine own_go (fun t k => st2 _ k) ?_
  show own_G _ _ _ (T2.setTop (mkF m 9 #[.val (.ref p0), .val (.long p1), .second] [(.long q2), (.long q1), (.long p1)])) _ _ _ _
  refine own_go (fun t k => XS.lsub X2.here hx rfl (hb hby d5_9) rfl k) ?_
  show own_G _ _ _ (T2.setTop (mkF m 10 #[.val (.ref p0), .val (.long p1), .second] [(.long (q1 - q2)), (.long p1)])) _ _ _ _
  refine own_go (fun t k => XS.lcmp X2.here hx rfl (hb hby d5_10) rfl k) ?_
  show own_G _ _ _ (T2.setTop (mkF m 11 #[.val (.ref p0), .val (.long p1), .second] [(.int (lcmpW p1 (q1 - q2)))])) _ _ _ _
  by_cases hc3 : (q1 - q2) < p1
  · refine own_go (fun t k => XS.ifNo X2.here hx rfl (hb hby d5_11) rfl ((if0 _ _).trans (tlt ((lw_gt _ _).mpr hc3)).2.2.2) k) ?_
    show own_G _ _ _ (T2.setTop (mkF m 14 #[.val (.ref p0), .val (.long p1), .second] [])) _ _ _ _
    refine own_go (fun t k => XS.iconst X2.here hx rfl (hb hby d5_14) k) ?_
    show own_G _ _ _ (T2.setTop (mkF m 15 #[.val (.ref p0), .val (.long p1), .second] [(.int (0 : Int32))])) _ _ _ _
    exact own_endN X2 hx hlk (t := .boolean) Bd.returns (by simp) (hb hby d5_15) (by decide) (by decide) (Q := (Q5 Z p0 p1 q1 q2 h0 n0)) (by rw [e2]; exact ⟨(by unfold own_rr; rw [if_pos hc3]; rfl), N0, K0, P_E_p0, P_F_p0_mostTogether, (by unfold own_nh; rw [if_pos hc3]; exact P_F_p0_held)⟩)
  · refine own_go (fun t k => XS.ifYes X2.here hx rfl (pc0 := 11) (pc' := 16) rfl (hb hby d5_11) rfl ((if0 _ _).trans (flt (fun q => hc3 ((lw_gt _ _).mp q))).2.2.2) (by decide) (by decide) k) ?_
    show own_G _ _ _ (T2.setTop (mkF m 16 #[.val (.ref p0), .val (.long p1), .second] [])) _ _ _ _
    refine own_go (fun t k => XS.aloadN X2.here hx rfl (hb hby d5_16) rfl rfl k) ?_
    show own_G _ _ _ (T2.setTop (mkF m 17 #[.val (.ref p0), .val (.long p1), .second] [(.ref p0)])) _ _ _ _
    refine own_go (fun t k => XS.dup X2.here hx rfl (hb hby d5_17) rfl rfl k) ?_
    show own_G _ _ _ (T2.setTop (mkF m 18 #[.val (.ref p0), .val (.long p1), .second] [(.ref p0), (.ref p0)])) _ _ _ _
    obtain ⟨T4, X4, e4, st4⟩ := getF X2 hx hZ hown (host := "") (Or.inl (hw _ (List.mem_of_getElem? (i := 19) rfl))) Via.refl e2 P_F_p0_held (g := (mkF m 18 #[.val (.ref p0), .val (.long p1), .second] [(.ref p0), (.ref p0)])) rfl rfl (hb hby d5_18)
    refine own_go (fun t k => st4 _ k) ?_
    show own_G _ _ _ (T4.setTop (mkF m 21 #[.val (.ref p0), .val (.long p1), .second] [(.long q2), (.ref p0)])) _ _ _ _
    refine own_go (fun t k => XS.lloadN X4.here hx rfl (hb hby d5_21) rfl k) ?_
    show own_G _ _ _ (T4.setTop (mkF m 22 #[.val (.ref p0), .val (.long p1), .second] [(.long p1), (.long q2), (.ref p0)])) _ _ _ _
    refine own_go (fun t k => XS.ladd X4.here hx rfl (hb hby d5_22) rfl k) ?_
    show own_G _ _ _ (T4.setTop (mkF m 23 #[.val (.ref p0), .val (.long p1), .second] [(.long (q2 + p1)), (.ref p0)])) _ _ _ _
    obtain ⟨T5, h5, X5, e5, W5, st5⟩ := putF X4 hx hZ hown (host := "") (Or.inl (hw _ (List.mem_of_getElem? (i := 19) rfl))) Via.refl e4 P_F_p0_held P_E_p0 (Or.inl (hw _ (List.mem_of_getElem? (i := 20) rfl))) (hw _ (List.mem_of_getElem? (i := 2) rfl)) (ty := .long) (by decide) rfl rfl (g := (mkF m 23 #[.val (.ref p0), .val (.long p1), .second] [(.long (q2 + p1)), (.ref p0)])) rfl rfl (hb hby d5_23)
    have N5 := Fr.snoc X5 N0 g_p0
    have Zs5 : n0 ≤ h5.size := Nat.le_trans Z0 (Keep.of_wr W5).1
    have K5_0 : Keep h0 h5 [p0] := K0.wr W5 (Or.inl (List.mem_of_getElem? (i := 0) rfl))
    have f6 : Exa Z h5 p0 "com/example/floe/floe/catalog/ManifestMemory" := P_E_p0.wr W5
    have f7 : Fld Z h5 p0 "com/example/floe/floe/catalog/ManifestMemory" "mostTogether" "J" (.long q1) := P_F_p0_mostTogether.other W5 (Or.inr (slot_ne (Or.inr (hw _ (List.mem_of_getElem? (i := 13) rfl))) (Or.inl (hw _ (List.mem_of_getElem? (i := 20) rfl))) (by decide) (t := .long) (t' := .long) (by decide) (by decide)))
    have f8 : Fld Z h5 p0 "com/example/floe/floe/catalog/ManifestMemory" "held" "J" (.long (q2 + p1)) := P_F_p0_held.same W5
    refine own_go (fun t k => st5 _ k) ?_
    show own_G _ _ _ (T5.setTop (mkF m 26 #[.val (.ref p0), .val (.long p1), .second] [])) _ _ _ _
    refine own_go (fun t k => XS.iconst X5.here hx rfl (hb hby d5_26) k) ?_
    show own_G _ _ _ (T5.setTop (mkF m 27 #[.val (.ref p0), .val (.long p1), .second] [(.int (1 : Int32))])) _ _ _ _
    exact own_endN X5 hx hlk (t := .boolean) Bd.returns (by simp) (hb hby d5_27) (by decide) (by decide) (Q := (Q5 Z p0 p1 q1 q2 h0 n0)) (by rw [e5]; exact ⟨(by unfold own_rr; rw [if_neg hc3]; rfl), N5, K5_0, f6, f7, (by unfold own_nh; rw [if_neg hc3]; exact f8)⟩)
theorem d4_0 : decode method_3_code 0 = .ok (.aload_n 0, 1) := by decide +kernel
theorem d4_1 : decode method_3_code 1 = .ok (.lload 5, 2) := by decide +kernel
theorem d4_3 : decode method_3_code 3 = .ok (.invokevirtual 29, 3) := by decide +kernel
theorem d4_6 : decode method_3_code 6 = .ok (.istore 7, 2) := by decide +kernel
theorem d4_8 : decode method_3_code 8 = .ok (.lload_n 3, 1) := by decide +kernel
theorem d4_9 : decode method_3_code 9 = .ok (.lload 5, 2) := by decide +kernel
theorem d4_11 : decode method_3_code 11 = .ok (.ladd, 1) := by decide +kernel
theorem d4_12 : decode method_3_code 12 = .ok (.lstore 8, 2) := by decide +kernel
theorem d4_14 : decode method_3_code 14 = .ok (.lload 8, 2) := by decide +kernel
theorem d4_16 : decode method_3_code 16 = .ok (.lconst 0, 1) := by decide +kernel
theorem d4_17 : decode method_3_code 17 = .ok (.lcmp, 1) := by decide +kernel
theorem d4_18 : decode method_3_code 18 = .ok (.ifCond .lt 14, 3) := by decide +kernel
theorem d4_21 : decode method_3_code 21 = .ok (.lload 8, 2) := by decide +kernel
theorem d4_23 : decode method_3_code 23 = .ok (.lload_n 1, 1) := by decide +kernel
theorem d4_24 : decode method_3_code 24 = .ok (.lcmp, 1) := by decide +kernel
theorem d4_25 : decode method_3_code 25 = .ok (.ifCond .gt 7, 3) := by decide +kernel
theorem d4_28 : decode method_3_code 28 = .ok (.iconst 1, 1) := by decide +kernel
theorem d4_29 : decode method_3_code 29 = .ok (.goto 4, 3) := by decide +kernel
theorem d4_32 : decode method_3_code 32 = .ok (.iconst 0, 1) := by decide +kernel
theorem d4_33 : decode method_3_code 33 = .ok (.istore 10, 2) := by decide +kernel
theorem d4_35 : decode method_3_code 35 = .ok (.iload 10, 2) := by decide +kernel
theorem d4_37 : decode method_3_code 37 = .ok (.ifCond .eq 8, 3) := by decide +kernel
theorem d4_40 : decode method_3_code 40 = .ok (.lload 8, 2) := by decide +kernel
theorem d4_42 : decode method_3_code 42 = .ok (.goto 4, 3) := by decide +kernel
theorem d4_45 : decode method_3_code 45 = .ok (.lload_n 3, 1) := by decide +kernel
theorem d4_46 : decode method_3_code 46 = .ok (.lstore 11, 2) := by decide +kernel
theorem d4_48 : decode method_3_code 48 = .ok (.iload 7, 2) := by decide +kernel
theorem d4_50 : decode method_3_code 50 = .ok (.iload 10, 2) := by decide +kernel
theorem d4_52 : decode method_3_code 52 = .ok (.if_icmp .eq 7, 3) := by decide +kernel
theorem d4_55 : decode method_3_code 55 = .ok (.ldc2_w 33, 3) := by decide +kernel
theorem d4_58 : decode method_3_code 58 = .ok (.lreturn, 1) := by decide +kernel
theorem d4_59 : decode method_3_code 59 = .ok (.aload_n 0, 1) := by decide +kernel
theorem d4_60 : decode method_3_code 60 = .ok (.invokevirtual 16, 3) := by decide +kernel
theorem d4_63 : decode method_3_code 63 = .ok (.lload 11, 2) := by decide +kernel
theorem d4_65 : decode method_3_code 65 = .ok (.lcmp, 1) := by decide +kernel
theorem d4_66 : decode method_3_code 66 = .ok (.ifCond .eq 7, 3) := by decide +kernel
theorem d4_69 : decode method_3_code 69 = .ok (.ldc2_w 33, 3) := by decide +kernel
theorem d4_72 : decode method_3_code 72 = .ok (.lreturn, 1) := by decide +kernel
theorem d4_73 : decode method_3_code 73 = .ok (.lload 11, 2) := by decide +kernel
theorem d4_75 : decode method_3_code 75 = .ok (.lreturn, 1) := by decide +kernel
theorem pd_0 : parseMethodDescriptor "(J)Z" = some ⟨[.long], some .boolean⟩ := by decide +kernel
theorem pd_1 : parseMethodDescriptor "()J" = some ⟨[], some .long⟩ := by decide +kernel
theorem pn_1 : plainName "com/example/floe/floe/catalog/ManifestMemoryTakePinLaw" = true := by first | (simp [plainName, overriddenIn]; done) | decide +kernel
theorem ef_4 (m : MethodId) (p0 : Addr) (p1 : Int64) (p2 : Int64) (p3 : Int64) : entryFrame m #[(.ref p0), (.long p1), (.long p2), (.long p3)] 13 = mkF m 0 #[.val (.ref p0), .val (.long p1), .second, .val (.long p2), .second, .val (.long p3), .second, .unset, .unset, .unset, .unset, .unset, .unset] [] := by first | (simp [entryFrame, mkF, argsToLocals, Value.category]; done) | rfl
def Q4 (Z : State) (p0 : Addr) (p1 : Int64) (p2 : Int64) (p3 : Int64) (h0 : Heap) (n0 : Nat) (v : Option Value) (h : Heap) (L : List Loc) : Prop := v = some (.long (own_nh p1 p2 p3)) ∧ Fr n0 L ∧ Keep h0 h [p0] ∧ Exa Z h p0 "com/example/floe/floe/catalog/ManifestMemory" ∧ Fld Z h p0 "com/example/floe/floe/catalog/ManifestMemory" "mostTogether" "J" (.long p1) ∧ Fld Z h p0 "com/example/floe/floe/catalog/ManifestMemory" "held" "J" (.long (own_nh p1 p2 p3))
set_option maxRecDepth 65536 in
set_option maxHeartbeats 40000000 in
theorem rm4 (l : Launch) (Z : State) (a0 : Array Value) (hw : ∀ d ∈ tables_1, d.before a0 Z = true) (ws : List Jvm.Cond) (p0 : Addr) (p1 : Int64) (p2 : Int64) (p3 : Int64) (h0 : Heap) (n0 : Nat) (Z0 : n0 ≤ h0.size) (P_E_p0 : Exa Z h0 p0 "com/example/floe/floe/catalog/ManifestMemory") (P_F_p0_mostTogether : Fld Z h0 p0 "com/example/floe/floe/catalog/ManifestMemory" "mostTogether" "J" (.long p1)) (P_F_p0_held : Fld Z h0 p0 "com/example/floe/floe/catalog/ManifestMemory" "held" "J" (.long p2)) (g_p0 : n0 ≤ p0) (h1 : 0 ≤ p2.toInt) (h2 : p2.toInt ≤ p1.toInt) (h3 : 0 ≤ p3.toInt) :
    MetFree l (⟨"com/example/floe/floe/catalog/ManifestMemoryTakePinLaw", "step", "(Lcom/example/floe/floe/catalog/ManifestMemory;JJJ)J"⟩ : MethodName) (head1 (Jvm.Cond.code (⟨"com/example/floe/floe/catalog/ManifestMemoryTakePinLaw", "step", "(Lcom/example/floe/floe/catalog/ManifestMemory;JJJ)J"⟩ : MethodName) method_3_code 13 (some .long) :: ws) ({ frames := 1, cells := 0, slots := 0, locals := 14 } : Room)) (fun a U => a = #[(.ref p0), (.long p1), (.long p2), (.long p3)] ∧ Z.Warmed39 U.vm ∧ U.heap = h0) (fun _ _ _ _ _ => True) (fun _ U o U' => ∃ v L, o = .returned v ∧ (Q4 Z p0 p1 p2 p3 h0 n0) v U'.heap L ∧ FrameEnd U o U' L ({ frames := 1, cells := 0, slots := 0, locals := 14 } : Room).cells ({ frames := 1, cells := 0, slots := 0, locals := 14 } : Room).slots) := by
  refine MetFree.of_bodySF (plainFor_of_name pn_1) hisR ?_
  intro p e s m args below meth c s₁ Bd hml0 hP hK
  obtain ⟨rfl, hZ, hh⟩ := hP
  have hx := Bd.exec
  have hby := Bd.bytes
  have hml : c.maxLocals = 13 := hml0
  have hown : s.vm.findClass "com/example/floe/floe/catalog/ManifestMemoryTakePinLaw" = some m.cls := findClass_of_methodNamed Bd.named
  have hnm := (name_of_methodNamed Bd.named Bd.method).1
  have hlk : meth.locks = false := BodyLoose.notSynchronized Bd
  have X0 : Stand p l e ({ frames := 1, cells := 0, slots := 0, locals := 14 } : Room) s m #[(.ref p0), (.long p1), (.long p2), (.long p3)] below meth c s₁ [] 0 0 := Stand.of_body Bd
  have e0 : s₁.heap = h0 := by rw [← hh, Bd.state]; rfl
  have N0 := Fr.nil n0
  have K0 : Keep h0 h0 [p0] := Keep.refl h0 [p0]
  show own_G p.tables e below (s₁.setTop (entryFrame m #[(.ref p0), (.long p1), (.long p2), (.long p3)] 13)) s ({ frames := 1, cells := 0, slots := 0, locals := 14 } : Room).cells ({ frames := 1, cells := 0, slots := 0, locals := 14 } : Room).slots (Q4 Z p0 p1 p2 p3 h0 n0)
  refine own_go (fun t k => castTop (ef_4 m p0 p1 p2 p3) k) ?_
  show own_G _ _ _ (s₁.setTop (mkF m 0 #[.val (.ref p0), .val (.long p1), .second, .val (.long p2), .second, .val (.long p3), .second, .unset, .unset, .unset, .unset, .unset, .unset] [])) _ _ _ _
  by_cases hbq : p1 - p2 < p3
  · skip
    refine own_go (fun t k => XS.aloadN X0.here hx rfl (hb hby d4_0) rfl rfl k) ?_
    show own_G _ _ _ (s₁.setTop (mkF m 1 #[.val (.ref p0), .val (.long p1), .second, .val (.long p2), .second, .val (.long p3), .second, .unset, .unset, .unset, .unset, .unset, .unset] [(.ref p0)])) _ _ _ _
    refine own_go (fun t k => XS.lload X0.here hx rfl (hb hby d4_1) rfl k) ?_
    show own_G _ _ _ (s₁.setTop (mkF m 3 #[.val (.ref p0), .val (.long p1), .second, .val (.long p2), .second, .val (.long p3), .second, .unset, .unset, .unset, .unset, .unset, .unset] [(.long p3), (.ref p0)])) _ _ _ _
    obtain ⟨cq1, kq1, q1a, q1b, q1c⟩ := isOf hZ e0 P_E_p0
    obtain ⟨_, _, ⟨T1, L1, k1, n1⟩, -, X1, ⟨Lc1, hQ1, l1, y1, z1⟩, st1⟩ := X0.virtualBack hx (y := (⟨"com/example/floe/floe/catalog/ManifestMemory", "take", "(J)Z"⟩ : MethodName)) (z := (⟨"com/example/floe/floe/catalog/ManifestMemory", "take", "(J)Z"⟩ : MethodName)) hown (mvT hZ (hw _ (List.mem_of_getElem? (i := 25) rfl))) (mvT hZ (hw _ (List.mem_of_getElem? (i := 26) rfl))) (notFace_of_selects (args := #[]) (mvT hZ (hw _ (List.mem_of_getElem? (i := 28) rfl)))) (mvT hZ (hw _ (List.mem_of_getElem? (i := 28) rfl))) (mvT hZ (hw _ (List.mem_of_getElem? (i := 27) rfl))) (by decide) (backOf (W := 0) (rm5 l Z a0 hw [] p0 p3 p1 p2 h0 n0 Z0 P_E_p0 P_F_p0_mostTogether P_F_p0_held g_p0) hZ (hw _ (List.mem_of_getElem? (i := 29) rfl)) (hw _ (List.mem_of_getElem? (i := 3) rfl)) (by decide) (by decide)) q1a q1c (g := (mkF m 3 #[.val (.ref p0), .val (.long p1), .second, .val (.long p2), .second, .val (.long p3), .second, .unset, .unset, .unset, .unset, .unset, .unset] [(.long p3), (.ref p0)])) rfl (by rw [hml]; rfl) (Steps.refl _) (argsL := [(.long p3)]) (rest := []) (lenOf pd_0 rfl) rfl (by show 2 * 0 + _ ≤ _; exact Nat.le_of_eq rfl) (hb hby d4_3) (fun _ _ => ⟨rfl, e0, (by decide : 0 + 0 ≤ _), (by decide : 0 + 0 ≤ _)⟩)
    dsimp only [Pt.U, Pt.locs, Pt.cells, Pt.slots] at X1 l1 y1 z1 st1 hQ1
    subst l1 y1 z1
    simp only [Q5, own_rr, own_nh, if_pos hbq] at hQ1
    obtain ⟨rfl, Nq1, Kq1, r1_0, r1_1, r1_2⟩ := hQ1
    have N1 := Fr.app N0 Nq1
    have f2 : Exa Z T1.heap p0 "com/example/floe/floe/catalog/ManifestMemory" := P_E_p0.keep Kq1
    have Zs1 : n0 ≤ T1.heap.size := Nat.le_trans Z0 Kq1.1
    have K1_0 : Keep h0 T1.heap [p0] := K0.trans Kq1 (allS (Or.inl (List.mem_of_getElem? (i := 0) rfl)) all0)
    refine own_tr st1 ?_
    show own_G _ _ _ (T1.setTop (mkF m 6 #[.val (.ref p0), .val (.long p1), .second, .val (.long p2), .second, .val (.long p3), .second, .unset, .unset, .unset, .unset, .unset, .unset] [(.int (0 : Int32))])) _ _ _ _
    refine own_go (fun t k => XS.istore X1.here hx rfl (hb hby d4_6) rfl (l' := #[.val (.ref p0), .val (.long p1), .second, .val (.long p2), .second, .val (.long p3), .second, .val (.int (0 : Int32)), .unset, .unset, .unset, .unset, .unset]) rfl k) ?_
    show own_G _ _ _ (T1.setTop (mkF m 8 #[.val (.ref p0), .val (.long p1), .second, .val (.long p2), .second, .val (.long p3), .second, .val (.int (0 : Int32)), .unset, .unset, .unset, .unset, .unset] [])) _ _ _ _
    refine own_go (fun t k => XS.lloadN X1.here hx rfl (hb hby d4_8) rfl k) ?_
    show own_G _ _ _ (T1.setTop (mkF m 9 #[.val (.ref p0), .val (.long p1), .second, .val (.long p2), .second, .val (.long p3), .second, .val (.int (0 : Int32)), .unset, .unset, .unset, .unset, .unset] [(.long p2)])) _ _ _ _
    refine own_go (fun t k => XS.lload X1.here hx rfl (hb hby d4_9) rfl k) ?_
    show own_G _ _ _ (T1.setTop (mkF m 11 #[.val (.ref p0), .val (.long p1), .second, .val (.long p2), .second, .val (.long p3), .second, .val (.int (0 : Int32)), .unset, .unset, .unset, .unset, .unset] [(.long p3), (.long p2)])) _ _ _ _
    refine own_go (fun t k => XS.ladd X1.here hx rfl (hb hby d4_11) rfl k) ?_
    show own_G _ _ _ (T1.setTop (mkF m 12 #[.val (.ref p0), .val (.long p1), .second, .val (.long p2), .second, .val (.long p3), .second, .val (.int (0 : Int32)), .unset, .unset, .unset, .unset, .unset] [(.long (p2 + p3))])) _ _ _ _
    refine own_go (fun t k => XS.lstore X1.here hx rfl (hb hby d4_12) rfl (l' := #[.val (.ref p0), .val (.long p1), .second, .val (.long p2), .second, .val (.long p3), .second, .val (.int (0 : Int32)), .val (.long (p2 + p3)), .second, .unset, .unset, .unset]) rfl k) ?_
    show own_G _ _ _ (T1.setTop (mkF m 14 #[.val (.ref p0), .val (.long p1), .second, .val (.long p2), .second, .val (.long p3), .second, .val (.int (0 : Int32)), .val (.long (p2 + p3)), .second, .unset, .unset, .unset] [])) _ _ _ _
    refine own_go (fun t k => XS.lload X1.here hx rfl (hb hby d4_14) rfl k) ?_
    show own_G _ _ _ (T1.setTop (mkF m 16 #[.val (.ref p0), .val (.long p1), .second, .val (.long p2), .second, .val (.long p3), .second, .val (.int (0 : Int32)), .val (.long (p2 + p3)), .second, .unset, .unset, .unset] [(.long (p2 + p3))])) _ _ _ _
    refine own_go (fun t k => XS.lconst X1.here hx rfl (hb hby d4_16) k) ?_
    show own_G _ _ _ (T1.setTop (mkF m 17 #[.val (.ref p0), .val (.long p1), .second, .val (.long p2), .second, .val (.long p3), .second, .val (.int (0 : Int32)), .val (.long (p2 + p3)), .second, .unset, .unset, .unset] [(.long (0 : Int64)), (.long (p2 + p3))])) _ _ _ _
    refine own_go (fun t k => XS.lcmp X1.here hx rfl (hb hby d4_17) rfl k) ?_
    show own_G _ _ _ (T1.setTop (mkF m 18 #[.val (.ref p0), .val (.long p1), .second, .val (.long p2), .second, .val (.long p3), .second, .val (.int (0 : Int32)), .val (.long (p2 + p3)), .second, .unset, .unset, .unset] [(.int (lcmpW (p2 + p3) (0 : Int64)))])) _ _ _ _
    by_cases hc3 : (p2 + p3) < (0 : Int64)
    · refine own_go (fun t k => XS.ifYes X1.here hx rfl (pc0 := 18) (pc' := 32) rfl (hb hby d4_18) rfl ((if0 _ _).trans (tlt ((lw_lt _ _).mpr hc3)).1) (by decide) (by decide) k) ?_
      show own_G _ _ _ (T1.setTop (mkF m 32 #[.val (.ref p0), .val (.long p1), .second, .val (.long p2), .second, .val (.long p3), .second, .val (.int (0 : Int32)), .val (.long (p2 + p3)), .second, .unset, .unset, .unset] [])) _ _ _ _
      refine own_go (fun t k => XS.iconst X1.here hx rfl (hb hby d4_32) k) ?_
      show own_G _ _ _ (T1.setTop (mkF m 33 #[.val (.ref p0), .val (.long p1), .second, .val (.long p2), .second, .val (.long p3), .second, .val (.int (0 : Int32)), .val (.long (p2 + p3)), .second, .unset, .unset, .unset] [(.int (0 : Int32))])) _ _ _ _
      refine own_go (fun t k => XS.istore X1.here hx rfl (hb hby d4_33) rfl (l' := #[.val (.ref p0), .val (.long p1), .second, .val (.long p2), .second, .val (.long p3), .second, .val (.int (0 : Int32)), .val (.long (p2 + p3)), .second, .val (.int (0 : Int32)), .unset, .unset]) rfl k) ?_
      show own_G _ _ _ (T1.setTop (mkF m 35 #[.val (.ref p0), .val (.long p1), .second, .val (.long p2), .second, .val (.long p3), .second, .val (.int (0 : Int32)), .val (.long (p2 + p3)), .second, .val (.int (0 : Int32)), .unset, .unset] [])) _ _ _ _
      refine own_go (fun t k => XS.iload X1.here hx rfl (hb hby d4_35) rfl k) ?_
      show own_G _ _ _ (T1.setTop (mkF m 37 #[.val (.ref p0), .val (.long p1), .second, .val (.long p2), .second, .val (.long p3), .second, .val (.int (0 : Int32)), .val (.long (p2 + p3)), .second, .val (.int (0 : Int32)), .unset, .unset] [(.int (0 : Int32))])) _ _ _ _
      have hc4 : (0 : Int32) = (0 : Int32) := (by decide)
      refine own_go (fun t k => XS.ifYes X1.here hx rfl (pc0 := 37) (pc' := 45) rfl (hb hby d4_37) rfl ((if0 _ _).trans (teq hc4).1) (by decide) (by decide) k) ?_
      show own_G _ _ _ (T1.setTop (mkF m 45 #[.val (.ref p0), .val (.long p1), .second, .val (.long p2), .second, .val (.long p3), .second, .val (.int (0 : Int32)), .val (.long (p2 + p3)), .second, .val (.int (0 : Int32)), .unset, .unset] [])) _ _ _ _
      refine own_go (fun t k => XS.lloadN X1.here hx rfl (hb hby d4_45) rfl k) ?_
      show own_G _ _ _ (T1.setTop (mkF m 46 #[.val (.ref p0), .val (.long p1), .second, .val (.long p2), .second, .val (.long p3), .second, .val (.int (0 : Int32)), .val (.long (p2 + p3)), .second, .val (.int (0 : Int32)), .unset, .unset] [(.long p2)])) _ _ _ _
      refine own_go (fun t k => XS.lstore X1.here hx rfl (hb hby d4_46) rfl (l' := #[.val (.ref p0), .val (.long p1), .second, .val (.long p2), .second, .val (.long p3), .second, .val (.int (0 : Int32)), .val (.long (p2 + p3)), .second, .val (.int (0 : Int32)), .val (.long p2), .second]) rfl k) ?_
      show own_G _ _ _ (T1.setTop (mkF m 48 #[.val (.ref p0), .val (.long p1), .second, .val (.long p2), .second, .val (.long p3), .second, .val (.int (0 : Int32)), .val (.long (p2 + p3)), .second, .val (.int (0 : Int32)), .val (.long p2), .second] [])) _ _ _ _
      refine own_go (fun t k => XS.iload X1.here hx rfl (hb hby d4_48) rfl k) ?_
      show own_G _ _ _ (T1.setTop (mkF m 50 #[.val (.ref p0), .val (.long p1), .second, .val (.long p2), .second, .val (.long p3), .second, .val (.int (0 : Int32)), .val (.long (p2 + p3)), .second, .val (.int (0 : Int32)), .val (.long p2), .second] [(.int (0 : Int32))])) _ _ _ _
      refine own_go (fun t k => XS.iload X1.here hx rfl (hb hby d4_50) rfl k) ?_
      show own_G _ _ _ (T1.setTop (mkF m 52 #[.val (.ref p0), .val (.long p1), .second, .val (.long p2), .second, .val (.long p3), .second, .val (.int (0 : Int32)), .val (.long (p2 + p3)), .second, .val (.int (0 : Int32)), .val (.long p2), .second] [(.int (0 : Int32)), (.int (0 : Int32))])) _ _ _ _
      have hc5 : (0 : Int32) = (0 : Int32) := (by decide)
      refine own_go (fun t k => XS.icmpYes X1.here hx rfl (pc0 := 52) (pc' := 59) rfl (hb hby d4_52) rfl (teq hc5).1 (by decide) (by decide) k) ?_
      show own_G _ _ _ (T1.setTop (mkF m 59 #[.val (.ref p0), .val (.long p1), .second, .val (.long p2), .second, .val (.long p3), .second, .val (.int (0 : Int32)), .val (.long (p2 + p3)), .second, .val (.int (0 : Int32)), .val (.long p2), .second] [])) _ _ _ _
      refine own_go (fun t k => XS.aloadN X1.here hx rfl (hb hby d4_59) rfl rfl k) ?_
      show own_G _ _ _ (T1.setTop (mkF m 60 #[.val (.ref p0), .val (.long p1), .second, .val (.long p2), .second, .val (.long p3), .second, .val (.int (0 : Int32)), .val (.long (p2 + p3)), .second, .val (.int (0 : Int32)), .val (.long p2), .second] [(.ref p0)])) _ _ _ _
      obtain ⟨cq6, kq6, q6a, q6b, q6c⟩ := isOf hZ rfl r1_0
      obtain ⟨_, _, ⟨T6, L6, k6, n6⟩, -, X6, ⟨Lc6, hQ6, l6, y6, z6⟩, st6⟩ := X1.virtualBack hx (y := (⟨"com/example/floe/floe/catalog/ManifestMemory", "held", "()J"⟩ : MethodName)) (z := (⟨"com/example/floe/floe/catalog/ManifestMemory", "held", "()J"⟩ : MethodName)) hown (mvT hZ (hw _ (List.mem_of_getElem? (i := 14) rfl))) (mvT hZ (hw _ (List.mem_of_getElem? (i := 15) rfl))) (notFace_of_selects (args := #[]) (mvT hZ (hw _ (List.mem_of_getElem? (i := 17) rfl)))) (mvT hZ (hw _ (List.mem_of_getElem? (i := 17) rfl))) (mvT hZ (hw _ (List.mem_of_getElem? (i := 16) rfl))) (by decide) (backOf (W := 0) (rm3 l Z a0 hw [] p0 p2 T1.heap n0 Zs1 r1_2) hZ (hw _ (List.mem_of_getElem? (i := 18) rfl)) (hw _ (List.mem_of_getElem? (i := 3) rfl)) (by decide) (by decide)) q6a q6c (g := (mkF m 60 #[.val (.ref p0), .val (.long p1), .second, .val (.long p2), .second, .val (.long p3), .second, .val (.int (0 : Int32)), .val (.long (p2 + p3)), .second, .val (.int (0 : Int32)), .val (.long p2), .second] [(.ref p0)])) rfl (by rw [hml]; rfl) (Steps.refl _) (argsL := []) (rest := []) (lenOf pd_1 rfl) rfl (by show 2 * 0 + _ ≤ _; exact Nat.le_of_eq rfl) (hb hby d4_60) (fun _ _ => ⟨rfl, rfl, (by decide : 0 + 0 ≤ _), (by decide : 0 + 0 ≤ _)⟩)
      dsimp only [Pt.U, Pt.locs, Pt.cells, Pt.slots] at X6 l6 y6 z6 st6 hQ6
      subst l6 y6 z6
      obtain ⟨rfl, Nq6, eh6⟩ := hQ6
      have N6 := Fr.app N1 Nq6
      refine own_tr st6 ?_
      show own_G _ _ _ (T6.setTop (mkF m 63 #[.val (.ref p0), .val (.long p1), .second, .val (.long p2), .second, .val (.long p3), .second, .val (.int (0 : Int32)), .val (.long (p2 + p3)), .second, .val (.int (0 : Int32)), .val (.long p2), .second] [(.long p2)])) _ _ _ _
      refine own_go (fun t k => XS.lload X6.here hx rfl (hb hby d4_63) rfl k) ?_
      show own_G _ _ _ (T6.setTop (mkF m 65 #[.val (.ref p0), .val (.long p1), .second, .val (.long p2), .second, .val (.long p3), .second, .val (.int (0 : Int32)), .val (.long (p2 + p3)), .second, .val (.int (0 : Int32)), .val (.long p2), .second] [(.long p2), (.long p2)])) _ _ _ _
      refine own_go (fun t k => XS.lcmp X6.here hx rfl (hb hby d4_65) rfl k) ?_
      show own_G _ _ _ (T6.setTop (mkF m 66 #[.val (.ref p0), .val (.long p1), .second, .val (.long p2), .second, .val (.long p3), .second, .val (.int (0 : Int32)), .val (.long (p2 + p3)), .second, .val (.int (0 : Int32)), .val (.long p2), .second] [(.int (lcmpW p2 p2))])) _ _ _ _
      have hc7 : p2 = p2 := rfl
      refine own_go (fun t k => XS.ifYes X6.here hx rfl (pc0 := 66) (pc' := 73) rfl (hb hby d4_66) rfl ((if0 _ _).trans (teq ((lw_eq _ _).mpr hc7)).1) (by decide) (by decide) k) ?_
      show own_G _ _ _ (T6.setTop (mkF m 73 #[.val (.ref p0), .val (.long p1), .second, .val (.long p2), .second, .val (.long p3), .second, .val (.int (0 : Int32)), .val (.long (p2 + p3)), .second, .val (.int (0 : Int32)), .val (.long p2), .second] [])) _ _ _ _
      refine own_go (fun t k => XS.lload X6.here hx rfl (hb hby d4_73) rfl k) ?_
      show own_G _ _ _ (T6.setTop (mkF m 75 #[.val (.ref p0), .val (.long p1), .second, .val (.long p2), .second, .val (.long p3), .second, .val (.int (0 : Int32)), .val (.long (p2 + p3)), .second, .val (.int (0 : Int32)), .val (.long p2), .second] [(.long p2)])) _ _ _ _
      exact own_endJ X6 hx hlk Bd.returns (hb hby d4_75) (by decide) (by decide) (Q := (Q4 Z p0 p1 p2 p3 h0 n0)) (by rw [eh6]; exact ⟨(by unfold own_nh; rw [if_pos hbq]), N6, K1_0, r1_0, r1_1, (by unfold own_nh; rw [if_pos hbq]; exact r1_2)⟩)
    · refine own_go (fun t k => XS.ifNo X1.here hx rfl (hb hby d4_18) rfl ((if0 _ _).trans (flt (fun q => hc3 ((lw_lt _ _).mp q))).1) k) ?_
      show own_G _ _ _ (T1.setTop (mkF m 21 #[.val (.ref p0), .val (.long p1), .second, .val (.long p2), .second, .val (.long p3), .second, .val (.int (0 : Int32)), .val (.long (p2 + p3)), .second, .unset, .unset, .unset] [])) _ _ _ _
      refine own_go (fun t k => XS.lload X1.here hx rfl (hb hby d4_21) rfl k) ?_
      show own_G _ _ _ (T1.setTop (mkF m 23 #[.val (.ref p0), .val (.long p1), .second, .val (.long p2), .second, .val (.long p3), .second, .val (.int (0 : Int32)), .val (.long (p2 + p3)), .second, .unset, .unset, .unset] [(.long (p2 + p3))])) _ _ _ _
      refine own_go (fun t k => XS.lloadN X1.here hx rfl (hb hby d4_23) rfl k) ?_
      show own_G _ _ _ (T1.setTop (mkF m 24 #[.val (.ref p0), .val (.long p1), .second, .val (.long p2), .second, .val (.long p3), .second, .val (.int (0 : Int32)), .val (.long (p2 + p3)), .second, .unset, .unset, .unset] [(.long p1), (.long (p2 + p3))])) _ _ _ _
      refine own_go (fun t k => XS.lcmp X1.here hx rfl (hb hby d4_24) rfl k) ?_
      show own_G _ _ _ (T1.setTop (mkF m 25 #[.val (.ref p0), .val (.long p1), .second, .val (.long p2), .second, .val (.long p3), .second, .val (.int (0 : Int32)), .val (.long (p2 + p3)), .second, .unset, .unset, .unset] [(.int (lcmpW (p2 + p3) p1))])) _ _ _ _
      have hc8 : p1 < (p2 + p3) := own_c3 h1 h2 h3 hbq hc3
      refine own_go (fun t k => XS.ifYes X1.here hx rfl (pc0 := 25) (pc' := 32) rfl (hb hby d4_25) rfl ((if0 _ _).trans (tlt ((lw_gt _ _).mpr hc8)).2.2.1) (by decide) (by decide) k) ?_
      show own_G _ _ _ (T1.setTop (mkF m 32 #[.val (.ref p0), .val (.long p1), .second, .val (.long p2), .second, .val (.long p3), .second, .val (.int (0 : Int32)), .val (.long (p2 + p3)), .second, .unset, .unset, .unset] [])) _ _ _ _
      refine own_go (fun t k => XS.iconst X1.here hx rfl (hb hby d4_32) k) ?_
      show own_G _ _ _ (T1.setTop (mkF m 33 #[.val (.ref p0), .val (.long p1), .second, .val (.long p2), .second, .val (.long p3), .second, .val (.int (0 : Int32)), .val (.long (p2 + p3)), .second, .unset, .unset, .unset] [(.int (0 : Int32))])) _ _ _ _
      refine own_go (fun t k => XS.istore X1.here hx rfl (hb hby d4_33) rfl (l' := #[.val (.ref p0), .val (.long p1), .second, .val (.long p2), .second, .val (.long p3), .second, .val (.int (0 : Int32)), .val (.long (p2 + p3)), .second, .val (.int (0 : Int32)), .unset, .unset]) rfl k) ?_
      show own_G _ _ _ (T1.setTop (mkF m 35 #[.val (.ref p0), .val (.long p1), .second, .val (.long p2), .second, .val (.long p3), .second, .val (.int (0 : Int32)), .val (.long (p2 + p3)), .second, .val (.int (0 : Int32)), .unset, .unset] [])) _ _ _ _
      refine own_go (fun t k => XS.iload X1.here hx rfl (hb hby d4_35) rfl k) ?_
      show own_G _ _ _ (T1.setTop (mkF m 37 #[.val (.ref p0), .val (.long p1), .second, .val (.long p2), .second, .val (.long p3), .second, .val (.int (0 : Int32)), .val (.long (p2 + p3)), .second, .val (.int (0 : Int32)), .unset, .unset] [(.int (0 : Int32))])) _ _ _ _
      have hc9 : (0 : Int32) = (0 : Int32) := (by decide)
      refine own_go (fun t k => XS.ifYes X1.here hx rfl (pc0 := 37) (pc' := 45) rfl (hb hby d4_37) rfl ((if0 _ _).trans (teq hc9).1) (by decide) (by decide) k) ?_
      show own_G _ _ _ (T1.setTop (mkF m 45 #[.val (.ref p0), .val (.long p1), .second, .val (.long p2), .second, .val (.long p3), .second, .val (.int (0 : Int32)), .val (.long (p2 + p3)), .second, .val (.int (0 : Int32)), .unset, .unset] [])) _ _ _ _
      refine own_go (fun t k => XS.lloadN X1.here hx rfl (hb hby d4_45) rfl k) ?_
      show own_G _ _ _ (T1.setTop (mkF m 46 #[.val (.ref p0), .val (.long p1), .second, .val (.long p2), .second, .val (.long p3), .second, .val (.int (0 : Int32)), .val (.long (p2 + p3)), .second, .val (.int (0 : Int32)), .unset, .unset] [(.long p2)])) _ _ _ _
      refine own_go (fun t k => XS.lstore X1.here hx rfl (hb hby d4_46) rfl (l' := #[.val (.ref p0), .val (.long p1), .second, .val (.long p2), .second, .val (.long p3), .second, .val (.int (0 : Int32)), .val (.long (p2 + p3)), .second, .val (.int (0 : Int32)), .val (.long p2), .second]) rfl k) ?_
      show own_G _ _ _ (T1.setTop (mkF m 48 #[.val (.ref p0), .val (.long p1), .second, .val (.long p2), .second, .val (.long p3), .second, .val (.int (0 : Int32)), .val (.long (p2 + p3)), .second, .val (.int (0 : Int32)), .val (.long p2), .second] [])) _ _ _ _
      refine own_go (fun t k => XS.iload X1.here hx rfl (hb hby d4_48) rfl k) ?_
      show own_G _ _ _ (T1.setTop (mkF m 50 #[.val (.ref p0), .val (.long p1), .second, .val (.long p2), .second, .val (.long p3), .second, .val (.int (0 : Int32)), .val (.long (p2 + p3)), .second, .val (.int (0 : Int32)), .val (.long p2), .second] [(.int (0 : Int32))])) _ _ _ _
      refine own_go (fun t k => XS.iload X1.here hx rfl (hb hby d4_50) rfl k) ?_
      show own_G _ _ _ (T1.setTop (mkF m 52 #[.val (.ref p0), .val (.long p1), .second, .val (.long p2), .second, .val (.long p3), .second, .val (.int (0 : Int32)), .val (.long (p2 + p3)), .second, .val (.int (0 : Int32)), .val (.long p2), .second] [(.int (0 : Int32)), (.int (0 : Int32))])) _ _ _ _
      have hc10 : (0 : Int32) = (0 : Int32) := (by decide)
      refine own_go (fun t k => XS.icmpYes X1.here hx rfl (pc0 := 52) (pc' := 59) rfl (hb hby d4_52) rfl (teq hc10).1 (by decide) (by decide) k) ?_
      show own_G _ _ _ (T1.setTop (mkF m 59 #[.val (.ref p0), .val (.long p1), .second, .val (.long p2), .second, .val (.long p3), .second, .val (.int (0 : Int32)), .val (.long (p2 + p3)), .second, .val (.int (0 : Int32)), .val (.long p2), .second] [])) _ _ _ _
      refine own_go (fun t k => XS.aloadN X1.here hx rfl (hb hby d4_59) rfl rfl k) ?_
      show own_G _ _ _ (T1.setTop (mkF m 60 #[.val (.ref p0), .val (.long p1), .second, .val (.long p2), .second, .val (.long p3), .second, .val (.int (0 : Int32)), .val (.long (p2 + p3)), .second, .val (.int (0 : Int32)), .val (.long p2), .second] [(.ref p0)])) _ _ _ _
      obtain ⟨cq11, kq11, q11a, q11b, q11c⟩ := isOf hZ rfl r1_0
      obtain ⟨_, _, ⟨T11, L11, k11, n11⟩, -, X11, ⟨Lc11, hQ11, l11, y11, z11⟩, st11⟩ := X1.virtualBack hx (y := (⟨"com/example/floe/floe/catalog/ManifestMemory", "held", "()J"⟩ : MethodName)) (z := (⟨"com/example/floe/floe/catalog/ManifestMemory", "held", "()J"⟩ : MethodName)) hown (mvT hZ (hw _ (List.mem_of_getElem? (i := 14) rfl))) (mvT hZ (hw _ (List.mem_of_getElem? (i := 15) rfl))) (notFace_of_selects (args := #[]) (mvT hZ (hw _ (List.mem_of_getElem? (i := 17) rfl)))) (mvT hZ (hw _ (List.mem_of_getElem? (i := 17) rfl))) (mvT hZ (hw _ (List.mem_of_getElem? (i := 16) rfl))) (by decide) (backOf (W := 0) (rm3 l Z a0 hw [] p0 p2 T1.heap n0 Zs1 r1_2) hZ (hw _ (List.mem_of_getElem? (i := 18) rfl)) (hw _ (List.mem_of_getElem? (i := 3) rfl)) (by decide) (by decide)) q11a q11c (g := (mkF m 60 #[.val (.ref p0), .val (.long p1), .second, .val (.long p2), .second, .val (.long p3), .second, .val (.int (0 : Int32)), .val (.long (p2 + p3)), .second, .val (.int (0 : Int32)), .val (.long p2), .second] [(.ref p0)])) rfl (by rw [hml]; rfl) (Steps.refl _) (argsL := []) (rest := []) (lenOf pd_1 rfl) rfl (by show 2 * 0 + _ ≤ _; exact Nat.le_of_eq rfl) (hb hby d4_60) (fun _ _ => ⟨rfl, rfl, (by decide : 0 + 0 ≤ _), (by decide : 0 + 0 ≤ _)⟩)
      dsimp only [Pt.U, Pt.locs, Pt.cells, Pt.slots] at X11 l11 y11 z11 st11 hQ11
      subst l11 y11 z11
      obtain ⟨rfl, Nq11, eh11⟩ := hQ11
      have N11 := Fr.app N1 Nq11
      refine own_tr st11 ?_
      show own_G _ _ _ (T11.setTop (mkF m 63 #[.val (.ref p0), .val (.long p1), .second, .val (.long p2), .second, .val (.long p3), .second, .val (.int (0 : Int32)), .val (.long (p2 + p3)), .second, .val (.int (0 : Int32)), .val (.long p2), .second] [(.long p2)])) _ _ _ _
      refine own_go (fun t k => XS.lload X11.here hx rfl (hb hby d4_63) rfl k) ?_
      show own_G _ _ _ (T11.setTop (mkF m 65 #[.val (.ref p0), .val (.long p1), .second, .val (.long p2), .second, .val (.long p3), .second, .val (.int (0 : Int32)), .val (.long (p2 + p3)), .second, .val (.int (0 : Int32)), .val (.long p2), .second] [(.long p2), (.long p2)])) _ _ _ _
      refine own_go (fun t k => XS.lcmp X11.here hx rfl (hb hby d4_65) rfl k) ?_
      show own_G _ _ _ (T11.setTop (mkF m 66 #[.val (.ref p0), .val (.long p1), .second, .val (.long p2), .second, .val (.long p3), .second, .val (.int (0 : Int32)), .val (.long (p2 + p3)), .second, .val (.int (0 : Int32)), .val (.long p2), .second] [(.int (lcmpW p2 p2))])) _ _ _ _
      have hc12 : p2 = p2 := rfl
      refine own_go (fun t k => XS.ifYes X11.here hx rfl (pc0 := 66) (pc' := 73) rfl (hb hby d4_66) rfl ((if0 _ _).trans (teq ((lw_eq _ _).mpr hc12)).1) (by decide) (by decide) k) ?_
      show own_G _ _ _ (T11.setTop (mkF m 73 #[.val (.ref p0), .val (.long p1), .second, .val (.long p2), .second, .val (.long p3), .second, .val (.int (0 : Int32)), .val (.long (p2 + p3)), .second, .val (.int (0 : Int32)), .val (.long p2), .second] [])) _ _ _ _
      refine own_go (fun t k => XS.lload X11.here hx rfl (hb hby d4_73) rfl k) ?_
      show own_G _ _ _ (T11.setTop (mkF m 75 #[.val (.ref p0), .val (.long p1), .second, .val (.long p2), .second, .val (.long p3), .second, .val (.int (0 : Int32)), .val (.long (p2 + p3)), .second, .val (.int (0 : Int32)), .val (.long p2), .second] [(.long p2)])) _ _ _ _
      exact own_endJ X11 hx hlk Bd.returns (hb hby d4_75) (by decide) (by decide) (Q := (Q4 Z p0 p1 p2 p3 h0 n0)) (by rw [eh11]; exact ⟨(by unfold own_nh; rw [if_pos hbq]), N11, K1_0, r1_0, r1_1, (by unfold own_nh; rw [if_pos hbq]; exact r1_2)⟩)
  · skip
    refine own_go (fun t k => XS.aloadN X0.here hx rfl (hb hby d4_0) rfl rfl k) ?_
    show own_G _ _ _ (s₁.setTop (mkF m 1 #[.val (.ref p0), .val (.long p1), .second, .val (.long p2), .second, .val (.long p3), .second, .unset, .unset, .unset, .unset, .unset, .unset] [(.ref p0)])) _ _ _ _
    refine own_go (fun t k => XS.lload X0.here hx rfl (hb hby d4_1) rfl k) ?_
    show own_G _ _ _ (s₁.setTop (mkF m 3 #[.val (.ref p0), .val (.long p1), .second, .val (.long p2), .second, .val (.long p3), .second, .unset, .unset, .unset, .unset, .unset, .unset] [(.long p3), (.ref p0)])) _ _ _ _
    obtain ⟨cq13, kq13, q13a, q13b, q13c⟩ := isOf hZ e0 P_E_p0
    obtain ⟨_, _, ⟨T13, L13, k13, n13⟩, -, X13, ⟨Lc13, hQ13, l13, y13, z13⟩, st13⟩ := X0.virtualBack hx (y := (⟨"com/example/floe/floe/catalog/ManifestMemory", "take", "(J)Z"⟩ : MethodName)) (z := (⟨"com/example/floe/floe/catalog/ManifestMemory", "take", "(J)Z"⟩ : MethodName)) hown (mvT hZ (hw _ (List.mem_of_getElem? (i := 25) rfl))) (mvT hZ (hw _ (List.mem_of_getElem? (i := 26) rfl))) (notFace_of_selects (args := #[]) (mvT hZ (hw _ (List.mem_of_getElem? (i := 28) rfl)))) (mvT hZ (hw _ (List.mem_of_getElem? (i := 28) rfl))) (mvT hZ (hw _ (List.mem_of_getElem? (i := 27) rfl))) (by decide) (backOf (W := 0) (rm5 l Z a0 hw [] p0 p3 p1 p2 h0 n0 Z0 P_E_p0 P_F_p0_mostTogether P_F_p0_held g_p0) hZ (hw _ (List.mem_of_getElem? (i := 29) rfl)) (hw _ (List.mem_of_getElem? (i := 3) rfl)) (by decide) (by decide)) q13a q13c (g := (mkF m 3 #[.val (.ref p0), .val (.long p1), .second, .val (.long p2), .second, .val (.long p3), .second, .unset, .unset, .unset, .unset, .unset, .unset] [(.long p3), (.ref p0)])) rfl (by rw [hml]; rfl) (Steps.refl _) (argsL := [(.long p3)]) (rest := []) (lenOf pd_0 rfl) rfl (by show 2 * 0 + _ ≤ _; exact Nat.le_of_eq rfl) (hb hby d4_3) (fun _ _ => ⟨rfl, e0, (by decide : 0 + 0 ≤ _), (by decide : 0 + 0 ≤ _)⟩)
    dsimp only [Pt.U, Pt.locs, Pt.cells, Pt.slots] at X13 l13 y13 z13 st13 hQ13
    subst l13 y13 z13
    simp only [Q5, own_rr, own_nh, if_neg hbq] at hQ13
    obtain ⟨rfl, Nq13, Kq13, r13_0, r13_1, r13_2⟩ := hQ13
    have N13 := Fr.app N0 Nq13
    have f14 : Exa Z T13.heap p0 "com/example/floe/floe/catalog/ManifestMemory" := P_E_p0.keep Kq13
    have Zs13 : n0 ≤ T13.heap.size := Nat.le_trans Z0 Kq13.1
    have K13_0 : Keep h0 T13.heap [p0] := K0.trans Kq13 (allS (Or.inl (List.mem_of_getElem? (i := 0) rfl)) all0)
    refine own_tr st13 ?_
    show own_G _ _ _ (T13.setTop (mkF m 6 #[.val (.ref p0), .val (.long p1), .second, .val (.long p2), .second, .val (.long p3), .second, .unset, .unset, .unset, .unset, .unset, .unset] [(.int (1 : Int32))])) _ _ _ _
    refine own_go (fun t k => XS.istore X13.here hx rfl (hb hby d4_6) rfl (l' := #[.val (.ref p0), .val (.long p1), .second, .val (.long p2), .second, .val (.long p3), .second, .val (.int (1 : Int32)), .unset, .unset, .unset, .unset, .unset]) rfl k) ?_
    show own_G _ _ _ (T13.setTop (mkF m 8 #[.val (.ref p0), .val (.long p1), .second, .val (.long p2), .second, .val (.long p3), .second, .val (.int (1 : Int32)), .unset, .unset, .unset, .unset, .unset] [])) _ _ _ _
    refine own_go (fun t k => XS.lloadN X13.here hx rfl (hb hby d4_8) rfl k) ?_
    show own_G _ _ _ (T13.setTop (mkF m 9 #[.val (.ref p0), .val (.long p1), .second, .val (.long p2), .second, .val (.long p3), .second, .val (.int (1 : Int32)), .unset, .unset, .unset, .unset, .unset] [(.long p2)])) _ _ _ _
    refine own_go (fun t k => XS.lload X13.here hx rfl (hb hby d4_9) rfl k) ?_
    show own_G _ _ _ (T13.setTop (mkF m 11 #[.val (.ref p0), .val (.long p1), .second, .val (.long p2), .second, .val (.long p3), .second, .val (.int (1 : Int32)), .unset, .unset, .unset, .unset, .unset] [(.long p3), (.long p2)])) _ _ _ _
    refine own_go (fun t k => XS.ladd X13.here hx rfl (hb hby d4_11) rfl k) ?_
    show own_G _ _ _ (T13.setTop (mkF m 12 #[.val (.ref p0), .val (.long p1), .second, .val (.long p2), .second, .val (.long p3), .second, .val (.int (1 : Int32)), .unset, .unset, .unset, .unset, .unset] [(.long (p2 + p3))])) _ _ _ _
    refine own_go (fun t k => XS.lstore X13.here hx rfl (hb hby d4_12) rfl (l' := #[.val (.ref p0), .val (.long p1), .second, .val (.long p2), .second, .val (.long p3), .second, .val (.int (1 : Int32)), .val (.long (p2 + p3)), .second, .unset, .unset, .unset]) rfl k) ?_
    show own_G _ _ _ (T13.setTop (mkF m 14 #[.val (.ref p0), .val (.long p1), .second, .val (.long p2), .second, .val (.long p3), .second, .val (.int (1 : Int32)), .val (.long (p2 + p3)), .second, .unset, .unset, .unset] [])) _ _ _ _
    refine own_go (fun t k => XS.lload X13.here hx rfl (hb hby d4_14) rfl k) ?_
    show own_G _ _ _ (T13.setTop (mkF m 16 #[.val (.ref p0), .val (.long p1), .second, .val (.long p2), .second, .val (.long p3), .second, .val (.int (1 : Int32)), .val (.long (p2 + p3)), .second, .unset, .unset, .unset] [(.long (p2 + p3))])) _ _ _ _
    refine own_go (fun t k => XS.lconst X13.here hx rfl (hb hby d4_16) k) ?_
    show own_G _ _ _ (T13.setTop (mkF m 17 #[.val (.ref p0), .val (.long p1), .second, .val (.long p2), .second, .val (.long p3), .second, .val (.int (1 : Int32)), .val (.long (p2 + p3)), .second, .unset, .unset, .unset] [(.long (0 : Int64)), (.long (p2 + p3))])) _ _ _ _
    refine own_go (fun t k => XS.lcmp X13.here hx rfl (hb hby d4_17) rfl k) ?_
    show own_G _ _ _ (T13.setTop (mkF m 18 #[.val (.ref p0), .val (.long p1), .second, .val (.long p2), .second, .val (.long p3), .second, .val (.int (1 : Int32)), .val (.long (p2 + p3)), .second, .unset, .unset, .unset] [(.int (lcmpW (p2 + p3) (0 : Int64)))])) _ _ _ _
    have hc15 : ¬ ((p2 + p3) < (0 : Int64)) := own_c1 h1 h2 h3 hbq
    refine own_go (fun t k => XS.ifNo X13.here hx rfl (hb hby d4_18) rfl ((if0 _ _).trans (flt (fun q => hc15 ((lw_lt _ _).mp q))).1) k) ?_
    show own_G _ _ _ (T13.setTop (mkF m 21 #[.val (.ref p0), .val (.long p1), .second, .val (.long p2), .second, .val (.long p3), .second, .val (.int (1 : Int32)), .val (.long (p2 + p3)), .second, .unset, .unset, .unset] [])) _ _ _ _
    refine own_go (fun t k => XS.lload X13.here hx rfl (hb hby d4_21) rfl k) ?_
    show own_G _ _ _ (T13.setTop (mkF m 23 #[.val (.ref p0), .val (.long p1), .second, .val (.long p2), .second, .val (.long p3), .second, .val (.int (1 : Int32)), .val (.long (p2 + p3)), .second, .unset, .unset, .unset] [(.long (p2 + p3))])) _ _ _ _
    refine own_go (fun t k => XS.lloadN X13.here hx rfl (hb hby d4_23) rfl k) ?_
    show own_G _ _ _ (T13.setTop (mkF m 24 #[.val (.ref p0), .val (.long p1), .second, .val (.long p2), .second, .val (.long p3), .second, .val (.int (1 : Int32)), .val (.long (p2 + p3)), .second, .unset, .unset, .unset] [(.long p1), (.long (p2 + p3))])) _ _ _ _
    refine own_go (fun t k => XS.lcmp X13.here hx rfl (hb hby d4_24) rfl k) ?_
    show own_G _ _ _ (T13.setTop (mkF m 25 #[.val (.ref p0), .val (.long p1), .second, .val (.long p2), .second, .val (.long p3), .second, .val (.int (1 : Int32)), .val (.long (p2 + p3)), .second, .unset, .unset, .unset] [(.int (lcmpW (p2 + p3) p1))])) _ _ _ _
    have hc16 : ¬ (p1 < (p2 + p3)) := own_c2 h1 h2 h3 hbq
    refine own_go (fun t k => XS.ifNo X13.here hx rfl (hb hby d4_25) rfl ((if0 _ _).trans (flt (fun q => hc16 ((lw_gt _ _).mp q))).2.2.1) k) ?_
    show own_G _ _ _ (T13.setTop (mkF m 28 #[.val (.ref p0), .val (.long p1), .second, .val (.long p2), .second, .val (.long p3), .second, .val (.int (1 : Int32)), .val (.long (p2 + p3)), .second, .unset, .unset, .unset] [])) _ _ _ _
    refine own_go (fun t k => XS.iconst X13.here hx rfl (hb hby d4_28) k) ?_
    show own_G _ _ _ (T13.setTop (mkF m 29 #[.val (.ref p0), .val (.long p1), .second, .val (.long p2), .second, .val (.long p3), .second, .val (.int (1 : Int32)), .val (.long (p2 + p3)), .second, .unset, .unset, .unset] [(.int (1 : Int32))])) _ _ _ _
    refine own_go (fun t k => XS.goto X13.here hx rfl (pc0 := 29) (pc' := 33) rfl (hb hby d4_29) (by decide) (by decide) k) ?_
    show own_G _ _ _ (T13.setTop (mkF m 33 #[.val (.ref p0), .val (.long p1), .second, .val (.long p2), .second, .val (.long p3), .second, .val (.int (1 : Int32)), .val (.long (p2 + p3)), .second, .unset, .unset, .unset] [(.int (1 : Int32))])) _ _ _ _
    refine own_go (fun t k => XS.istore X13.here hx rfl (hb hby d4_33) rfl (l' := #[.val (.ref p0), .val (.long p1), .second, .val (.long p2), .second, .val (.long p3), .second, .val (.int (1 : Int32)), .val (.long (p2 + p3)), .second, .val (.int (1 : Int32)), .unset, .unset]) rfl k) ?_
    show own_G _ _ _ (T13.setTop (mkF m 35 #[.val (.ref p0), .val (.long p1), .second, .val (.long p2), .second, .val (.long p3), .second, .val (.int (1 : Int32)), .val (.long (p2 + p3)), .second, .val (.int (1 : Int32)), .unset, .unset] [])) _ _ _ _
    refine own_go (fun t k => XS.iload X13.here hx rfl (hb hby d4_35) rfl k) ?_
    show own_G _ _ _ (T13.setTop (mkF m 37 #[.val (.ref p0), .val (.long p1), .second, .val (.long p2), .second, .val (.long p3), .second, .val (.int (1 : Int32)), .val (.long (p2 + p3)), .second, .val (.int (1 : Int32)), .unset, .unset] [(.int (1 : Int32))])) _ _ _ _
    have hc17 : ¬ ((1 : Int32) = (0 : Int32)) := (by decide)
    refine own_go (fun t k => XS.ifNo X13.here hx rfl (hb hby d4_37) rfl ((if0 _ _).trans (feq hc17).1) k) ?_
    show own_G _ _ _ (T13.setTop (mkF m 40 #[.val (.ref p0), .val (.long p1), .second, .val (.long p2), .second, .val (.long p3), .second, .val (.int (1 : Int32)), .val (.long (p2 + p3)), .second, .val (.int (1 : Int32)), .unset, .unset] [])) _ _ _ _
    refine own_go (fun t k => XS.lload X13.here hx rfl (hb hby d4_40) rfl k) ?_
    show own_G _ _ _ (T13.setTop (mkF m 42 #[.val (.ref p0), .val (.long p1), .second, .val (.long p2), .second, .val (.long p3), .second, .val (.int (1 : Int32)), .val (.long (p2 + p3)), .second, .val (.int (1 : Int32)), .unset, .unset] [(.long (p2 + p3))])) _ _ _ _
    refine own_go (fun t k => XS.goto X13.here hx rfl (pc0 := 42) (pc' := 46) rfl (hb hby d4_42) (by decide) (by decide) k) ?_
    show own_G _ _ _ (T13.setTop (mkF m 46 #[.val (.ref p0), .val (.long p1), .second, .val (.long p2), .second, .val (.long p3), .second, .val (.int (1 : Int32)), .val (.long (p2 + p3)), .second, .val (.int (1 : Int32)), .unset, .unset] [(.long (p2 + p3))])) _ _ _ _
    refine own_go (fun t k => XS.lstore X13.here hx rfl (hb hby d4_46) rfl (l' := #[.val (.ref p0), .val (.long p1), .second, .val (.long p2), .second, .val (.long p3), .second, .val (.int (1 : Int32)), .val (.long (p2 + p3)), .second, .val (.int (1 : Int32)), .val (.long (p2 + p3)), .second]) rfl k) ?_
    show own_G _ _ _ (T13.setTop (mkF m 48 #[.val (.ref p0), .val (.long p1), .second, .val (.long p2), .second, .val (.long p3), .second, .val (.int (1 : Int32)), .val (.long (p2 + p3)), .second, .val (.int (1 : Int32)), .val (.long (p2 + p3)), .second] [])) _ _ _ _
    refine own_go (fun t k => XS.iload X13.here hx rfl (hb hby d4_48) rfl k) ?_
    show own_G _ _ _ (T13.setTop (mkF m 50 #[.val (.ref p0), .val (.long p1), .second, .val (.long p2), .second, .val (.long p3), .second, .val (.int (1 : Int32)), .val (.long (p2 + p3)), .second, .val (.int (1 : Int32)), .val (.long (p2 + p3)), .second] [(.int (1 : Int32))])) _ _ _ _
    refine own_go (fun t k => XS.iload X13.here hx rfl (hb hby d4_50) rfl k) ?_
    show own_G _ _ _ (T13.setTop (mkF m 52 #[.val (.ref p0), .val (.long p1), .second, .val (.long p2), .second, .val (.long p3), .second, .val (.int (1 : Int32)), .val (.long (p2 + p3)), .second, .val (.int (1 : Int32)), .val (.long (p2 + p3)), .second] [(.int (1 : Int32)), (.int (1 : Int32))])) _ _ _ _
    have hc18 : (1 : Int32) = (1 : Int32) := (by decide)
    refine own_go (fun t k => XS.icmpYes X13.here hx rfl (pc0 := 52) (pc' := 59) rfl (hb hby d4_52) rfl (teq hc18).1 (by decide) (by decide) k) ?_
    show own_G _ _ _ (T13.setTop (mkF m 59 #[.val (.ref p0), .val (.long p1), .second, .val (.long p2), .second, .val (.long p3), .second, .val (.int (1 : Int32)), .val (.long (p2 + p3)), .second, .val (.int (1 : Int32)), .val (.long (p2 + p3)), .second] [])) _ _ _ _
    refine own_go (fun t k => XS.aloadN X13.here hx rfl (hb hby d4_59) rfl rfl k) ?_
    show own_G _ _ _ (T13.setTop (mkF m 60 #[.val (.ref p0), .val (.long p1), .second, .val (.long p2), .second, .val (.long p3), .second, .val (.int (1 : Int32)), .val (.long (p2 + p3)), .second, .val (.int (1 : Int32)), .val (.long (p2 + p3)), .second] [(.ref p0)])) _ _ _ _
    obtain ⟨cq19, kq19, q19a, q19b, q19c⟩ := isOf hZ rfl r13_0
    obtain ⟨_, _, ⟨T19, L19, k19, n19⟩, -, X19, ⟨Lc19, hQ19, l19, y19, z19⟩, st19⟩ := X13.virtualBack hx (y := (⟨"com/example/floe/floe/catalog/ManifestMemory", "held", "()J"⟩ : MethodName)) (z := (⟨"com/example/floe/floe/catalog/ManifestMemory", "held", "()J"⟩ : MethodName)) hown (mvT hZ (hw _ (List.mem_of_getElem? (i := 14) rfl))) (mvT hZ (hw _ (List.mem_of_getElem? (i := 15) rfl))) (notFace_of_selects (args := #[]) (mvT hZ (hw _ (List.mem_of_getElem? (i := 17) rfl)))) (mvT hZ (hw _ (List.mem_of_getElem? (i := 17) rfl))) (mvT hZ (hw _ (List.mem_of_getElem? (i := 16) rfl))) (by decide) (backOf (W := 0) (rm3 l Z a0 hw [] p0 (p2 + p3) T13.heap n0 Zs13 r13_2) hZ (hw _ (List.mem_of_getElem? (i := 18) rfl)) (hw _ (List.mem_of_getElem? (i := 3) rfl)) (by decide) (by decide)) q19a q19c (g := (mkF m 60 #[.val (.ref p0), .val (.long p1), .second, .val (.long p2), .second, .val (.long p3), .second, .val (.int (1 : Int32)), .val (.long (p2 + p3)), .second, .val (.int (1 : Int32)), .val (.long (p2 + p3)), .second] [(.ref p0)])) rfl (by rw [hml]; rfl) (Steps.refl _) (argsL := []) (rest := []) (lenOf pd_1 rfl) rfl (by show 2 * 0 + _ ≤ _; exact Nat.le_of_eq rfl) (hb hby d4_60) (fun _ _ => ⟨rfl, rfl, (by decide : 0 + 0 ≤ _), (by decide : 0 + 0 ≤ _)⟩)
    dsimp only [Pt.U, Pt.locs, Pt.cells, Pt.slots] at X19 l19 y19 z19 st19 hQ19
    subst l19 y19 z19
    obtain ⟨rfl, Nq19, eh19⟩ := hQ19
    have N19 := Fr.app N13 Nq19
    refine own_tr st19 ?_
    show own_G _ _ _ (T19.setTop (mkF m 63 #[.val (.ref p0), .val (.long p1), .second, .val (.long p2), .second, .val (.long p3), .second, .val (.int (1 : Int32)), .val (.long (p2 + p3)), .second, .val (.int (1 : Int32)), .val (.long (p2 + p3)), .second] [(.long (p2 + p3))])) _ _ _ _
    refine own_go (fun t k => XS.lload X19.here hx rfl (hb hby d4_63) rfl k) ?_
    show own_G _ _ _ (T19.setTop (mkF m 65 #[.val (.ref p0), .val (.long p1), .second, .val (.long p2), .second, .val (.long p3), .second, .val (.int (1 : Int32)), .val (.long (p2 + p3)), .second, .val (.int (1 : Int32)), .val (.long (p2 + p3)), .second] [(.long (p2 + p3)), (.long (p2 + p3))])) _ _ _ _
    refine own_go (fun t k => XS.lcmp X19.here hx rfl (hb hby d4_65) rfl k) ?_
    show own_G _ _ _ (T19.setTop (mkF m 66 #[.val (.ref p0), .val (.long p1), .second, .val (.long p2), .second, .val (.long p3), .second, .val (.int (1 : Int32)), .val (.long (p2 + p3)), .second, .val (.int (1 : Int32)), .val (.long (p2 + p3)), .second] [(.int (lcmpW (p2 + p3) (p2 + p3)))])) _ _ _ _
    have hc20 : (p2 + p3) = (p2 + p3) := rfl
    refine own_go (fun t k => XS.ifYes X19.here hx rfl (pc0 := 66) (pc' := 73) rfl (hb hby d4_66) rfl ((if0 _ _).trans (teq ((lw_eq _ _).mpr hc20)).1) (by decide) (by decide) k) ?_
    show own_G _ _ _ (T19.setTop (mkF m 73 #[.val (.ref p0), .val (.long p1), .second, .val (.long p2), .second, .val (.long p3), .second, .val (.int (1 : Int32)), .val (.long (p2 + p3)), .second, .val (.int (1 : Int32)), .val (.long (p2 + p3)), .second] [])) _ _ _ _
    refine own_go (fun t k => XS.lload X19.here hx rfl (hb hby d4_73) rfl k) ?_
    show own_G _ _ _ (T19.setTop (mkF m 75 #[.val (.ref p0), .val (.long p1), .second, .val (.long p2), .second, .val (.long p3), .second, .val (.int (1 : Int32)), .val (.long (p2 + p3)), .second, .val (.int (1 : Int32)), .val (.long (p2 + p3)), .second] [(.long (p2 + p3))])) _ _ _ _
    exact own_endJ X19 hx hlk Bd.returns (hb hby d4_75) (by decide) (by decide) (Q := (Q4 Z p0 p1 p2 p3 h0 n0)) (by rw [eh19]; exact ⟨(by unfold own_nh; rw [if_neg hbq]), N19, K13_0, r13_0, r13_1, (by unfold own_nh; rw [if_neg hbq]; exact r13_2)⟩)
theorem pd_2 : parseMethodDescriptor "(JJ)V" = some ⟨[.long, .long], none⟩ := by decide +kernel
theorem pd_3 : parseMethodDescriptor "(Lcom/example/floe/floe/catalog/ManifestMemory;JJJ)J" = some ⟨[(.object "com/example/floe/floe/catalog/ManifestMemory"), .long, .long, .long], some .long⟩ := by decide +kernel
theorem ef_0 (m : MethodId) (p0 : Int64) (p1 : Int64) (p2 : Int64) (p3 : Int64) (p4 : Int64) : entryFrame m #[(.long p0), (.long p1), (.long p2), (.long p3), (.long p4)] maxLocals = mkF m 0 #[.val (.long p0), .second, .val (.long p1), .second, .val (.long p2), .second, .val (.long p3), .second, .val (.long p4), .second, .unset, .unset, .unset, .unset, .unset, .unset, .unset, .unset, .unset] [] := by first | (simp [entryFrame, mkF, argsToLocals, Value.category, maxLocals]; done) | rfl
def Q0 (Z : State) (p0 : Int64) (p1 : Int64) (p2 : Int64) (p3 : Int64) (p4 : Int64) (h0 : Heap) (n0 : Nat) (v : Option Value) (h : Heap) (L : List Loc) : Prop := v = some (.int (1 : Int32)) ∧ Fr n0 L ∧ Keep h0 h []
set_option maxRecDepth 65536 in
set_option maxHeartbeats 40000000 in
theorem rm0 (l : Launch) (Z : State) (a0 : Array Value) (hw : ∀ d ∈ tables_1, d.before a0 Z = true) (ws : List Jvm.Cond) (p0 : Int64) (p1 : Int64) (p2 : Int64) (p3 : Int64) (p4 : Int64) (h0 : Heap) (n0 : Nat) (Z0 : n0 ≤ h0.size) :
    MetFree l x (head1 (Jvm.Cond.code x code maxLocals ret :: ws) room_1) (fun a U => a = #[(.long p0), (.long p1), (.long p2), (.long p3), (.long p4)] ∧ Z.Warmed39 U.vm ∧ U.heap = h0) (fun _ _ _ _ _ => True) (fun _ U o U' => ∃ v L, o = .returned v ∧ (Q0 Z p0 p1 p2 p3 p4 h0 n0) v U'.heap L ∧ FrameEnd U o U' L room_1.cells room_1.slots) := by
  refine MetFree.of_bodySF (plainFor_of_name pn_1) hisR ?_
  intro p e s m args below meth c s₁ Bd hml0 hP hK
  obtain ⟨rfl, hZ, hh⟩ := hP
  have hx := Bd.exec
  have hby := Bd.bytes
  have hml : c.maxLocals = 19 := hml0
  have hown : s.vm.findClass "com/example/floe/floe/catalog/ManifestMemoryTakePinLaw" = some m.cls := findClass_of_methodNamed Bd.named
  have hnm := (name_of_methodNamed Bd.named Bd.method).1
  have hlk : meth.locks = false := BodyLoose.notSynchronized Bd
  have X0 : Stand p l e room_1 s m #[(.long p0), (.long p1), (.long p2), (.long p3), (.long p4)] below meth c s₁ [] 0 0 := Stand.of_body Bd
  have e0 : s₁.heap = h0 := by rw [← hh, Bd.state]; rfl
  have N0 := Fr.nil n0
  have K0 : Keep h0 h0 [] := Keep.refl h0 []
  show own_G p.tables e below (s₁.setTop (entryFrame m #[(.long p0), (.long p1), (.long p2), (.long p3), (.long p4)] maxLocals)) s room_1.cells room_1.slots (Q0 Z p0 p1 p2 p3 p4 h0 n0)
  refine own_go (fun t k => castTop (ef_0 m p0 p1 p2 p3 p4) k) ?_
  show own_G _ _ _ (s₁.setTop (mkF m 0 #[.val (.long p0), .second, .val (.long p1), .second, .val (.long p2), .second, .val (.long p3), .second, .val (.long p4), .second, .unset, .unset, .unset, .unset, .unset, .unset, .unset, .unset, .unset] [])) _ _ _ _
  refine own_go (fun t k => XS.lloadN X0.here hx rfl (hb hby at_0) rfl k) ?_
  show own_G _ _ _ (s₁.setTop (mkF m 1 #[.val (.long p0), .second, .val (.long p1), .second, .val (.long p2), .second, .val (.long p3), .second, .val (.long p4), .second, .unset, .unset, .unset, .unset, .unset, .unset, .unset, .unset, .unset] [(.long p0)])) _ _ _ _
  refine own_go (fun t k => X0.ldc2Long hx hown (mvT hZ (hw _ (List.mem_of_getElem? (i := 0) rfl))) (g := (mkF m 1 #[.val (.long p0), .second, .val (.long p1), .second, .val (.long p2), .second, .val (.long p3), .second, .val (.long p4), .second, .unset, .unset, .unset, .unset, .unset, .unset, .unset, .unset, .unset] [(.long p0)])) rfl (hb hby at_1) _ k) ?_
  show own_G _ _ _ (s₁.setTop (mkF m 4 #[.val (.long p0), .second, .val (.long p1), .second, .val (.long p2), .second, .val (.long p3), .second, .val (.long p4), .second, .unset, .unset, .unset, .unset, .unset, .unset, .unset, .unset, .unset] [(.long (9223372036854775807 : Int64)), (.long p0)])) _ _ _ _
  refine own_go (fun t k => XS.land X0.here hx rfl (hb hby at_4) rfl k) ?_
  show own_G _ _ _ (s₁.setTop (mkF m 5 #[.val (.long p0), .second, .val (.long p1), .second, .val (.long p2), .second, .val (.long p3), .second, .val (.long p4), .second, .unset, .unset, .unset, .unset, .unset, .unset, .unset, .unset, .unset] [(.long (p0 &&& (9223372036854775807 : Int64)))])) _ _ _ _
  refine own_go (fun t k => XS.lstore X0.here hx rfl (hb hby at_5) rfl (l' := #[.val (.long p0), .second, .val (.long p1), .second, .val (.long p2), .second, .val (.long p3), .second, .val (.long p4), .second, .val (.long (p0 &&& (9223372036854775807 : Int64))), .second, .unset, .unset, .unset, .unset, .unset, .unset, .unset]) rfl k) ?_
  show own_G _ _ _ (s₁.setTop (mkF m 7 #[.val (.long p0), .second, .val (.long p1), .second, .val (.long p2), .second, .val (.long p3), .second, .val (.long p4), .second, .val (.long (p0 &&& (9223372036854775807 : Int64))), .second, .unset, .unset, .unset, .unset, .unset, .unset, .unset] [])) _ _ _ _
  obtain ⟨T1, h1, X1, e1, E1, A1, D1, -, st1⟩ := newO X0 hx hZ hown (hw _ (List.mem_of_getElem? (i := 1) rfl)) (hw _ (List.mem_of_getElem? (i := 2) rfl)) (hw _ (List.mem_of_getElem? (i := 3) rfl)) e0 (g := (mkF m 7 #[.val (.long p0), .second, .val (.long p1), .second, .val (.long p2), .second, .val (.long p3), .second, .val (.long p4), .second, .val (.long (p0 &&& (9223372036854775807 : Int64))), .second, .unset, .unset, .unset, .unset, .unset, .unset, .unset] [])) rfl (hb hby at_7) (by decide) (by decide)
  obtain ⟨b1, g1⟩ : ∃ z, z = h0.size := ⟨_, rfl⟩
  rw [← g1] at A1 D1 st1
  have gg1 : n0 ≤ b1 := Nat.le_trans Z0 (Nat.le_of_eq g1.symm)
  have sz1_0 : h0.size ≤ b1 := Nat.le_trans K0.1 (Nat.le_of_eq g1.symm)
  have Zs1 : n0 ≤ h1.size := Nat.le_trans Z0 E1.1
  have K1_0 : Keep h0 h1 [] := K0.ext E1
  have f2 : Exa Z h1 b1 "com/example/floe/floe/catalog/ManifestMemory" := A1
  have f3 : Fld Z h1 b1 "com/example/floe/floe/catalog/ManifestMemory" "mostOfOneFile" "J" (.long (0 : Int64)) := D1 (Or.inr (hw _ (List.mem_of_getElem? (i := 11) rfl))) (ty := .long) (by decide)
  have f4 : Fld Z h1 b1 "com/example/floe/floe/catalog/ManifestMemory" "mostTogether" "J" (.long (0 : Int64)) := D1 (Or.inr (hw _ (List.mem_of_getElem? (i := 13) rfl))) (ty := .long) (by decide)
  have f5 : Fld Z h1 b1 "com/example/floe/floe/catalog/ManifestMemory" "held" "J" (.long (0 : Int64)) := D1 (Or.inl (hw _ (List.mem_of_getElem? (i := 20) rfl))) (ty := .long) (by decide)
  refine own_go (fun t k => st1 _ k) ?_
  show own_G _ _ _ (T1.setTop (mkF m 10 #[.val (.long p0), .second, .val (.long p1), .second, .val (.long p2), .second, .val (.long p3), .second, .val (.long p4), .second, .val (.long (p0 &&& (9223372036854775807 : Int64))), .second, .unset, .unset, .unset, .unset, .unset, .unset, .unset] [(.ref b1)])) _ _ _ _
  refine own_go (fun t k => XS.dup X1.here hx rfl (hb hby at_10) rfl rfl k) ?_
  show own_G _ _ _ (T1.setTop (mkF m 11 #[.val (.long p0), .second, .val (.long p1), .second, .val (.long p2), .second, .val (.long p3), .second, .val (.long p4), .second, .val (.long (p0 &&& (9223372036854775807 : Int64))), .second, .unset, .unset, .unset, .unset, .unset, .unset, .unset] [(.ref b1), (.ref b1)])) _ _ _ _
  refine own_go (fun t k => XS.lloadN X1.here hx rfl (hb hby at_11) rfl k) ?_
  show own_G _ _ _ (T1.setTop (mkF m 12 #[.val (.long p0), .second, .val (.long p1), .second, .val (.long p2), .second, .val (.long p3), .second, .val (.long p4), .second, .val (.long (p0 &&& (9223372036854775807 : Int64))), .second, .unset, .unset, .unset, .unset, .unset, .unset, .unset] [(.long p1), (.ref b1), (.ref b1)])) _ _ _ _
  refine own_go (fun t k => XS.lload X1.here hx rfl (hb hby at_12) rfl k) ?_
  show own_G _ _ _ (T1.setTop (mkF m 14 #[.val (.long p0), .second, .val (.long p1), .second, .val (.long p2), .second, .val (.long p3), .second, .val (.long p4), .second, .val (.long (p0 &&& (9223372036854775807 : Int64))), .second, .unset, .unset, .unset, .unset, .unset, .unset, .unset] [(.long (p0 &&& (9223372036854775807 : Int64))), (.long p1), (.ref b1), (.ref b1)])) _ _ _ _
  obtain ⟨_, _, ⟨T6, L6, k6, n6⟩, -, X6, ⟨Lc6, hQ6, l6, y6, z6⟩, st6⟩ := X1.specialBack hx (y := (⟨"com/example/floe/floe/catalog/ManifestMemory", "<init>", "(JJ)V"⟩ : MethodName)) rfl hown (mvT hZ (hw _ (List.mem_of_getElem? (i := 4) rfl))) (mvT hZ (hw _ (List.mem_of_getElem? (i := 5) rfl))) (mvT hZ (hw _ (List.mem_of_getElem? (i := 6) rfl))) (by decide) (backOf (W := 1) (rm1 l Z a0 hw [] b1 p1 (p0 &&& (9223372036854775807 : Int64))  h1 n0 Zs1 f2 f3 f4 f5 gg1) hZ (hw _ (List.mem_of_getElem? (i := 6) rfl)) (hw _ (List.mem_of_getElem? (i := 3) rfl)) (by decide) (by decide)) (g := (mkF m 14 #[.val (.long p0), .second, .val (.long p1), .second, .val (.long p2), .second, .val (.long p3), .second, .val (.long p4), .second, .val (.long (p0 &&& (9223372036854775807 : Int64))), .second, .unset, .unset, .unset, .unset, .unset, .unset, .unset] [(.long (p0 &&& (9223372036854775807 : Int64))), (.long p1), (.ref b1), (.ref b1)])) rfl (by rw [hml]; rfl) (Steps.refl _) (a := b1) (argsL := [(.long p1), (.long (p0 &&& (9223372036854775807 : Int64)))]) (rest := [(.ref b1)]) (lenOf pd_2 rfl) rfl (by show 2 * 0 + _ ≤ _; exact Nat.le_of_eq rfl) (hb hby at_14) (fun _ _ => ⟨rfl, e1, (by decide : 1 + 0 ≤ _), (by decide : 3 + 0 ≤ _)⟩)
  dsimp only [Pt.U, Pt.locs, Pt.cells, Pt.slots] at X6 l6 y6 z6 st6 hQ6
  subst l6 y6 z6
  obtain ⟨rfl, Nq6, Kq6, r6_0, r6_1, r6_2⟩ := hQ6
  have N6 := Fr.app N0 Nq6
  have f7 : Exa Z T6.heap b1 "com/example/floe/floe/catalog/ManifestMemory" := f2.keep Kq6
  have Zs6 : n0 ≤ T6.heap.size := Nat.le_trans Zs1 Kq6.1
  have K6_0 : Keep h0 T6.heap [] := K1_0.trans Kq6 (allS (Or.inr sz1_0) all0)
  refine own_tr st6 ?_
  show own_G _ _ _ (T6.setTop (mkF m 17 #[.val (.long p0), .second, .val (.long p1), .second, .val (.long p2), .second, .val (.long p3), .second, .val (.long p4), .second, .val (.long (p0 &&& (9223372036854775807 : Int64))), .second, .unset, .unset, .unset, .unset, .unset, .unset, .unset] [(.ref b1)])) _ _ _ _
  refine own_go (fun t k => XS.astore X6.here hx rfl (hb hby at_17) rfl rfl (l' := #[.val (.long p0), .second, .val (.long p1), .second, .val (.long p2), .second, .val (.long p3), .second, .val (.long p4), .second, .val (.long (p0 &&& (9223372036854775807 : Int64))), .second, .val (.ref b1), .unset, .unset, .unset, .unset, .unset, .unset]) rfl k) ?_
  show own_G _ _ _ (T6.setTop (mkF m 19 #[.val (.long p0), .second, .val (.long p1), .second, .val (.long p2), .second, .val (.long p3), .second, .val (.long p4), .second, .val (.long (p0 &&& (9223372036854775807 : Int64))), .second, .val (.ref b1), .unset, .unset, .unset, .unset, .unset, .unset] [])) _ _ _ _
  refine own_go (fun t k => XS.aload X6.here hx rfl (hb hby at_19) rfl rfl k) ?_
  show own_G _ _ _ (T6.setTop (mkF m 21 #[.val (.long p0), .second, .val (.long p1), .second, .val (.long p2), .second, .val (.long p3), .second, .val (.long p4), .second, .val (.long (p0 &&& (9223372036854775807 : Int64))), .second, .val (.ref b1), .unset, .unset, .unset, .unset, .unset, .unset] [(.ref b1)])) _ _ _ _
  obtain ⟨cq8, kq8, q8a, q8b, q8c⟩ := isOf hZ rfl r6_0
  obtain ⟨_, _, ⟨T8, L8, k8, n8⟩, -, X8, ⟨Lc8, hQ8, l8, y8, z8⟩, st8⟩ := X6.virtualBack hx (y := (⟨"com/example/floe/floe/catalog/ManifestMemory", "held", "()J"⟩ : MethodName)) (z := (⟨"com/example/floe/floe/catalog/ManifestMemory", "held", "()J"⟩ : MethodName)) hown (mvT hZ (hw _ (List.mem_of_getElem? (i := 14) rfl))) (mvT hZ (hw _ (List.mem_of_getElem? (i := 15) rfl))) (notFace_of_selects (args := #[]) (mvT hZ (hw _ (List.mem_of_getElem? (i := 17) rfl)))) (mvT hZ (hw _ (List.mem_of_getElem? (i := 17) rfl))) (mvT hZ (hw _ (List.mem_of_getElem? (i := 16) rfl))) (by decide) (backOf (W := 0) (rm3 l Z a0 hw [] b1 (0 : Int64) T6.heap n0 Zs6 r6_2) hZ (hw _ (List.mem_of_getElem? (i := 18) rfl)) (hw _ (List.mem_of_getElem? (i := 3) rfl)) (by decide) (by decide)) q8a q8c (g := (mkF m 21 #[.val (.long p0), .second, .val (.long p1), .second, .val (.long p2), .second, .val (.long p3), .second, .val (.long p4), .second, .val (.long (p0 &&& (9223372036854775807 : Int64))), .second, .val (.ref b1), .unset, .unset, .unset, .unset, .unset, .unset] [(.ref b1)])) rfl (by rw [hml]; rfl) (Steps.refl _) (argsL := []) (rest := []) (lenOf pd_1 rfl) rfl (by show 2 * 0 + _ ≤ _; exact Nat.le_of_eq rfl) (hb hby at_21) (fun _ _ => ⟨rfl, rfl, (by decide : 1 + 0 ≤ _), (by decide : 3 + 0 ≤ _)⟩)
  dsimp only [Pt.U, Pt.locs, Pt.cells, Pt.slots] at X8 l8 y8 z8 st8 hQ8
  subst l8 y8 z8
  obtain ⟨rfl, Nq8, eh8⟩ := hQ8
  have N8 := Fr.app N6 Nq8
  refine own_tr st8 ?_
  show own_G _ _ _ (T8.setTop (mkF m 24 #[.val (.long p0), .second, .val (.long p1), .second, .val (.long p2), .second, .val (.long p3), .second, .val (.long p4), .second, .val (.long (p0 &&& (9223372036854775807 : Int64))), .second, .val (.ref b1), .unset, .unset, .unset, .unset, .unset, .unset] [(.long (0 : Int64))])) _ _ _ _
  refine own_go (fun t k => XS.lconst X8.here hx rfl (hb hby at_24) k) ?_
  show own_G _ _ _ (T8.setTop (mkF m 25 #[.val (.long p0), .second, .val (.long p1), .second, .val (.long p2), .second, .val (.long p3), .second, .val (.long p4), .second, .val (.long (p0 &&& (9223372036854775807 : Int64))), .second, .val (.ref b1), .unset, .unset, .unset, .unset, .unset, .unset] [(.long (0 : Int64)), (.long (0 : Int64))])) _ _ _ _
  refine own_go (fun t k => XS.lcmp X8.here hx rfl (hb hby at_25) rfl k) ?_
  show own_G _ _ _ (T8.setTop (mkF m 26 #[.val (.long p0), .second, .val (.long p1), .second, .val (.long p2), .second, .val (.long p3), .second, .val (.long p4), .second, .val (.long (p0 &&& (9223372036854775807 : Int64))), .second, .val (.ref b1), .unset, .unset, .unset, .unset, .unset, .unset] [(.int (lcmpW (0 : Int64) (0 : Int64)))])) _ _ _ _
  have hc9 : (0 : Int64) = (0 : Int64) := (by decide)
  refine own_go (fun t k => XS.ifYes X8.here hx rfl (pc0 := 26) (pc' := 31) rfl (hb hby at_26) rfl ((if0 _ _).trans (teq ((lw_eq _ _).mpr hc9)).1) (by decide) (by decide) k) ?_
  show own_G _ _ _ (T8.setTop (mkF m 31 #[.val (.long p0), .second, .val (.long p1), .second, .val (.long p2), .second, .val (.long p3), .second, .val (.long p4), .second, .val (.long (p0 &&& (9223372036854775807 : Int64))), .second, .val (.ref b1), .unset, .unset, .unset, .unset, .unset, .unset] [])) _ _ _ _
  refine own_go (fun t k => XS.aload X8.here hx rfl (hb hby at_31) rfl rfl k) ?_
  show own_G _ _ _ (T8.setTop (mkF m 33 #[.val (.long p0), .second, .val (.long p1), .second, .val (.long p2), .second, .val (.long p3), .second, .val (.long p4), .second, .val (.long (p0 &&& (9223372036854775807 : Int64))), .second, .val (.ref b1), .unset, .unset, .unset, .unset, .unset, .unset] [(.ref b1)])) _ _ _ _
  refine own_go (fun t k => XS.lload X8.here hx rfl (hb hby at_33) rfl k) ?_
  show own_G _ _ _ (T8.setTop (mkF m 35 #[.val (.long p0), .second, .val (.long p1), .second, .val (.long p2), .second, .val (.long p3), .second, .val (.long p4), .second, .val (.long (p0 &&& (9223372036854775807 : Int64))), .second, .val (.ref b1), .unset, .unset, .unset, .unset, .unset, .unset] [(.long (p0 &&& (9223372036854775807 : Int64))), (.ref b1)])) _ _ _ _
  refine own_go (fun t k => XS.lconst X8.here hx rfl (hb hby at_35) k) ?_
  show own_G _ _ _ (T8.setTop (mkF m 36 #[.val (.long p0), .second, .val (.long p1), .second, .val (.long p2), .second, .val (.long p3), .second, .val (.long p4), .second, .val (.long (p0 &&& (9223372036854775807 : Int64))), .second, .val (.ref b1), .unset, .unset, .unset, .unset, .unset, .unset] [(.long (0 : Int64)), (.long (p0 &&& (9223372036854775807 : Int64))), (.ref b1)])) _ _ _ _
  refine own_go (fun t k => XS.lload X8.here hx rfl (hb hby at_36) rfl k) ?_
  show own_G _ _ _ (T8.setTop (mkF m 38 #[.val (.long p0), .second, .val (.long p1), .second, .val (.long p2), .second, .val (.long p3), .second, .val (.long p4), .second, .val (.long (p0 &&& (9223372036854775807 : Int64))), .second, .val (.ref b1), .unset, .unset, .unset, .unset, .unset, .unset] [(.long p2), (.long (0 : Int64)), (.long (p0 &&& (9223372036854775807 : Int64))), (.ref b1)])) _ _ _ _
  refine own_go (fun t k => X8.ldc2Long hx hown (mvT hZ (hw _ (List.mem_of_getElem? (i := 0) rfl))) (g := (mkF m 38 #[.val (.long p0), .second, .val (.long p1), .second, .val (.long p2), .second, .val (.long p3), .second, .val (.long p4), .second, .val (.long (p0 &&& (9223372036854775807 : Int64))), .second, .val (.ref b1), .unset, .unset, .unset, .unset, .unset, .unset] [(.long p2), (.long (0 : Int64)), (.long (p0 &&& (9223372036854775807 : Int64))), (.ref b1)])) rfl (hb hby at_38) _ k) ?_
  show own_G _ _ _ (T8.setTop (mkF m 41 #[.val (.long p0), .second, .val (.long p1), .second, .val (.long p2), .second, .val (.long p3), .second, .val (.long p4), .second, .val (.long (p0 &&& (9223372036854775807 : Int64))), .second, .val (.ref b1), .unset, .unset, .unset, .unset, .unset, .unset] [(.long (9223372036854775807 : Int64)), (.long p2), (.long (0 : Int64)), (.long (p0 &&& (9223372036854775807 : Int64))), (.ref b1)])) _ _ _ _
  refine own_go (fun t k => XS.land X8.here hx rfl (hb hby at_41) rfl k) ?_
  show own_G _ _ _ (T8.setTop (mkF m 42 #[.val (.long p0), .second, .val (.long p1), .second, .val (.long p2), .second, .val (.long p3), .second, .val (.long p4), .second, .val (.long (p0 &&& (9223372036854775807 : Int64))), .second, .val (.ref b1), .unset, .unset, .unset, .unset, .unset, .unset] [(.long (p2 &&& (9223372036854775807 : Int64))), (.long (0 : Int64)), (.long (p0 &&& (9223372036854775807 : Int64))), (.ref b1)])) _ _ _ _
  obtain ⟨_, _, ⟨T10, L10, k10, n10⟩, -, X10, ⟨Lc10, hQ10, l10, y10, z10⟩, st10⟩ := Jvm.LawKit.callS X8 hx (y := (⟨"com/example/floe/floe/catalog/ManifestMemoryTakePinLaw", "step", "(Lcom/example/floe/floe/catalog/ManifestMemory;JJJ)J"⟩ : MethodName)) hown (mvT hZ (hw _ (List.mem_of_getElem? (i := 21) rfl))) (mvT hZ (hw _ (List.mem_of_getElem? (i := 22) rfl))) (mvT hZ (hw _ (List.mem_of_getElem? (i := 23) rfl))) (mvT hZ (hw _ (List.mem_of_getElem? (i := 24) rfl))) (by decide) (backOf (W := 0) (rm4 l Z a0 hw [] b1 (p0 &&& (9223372036854775807 : Int64)) (0 : Int64) (p2 &&& (9223372036854775807 : Int64))  T6.heap n0 Zs6 r6_0 r6_1 r6_2 gg1 own_z0 (own_mask p0) (own_mask p2)) hZ (hw _ (List.mem_of_getElem? (i := 24) rfl)) (hw _ (List.mem_of_getElem? (i := 23) rfl)) (by decide) (by decide)) (g := (mkF m 42 #[.val (.long p0), .second, .val (.long p1), .second, .val (.long p2), .second, .val (.long p3), .second, .val (.long p4), .second, .val (.long (p0 &&& (9223372036854775807 : Int64))), .second, .val (.ref b1), .unset, .unset, .unset, .unset, .unset, .unset] [(.long (p2 &&& (9223372036854775807 : Int64))), (.long (0 : Int64)), (.long (p0 &&& (9223372036854775807 : Int64))), (.ref b1)])) rfl (by rw [hml]; rfl) (argsL := [(.ref b1), (.long (p0 &&& (9223372036854775807 : Int64))), (.long (0 : Int64)), (.long (p2 &&& (9223372036854775807 : Int64)))]) (rest := []) (lenOf pd_3 rfl) rfl (by show 2 * 0 + _ ≤ _; exact Nat.le_of_eq rfl) (hb hby at_42) (fun _ _ => ⟨rfl, eh8, (by decide : 1 + 0 ≤ _), (by decide : 3 + 0 ≤ _)⟩)
  dsimp only [Pt.U, Pt.locs, Pt.cells, Pt.slots] at X10 l10 y10 z10 st10 hQ10
  subst l10 y10 z10
  obtain ⟨rfl, Nq10, Kq10, r10_0, r10_1, r10_2⟩ := hQ10
  have N10 := Fr.app N8 Nq10
  have f11 : Exa Z T10.heap b1 "com/example/floe/floe/catalog/ManifestMemory" := r6_0.keep Kq10
  have Zs10 : n0 ≤ T10.heap.size := Nat.le_trans Zs6 Kq10.1
  have K10_0 : Keep h0 T10.heap [] := K6_0.trans Kq10 (allS (Or.inr sz1_0) all0)
  refine own_go (fun t k => st10 _ k) ?_
  show own_G _ _ _ (T10.setTop (mkF m 45 #[.val (.long p0), .second, .val (.long p1), .second, .val (.long p2), .second, .val (.long p3), .second, .val (.long p4), .second, .val (.long (p0 &&& (9223372036854775807 : Int64))), .second, .val (.ref b1), .unset, .unset, .unset, .unset, .unset, .unset] [(.long (own_nh (p0 &&& (9223372036854775807 : Int64)) (0 : Int64) (p2 &&& (9223372036854775807 : Int64))))])) _ _ _ _
  refine own_go (fun t k => XS.lstore X10.here hx rfl (hb hby at_45) rfl (l' := #[.val (.long p0), .second, .val (.long p1), .second, .val (.long p2), .second, .val (.long p3), .second, .val (.long p4), .second, .val (.long (p0 &&& (9223372036854775807 : Int64))), .second, .val (.ref b1), .val (.long (own_nh (p0 &&& (9223372036854775807 : Int64)) (0 : Int64) (p2 &&& (9223372036854775807 : Int64)))), .second, .unset, .unset, .unset, .unset]) rfl k) ?_
  show own_G _ _ _ (T10.setTop (mkF m 47 #[.val (.long p0), .second, .val (.long p1), .second, .val (.long p2), .second, .val (.long p3), .second, .val (.long p4), .second, .val (.long (p0 &&& (9223372036854775807 : Int64))), .second, .val (.ref b1), .val (.long (own_nh (p0 &&& (9223372036854775807 : Int64)) (0 : Int64) (p2 &&& (9223372036854775807 : Int64)))), .second, .unset, .unset, .unset, .unset] [])) _ _ _ _
  refine own_go (fun t k => XS.lload X10.here hx rfl (hb hby at_47) rfl k) ?_
  show own_G _ _ _ (T10.setTop (mkF m 49 #[.val (.long p0), .second, .val (.long p1), .second, .val (.long p2), .second, .val (.long p3), .second, .val (.long p4), .second, .val (.long (p0 &&& (9223372036854775807 : Int64))), .second, .val (.ref b1), .val (.long (own_nh (p0 &&& (9223372036854775807 : Int64)) (0 : Int64) (p2 &&& (9223372036854775807 : Int64)))), .second, .unset, .unset, .unset, .unset] [(.long (own_nh (p0 &&& (9223372036854775807 : Int64)) (0 : Int64) (p2 &&& (9223372036854775807 : Int64))))])) _ _ _ _
  refine own_go (fun t k => XS.lconst X10.here hx rfl (hb hby at_49) k) ?_
  show own_G _ _ _ (T10.setTop (mkF m 50 #[.val (.long p0), .second, .val (.long p1), .second, .val (.long p2), .second, .val (.long p3), .second, .val (.long p4), .second, .val (.long (p0 &&& (9223372036854775807 : Int64))), .second, .val (.ref b1), .val (.long (own_nh (p0 &&& (9223372036854775807 : Int64)) (0 : Int64) (p2 &&& (9223372036854775807 : Int64)))), .second, .unset, .unset, .unset, .unset] [(.long (0 : Int64)), (.long (own_nh (p0 &&& (9223372036854775807 : Int64)) (0 : Int64) (p2 &&& (9223372036854775807 : Int64))))])) _ _ _ _
  refine own_go (fun t k => XS.lcmp X10.here hx rfl (hb hby at_50) rfl k) ?_
  show own_G _ _ _ (T10.setTop (mkF m 51 #[.val (.long p0), .second, .val (.long p1), .second, .val (.long p2), .second, .val (.long p3), .second, .val (.long p4), .second, .val (.long (p0 &&& (9223372036854775807 : Int64))), .second, .val (.ref b1), .val (.long (own_nh (p0 &&& (9223372036854775807 : Int64)) (0 : Int64) (p2 &&& (9223372036854775807 : Int64)))), .second, .unset, .unset, .unset, .unset] [(.int (lcmpW (own_nh (p0 &&& (9223372036854775807 : Int64)) (0 : Int64) (p2 &&& (9223372036854775807 : Int64))) (0 : Int64)))])) _ _ _ _
  have hc12 : ¬ ((own_nh (p0 &&& (9223372036854775807 : Int64)) (0 : Int64) (p2 &&& (9223372036854775807 : Int64))) < (0 : Int64)) := own_nn (own_inv own_z0 (own_mask p0) (own_mask p2)).1
  refine own_go (fun t k => XS.ifYes X10.here hx rfl (pc0 := 51) (pc' := 56) rfl (hb hby at_51) rfl ((if0 _ _).trans (flt (fun q => hc12 ((lw_lt _ _).mp q))).2.1) (by decide) (by decide) k) ?_
  show own_G _ _ _ (T10.setTop (mkF m 56 #[.val (.long p0), .second, .val (.long p1), .second, .val (.long p2), .second, .val (.long p3), .second, .val (.long p4), .second, .val (.long (p0 &&& (9223372036854775807 : Int64))), .second, .val (.ref b1), .val (.long (own_nh (p0 &&& (9223372036854775807 : Int64)) (0 : Int64) (p2 &&& (9223372036854775807 : Int64)))), .second, .unset, .unset, .unset, .unset] [])) _ _ _ _
  refine own_go (fun t k => XS.aload X10.here hx rfl (hb hby at_56) rfl rfl k) ?_
  show own_G _ _ _ (T10.setTop (mkF m 58 #[.val (.long p0), .second, .val (.long p1), .second, .val (.long p2), .second, .val (.long p3), .second, .val (.long p4), .second, .val (.long (p0 &&& (9223372036854775807 : Int64))), .second, .val (.ref b1), .val (.long (own_nh (p0 &&& (9223372036854775807 : Int64)) (0 : Int64) (p2 &&& (9223372036854775807 : Int64)))), .second, .unset, .unset, .unset, .unset] [(.ref b1)])) _ _ _ _
  refine own_go (fun t k => XS.lload X10.here hx rfl (hb hby at_58) rfl k) ?_
  show own_G _ _ _ (T10.setTop (mkF m 60 #[.val (.long p0), .second, .val (.long p1), .second, .val (.long p2), .second, .val (.long p3), .second, .val (.long p4), .second, .val (.long (p0 &&& (9223372036854775807 : Int64))), .second, .val (.ref b1), .val (.long (own_nh (p0 &&& (9223372036854775807 : Int64)) (0 : Int64) (p2 &&& (9223372036854775807 : Int64)))), .second, .unset, .unset, .unset, .unset] [(.long (p0 &&& (9223372036854775807 : Int64))), (.ref b1)])) _ _ _ _
  refine own_go (fun t k => XS.lload X10.here hx rfl (hb hby at_60) rfl k) ?_
  show own_G _ _ _ (T10.setTop (mkF m 62 #[.val (.long p0), .second, .val (.long p1), .second, .val (.long p2), .second, .val (.long p3), .second, .val (.long p4), .second, .val (.long (p0 &&& (9223372036854775807 : Int64))), .second, .val (.ref b1), .val (.long (own_nh (p0 &&& (9223372036854775807 : Int64)) (0 : Int64) (p2 &&& (9223372036854775807 : Int64)))), .second, .unset, .unset, .unset, .unset] [(.long (own_nh (p0 &&& (9223372036854775807 : Int64)) (0 : Int64) (p2 &&& (9223372036854775807 : Int64)))), (.long (p0 &&& (9223372036854775807 : Int64))), (.ref b1)])) _ _ _ _
  refine own_go (fun t k => XS.lload X10.here hx rfl (hb hby at_62) rfl k) ?_
  show own_G _ _ _ (T10.setTop (mkF m 64 #[.val (.long p0), .second, .val (.long p1), .second, .val (.long p2), .second, .val (.long p3), .second, .val (.long p4), .second, .val (.long (p0 &&& (9223372036854775807 : Int64))), .second, .val (.ref b1), .val (.long (own_nh (p0 &&& (9223372036854775807 : Int64)) (0 : Int64) (p2 &&& (9223372036854775807 : Int64)))), .second, .unset, .unset, .unset, .unset] [(.long p3), (.long (own_nh (p0 &&& (9223372036854775807 : Int64)) (0 : Int64) (p2 &&& (9223372036854775807 : Int64)))), (.long (p0 &&& (9223372036854775807 : Int64))), (.ref b1)])) _ _ _ _
  refine own_go (fun t k => X10.ldc2Long hx hown (mvT hZ (hw _ (List.mem_of_getElem? (i := 0) rfl))) (g := (mkF m 64 #[.val (.long p0), .second, .val (.long p1), .second, .val (.long p2), .second, .val (.long p3), .second, .val (.long p4), .second, .val (.long (p0 &&& (9223372036854775807 : Int64))), .second, .val (.ref b1), .val (.long (own_nh (p0 &&& (9223372036854775807 : Int64)) (0 : Int64) (p2 &&& (9223372036854775807 : Int64)))), .second, .unset, .unset, .unset, .unset] [(.long p3), (.long (own_nh (p0 &&& (9223372036854775807 : Int64)) (0 : Int64) (p2 &&& (9223372036854775807 : Int64)))), (.long (p0 &&& (9223372036854775807 : Int64))), (.ref b1)])) rfl (hb hby at_64) _ k) ?_
  show own_G _ _ _ (T10.setTop (mkF m 67 #[.val (.long p0), .second, .val (.long p1), .second, .val (.long p2), .second, .val (.long p3), .second, .val (.long p4), .second, .val (.long (p0 &&& (9223372036854775807 : Int64))), .second, .val (.ref b1), .val (.long (own_nh (p0 &&& (9223372036854775807 : Int64)) (0 : Int64) (p2 &&& (9223372036854775807 : Int64)))), .second, .unset, .unset, .unset, .unset] [(.long (9223372036854775807 : Int64)), (.long p3), (.long (own_nh (p0 &&& (9223372036854775807 : Int64)) (0 : Int64) (p2 &&& (9223372036854775807 : Int64)))), (.long (p0 &&& (9223372036854775807 : Int64))), (.ref b1)])) _ _ _ _
  refine own_go (fun t k => XS.land X10.here hx rfl (hb hby at_67) rfl k) ?_
  show own_G _ _ _ (T10.setTop (mkF m 68 #[.val (.long p0), .second, .val (.long p1), .second, .val (.long p2), .second, .val (.long p3), .second, .val (.long p4), .second, .val (.long (p0 &&& (9223372036854775807 : Int64))), .second, .val (.ref b1), .val (.long (own_nh (p0 &&& (9223372036854775807 : Int64)) (0 : Int64) (p2 &&& (9223372036854775807 : Int64)))), .second, .unset, .unset, .unset, .unset] [(.long (p3 &&& (9223372036854775807 : Int64))), (.long (own_nh (p0 &&& (9223372036854775807 : Int64)) (0 : Int64) (p2 &&& (9223372036854775807 : Int64)))), (.long (p0 &&& (9223372036854775807 : Int64))), (.ref b1)])) _ _ _ _
  obtain ⟨_, _, ⟨T13, L13, k13, n13⟩, -, X13, ⟨Lc13, hQ13, l13, y13, z13⟩, st13⟩ := Jvm.LawKit.callS X10 hx (y := (⟨"com/example/floe/floe/catalog/ManifestMemoryTakePinLaw", "step", "(Lcom/example/floe/floe/catalog/ManifestMemory;JJJ)J"⟩ : MethodName)) hown (mvT hZ (hw _ (List.mem_of_getElem? (i := 21) rfl))) (mvT hZ (hw _ (List.mem_of_getElem? (i := 22) rfl))) (mvT hZ (hw _ (List.mem_of_getElem? (i := 23) rfl))) (mvT hZ (hw _ (List.mem_of_getElem? (i := 24) rfl))) (by decide) (backOf (W := 0) (rm4 l Z a0 hw [] b1 (p0 &&& (9223372036854775807 : Int64)) (own_nh (p0 &&& (9223372036854775807 : Int64)) (0 : Int64) (p2 &&& (9223372036854775807 : Int64))) (p3 &&& (9223372036854775807 : Int64))  T10.heap n0 Zs10 r10_0 r10_1 r10_2 gg1 (own_inv own_z0 (own_mask p0) (own_mask p2)).1 (own_inv own_z0 (own_mask p0) (own_mask p2)).2 (own_mask p3)) hZ (hw _ (List.mem_of_getElem? (i := 24) rfl)) (hw _ (List.mem_of_getElem? (i := 23) rfl)) (by decide) (by decide)) (g := (mkF m 68 #[.val (.long p0), .second, .val (.long p1), .second, .val (.long p2), .second, .val (.long p3), .second, .val (.long p4), .second, .val (.long (p0 &&& (9223372036854775807 : Int64))), .second, .val (.ref b1), .val (.long (own_nh (p0 &&& (9223372036854775807 : Int64)) (0 : Int64) (p2 &&& (9223372036854775807 : Int64)))), .second, .unset, .unset, .unset, .unset] [(.long (p3 &&& (9223372036854775807 : Int64))), (.long (own_nh (p0 &&& (9223372036854775807 : Int64)) (0 : Int64) (p2 &&& (9223372036854775807 : Int64)))), (.long (p0 &&& (9223372036854775807 : Int64))), (.ref b1)])) rfl (by rw [hml]; rfl) (argsL := [(.ref b1), (.long (p0 &&& (9223372036854775807 : Int64))), (.long (own_nh (p0 &&& (9223372036854775807 : Int64)) (0 : Int64) (p2 &&& (9223372036854775807 : Int64)))), (.long (p3 &&& (9223372036854775807 : Int64)))]) (rest := []) (lenOf pd_3 rfl) rfl (by show 2 * 0 + _ ≤ _; exact Nat.le_of_eq rfl) (hb hby at_68) (fun _ _ => ⟨rfl, rfl, (by decide : 1 + 0 ≤ _), (by decide : 3 + 0 ≤ _)⟩)
  dsimp only [Pt.U, Pt.locs, Pt.cells, Pt.slots] at X13 l13 y13 z13 st13 hQ13
  subst l13 y13 z13
  obtain ⟨rfl, Nq13, Kq13, r13_0, r13_1, r13_2⟩ := hQ13
  have N13 := Fr.app N10 Nq13
  have f14 : Exa Z T13.heap b1 "com/example/floe/floe/catalog/ManifestMemory" := r10_0.keep Kq13
  have Zs13 : n0 ≤ T13.heap.size := Nat.le_trans Zs10 Kq13.1
  have K13_0 : Keep h0 T13.heap [] := K10_0.trans Kq13 (allS (Or.inr sz1_0) all0)
  refine own_go (fun t k => st13 _ k) ?_
  show own_G _ _ _ (T13.setTop (mkF m 71 #[.val (.long p0), .second, .val (.long p1), .second, .val (.long p2), .second, .val (.long p3), .second, .val (.long p4), .second, .val (.long (p0 &&& (9223372036854775807 : Int64))), .second, .val (.ref b1), .val (.long (own_nh (p0 &&& (9223372036854775807 : Int64)) (0 : Int64) (p2 &&& (9223372036854775807 : Int64)))), .second, .unset, .unset, .unset, .unset] [(.long (own_nh (p0 &&& (9223372036854775807 : Int64)) (own_nh (p0 &&& (9223372036854775807 : Int64)) (0 : Int64) (p2 &&& (9223372036854775807 : Int64))) (p3 &&& (9223372036854775807 : Int64))))])) _ _ _ _
  refine own_go (fun t k => XS.lstore X13.here hx rfl (hb hby at_71) rfl (l' := #[.val (.long p0), .second, .val (.long p1), .second, .val (.long p2), .second, .val (.long p3), .second, .val (.long p4), .second, .val (.long (p0 &&& (9223372036854775807 : Int64))), .second, .val (.ref b1), .val (.long (own_nh (p0 &&& (9223372036854775807 : Int64)) (0 : Int64) (p2 &&& (9223372036854775807 : Int64)))), .second, .val (.long (own_nh (p0 &&& (9223372036854775807 : Int64)) (own_nh (p0 &&& (9223372036854775807 : Int64)) (0 : Int64) (p2 &&& (9223372036854775807 : Int64))) (p3 &&& (9223372036854775807 : Int64)))), .second, .unset, .unset]) rfl k) ?_
  show own_G _ _ _ (T13.setTop (mkF m 73 #[.val (.long p0), .second, .val (.long p1), .second, .val (.long p2), .second, .val (.long p3), .second, .val (.long p4), .second, .val (.long (p0 &&& (9223372036854775807 : Int64))), .second, .val (.ref b1), .val (.long (own_nh (p0 &&& (9223372036854775807 : Int64)) (0 : Int64) (p2 &&& (9223372036854775807 : Int64)))), .second, .val (.long (own_nh (p0 &&& (9223372036854775807 : Int64)) (own_nh (p0 &&& (9223372036854775807 : Int64)) (0 : Int64) (p2 &&& (9223372036854775807 : Int64))) (p3 &&& (9223372036854775807 : Int64)))), .second, .unset, .unset] [])) _ _ _ _
  refine own_go (fun t k => XS.lload X13.here hx rfl (hb hby at_73) rfl k) ?_
  show own_G _ _ _ (T13.setTop (mkF m 75 #[.val (.long p0), .second, .val (.long p1), .second, .val (.long p2), .second, .val (.long p3), .second, .val (.long p4), .second, .val (.long (p0 &&& (9223372036854775807 : Int64))), .second, .val (.ref b1), .val (.long (own_nh (p0 &&& (9223372036854775807 : Int64)) (0 : Int64) (p2 &&& (9223372036854775807 : Int64)))), .second, .val (.long (own_nh (p0 &&& (9223372036854775807 : Int64)) (own_nh (p0 &&& (9223372036854775807 : Int64)) (0 : Int64) (p2 &&& (9223372036854775807 : Int64))) (p3 &&& (9223372036854775807 : Int64)))), .second, .unset, .unset] [(.long (own_nh (p0 &&& (9223372036854775807 : Int64)) (own_nh (p0 &&& (9223372036854775807 : Int64)) (0 : Int64) (p2 &&& (9223372036854775807 : Int64))) (p3 &&& (9223372036854775807 : Int64))))])) _ _ _ _
  refine own_go (fun t k => XS.lconst X13.here hx rfl (hb hby at_75) k) ?_
  show own_G _ _ _ (T13.setTop (mkF m 76 #[.val (.long p0), .second, .val (.long p1), .second, .val (.long p2), .second, .val (.long p3), .second, .val (.long p4), .second, .val (.long (p0 &&& (9223372036854775807 : Int64))), .second, .val (.ref b1), .val (.long (own_nh (p0 &&& (9223372036854775807 : Int64)) (0 : Int64) (p2 &&& (9223372036854775807 : Int64)))), .second, .val (.long (own_nh (p0 &&& (9223372036854775807 : Int64)) (own_nh (p0 &&& (9223372036854775807 : Int64)) (0 : Int64) (p2 &&& (9223372036854775807 : Int64))) (p3 &&& (9223372036854775807 : Int64)))), .second, .unset, .unset] [(.long (0 : Int64)), (.long (own_nh (p0 &&& (9223372036854775807 : Int64)) (own_nh (p0 &&& (9223372036854775807 : Int64)) (0 : Int64) (p2 &&& (9223372036854775807 : Int64))) (p3 &&& (9223372036854775807 : Int64))))])) _ _ _ _
  refine own_go (fun t k => XS.lcmp X13.here hx rfl (hb hby at_76) rfl k) ?_
  show own_G _ _ _ (T13.setTop (mkF m 77 #[.val (.long p0), .second, .val (.long p1), .second, .val (.long p2), .second, .val (.long p3), .second, .val (.long p4), .second, .val (.long (p0 &&& (9223372036854775807 : Int64))), .second, .val (.ref b1), .val (.long (own_nh (p0 &&& (9223372036854775807 : Int64)) (0 : Int64) (p2 &&& (9223372036854775807 : Int64)))), .second, .val (.long (own_nh (p0 &&& (9223372036854775807 : Int64)) (own_nh (p0 &&& (9223372036854775807 : Int64)) (0 : Int64) (p2 &&& (9223372036854775807 : Int64))) (p3 &&& (9223372036854775807 : Int64)))), .second, .unset, .unset] [(.int (lcmpW (own_nh (p0 &&& (9223372036854775807 : Int64)) (own_nh (p0 &&& (9223372036854775807 : Int64)) (0 : Int64) (p2 &&& (9223372036854775807 : Int64))) (p3 &&& (9223372036854775807 : Int64))) (0 : Int64)))])) _ _ _ _
  have hc15 : ¬ ((own_nh (p0 &&& (9223372036854775807 : Int64)) (own_nh (p0 &&& (9223372036854775807 : Int64)) (0 : Int64) (p2 &&& (9223372036854775807 : Int64))) (p3 &&& (9223372036854775807 : Int64))) < (0 : Int64)) := own_nn (own_inv (own_inv own_z0 (own_mask p0) (own_mask p2)).1 (own_inv own_z0 (own_mask p0) (own_mask p2)).2 (own_mask p3)).1
  refine own_go (fun t k => XS.ifYes X13.here hx rfl (pc0 := 77) (pc' := 82) rfl (hb hby at_77) rfl ((if0 _ _).trans (flt (fun q => hc15 ((lw_lt _ _).mp q))).2.1) (by decide) (by decide) k) ?_
  show own_G _ _ _ (T13.setTop (mkF m 82 #[.val (.long p0), .second, .val (.long p1), .second, .val (.long p2), .second, .val (.long p3), .second, .val (.long p4), .second, .val (.long (p0 &&& (9223372036854775807 : Int64))), .second, .val (.ref b1), .val (.long (own_nh (p0 &&& (9223372036854775807 : Int64)) (0 : Int64) (p2 &&& (9223372036854775807 : Int64)))), .second, .val (.long (own_nh (p0 &&& (9223372036854775807 : Int64)) (own_nh (p0 &&& (9223372036854775807 : Int64)) (0 : Int64) (p2 &&& (9223372036854775807 : Int64))) (p3 &&& (9223372036854775807 : Int64)))), .second, .unset, .unset] [])) _ _ _ _
  refine own_go (fun t k => XS.aload X13.here hx rfl (hb hby at_82) rfl rfl k) ?_
  show own_G _ _ _ (T13.setTop (mkF m 84 #[.val (.long p0), .second, .val (.long p1), .second, .val (.long p2), .second, .val (.long p3), .second, .val (.long p4), .second, .val (.long (p0 &&& (9223372036854775807 : Int64))), .second, .val (.ref b1), .val (.long (own_nh (p0 &&& (9223372036854775807 : Int64)) (0 : Int64) (p2 &&& (9223372036854775807 : Int64)))), .second, .val (.long (own_nh (p0 &&& (9223372036854775807 : Int64)) (own_nh (p0 &&& (9223372036854775807 : Int64)) (0 : Int64) (p2 &&& (9223372036854775807 : Int64))) (p3 &&& (9223372036854775807 : Int64)))), .second, .unset, .unset] [(.ref b1)])) _ _ _ _
  refine own_go (fun t k => XS.lload X13.here hx rfl (hb hby at_84) rfl k) ?_
  show own_G _ _ _ (T13.setTop (mkF m 86 #[.val (.long p0), .second, .val (.long p1), .second, .val (.long p2), .second, .val (.long p3), .second, .val (.long p4), .second, .val (.long (p0 &&& (9223372036854775807 : Int64))), .second, .val (.ref b1), .val (.long (own_nh (p0 &&& (9223372036854775807 : Int64)) (0 : Int64) (p2 &&& (9223372036854775807 : Int64)))), .second, .val (.long (own_nh (p0 &&& (9223372036854775807 : Int64)) (own_nh (p0 &&& (9223372036854775807 : Int64)) (0 : Int64) (p2 &&& (9223372036854775807 : Int64))) (p3 &&& (9223372036854775807 : Int64)))), .second, .unset, .unset] [(.long (p0 &&& (9223372036854775807 : Int64))), (.ref b1)])) _ _ _ _
  refine own_go (fun t k => XS.lload X13.here hx rfl (hb hby at_86) rfl k) ?_
  show own_G _ _ _ (T13.setTop (mkF m 88 #[.val (.long p0), .second, .val (.long p1), .second, .val (.long p2), .second, .val (.long p3), .second, .val (.long p4), .second, .val (.long (p0 &&& (9223372036854775807 : Int64))), .second, .val (.ref b1), .val (.long (own_nh (p0 &&& (9223372036854775807 : Int64)) (0 : Int64) (p2 &&& (9223372036854775807 : Int64)))), .second, .val (.long (own_nh (p0 &&& (9223372036854775807 : Int64)) (own_nh (p0 &&& (9223372036854775807 : Int64)) (0 : Int64) (p2 &&& (9223372036854775807 : Int64))) (p3 &&& (9223372036854775807 : Int64)))), .second, .unset, .unset] [(.long (own_nh (p0 &&& (9223372036854775807 : Int64)) (own_nh (p0 &&& (9223372036854775807 : Int64)) (0 : Int64) (p2 &&& (9223372036854775807 : Int64))) (p3 &&& (9223372036854775807 : Int64)))), (.long (p0 &&& (9223372036854775807 : Int64))), (.ref b1)])) _ _ _ _
  refine own_go (fun t k => XS.lload X13.here hx rfl (hb hby at_88) rfl k) ?_
  show own_G _ _ _ (T13.setTop (mkF m 90 #[.val (.long p0), .second, .val (.long p1), .second, .val (.long p2), .second, .val (.long p3), .second, .val (.long p4), .second, .val (.long (p0 &&& (9223372036854775807 : Int64))), .second, .val (.ref b1), .val (.long (own_nh (p0 &&& (9223372036854775807 : Int64)) (0 : Int64) (p2 &&& (9223372036854775807 : Int64)))), .second, .val (.long (own_nh (p0 &&& (9223372036854775807 : Int64)) (own_nh (p0 &&& (9223372036854775807 : Int64)) (0 : Int64) (p2 &&& (9223372036854775807 : Int64))) (p3 &&& (9223372036854775807 : Int64)))), .second, .unset, .unset] [(.long p4), (.long (own_nh (p0 &&& (9223372036854775807 : Int64)) (own_nh (p0 &&& (9223372036854775807 : Int64)) (0 : Int64) (p2 &&& (9223372036854775807 : Int64))) (p3 &&& (9223372036854775807 : Int64)))), (.long (p0 &&& (9223372036854775807 : Int64))), (.ref b1)])) _ _ _ _
  refine own_go (fun t k => X13.ldc2Long hx hown (mvT hZ (hw _ (List.mem_of_getElem? (i := 0) rfl))) (g := (mkF m 90 #[.val (.long p0), .second, .val (.long p1), .second, .val (.long p2), .second, .val (.long p3), .second, .val (.long p4), .second, .val (.long (p0 &&& (9223372036854775807 : Int64))), .second, .val (.ref b1), .val (.long (own_nh (p0 &&& (9223372036854775807 : Int64)) (0 : Int64) (p2 &&& (9223372036854775807 : Int64)))), .second, .val (.long (own_nh (p0 &&& (9223372036854775807 : Int64)) (own_nh (p0 &&& (9223372036854775807 : Int64)) (0 : Int64) (p2 &&& (9223372036854775807 : Int64))) (p3 &&& (9223372036854775807 : Int64)))), .second, .unset, .unset] [(.long p4), (.long (own_nh (p0 &&& (9223372036854775807 : Int64)) (own_nh (p0 &&& (9223372036854775807 : Int64)) (0 : Int64) (p2 &&& (9223372036854775807 : Int64))) (p3 &&& (9223372036854775807 : Int64)))), (.long (p0 &&& (9223372036854775807 : Int64))), (.ref b1)])) rfl (hb hby at_90) _ k) ?_
  show own_G _ _ _ (T13.setTop (mkF m 93 #[.val (.long p0), .second, .val (.long p1), .second, .val (.long p2), .second, .val (.long p3), .second, .val (.long p4), .second, .val (.long (p0 &&& (9223372036854775807 : Int64))), .second, .val (.ref b1), .val (.long (own_nh (p0 &&& (9223372036854775807 : Int64)) (0 : Int64) (p2 &&& (9223372036854775807 : Int64)))), .second, .val (.long (own_nh (p0 &&& (9223372036854775807 : Int64)) (own_nh (p0 &&& (9223372036854775807 : Int64)) (0 : Int64) (p2 &&& (9223372036854775807 : Int64))) (p3 &&& (9223372036854775807 : Int64)))), .second, .unset, .unset] [(.long (9223372036854775807 : Int64)), (.long p4), (.long (own_nh (p0 &&& (9223372036854775807 : Int64)) (own_nh (p0 &&& (9223372036854775807 : Int64)) (0 : Int64) (p2 &&& (9223372036854775807 : Int64))) (p3 &&& (9223372036854775807 : Int64)))), (.long (p0 &&& (9223372036854775807 : Int64))), (.ref b1)])) _ _ _ _
  refine own_go (fun t k => XS.land X13.here hx rfl (hb hby at_93) rfl k) ?_
  show own_G _ _ _ (T13.setTop (mkF m 94 #[.val (.long p0), .second, .val (.long p1), .second, .val (.long p2), .second, .val (.long p3), .second, .val (.long p4), .second, .val (.long (p0 &&& (9223372036854775807 : Int64))), .second, .val (.ref b1), .val (.long (own_nh (p0 &&& (9223372036854775807 : Int64)) (0 : Int64) (p2 &&& (9223372036854775807 : Int64)))), .second, .val (.long (own_nh (p0 &&& (9223372036854775807 : Int64)) (own_nh (p0 &&& (9223372036854775807 : Int64)) (0 : Int64) (p2 &&& (9223372036854775807 : Int64))) (p3 &&& (9223372036854775807 : Int64)))), .second, .unset, .unset] [(.long (p4 &&& (9223372036854775807 : Int64))), (.long (own_nh (p0 &&& (9223372036854775807 : Int64)) (own_nh (p0 &&& (9223372036854775807 : Int64)) (0 : Int64) (p2 &&& (9223372036854775807 : Int64))) (p3 &&& (9223372036854775807 : Int64)))), (.long (p0 &&& (9223372036854775807 : Int64))), (.ref b1)])) _ _ _ _
  obtain ⟨_, _, ⟨T16, L16, k16, n16⟩, -, X16, ⟨Lc16, hQ16, l16, y16, z16⟩, st16⟩ := Jvm.LawKit.callS X13 hx (y := (⟨"com/example/floe/floe/catalog/ManifestMemoryTakePinLaw", "step", "(Lcom/example/floe/floe/catalog/ManifestMemory;JJJ)J"⟩ : MethodName)) hown (mvT hZ (hw _ (List.mem_of_getElem? (i := 21) rfl))) (mvT hZ (hw _ (List.mem_of_getElem? (i := 22) rfl))) (mvT hZ (hw _ (List.mem_of_getElem? (i := 23) rfl))) (mvT hZ (hw _ (List.mem_of_getElem? (i := 24) rfl))) (by decide) (backOf (W := 0) (rm4 l Z a0 hw [] b1 (p0 &&& (9223372036854775807 : Int64)) (own_nh (p0 &&& (9223372036854775807 : Int64)) (own_nh (p0 &&& (9223372036854775807 : Int64)) (0 : Int64) (p2 &&& (9223372036854775807 : Int64))) (p3 &&& (9223372036854775807 : Int64))) (p4 &&& (9223372036854775807 : Int64))  T13.heap n0 Zs13 r13_0 r13_1 r13_2 gg1 (own_inv (own_inv own_z0 (own_mask p0) (own_mask p2)).1 (own_inv own_z0 (own_mask p0) (own_mask p2)).2 (own_mask p3)).1 (own_inv (own_inv own_z0 (own_mask p0) (own_mask p2)).1 (own_inv own_z0 (own_mask p0) (own_mask p2)).2 (own_mask p3)).2 (own_mask p4)) hZ (hw _ (List.mem_of_getElem? (i := 24) rfl)) (hw _ (List.mem_of_getElem? (i := 23) rfl)) (by decide) (by decide)) (g := (mkF m 94 #[.val (.long p0), .second, .val (.long p1), .second, .val (.long p2), .second, .val (.long p3), .second, .val (.long p4), .second, .val (.long (p0 &&& (9223372036854775807 : Int64))), .second, .val (.ref b1), .val (.long (own_nh (p0 &&& (9223372036854775807 : Int64)) (0 : Int64) (p2 &&& (9223372036854775807 : Int64)))), .second, .val (.long (own_nh (p0 &&& (9223372036854775807 : Int64)) (own_nh (p0 &&& (9223372036854775807 : Int64)) (0 : Int64) (p2 &&& (9223372036854775807 : Int64))) (p3 &&& (9223372036854775807 : Int64)))), .second, .unset, .unset] [(.long (p4 &&& (9223372036854775807 : Int64))), (.long (own_nh (p0 &&& (9223372036854775807 : Int64)) (own_nh (p0 &&& (9223372036854775807 : Int64)) (0 : Int64) (p2 &&& (9223372036854775807 : Int64))) (p3 &&& (9223372036854775807 : Int64)))), (.long (p0 &&& (9223372036854775807 : Int64))), (.ref b1)])) rfl (by rw [hml]; rfl) (argsL := [(.ref b1), (.long (p0 &&& (9223372036854775807 : Int64))), (.long (own_nh (p0 &&& (9223372036854775807 : Int64)) (own_nh (p0 &&& (9223372036854775807 : Int64)) (0 : Int64) (p2 &&& (9223372036854775807 : Int64))) (p3 &&& (9223372036854775807 : Int64)))), (.long (p4 &&& (9223372036854775807 : Int64)))]) (rest := []) (lenOf pd_3 rfl) rfl (by show 2 * 0 + _ ≤ _; exact Nat.le_of_eq rfl) (hb hby at_94) (fun _ _ => ⟨rfl, rfl, (by decide : 1 + 0 ≤ _), (by decide : 3 + 0 ≤ _)⟩)
  dsimp only [Pt.U, Pt.locs, Pt.cells, Pt.slots] at X16 l16 y16 z16 st16 hQ16
  subst l16 y16 z16
  obtain ⟨rfl, Nq16, Kq16, r16_0, r16_1, r16_2⟩ := hQ16
  have N16 := Fr.app N13 Nq16
  have f17 : Exa Z T16.heap b1 "com/example/floe/floe/catalog/ManifestMemory" := r13_0.keep Kq16
  have Zs16 : n0 ≤ T16.heap.size := Nat.le_trans Zs13 Kq16.1
  have K16_0 : Keep h0 T16.heap [] := K13_0.trans Kq16 (allS (Or.inr sz1_0) all0)
  refine own_go (fun t k => st16 _ k) ?_
  show own_G _ _ _ (T16.setTop (mkF m 97 #[.val (.long p0), .second, .val (.long p1), .second, .val (.long p2), .second, .val (.long p3), .second, .val (.long p4), .second, .val (.long (p0 &&& (9223372036854775807 : Int64))), .second, .val (.ref b1), .val (.long (own_nh (p0 &&& (9223372036854775807 : Int64)) (0 : Int64) (p2 &&& (9223372036854775807 : Int64)))), .second, .val (.long (own_nh (p0 &&& (9223372036854775807 : Int64)) (own_nh (p0 &&& (9223372036854775807 : Int64)) (0 : Int64) (p2 &&& (9223372036854775807 : Int64))) (p3 &&& (9223372036854775807 : Int64)))), .second, .unset, .unset] [(.long (own_nh (p0 &&& (9223372036854775807 : Int64)) (own_nh (p0 &&& (9223372036854775807 : Int64)) (own_nh (p0 &&& (9223372036854775807 : Int64)) (0 : Int64) (p2 &&& (9223372036854775807 : Int64))) (p3 &&& (9223372036854775807 : Int64))) (p4 &&& (9223372036854775807 : Int64))))])) _ _ _ _
  refine own_go (fun t k => XS.lstore X16.here hx rfl (hb hby at_97) rfl (l' := #[.val (.long p0), .second, .val (.long p1), .second, .val (.long p2), .second, .val (.long p3), .second, .val (.long p4), .second, .val (.long (p0 &&& (9223372036854775807 : Int64))), .second, .val (.ref b1), .val (.long (own_nh (p0 &&& (9223372036854775807 : Int64)) (0 : Int64) (p2 &&& (9223372036854775807 : Int64)))), .second, .val (.long (own_nh (p0 &&& (9223372036854775807 : Int64)) (own_nh (p0 &&& (9223372036854775807 : Int64)) (0 : Int64) (p2 &&& (9223372036854775807 : Int64))) (p3 &&& (9223372036854775807 : Int64)))), .second, .val (.long (own_nh (p0 &&& (9223372036854775807 : Int64)) (own_nh (p0 &&& (9223372036854775807 : Int64)) (own_nh (p0 &&& (9223372036854775807 : Int64)) (0 : Int64) (p2 &&& (9223372036854775807 : Int64))) (p3 &&& (9223372036854775807 : Int64))) (p4 &&& (9223372036854775807 : Int64)))), .second]) rfl k) ?_
  show own_G _ _ _ (T16.setTop (mkF m 99 #[.val (.long p0), .second, .val (.long p1), .second, .val (.long p2), .second, .val (.long p3), .second, .val (.long p4), .second, .val (.long (p0 &&& (9223372036854775807 : Int64))), .second, .val (.ref b1), .val (.long (own_nh (p0 &&& (9223372036854775807 : Int64)) (0 : Int64) (p2 &&& (9223372036854775807 : Int64)))), .second, .val (.long (own_nh (p0 &&& (9223372036854775807 : Int64)) (own_nh (p0 &&& (9223372036854775807 : Int64)) (0 : Int64) (p2 &&& (9223372036854775807 : Int64))) (p3 &&& (9223372036854775807 : Int64)))), .second, .val (.long (own_nh (p0 &&& (9223372036854775807 : Int64)) (own_nh (p0 &&& (9223372036854775807 : Int64)) (own_nh (p0 &&& (9223372036854775807 : Int64)) (0 : Int64) (p2 &&& (9223372036854775807 : Int64))) (p3 &&& (9223372036854775807 : Int64))) (p4 &&& (9223372036854775807 : Int64)))), .second] [])) _ _ _ _
  refine own_go (fun t k => XS.lload X16.here hx rfl (hb hby at_99) rfl k) ?_
  show own_G _ _ _ (T16.setTop (mkF m 101 #[.val (.long p0), .second, .val (.long p1), .second, .val (.long p2), .second, .val (.long p3), .second, .val (.long p4), .second, .val (.long (p0 &&& (9223372036854775807 : Int64))), .second, .val (.ref b1), .val (.long (own_nh (p0 &&& (9223372036854775807 : Int64)) (0 : Int64) (p2 &&& (9223372036854775807 : Int64)))), .second, .val (.long (own_nh (p0 &&& (9223372036854775807 : Int64)) (own_nh (p0 &&& (9223372036854775807 : Int64)) (0 : Int64) (p2 &&& (9223372036854775807 : Int64))) (p3 &&& (9223372036854775807 : Int64)))), .second, .val (.long (own_nh (p0 &&& (9223372036854775807 : Int64)) (own_nh (p0 &&& (9223372036854775807 : Int64)) (own_nh (p0 &&& (9223372036854775807 : Int64)) (0 : Int64) (p2 &&& (9223372036854775807 : Int64))) (p3 &&& (9223372036854775807 : Int64))) (p4 &&& (9223372036854775807 : Int64)))), .second] [(.long (own_nh (p0 &&& (9223372036854775807 : Int64)) (own_nh (p0 &&& (9223372036854775807 : Int64)) (own_nh (p0 &&& (9223372036854775807 : Int64)) (0 : Int64) (p2 &&& (9223372036854775807 : Int64))) (p3 &&& (9223372036854775807 : Int64))) (p4 &&& (9223372036854775807 : Int64))))])) _ _ _ _
  refine own_go (fun t k => XS.lconst X16.here hx rfl (hb hby at_101) k) ?_
  show own_G _ _ _ (T16.setTop (mkF m 102 #[.val (.long p0), .second, .val (.long p1), .second, .val (.long p2), .second, .val (.long p3), .second, .val (.long p4), .second, .val (.long (p0 &&& (9223372036854775807 : Int64))), .second, .val (.ref b1), .val (.long (own_nh (p0 &&& (9223372036854775807 : Int64)) (0 : Int64) (p2 &&& (9223372036854775807 : Int64)))), .second, .val (.long (own_nh (p0 &&& (9223372036854775807 : Int64)) (own_nh (p0 &&& (9223372036854775807 : Int64)) (0 : Int64) (p2 &&& (9223372036854775807 : Int64))) (p3 &&& (9223372036854775807 : Int64)))), .second, .val (.long (own_nh (p0 &&& (9223372036854775807 : Int64)) (own_nh (p0 &&& (9223372036854775807 : Int64)) (own_nh (p0 &&& (9223372036854775807 : Int64)) (0 : Int64) (p2 &&& (9223372036854775807 : Int64))) (p3 &&& (9223372036854775807 : Int64))) (p4 &&& (9223372036854775807 : Int64)))), .second] [(.long (0 : Int64)), (.long (own_nh (p0 &&& (9223372036854775807 : Int64)) (own_nh (p0 &&& (9223372036854775807 : Int64)) (own_nh (p0 &&& (9223372036854775807 : Int64)) (0 : Int64) (p2 &&& (9223372036854775807 : Int64))) (p3 &&& (9223372036854775807 : Int64))) (p4 &&& (9223372036854775807 : Int64))))])) _ _ _ _
  refine own_go (fun t k => XS.lcmp X16.here hx rfl (hb hby at_102) rfl k) ?_
  show own_G _ _ _ (T16.setTop (mkF m 103 #[.val (.long p0), .second, .val (.long p1), .second, .val (.long p2), .second, .val (.long p3), .second, .val (.long p4), .second, .val (.long (p0 &&& (9223372036854775807 : Int64))), .second, .val (.ref b1), .val (.long (own_nh (p0 &&& (9223372036854775807 : Int64)) (0 : Int64) (p2 &&& (9223372036854775807 : Int64)))), .second, .val (.long (own_nh (p0 &&& (9223372036854775807 : Int64)) (own_nh (p0 &&& (9223372036854775807 : Int64)) (0 : Int64) (p2 &&& (9223372036854775807 : Int64))) (p3 &&& (9223372036854775807 : Int64)))), .second, .val (.long (own_nh (p0 &&& (9223372036854775807 : Int64)) (own_nh (p0 &&& (9223372036854775807 : Int64)) (own_nh (p0 &&& (9223372036854775807 : Int64)) (0 : Int64) (p2 &&& (9223372036854775807 : Int64))) (p3 &&& (9223372036854775807 : Int64))) (p4 &&& (9223372036854775807 : Int64)))), .second] [(.int (lcmpW (own_nh (p0 &&& (9223372036854775807 : Int64)) (own_nh (p0 &&& (9223372036854775807 : Int64)) (own_nh (p0 &&& (9223372036854775807 : Int64)) (0 : Int64) (p2 &&& (9223372036854775807 : Int64))) (p3 &&& (9223372036854775807 : Int64))) (p4 &&& (9223372036854775807 : Int64))) (0 : Int64)))])) _ _ _ _
  have hc18 : ¬ ((own_nh (p0 &&& (9223372036854775807 : Int64)) (own_nh (p0 &&& (9223372036854775807 : Int64)) (own_nh (p0 &&& (9223372036854775807 : Int64)) (0 : Int64) (p2 &&& (9223372036854775807 : Int64))) (p3 &&& (9223372036854775807 : Int64))) (p4 &&& (9223372036854775807 : Int64))) < (0 : Int64)) := own_nn (own_inv (own_inv (own_inv own_z0 (own_mask p0) (own_mask p2)).1 (own_inv own_z0 (own_mask p0) (own_mask p2)).2 (own_mask p3)).1 (own_inv (own_inv own_z0 (own_mask p0) (own_mask p2)).1 (own_inv own_z0 (own_mask p0) (own_mask p2)).2 (own_mask p3)).2 (own_mask p4)).1
  refine own_go (fun t k => XS.ifYes X16.here hx rfl (pc0 := 103) (pc' := 108) rfl (hb hby at_103) rfl ((if0 _ _).trans (flt (fun q => hc18 ((lw_lt _ _).mp q))).2.1) (by decide) (by decide) k) ?_
  show own_G _ _ _ (T16.setTop (mkF m 108 #[.val (.long p0), .second, .val (.long p1), .second, .val (.long p2), .second, .val (.long p3), .second, .val (.long p4), .second, .val (.long (p0 &&& (9223372036854775807 : Int64))), .second, .val (.ref b1), .val (.long (own_nh (p0 &&& (9223372036854775807 : Int64)) (0 : Int64) (p2 &&& (9223372036854775807 : Int64)))), .second, .val (.long (own_nh (p0 &&& (9223372036854775807 : Int64)) (own_nh (p0 &&& (9223372036854775807 : Int64)) (0 : Int64) (p2 &&& (9223372036854775807 : Int64))) (p3 &&& (9223372036854775807 : Int64)))), .second, .val (.long (own_nh (p0 &&& (9223372036854775807 : Int64)) (own_nh (p0 &&& (9223372036854775807 : Int64)) (own_nh (p0 &&& (9223372036854775807 : Int64)) (0 : Int64) (p2 &&& (9223372036854775807 : Int64))) (p3 &&& (9223372036854775807 : Int64))) (p4 &&& (9223372036854775807 : Int64)))), .second] [])) _ _ _ _
  refine own_go (fun t k => XS.aload X16.here hx rfl (hb hby at_108) rfl rfl k) ?_
  show own_G _ _ _ (T16.setTop (mkF m 110 #[.val (.long p0), .second, .val (.long p1), .second, .val (.long p2), .second, .val (.long p3), .second, .val (.long p4), .second, .val (.long (p0 &&& (9223372036854775807 : Int64))), .second, .val (.ref b1), .val (.long (own_nh (p0 &&& (9223372036854775807 : Int64)) (0 : Int64) (p2 &&& (9223372036854775807 : Int64)))), .second, .val (.long (own_nh (p0 &&& (9223372036854775807 : Int64)) (own_nh (p0 &&& (9223372036854775807 : Int64)) (0 : Int64) (p2 &&& (9223372036854775807 : Int64))) (p3 &&& (9223372036854775807 : Int64)))), .second, .val (.long (own_nh (p0 &&& (9223372036854775807 : Int64)) (own_nh (p0 &&& (9223372036854775807 : Int64)) (own_nh (p0 &&& (9223372036854775807 : Int64)) (0 : Int64) (p2 &&& (9223372036854775807 : Int64))) (p3 &&& (9223372036854775807 : Int64))) (p4 &&& (9223372036854775807 : Int64)))), .second] [(.ref b1)])) _ _ _ _
  obtain ⟨cq19, kq19, q19a, q19b, q19c⟩ := isOf hZ rfl r16_0
  obtain ⟨_, _, ⟨T19, L19, k19, n19⟩, -, X19, ⟨Lc19, hQ19, l19, y19, z19⟩, st19⟩ := X16.virtualBack hx (y := (⟨"com/example/floe/floe/catalog/ManifestMemory", "mostTogether", "()J"⟩ : MethodName)) (z := (⟨"com/example/floe/floe/catalog/ManifestMemory", "mostTogether", "()J"⟩ : MethodName)) hown (mvT hZ (hw _ (List.mem_of_getElem? (i := 30) rfl))) (mvT hZ (hw _ (List.mem_of_getElem? (i := 31) rfl))) (notFace_of_selects (args := #[]) (mvT hZ (hw _ (List.mem_of_getElem? (i := 33) rfl)))) (mvT hZ (hw _ (List.mem_of_getElem? (i := 33) rfl))) (mvT hZ (hw _ (List.mem_of_getElem? (i := 32) rfl))) (by decide) (backOf (W := 0) (rm6 l Z a0 hw [] b1 (p0 &&& (9223372036854775807 : Int64)) T16.heap n0 Zs16 r16_1) hZ (hw _ (List.mem_of_getElem? (i := 34) rfl)) (hw _ (List.mem_of_getElem? (i := 3) rfl)) (by decide) (by decide)) q19a q19c (g := (mkF m 110 #[.val (.long p0), .second, .val (.long p1), .second, .val (.long p2), .second, .val (.long p3), .second, .val (.long p4), .second, .val (.long (p0 &&& (9223372036854775807 : Int64))), .second, .val (.ref b1), .val (.long (own_nh (p0 &&& (9223372036854775807 : Int64)) (0 : Int64) (p2 &&& (9223372036854775807 : Int64)))), .second, .val (.long (own_nh (p0 &&& (9223372036854775807 : Int64)) (own_nh (p0 &&& (9223372036854775807 : Int64)) (0 : Int64) (p2 &&& (9223372036854775807 : Int64))) (p3 &&& (9223372036854775807 : Int64)))), .second, .val (.long (own_nh (p0 &&& (9223372036854775807 : Int64)) (own_nh (p0 &&& (9223372036854775807 : Int64)) (own_nh (p0 &&& (9223372036854775807 : Int64)) (0 : Int64) (p2 &&& (9223372036854775807 : Int64))) (p3 &&& (9223372036854775807 : Int64))) (p4 &&& (9223372036854775807 : Int64)))), .second] [(.ref b1)])) rfl (by rw [hml]; rfl) (Steps.refl _) (argsL := []) (rest := []) (lenOf pd_1 rfl) rfl (by show 2 * 0 + _ ≤ _; exact Nat.le_of_eq rfl) (hb hby at_110) (fun _ _ => ⟨rfl, rfl, (by decide : 1 + 0 ≤ _), (by decide : 3 + 0 ≤ _)⟩)
  dsimp only [Pt.U, Pt.locs, Pt.cells, Pt.slots] at X19 l19 y19 z19 st19 hQ19
  subst l19 y19 z19
  obtain ⟨rfl, Nq19, eh19⟩ := hQ19
  have N19 := Fr.app N16 Nq19
  refine own_tr st19 ?_
  show own_G _ _ _ (T19.setTop (mkF m 113 #[.val (.long p0), .second, .val (.long p1), .second, .val (.long p2), .second, .val (.long p3), .second, .val (.long p4), .second, .val (.long (p0 &&& (9223372036854775807 : Int64))), .second, .val (.ref b1), .val (.long (own_nh (p0 &&& (9223372036854775807 : Int64)) (0 : Int64) (p2 &&& (9223372036854775807 : Int64)))), .second, .val (.long (own_nh (p0 &&& (9223372036854775807 : Int64)) (own_nh (p0 &&& (9223372036854775807 : Int64)) (0 : Int64) (p2 &&& (9223372036854775807 : Int64))) (p3 &&& (9223372036854775807 : Int64)))), .second, .val (.long (own_nh (p0 &&& (9223372036854775807 : Int64)) (own_nh (p0 &&& (9223372036854775807 : Int64)) (own_nh (p0 &&& (9223372036854775807 : Int64)) (0 : Int64) (p2 &&& (9223372036854775807 : Int64))) (p3 &&& (9223372036854775807 : Int64))) (p4 &&& (9223372036854775807 : Int64)))), .second] [(.long (p0 &&& (9223372036854775807 : Int64)))])) _ _ _ _
  refine own_go (fun t k => XS.lload X19.here hx rfl (hb hby at_113) rfl k) ?_
  show own_G _ _ _ (T19.setTop (mkF m 115 #[.val (.long p0), .second, .val (.long p1), .second, .val (.long p2), .second, .val (.long p3), .second, .val (.long p4), .second, .val (.long (p0 &&& (9223372036854775807 : Int64))), .second, .val (.ref b1), .val (.long (own_nh (p0 &&& (9223372036854775807 : Int64)) (0 : Int64) (p2 &&& (9223372036854775807 : Int64)))), .second, .val (.long (own_nh (p0 &&& (9223372036854775807 : Int64)) (own_nh (p0 &&& (9223372036854775807 : Int64)) (0 : Int64) (p2 &&& (9223372036854775807 : Int64))) (p3 &&& (9223372036854775807 : Int64)))), .second, .val (.long (own_nh (p0 &&& (9223372036854775807 : Int64)) (own_nh (p0 &&& (9223372036854775807 : Int64)) (own_nh (p0 &&& (9223372036854775807 : Int64)) (0 : Int64) (p2 &&& (9223372036854775807 : Int64))) (p3 &&& (9223372036854775807 : Int64))) (p4 &&& (9223372036854775807 : Int64)))), .second] [(.long (p0 &&& (9223372036854775807 : Int64))), (.long (p0 &&& (9223372036854775807 : Int64)))])) _ _ _ _
  refine own_go (fun t k => XS.lcmp X19.here hx rfl (hb hby at_115) rfl k) ?_
  show own_G _ _ _ (T19.setTop (mkF m 116 #[.val (.long p0), .second, .val (.long p1), .second, .val (.long p2), .second, .val (.long p3), .second, .val (.long p4), .second, .val (.long (p0 &&& (9223372036854775807 : Int64))), .second, .val (.ref b1), .val (.long (own_nh (p0 &&& (9223372036854775807 : Int64)) (0 : Int64) (p2 &&& (9223372036854775807 : Int64)))), .second, .val (.long (own_nh (p0 &&& (9223372036854775807 : Int64)) (own_nh (p0 &&& (9223372036854775807 : Int64)) (0 : Int64) (p2 &&& (9223372036854775807 : Int64))) (p3 &&& (9223372036854775807 : Int64)))), .second, .val (.long (own_nh (p0 &&& (9223372036854775807 : Int64)) (own_nh (p0 &&& (9223372036854775807 : Int64)) (own_nh (p0 &&& (9223372036854775807 : Int64)) (0 : Int64) (p2 &&& (9223372036854775807 : Int64))) (p3 &&& (9223372036854775807 : Int64))) (p4 &&& (9223372036854775807 : Int64)))), .second] [(.int (lcmpW (p0 &&& (9223372036854775807 : Int64)) (p0 &&& (9223372036854775807 : Int64))))])) _ _ _ _
  have hc20 : (p0 &&& (9223372036854775807 : Int64)) = (p0 &&& (9223372036854775807 : Int64)) := rfl
  refine own_go (fun t k => XS.ifNo X19.here hx rfl (hb hby at_116) rfl ((if0 _ _).trans (teq ((lw_eq _ _).mpr hc20)).2) k) ?_
  show own_G _ _ _ (T19.setTop (mkF m 119 #[.val (.long p0), .second, .val (.long p1), .second, .val (.long p2), .second, .val (.long p3), .second, .val (.long p4), .second, .val (.long (p0 &&& (9223372036854775807 : Int64))), .second, .val (.ref b1), .val (.long (own_nh (p0 &&& (9223372036854775807 : Int64)) (0 : Int64) (p2 &&& (9223372036854775807 : Int64)))), .second, .val (.long (own_nh (p0 &&& (9223372036854775807 : Int64)) (own_nh (p0 &&& (9223372036854775807 : Int64)) (0 : Int64) (p2 &&& (9223372036854775807 : Int64))) (p3 &&& (9223372036854775807 : Int64)))), .second, .val (.long (own_nh (p0 &&& (9223372036854775807 : Int64)) (own_nh (p0 &&& (9223372036854775807 : Int64)) (own_nh (p0 &&& (9223372036854775807 : Int64)) (0 : Int64) (p2 &&& (9223372036854775807 : Int64))) (p3 &&& (9223372036854775807 : Int64))) (p4 &&& (9223372036854775807 : Int64)))), .second] [])) _ _ _ _
  refine own_go (fun t k => XS.iconst X19.here hx rfl (hb hby at_119) k) ?_
  show own_G _ _ _ (T19.setTop (mkF m 120 #[.val (.long p0), .second, .val (.long p1), .second, .val (.long p2), .second, .val (.long p3), .second, .val (.long p4), .second, .val (.long (p0 &&& (9223372036854775807 : Int64))), .second, .val (.ref b1), .val (.long (own_nh (p0 &&& (9223372036854775807 : Int64)) (0 : Int64) (p2 &&& (9223372036854775807 : Int64)))), .second, .val (.long (own_nh (p0 &&& (9223372036854775807 : Int64)) (own_nh (p0 &&& (9223372036854775807 : Int64)) (0 : Int64) (p2 &&& (9223372036854775807 : Int64))) (p3 &&& (9223372036854775807 : Int64)))), .second, .val (.long (own_nh (p0 &&& (9223372036854775807 : Int64)) (own_nh (p0 &&& (9223372036854775807 : Int64)) (own_nh (p0 &&& (9223372036854775807 : Int64)) (0 : Int64) (p2 &&& (9223372036854775807 : Int64))) (p3 &&& (9223372036854775807 : Int64))) (p4 &&& (9223372036854775807 : Int64)))), .second] [(.int (1 : Int32))])) _ _ _ _
  refine own_go (fun t k => XS.goto X19.here hx rfl (pc0 := 120) (pc' := 124) rfl (hb hby at_120) (by decide) (by decide) k) ?_
  show own_G _ _ _ (T19.setTop (mkF m 124 #[.val (.long p0), .second, .val (.long p1), .second, .val (.long p2), .second, .val (.long p3), .second, .val (.long p4), .second, .val (.long (p0 &&& (9223372036854775807 : Int64))), .second, .val (.ref b1), .val (.long (own_nh (p0 &&& (9223372036854775807 : Int64)) (0 : Int64) (p2 &&& (9223372036854775807 : Int64)))), .second, .val (.long (own_nh (p0 &&& (9223372036854775807 : Int64)) (own_nh (p0 &&& (9223372036854775807 : Int64)) (0 : Int64) (p2 &&& (9223372036854775807 : Int64))) (p3 &&& (9223372036854775807 : Int64)))), .second, .val (.long (own_nh (p0 &&& (9223372036854775807 : Int64)) (own_nh (p0 &&& (9223372036854775807 : Int64)) (own_nh (p0 &&& (9223372036854775807 : Int64)) (0 : Int64) (p2 &&& (9223372036854775807 : Int64))) (p3 &&& (9223372036854775807 : Int64))) (p4 &&& (9223372036854775807 : Int64)))), .second] [(.int (1 : Int32))])) _ _ _ _
  exact own_endN X19 hx hlk (t := .boolean) Bd.returns (by simp) (hb hby at_124) (by decide) (by decide) (Q := (Q0 Z p0 p1 p2 p3 p4 h0 n0)) (by rw [eh19]; exact ⟨rfl, N19, K16_0⟩)
set_option maxRecDepth 65536 in
set_option maxHeartbeats 40000000 in
theorem comes_1 {Post : Tables → Env → Array Value → State → Outcome → State → Prop} (hpost : ∀ tb e args s v u, (limb_1_1.after args s (.returned v) u = true ∧ limb_1_2.after args s (.returned v) u = true ∧ True) → FrameEnd s (.returned v) u (Jvm.fieldLocs frame_1_writes args s ++ Jvm.arrayLocs frame_1_arrays args s ++ Jvm.staticLocs frame_1_statics s) 16 128 → Post tb e args s (.returned v) u) :
    ArmFor flags0 classFile x code maxLocals ret World_1 tables_1 room_1 Calls_1 rest_1 Pre_1 Post := by
  intro l hfl _ _ p e ha hc hk s m args below hf hA hF happ hP
  obtain ⟨hcalls, hrest, hpre⟩ := hP
  obtain ⟨-, -, -, hnamed, -, -, -, hat⟩ := (Spec.applies_iff hf).mp happ
  obtain ⟨hg, hn⟩ := and_e (Cond.before_iff.mp (show (Jvm.Cond.and given_1 narrow_1).before args s = true from hpre))
  obtain ⟨g0, hg1⟩ := and_e hg
  obtain ⟨a0, r0⟩ := and_e hg1
  obtain ⟨a1, r1⟩ := and_e r0
  obtain ⟨a2, r2⟩ := and_e r1
  obtain ⟨a3, r3⟩ := and_e r2
  obtain ⟨w0, w1, w2, w3, w4, rfl⟩ : ∃ w0 w1 w2 w3 w4 : Value, args = #[w0, w1, w2, w3, w4] := by
    have hs : args.size = 5 := by simpa [Cond.value, given_1] using g0
    obtain ⟨L⟩ := args
    match L, hs with
    | [w0, w1, w2, w3, w4], _ => exact ⟨w0, w1, w2, w3, w4, rfl⟩
  have hw := fun d (hd : d ∈ tables_1) => atoms_spec (ws := Jvm.Cond.code x code maxLocals ret :: tables_1) hat d (List.mem_cons_of_mem _ hd)
  have hfit : Fit s := fun {y c} hc i hi => by
    obtain ⟨ha, rfl⟩ := Array.getElem?_eq_some_iff.mp hc
    have q := List.all_eq_true.mp ((Array.all_eq_true_iff_forall_mem.mp hF) _ (Array.getElem_mem ha)) i (List.mem_range.mpr hi)
    simpa [Array.getElem?_eq_getElem hi] using q
  obtain ⟨i0, ei0⟩ := isL_v a0
  obtain rfl : w0 = (.long i0) := Option.some.inj ei0
  obtain ⟨i1, ei1⟩ := isL_v a1
  obtain rfl : w1 = (.long i1) := Option.some.inj ei1
  obtain ⟨i2, ei2⟩ := isL_v a2
  obtain rfl : w2 = (.long i2) := Option.some.inj ei2
  obtain ⟨i3, ei3⟩ := isL_v a3
  obtain rfl : w3 = (.long i3) := Option.some.inj ei3
  obtain ⟨i4, ei4⟩ := isL_v r3
  obtain rfl : w4 = (.long i4) := Option.some.inj ei4
  obtain ⟨n, o, h1, h2, h3, _, L, rfl, ⟨rfl, N, -⟩, hq⟩ := rm0 l s _ hw tables_1 i0 i1 i2 i3 i4  s.heap s.heap.size (Nat.le_refl _) p e ha hc hk s m _ below hf ((Spec.applies_iff_loose hf).mp happ).1 ⟨rfl, State.Warmed39.refl s, rfl⟩ trivial
  refine ⟨n, _, h1, h2, h3, hpost _ _ _ _ _ _ ⟨Cond.after_iff.mpr rfl, Cond.after_iff.mpr (eq_i res_at (Term.int_eval (1)) (rfl)), trivial⟩ ⟨hq.1, hq.2.1, (hq.2.2.sift fun y hy => Or.inr (N y hy)).mono (by decide) (by decide)⟩⟩
theorem main_1_1 : Claimed_1_1 := comes_1 fun _ _ _ _ _ _ h hF => ⟨h.1, hF⟩
theorem main_1_2 : Claimed_1_2 := comes_1 fun _ _ _ _ _ _ h hF => ⟨h.2.1, hF⟩
end Jvm.Pilot.@@N@@
namespace Jvm.Pilot.@@N@@
open Jvm Jvm.ClassFile Sem Op Lib Jvm.Free Jvm.Stand Jvm.Pilot.@@N@@.Jvm.D
/-! MADE BY PROGRAM (witnessworld.py) out of the Statement's table words and the real class files: 9 classes; the members and pool entries that the words name. The judged class is class 1, her method 1. -/
namespace start1
open Jvm.ClassFile
def u (s : String) : CpInfo := .utf8 (stringToUtf16 s)
/-- a pool by its gaps: so many unusable entries, then the entry; so many at the end -/
def gap : Nat → List CpInfo → List CpInfo
  | 0, r => r
  | n + 1, r => .unusable :: gap n r
def poolList (es : List (Nat × CpInfo)) (last : Nat) : List CpInfo := es.foldr (fun e r => gap e.1 (e.2 :: r)) (gap last [])
def pool (es : List (Nat × CpInfo)) (last : Nat) : Array CpInfo := ⟨poolList es last⟩
def fileOf (pool : Array CpInfo) (this : Nat) (attrs : Array Attribute := #[]) (ms : Array MethodInfo := #[]) (fl : Nat := 33) (sup : Nat := 0) (ifs : Array Nat := #[]) (fds : Array FieldInfo := #[]) : ClassFile where
  minorVersion := 0
  majorVersion := 65
  constantPool := pool
  accessFlags := fl
  thisClass := this
  superClass := sup
  interfaces := ifs
  fields := fds
  methods := ms
  attributes := attrs
def plain (name : String) (sup : Option ClassId) : Class where
  name := name
  kind := .ordinary
  loader := none
  accessFlags := 33
  super := sup
  interfaces := #[]
  cf := none
  fields := #[]
  methods := #[]
  instanceTypes := #[]
  staticTypes := #[]
  resolved := #[]
  callSites := []
  init := .initialized
  statics := none
  mirror := none

def pool0 : Array CpInfo := pool [(5, u "<init>"), (0, u "()V"), (1, .class_ 10), (1, u "java/lang/Object")] 113

def k0c0 : Code := { maxStack := 0, maxLocals := 1, code := object_method_1_code, exceptionTable := #[], attributes := #[] }
def k0m0 : Method := { name := "<init>", desc := "()V", sig := { parameters := [], returnType := none }, accessFlags := 1, code := some k0c0 }
/-- java/lang/Object -/
def k0 : Class := { plain "java/lang/Object" none with
  accessFlags := 33
  interfaces := #[]
  cf := some (fileOf pool0 8 #[] #[{ accessFlags := 1, nameIndex := 5, descriptorIndex := 6, attributes := #[] }] 33 0 #[] #[])
  fields := #[]
  methods := #[k0m0]
  instanceTypes := #[]
  staticTypes := #[]
  resolved := Array.replicate 124 none
  statics := none }

def pool1 : Array CpInfo := pool [(2, .class_ 4), (1, u "java/lang/Object"), (0, u "<init>"), (0, u "()V"), (2, .long 9223372036854775807), (1, .class_ 12), (0, u "com/example/floe/floe/catalog/ManifestMemory"), (0, .methodref 11 14), (0, .nameAndType 5 15), (0, u "(JJ)V"), (0, .methodref 11 17), (0, .nameAndType 18 19), (0, u "held"), (0, u "()J"), (0, .methodref 21 22), (0, .class_ 23), (0, .nameAndType 24 25), (0, u "com/example/floe/floe/catalog/ManifestMemoryTakePinLaw"), (0, u "step"), (0, u "(Lcom/example/floe/floe/catalog/ManifestMemory;JJJ)J"), (0, .methodref 11 27), (0, .nameAndType 28 19), (0, u "mostTogether"), (0, .methodref 11 30), (0, .nameAndType 31 32), (0, u "take"), (0, u "(J)Z"), (0, .long 18446744073709551615), (3, u "law"), (0, u "(JJJJJ)Z")] 3

def k1m0 : Method := { name := "<init>", desc := "()V", sig := { parameters := [], returnType := none }, accessFlags := 1, code := none }
def k1c1 : Code := { maxStack := 9, maxLocals := 19, code := code, exceptionTable := #[], attributes := #[] }
def k1m1 : Method := { name := "law", desc := "(JJJJJ)Z", sig := { parameters := [.long, .long, .long, .long, .long], returnType := some .boolean }, accessFlags := 9, code := some k1c1 }
def k1c2 : Code := { maxStack := 4, maxLocals := 13, code := method_3_code, exceptionTable := #[], attributes := #[] }
def k1m2 : Method := { name := "step", desc := "(Lcom/example/floe/floe/catalog/ManifestMemory;JJJ)J", sig := { parameters := [(.object "com/example/floe/floe/catalog/ManifestMemory"), .long, .long, .long], returnType := some .long }, accessFlags := 10, code := some k1c2 }
/-- com/example/floe/floe/catalog/ManifestMemoryTakePinLaw -/
def k1 : Class := { plain "com/example/floe/floe/catalog/ManifestMemoryTakePinLaw" (some 0) with
  accessFlags := 49
  interfaces := #[]
  cf := some (fileOf pool1 21 #[] #[{ accessFlags := 1, nameIndex := 5, descriptorIndex := 6, attributes := #[] }, { accessFlags := 9, nameIndex := 37, descriptorIndex := 38, attributes := #[] }, { accessFlags := 10, nameIndex := 24, descriptorIndex := 25, attributes := #[] }] 49 2 #[] #[])
  fields := #[]
  methods := #[k1m0, k1m1, k1m2]
  instanceTypes := #[]
  staticTypes := #[]
  resolved := Array.replicate 42 none
  statics := none }

def pool2 : Array CpInfo := pool [(2, .class_ 4), (1, u "com/example/floe/floe/catalog/ManifestMemory"), (0, u "MOST_OF_ONE_FILE"), (0, u "J"), (2, u "MOST_TOGETHER"), (2, u "<init>"), (0, u "(JJ)V"), (0, .methodref 15 16), (0, .class_ 17), (0, .nameAndType 12 18), (0, u "java/lang/Object"), (0, u "()V"), (0, .fieldref 2 20), (0, .nameAndType 21 6), (0, u "mostOfOneFile"), (0, .fieldref 2 23), (0, .nameAndType 24 6), (0, u "mostTogether"), (0, .fieldref 2 26), (0, .nameAndType 27 6), (0, u "held"), (9, u "()J"), (6, u "take"), (0, u "(J)Z"), (7, .class_ 54), (0, u "com/example/floe/floe/catalog/ManifestMemory$TooLargeException")] 2

def k2m0 : Method := { name := "<init>", desc := "()V", sig := { parameters := [], returnType := none }, accessFlags := 0, code := none }
def k2c1 : Code := { maxStack := 3, maxLocals := 5, code := prog_15_method_2_code, exceptionTable := #[], attributes := #[] }
def k2m1 : Method := { name := "<init>", desc := "(JJ)V", sig := { parameters := [.long, .long], returnType := none }, accessFlags := 0, code := some k2c1 }
def k2c2 : Code := { maxStack := 2, maxLocals := 1, code := prog_15_method_4_code, exceptionTable := #[], attributes := #[] }
def k2m2 : Method := { name := "mostTogether", desc := "()J", sig := { parameters := [], returnType := some .long }, accessFlags := 0, code := some k2c2 }
def k2c3 : Code := { maxStack := 2, maxLocals := 1, code := prog_15_method_5_code, exceptionTable := #[], attributes := #[] }
def k2m3 : Method := { name := "held", desc := "()J", sig := { parameters := [], returnType := some .long }, accessFlags := 0, code := some k2c3 }
def k2c4 : Code := { maxStack := 6, maxLocals := 3, code := prog_15_method_6_code, exceptionTable := #[], attributes := #[] }
def k2m4 : Method := { name := "take", desc := "(J)Z", sig := { parameters := [.long], returnType := some .boolean }, accessFlags := 0, code := some k2c4 }
/-- com/example/floe/floe/catalog/ManifestMemory -/
def k2 : Class := { plain "com/example/floe/floe/catalog/ManifestMemory" (some 0) with
  accessFlags := 48
  interfaces := #[]
  cf := some (fileOf pool2 2 #[.nestMembers #[53]] #[{ accessFlags := 0, nameIndex := 12, descriptorIndex := 18, attributes := #[] }, { accessFlags := 0, nameIndex := 12, descriptorIndex := 13, attributes := #[] }, { accessFlags := 0, nameIndex := 24, descriptorIndex := 37, attributes := #[] }, { accessFlags := 0, nameIndex := 27, descriptorIndex := 37, attributes := #[] }, { accessFlags := 0, nameIndex := 44, descriptorIndex := 45, attributes := #[] }] 48 15 #[] #[{ accessFlags := 24, nameIndex := 5, descriptorIndex := 6, attributes := #[] }, { accessFlags := 24, nameIndex := 9, descriptorIndex := 6, attributes := #[] }, { accessFlags := 18, nameIndex := 21, descriptorIndex := 6, attributes := #[] }, { accessFlags := 18, nameIndex := 24, descriptorIndex := 6, attributes := #[] }, { accessFlags := 2, nameIndex := 27, descriptorIndex := 6, attributes := #[] }])
  fields := #[{ name := "MOST_OF_ONE_FILE", type := .long, accessFlags := 24, slot := 0, constantValue := 0 }, { name := "MOST_TOGETHER", type := .long, accessFlags := 24, slot := 1, constantValue := 0 }, { name := "mostOfOneFile", type := .long, accessFlags := 18, slot := 0, constantValue := 0 }, { name := "mostTogether", type := .long, accessFlags := 18, slot := 1, constantValue := 0 }, { name := "held", type := .long, accessFlags := 2, slot := 2, constantValue := 0 }]
  methods := #[k2m0, k2m1, k2m2, k2m3, k2m4]
  instanceTypes := #[.long, .long, .long]
  staticTypes := #[.long, .long]
  resolved := Array.replicate 57 none
  statics := none }

def pool3 : Array CpInfo := pool [(1, u "java/lang/Cloneable"), (0, .class_ 1), (0, u "java/lang/Object"), (0, .class_ 3)] 3

/-- java/lang/Cloneable -/
def k3 : Class := { plain "java/lang/Cloneable" (some 0) with
  accessFlags := 1537
  interfaces := #[]
  cf := some (fileOf pool3 2 #[] #[] 1537 4 #[] #[])
  fields := #[]
  methods := #[]
  instanceTypes := #[]
  staticTypes := #[]
  resolved := Array.replicate 8 none
  statics := none }

def pool4 : Array CpInfo := pool [(1, u "java/io/Serializable"), (0, .class_ 1), (0, u "java/lang/Object"), (0, .class_ 3)] 3

/-- java/io/Serializable -/
def k4 : Class := { plain "java/io/Serializable" (some 0) with
  accessFlags := 1537
  interfaces := #[]
  cf := some (fileOf pool4 2 #[] #[] 1537 4 #[] #[])
  fields := #[]
  methods := #[]
  instanceTypes := #[]
  staticTypes := #[]
  resolved := Array.replicate 8 none
  statics := none }

/-- the primitive byte -/
def k5 : Class := { plain "byte" none with kind := .primitive 'B', accessFlags := 0x411 }
/-- [B -/
def k6 : Class := { plain "[B" (some 0) with kind := .array 5 .byte, interfaces := #[3, 4], accessFlags := 1041 }

/-- the primitive int -/
def k7 : Class := { plain "int" none with kind := .primitive 'I', accessFlags := 0x411 }
/-- [I -/
def k8 : Class := { plain "[I" (some 0) with kind := .array 7 .int, interfaces := #[3, 4], accessFlags := 1041 }

def heap : Heap := #[]
def classes : Array Class := #[k0, k1, k2, k3, k4, k5, k6, k7, k8]
def interned : List (Array UInt16 × Addr) := []
def slotsUsed : Nat := 0
def theMethod : MethodId := ⟨1, 1⟩
def args0 : Array Value := #[.long 5, .long 6, .long 7, .long 8, .long 9]
def aboutOver (below : List Frame) : State where
  vm := { classes := classes, interned := interned.toArray }
  heap := heap
  slotsUsed := slotsUsed
  threads := #[{ frames := .invoking theMethod args0 :: below }]
def below0 : List Frame := [.native { method := ⟨0, 0⟩, args := #[] }]
def about1 : State := aboutOver below0
def p0 : Program := .bare "" "" ""
def e0 : Env := launch0.env 0 0 0
theorem w_frames : about1.frames = Frame.invoking theMethod args0 :: below0 := rfl
set_option maxRecDepth 65536 in
theorem w_args : argsFit about1.vm theMethod args0 = true := by decide +kernel
set_option maxRecDepth 65536 in
theorem w_heap : heapFits about1 = true := by decide +kernel
set_option maxRecDepth 65536 in
theorem w_runnable : about1.curStatus? = some .runnable := by decide +kernel
set_option maxRecDepth 65536 in
theorem w_alone : about1.alone = true := by decide +kernel
set_option maxRecDepth 65536 in
theorem w_named : about1.methodNamed? x = some theMethod := by decide +kernel
set_option maxRecDepth 65536 in
theorem w_hears : about1.hears theMethod below0 = true := by decide +kernel
set_option maxRecDepth 65536 in
theorem w_ripe : about1.ripe theMethod args0 below0 = true := by decide +kernel
theorem w_running : about1.status = .running := rfl
set_option maxRecDepth 65536 in
theorem w_room : about1.hasRoom e0.platform room_1 = true :=
  launch0.hasRoom_least _ room_1 (by decide +kernel) (by decide +kernel) (by decide +kernel) (by decide +kernel) (by decide +kernel) (by decide +kernel)
theorem allAtoms_all (ts : List Jvm.Cond) (a : Array Jvm.Value) (st : Jvm.State) : (allAtoms ts).before a st = ts.all (fun c => c.before a st) := by
  induction ts with
  | nil => rfl
  | cons c t ih =>
    show (Jvm.Cond.and c (allAtoms t)).before a st = _
    rw [Jvm.Cond.before_and, ih, List.all_cons]
def words1 : List Jvm.Cond := Jvm.Cond.code x code maxLocals ret :: tables_1
/-- a 'code' word, met by the world's own term for the bytes: nothing is compared byte by byte -/
theorem code_word {y : MethodName} {bytes : ByteArray} {mx : Nat} {rt : Option FieldType} {a : Array Value} {s : State} {m : MethodId} {meth : Method} {c : Code} (h1 : s.methodNamed? y = some m) (h2 : s.vm.method? m = some meth) (h3 : meth.code = some c) (h4 : c.code = bytes)
    (h5 : (c.maxLocals == mx && c.exceptionTable.isEmpty && decide (c.maxStack ≤ mostOperands) && decide (meth.sig.returnType = rt) && !meth.locks && decide (parseMethodDescriptor y.desc = some meth.sig)) = true) : (Jvm.Cond.code y bytes mx rt).before a s = true := by
  simp only [Bool.and_eq_true, beq_iff_eq, Bool.not_eq_true', decide_eq_true_eq] at h5
  obtain ⟨⟨⟨⟨⟨g1, g2⟩, g3⟩, g4⟩, g5⟩, g6⟩ := h5
  simp [Cond.before, Cond.holds, Cond.value, h1, h2, h3, h4, g1, g2, g3, g4, g5, g6]
def isCode : Jvm.Cond → Bool
  | .code _ _ _ _ => true
  | _ => false
theorem all_split {L : List Jvm.Cond} {P : Jvm.Cond → Bool} (h1 : L.all (fun c => isCode c || P c) = true) (h2 : ∀ c ∈ L.filter isCode, P c = true) : L.all P = true := by
  refine List.all_eq_true.mpr fun c hc => ?_
  have h := List.all_eq_true.mp h1 c hc
  rcases Bool.eq_false_or_eq_true (isCode c) with hi | hi
  · exact h2 c (List.mem_filter.mpr ⟨hc, hi⟩)
  · simpa [hi] using h
set_option maxRecDepth 65536 in
theorem w_c0 : (Jvm.Cond.code x code maxLocals ret).before args0 about1 = true := code_word (m := ⟨1, 1⟩) (meth := k1m1) (c := k1c1) (by decide +kernel) rfl rfl rfl (by decide +kernel)
set_option maxRecDepth 65536 in
theorem w_c1 : (Jvm.Cond.code ({ cls := "com/example/floe/floe/catalog/ManifestMemory", name := "<init>", desc := "(JJ)V" } : Jvm.MethodName) prog_15_method_2_code (5 : Nat) (Option.none : Option Jvm.ClassFile.FieldType)).before args0 about1 = true := code_word (m := ⟨2, 1⟩) (meth := k2m1) (c := k2c1) (by decide +kernel) rfl rfl rfl (by decide +kernel)
set_option maxRecDepth 65536 in
theorem w_c2 : (Jvm.Cond.code ({ cls := "java/lang/Object", name := "<init>", desc := "()V" } : Jvm.MethodName) object_method_1_code (1 : Nat) (Option.none : Option Jvm.ClassFile.FieldType)).before args0 about1 = true := code_word (m := ⟨0, 0⟩) (meth := k0m0) (c := k0c0) (by decide +kernel) rfl rfl rfl (by decide +kernel)
set_option maxRecDepth 65536 in
theorem w_c3 : (Jvm.Cond.code ({ cls := "com/example/floe/floe/catalog/ManifestMemory", name := "held", desc := "()J" } : Jvm.MethodName) prog_15_method_5_code (1 : Nat) (Option.some Jvm.ClassFile.FieldType.long)).before args0 about1 = true := code_word (m := ⟨2, 3⟩) (meth := k2m3) (c := k2c3) (by decide +kernel) rfl rfl rfl (by decide +kernel)
set_option maxRecDepth 65536 in
theorem w_c4 : (Jvm.Cond.code ({ cls := "com/example/floe/floe/catalog/ManifestMemoryTakePinLaw", name := "step", desc := "(Lcom/example/floe/floe/catalog/ManifestMemory;JJJ)J" } : Jvm.MethodName) method_3_code (13 : Nat) (Option.some Jvm.ClassFile.FieldType.long)).before args0 about1 = true := code_word (m := ⟨1, 2⟩) (meth := k1m2) (c := k1c2) (by decide +kernel) rfl rfl rfl (by decide +kernel)
set_option maxRecDepth 65536 in
theorem w_c5 : (Jvm.Cond.code ({ cls := "com/example/floe/floe/catalog/ManifestMemory", name := "take", desc := "(J)Z" } : Jvm.MethodName) prog_15_method_6_code (3 : Nat) (Option.some Jvm.ClassFile.FieldType.boolean)).before args0 about1 = true := code_word (m := ⟨2, 4⟩) (meth := k2m4) (c := k2c4) (by decide +kernel) rfl rfl rfl (by decide +kernel)
set_option maxRecDepth 65536 in
theorem w_c6 : (Jvm.Cond.code ({ cls := "com/example/floe/floe/catalog/ManifestMemory", name := "mostTogether", desc := "()J" } : Jvm.MethodName) prog_15_method_4_code (1 : Nat) (Option.some Jvm.ClassFile.FieldType.long)).before args0 about1 = true := code_word (m := ⟨2, 2⟩) (meth := k2m2) (c := k2c2) (by decide +kernel) rfl rfl rfl (by decide +kernel)
def codes1 : List Jvm.Cond := [Jvm.Cond.code x code maxLocals ret, Jvm.Cond.code ({ cls := "com/example/floe/floe/catalog/ManifestMemory", name := "<init>", desc := "(JJ)V" } : Jvm.MethodName) prog_15_method_2_code (5 : Nat) (Option.none : Option Jvm.ClassFile.FieldType), Jvm.Cond.code ({ cls := "java/lang/Object", name := "<init>", desc := "()V" } : Jvm.MethodName) object_method_1_code (1 : Nat) (Option.none : Option Jvm.ClassFile.FieldType), Jvm.Cond.code ({ cls := "com/example/floe/floe/catalog/ManifestMemory", name := "held", desc := "()J" } : Jvm.MethodName) prog_15_method_5_code (1 : Nat) (Option.some Jvm.ClassFile.FieldType.long), Jvm.Cond.code ({ cls := "com/example/floe/floe/catalog/ManifestMemoryTakePinLaw", name := "step", desc := "(Lcom/example/floe/floe/catalog/ManifestMemory;JJJ)J" } : Jvm.MethodName) method_3_code (13 : Nat) (Option.some Jvm.ClassFile.FieldType.long), Jvm.Cond.code ({ cls := "com/example/floe/floe/catalog/ManifestMemory", name := "take", desc := "(J)Z" } : Jvm.MethodName) prog_15_method_6_code (3 : Nat) (Option.some Jvm.ClassFile.FieldType.boolean), Jvm.Cond.code ({ cls := "com/example/floe/floe/catalog/ManifestMemory", name := "mostTogether", desc := "()J" } : Jvm.MethodName) prog_15_method_4_code (1 : Nat) (Option.some Jvm.ClassFile.FieldType.long)]
set_option maxRecDepth 65536 in
theorem codes_eq : words1.filter isCode = codes1 := rfl
theorem w_codes : ∀ c ∈ words1.filter isCode, c.before args0 about1 = true := by
  rw [codes_eq]
  intro c hc
  simp only [codes1, List.mem_cons, List.not_mem_nil, or_false] at hc
  rcases hc with rfl | rfl | rfl | rfl | rfl | rfl | rfl
  · exact w_c0
  · exact w_c1
  · exact w_c2
  · exact w_c3
  · exact w_c4
  · exact w_c5
  · exact w_c6
set_option maxRecDepth 65536 in
theorem w_t1 : (words1.take 24).all (fun c => isCode c || c.before args0 about1) = true := by decide +kernel
set_option maxRecDepth 65536 in
theorem w_t2 : (words1.drop 24).all (fun c => isCode c || c.before args0 about1) = true := by decide +kernel
theorem w_tables : (allAtoms (Jvm.Cond.code x code maxLocals ret :: tables_1)).before args0 about1 = true := by
  rw [allAtoms_all]
  show words1.all (fun c => c.before args0 about1) = true
  refine all_split ?_ w_codes
  rw [← List.take_append_drop 24 words1, List.all_append, w_t1, w_t2]
  rfl
set_option maxRecDepth 65536 in
theorem w_case : (Jvm.Cond.and given_1 narrow_1).before args0 about1 = true := by decide +kernel
theorem w_applies : (headSpec (Jvm.Cond.code x code maxLocals ret :: tables_1) room_1).applies x e0.platform about1 = true :=
  (Spec.applies_iff w_frames).mpr ⟨w_running, w_runnable, w_alone, w_named, w_hears, w_ripe, w_room, w_tables⟩
theorem atStart : AtStart classFile x code maxLocals ret World_1 tables_1 room_1 Calls_1 rest_1 Pre_1 launch0 p0 e0 about1 theMethod args0 below0 :=
  ⟨lists_1, trivial, launch0.admits_env _ _ _, launch0.least_env, fairChoices_fair.cas, fairChoices_fair.clock, w_frames, w_args, w_heap, w_applies, trivial, trivial, w_case⟩
end start1
theorem witness_1 : WitnessClaimed_1 := ⟨start1.p0, start1.e0, start1.about1, start1.theMethod, start1.args0, start1.below0, start1.atStart⟩
end Jvm.Pilot.@@N@@
