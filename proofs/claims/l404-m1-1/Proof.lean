import JvmDerived
import JvmDerived.Pilot.@@N@@Statement
import JvmDerived.Pilot.@@N@@Code
set_option linter.unusedVariables false
set_option linter.unusedSimpArgs false
@@BLOCK:NumsL.lean.txt@@
namespace Jvm.Pilot.@@N@@
open Jvm Jvm.ClassFile Sem Op Lib Jvm.Free Jvm.Stand Jvm.LawKit Jvm.RoadKit Bundle Jvm.Pilot.@@N@@.Jvm.D
/-! general: a run that comes to its end with what Q says -/
def own_G (tb : Tables) (e : Env) (below : List Frame) (S : State) (s : State) (C N : Nat) (Q : Option Value → Heap → List Loc → Prop) : Prop :=
  ∃ t o, Steps tb e below S t ∧ t.status = .running ∧ Ended t below o ∧ ∃ v L, o = .returned v ∧ Q v t.heap L ∧ FrameEnd s o t L C N
def own_P (n0 : Nat) (h0 : Heap) (w : Option Value) (v : Option Value) (h : Heap) (L : List Loc) : Prop := v = w ∧ Fr n0 L ∧ h = h0
section Own
variable {tb : Tables} {p : Program} {l : Launch} {e : Env} {R : Room} {s : State} {m : MethodId} {args : Array Value} {below : List Frame} {meth : Method} {c : Code} {T S S' : State} {locs : List Loc} {cells slots C N n0 : Nat} {h0 : Heap} {Q : Option Value → Heap → List Loc → Prop}
theorem own_go (h : ∀ t, Steps tb e below S' t → Steps tb e below S t) (k : own_G tb e below S' s C N Q) : own_G tb e below S s C N Q := by
  obtain ⟨t, o, a, b⟩ := k
  exact ⟨t, o, h t a, b⟩
theorem own_tr (h : Steps tb e below S S') (k : own_G tb e below S' s C N Q) : own_G tb e below S s C N Q := by
  obtain ⟨t, o, a, b⟩ := k
  exact ⟨t, o, h.trans a, b⟩
theorem own_itI {P : Prop} [Decidable P] {A B : Int32} (h : P) (k : own_G tb e below S s C N (own_P n0 h0 (some (.int A)))) : own_G tb e below S s C N (own_P n0 h0 (some (.int (if P then A else B)))) := by rw [if_pos h]; exact k
theorem own_ifI {P : Prop} [Decidable P] {A B : Int32} (h : ¬ P) (k : own_G tb e below S s C N (own_P n0 h0 (some (.int B)))) : own_G tb e below S s C N (own_P n0 h0 (some (.int (if P then A else B)))) := by rw [if_neg h]; exact k
theorem own_itJ {P : Prop} [Decidable P] {A B : Int64} (h : P) (k : own_G tb e below S s C N (own_P n0 h0 (some (.long A)))) : own_G tb e below S s C N (own_P n0 h0 (some (.long (if P then A else B)))) := by rw [if_pos h]; exact k
theorem own_ifJ {P : Prop} [Decidable P] {A B : Int64} (h : ¬ P) (k : own_G tb e below S s C N (own_P n0 h0 (some (.long B)))) : own_G tb e below S s C N (own_P n0 h0 (some (.long (if P then A else B)))) := by rw [if_neg h]; exact k
theorem own_endO {w : Value} {t : FieldType} {i : Instr} (X : Stand p l e R s m args below meth c T locs cells slots) (hx : p.tables.exec = Jvm.exec) (hlk : meth.locks = false) {pc : Nat} {Ls : Array Slot} {rest : List Value} (hret : meth.sig.returnType = some t) (hn : narrow t w = w)
    (hi : (i = .ireturn ∧ (t = .int ∨ t = .boolean ∨ t = .byte ∨ t = .char ∨ t = .short) ∧ ∃ z, w = .int z) ∨ (i = .lreturn ∧ t = .long ∧ ∃ z, w = .long z) ∨ (i = .dreturn ∧ t = .double ∧ ∃ z, w = .double z) ∨ (i = .freturn ∧ t = .float ∧ ∃ z, w = .float z) ∨ (i = .areturn ∧ t.isReference = true ∧ w.isRef = true))
    (hd : decode c.code pc = .ok (i, 1)) (hC : cells ≤ C) (hN : slots ≤ N) (hQ : Q (some w) T.heap locs) : own_G p.tables e below (T.setTop (mkF m pc Ls (w :: rest))) s C N Q := by
  obtain ⟨fs, hr, hrun, hended, hW, hsame⟩ := X.leave (v := some w) (fun h => by rw [hret] at h; cases h) hlk
  exact ⟨_, _, retOut X hx hret hn hi hd hr, hrun, hended, _, _, rfl, hQ, ⟨_, rfl⟩, hW, hsame.mono hC hN⟩
theorem own_endI {z : Int32} (X : Stand p l e R s m args below meth c T locs cells slots) (hx : p.tables.exec = Jvm.exec) (hlk : meth.locks = false) {pc : Nat} {Ls : Array Slot} {rest : List Value} (hret : meth.sig.returnType = some .int)
    (hd : decode c.code pc = .ok (.ireturn, 1)) (hC : cells ≤ C) (hN : slots ≤ N) (hQ : Q (some (.int z)) T.heap locs) : own_G p.tables e below (T.setTop (mkF m pc Ls (.int z :: rest))) s C N Q :=
  own_endO X hx hlk hret rfl (Or.inl ⟨rfl, Or.inl rfl, z, rfl⟩) hd hC hN hQ
theorem own_endJ {z : Int64} (X : Stand p l e R s m args below meth c T locs cells slots) (hx : p.tables.exec = Jvm.exec) (hlk : meth.locks = false) {pc : Nat} {Ls : Array Slot} {rest : List Value} (hret : meth.sig.returnType = some .long)
    (hd : decode c.code pc = .ok (.lreturn, 1)) (hC : cells ≤ C) (hN : slots ≤ N) (hQ : Q (some (.long z)) T.heap locs) : own_G p.tables e below (T.setTop (mkF m pc Ls (.long z :: rest))) s C N Q :=
  own_endO X hx hlk hret rfl (Or.inr (Or.inl ⟨rfl, rfl, z, rfl⟩)) hd hC hN hQ
theorem own_endR {w : Value} {t : FieldType} (X : Stand p l e R s m args below meth c T locs cells slots) (hx : p.tables.exec = Jvm.exec) (hlk : meth.locks = false) {pc : Nat} {Ls : Array Slot} {rest : List Value} (hret : meth.sig.returnType = some t) (hn : narrow t w = w) (ht : t.isReference = true) (hw : w.isRef = true)
    (hd : decode c.code pc = .ok (.areturn, 1)) (hC : cells ≤ C) (hN : slots ≤ N) (hQ : Q (some w) T.heap locs) : own_G p.tables e below (T.setTop (mkF m pc Ls (w :: rest))) s C N Q :=
  own_endO X hx hlk hret hn (Or.inr (Or.inr (Or.inr (Or.inr ⟨rfl, ht, hw⟩)))) hd hC hN hQ
theorem own_endN {z : Int32} {t : FieldType} (X : Stand p l e R s m args below meth c T locs cells slots) (hx : p.tables.exec = Jvm.exec) (hlk : meth.locks = false) {pc : Nat} {Ls : Array Slot} {rest : List Value} (hret : meth.sig.returnType = some t) (ht : t = .boolean ∨ t = .byte ∨ t = .char ∨ t = .short)
    (hd : decode c.code pc = .ok (.ireturn, 1)) (hC : cells ≤ C) (hN : slots ≤ N) (hQ : Q (some (.int (nar t z))) T.heap locs) : own_G p.tables e below (T.setTop (mkF m pc Ls (.int z :: rest))) s C N Q := by
  obtain ⟨fs, hr, hrun, hended, hW, hsame⟩ := X.leave (v := some (.int (nar t z))) (fun h => by rw [hret] at h; cases h) hlk
  exact ⟨_, _, retN X hx hret ht hd hr, hrun, hended, _, _, rfl, hQ, ⟨_, rfl⟩, hW, hsame.mono hC hN⟩
theorem own_endV (X : Stand p l e R s m args below meth c T locs cells slots) (hx : p.tables.exec = Jvm.exec) (hlk : meth.locks = false) {pc : Nat} {Ls : Array Slot} (hret : meth.sig.returnType = none)
    (hd : decode c.code pc = .ok (.return_, 1)) (hC : cells ≤ C) (hN : slots ≤ N) (hQ : Q none T.heap locs) : own_G p.tables e below (T.setTop (mkF m pc Ls [])) s C N Q := by
  obtain ⟨fs, hr, hrun, hended, hW, hsame⟩ := X.leave (v := none) (fun _ => rfl) hlk
  exact ⟨_, _, X.returnOut hx hret hd hr, hrun, hended, _, _, rfl, hQ, ⟨_, rfl⟩, hW, hsame.mono hC hN⟩
end Own
theorem d1_0 : decode prog_98_method_3_code 0 = .ok (.iload_n 0, 1) := by decide +kernel
theorem d1_1 : decode prog_98_method_3_code 1 = .ok (.ldc 55, 2) := by decide +kernel
theorem d1_3 : decode prog_98_method_3_code 3 = .ok (.isub, 1) := by decide +kernel
theorem d1_4 : decode prog_98_method_3_code 4 = .ok (.istore_n 1, 1) := by decide +kernel
theorem d1_5 : decode prog_98_method_3_code 5 = .ok (.iload_n 1, 1) := by decide +kernel
theorem d1_6 : decode prog_98_method_3_code 6 = .ok (.sipush 128, 3) := by decide +kernel
theorem d1_9 : decode prog_98_method_3_code 9 = .ok (.if_icmp .lt 14, 3) := by decide +kernel
theorem d1_12 : decode prog_98_method_3_code 12 = .ok (.iload_n 1, 1) := by decide +kernel
theorem d1_13 : decode prog_98_method_3_code 13 = .ok (.sipush 255, 3) := by decide +kernel
theorem d1_16 : decode prog_98_method_3_code 16 = .ok (.if_icmp .gt 7, 3) := by decide +kernel
theorem d1_19 : decode prog_98_method_3_code 19 = .ok (.iload_n 1, 1) := by decide +kernel
theorem d1_20 : decode prog_98_method_3_code 20 = .ok (.goto 4, 3) := by decide +kernel
theorem d1_23 : decode prog_98_method_3_code 23 = .ok (.iconst (-1), 1) := by decide +kernel
theorem d1_24 : decode prog_98_method_3_code 24 = .ok (.ireturn, 1) := by decide +kernel
def own_undec_24 (p0 : Int32) (v1 : Int32) (w0 : Int32) : Int32 := w0
def own_undec_23 (p0 : Int32) (v1 : Int32) : Int32 := (own_undec_24 p0 v1 (-1 : Int32))
def own_undec (p0 : Int32) : Int32 := (if (p0 - (56320 : Int32)) < (128 : Int32) then (own_undec_23 p0 (p0 - (56320 : Int32))) else (if (255 : Int32) < (p0 - (56320 : Int32)) then (own_undec_23 p0 (p0 - (56320 : Int32))) else (own_undec_24 p0 (p0 - (56320 : Int32)) (p0 - (56320 : Int32)))))
theorem pn_0 : plainName "com/example/sift5/sift5/text/Utf8" = true := by first | (simp [plainName, overriddenIn]; done) | decide +kernel
theorem ef_1 (m : MethodId) (p0 : Int32) : entryFrame m #[(.int p0)] 2 = mkF m 0 #[.val (.int p0), .unset] [] := by first | (simp [entryFrame, mkF, argsToLocals, Value.category]; done) | rfl
set_option maxRecDepth 65536 in
set_option maxHeartbeats 40000000 in
theorem rm1 (l : Launch) (Z : State) (a0 : Array Value) (hw : ∀ d ∈ tables_1, d.before a0 Z = true) (ws : List Jvm.Cond) (p0 : Int32) (h0 : Heap) (n0 : Nat) :
    MetFree l (⟨"com/example/sift5/sift5/text/Utf8", "undecodableByte", "(I)I"⟩ : MethodName) (head1 (Jvm.Cond.code (⟨"com/example/sift5/sift5/text/Utf8", "undecodableByte", "(I)I"⟩ : MethodName) prog_98_method_3_code 2 (some .int) :: ws) ({ frames := 0, cells := 0, slots := 0, locals := 0 } : Room)) (fun a U => a = #[(.int p0)] ∧ Z.Warmed39 U.vm ∧ U.heap = h0) (fun _ _ _ _ _ => True) (fun _ U o U' => ∃ v L, o = .returned v ∧ (own_P n0 h0 (some (.int (own_undec p0)))) v U'.heap L ∧ FrameEnd U o U' L ({ frames := 0, cells := 0, slots := 0, locals := 0 } : Room).cells ({ frames := 0, cells := 0, slots := 0, locals := 0 } : Room).slots) := by
  refine MetFree.of_bodySF (plainFor_of_name pn_0) hisR ?_
  intro p e s m args below meth c s₁ Bd hml0 hP hK
  obtain ⟨rfl, hZ, hh⟩ := hP
  have hx := Bd.exec
  have hby := Bd.bytes
  have hml : c.maxLocals = 2 := hml0
  have hown : s.vm.findClass "com/example/sift5/sift5/text/Utf8" = some m.cls := findClass_of_methodNamed Bd.named
  have hnm := (name_of_methodNamed Bd.named Bd.method).1
  have hlk : meth.locks = false := BodyLoose.notSynchronized Bd
  have X0 : Stand p l e ({ frames := 0, cells := 0, slots := 0, locals := 0 } : Room) s m #[(.int p0)] below meth c s₁ [] 0 0 := Stand.of_body Bd
  have e0 : s₁.heap = h0 := by rw [← hh, Bd.state]; rfl
  have N0 := Fr.nil n0
  have J24 : ∀ (T : State) (Lc : List Loc) (X : Stand p l e ({ frames := 0, cells := 0, slots := 0, locals := 0 } : Room) s m #[(.int p0)] below meth c T Lc 0 0) (eT : T.heap = h0) (N : Fr n0 Lc) (v1 : Int32) (w0 : Int32) , own_G p.tables e below (T.setTop (mkF m 24 #[.val (.int p0), .val (.int v1)] [(.int w0)])) s ({ frames := 0, cells := 0, slots := 0, locals := 0 } : Room).cells ({ frames := 0, cells := 0, slots := 0, locals := 0 } : Room).slots (own_P n0 h0 (some (.int (own_undec_24 p0 v1 w0)))) := by
    intro T Lc X eT N v1 w0 
    show own_G _ _ _ _ _ _ _ (own_P n0 h0 (some (.int (w0))))
    exact own_endI X hx hlk Bd.returns (hb hby d1_24) (by decide) (by decide) ⟨rfl, N, eT⟩
  have J23 : ∀ (T : State) (Lc : List Loc) (X : Stand p l e ({ frames := 0, cells := 0, slots := 0, locals := 0 } : Room) s m #[(.int p0)] below meth c T Lc 0 0) (eT : T.heap = h0) (N : Fr n0 Lc) (v1 : Int32) , own_G p.tables e below (T.setTop (mkF m 23 #[.val (.int p0), .val (.int v1)] [])) s ({ frames := 0, cells := 0, slots := 0, locals := 0 } : Room).cells ({ frames := 0, cells := 0, slots := 0, locals := 0 } : Room).slots (own_P n0 h0 (some (.int (own_undec_23 p0 v1)))) := by
    intro T Lc X eT N v1 
    show own_G _ _ _ _ _ _ _ (own_P n0 h0 (some (.int ((own_undec_24 p0 v1 (-1 : Int32))))))
    refine own_go (fun t k => XS.iconst X.here hx rfl (hb hby d1_23) k) ?_
    show own_G _ _ _ (T.setTop (mkF m 24 #[.val (.int p0), .val (.int v1)] [(.int (-1 : Int32))])) _ _ _ _
    exact J24 _ _ X eT N v1 (-1 : Int32) 
  show own_G p.tables e below (s₁.setTop (entryFrame m #[(.int p0)] 2)) s ({ frames := 0, cells := 0, slots := 0, locals := 0 } : Room).cells ({ frames := 0, cells := 0, slots := 0, locals := 0 } : Room).slots (own_P n0 h0 (some (.int ((if (p0 - (56320 : Int32)) < (128 : Int32) then (own_undec_23 p0 (p0 - (56320 : Int32))) else (if (255 : Int32) < (p0 - (56320 : Int32)) then (own_undec_23 p0 (p0 - (56320 : Int32))) else (own_undec_24 p0 (p0 - (56320 : Int32)) (p0 - (56320 : Int32)))))))))
  refine own_go (fun t k => castTop (ef_1 m p0) k) ?_
  refine own_go (fun t k => XS.iloadN X0.here hx rfl (hb hby d1_0) rfl k) ?_
  show own_G _ _ _ (s₁.setTop (mkF m 1 #[.val (.int p0), .unset] [(.int p0)])) _ _ _ _
  refine own_go (fun t k => X0.ldcInt hx hown (mvT hZ (hw _ (List.mem_of_getElem? (i := 4) rfl))) (g := (mkF m 1 #[.val (.int p0), .unset] [(.int p0)])) rfl (hb hby d1_1) _ k) ?_
  show own_G _ _ _ (s₁.setTop (mkF m 3 #[.val (.int p0), .unset] [(.int (56320 : Int32)), (.int p0)])) _ _ _ _
  refine own_go (fun t k => XS.isub X0.here hx rfl (hb hby d1_3) rfl k) ?_
  show own_G _ _ _ (s₁.setTop (mkF m 4 #[.val (.int p0), .unset] [(.int (p0 - (56320 : Int32)))])) _ _ _ _
  refine own_go (fun t k => XS.istoreN X0.here hx rfl (hb hby d1_4) rfl (l' := #[.val (.int p0), .val (.int (p0 - (56320 : Int32)))]) rfl k) ?_
  show own_G _ _ _ (s₁.setTop (mkF m 5 #[.val (.int p0), .val (.int (p0 - (56320 : Int32)))] [])) _ _ _ _
  refine own_go (fun t k => XS.iloadN X0.here hx rfl (hb hby d1_5) rfl k) ?_
  show own_G _ _ _ (s₁.setTop (mkF m 6 #[.val (.int p0), .val (.int (p0 - (56320 : Int32)))] [(.int (p0 - (56320 : Int32)))])) _ _ _ _
  refine own_go (fun t k => XS.sipush X0.here hx rfl (hb hby d1_6) k) ?_
  show own_G _ _ _ (s₁.setTop (mkF m 9 #[.val (.int p0), .val (.int (p0 - (56320 : Int32)))] [(.int (128 : Int32)), (.int (p0 - (56320 : Int32)))])) _ _ _ _
  by_cases hc1 : (p0 - (56320 : Int32)) < (128 : Int32)
  · refine own_itI hc1 ?_
    refine own_go (fun t k => XS.icmpYes X0.here hx rfl (pc0 := 9) (pc' := 23) rfl (hb hby d1_9) rfl (tlt hc1).1 (by decide) (by decide) k) ?_
    show own_G _ _ _ (s₁.setTop (mkF m 23 #[.val (.int p0), .val (.int (p0 - (56320 : Int32)))] [])) _ _ _ _
    exact J23 _ _ X0 e0 N0 (p0 - (56320 : Int32)) 
  · refine own_ifI hc1 ?_
    refine own_go (fun t k => XS.icmpNo X0.here hx rfl (hb hby d1_9) rfl (flt hc1).1 k) ?_
    show own_G _ _ _ (s₁.setTop (mkF m 12 #[.val (.int p0), .val (.int (p0 - (56320 : Int32)))] [])) _ _ _ _
    refine own_go (fun t k => XS.iloadN X0.here hx rfl (hb hby d1_12) rfl k) ?_
    show own_G _ _ _ (s₁.setTop (mkF m 13 #[.val (.int p0), .val (.int (p0 - (56320 : Int32)))] [(.int (p0 - (56320 : Int32)))])) _ _ _ _
    refine own_go (fun t k => XS.sipush X0.here hx rfl (hb hby d1_13) k) ?_
    show own_G _ _ _ (s₁.setTop (mkF m 16 #[.val (.int p0), .val (.int (p0 - (56320 : Int32)))] [(.int (255 : Int32)), (.int (p0 - (56320 : Int32)))])) _ _ _ _
    by_cases hc2 : (255 : Int32) < (p0 - (56320 : Int32))
    · refine own_itI hc2 ?_
      refine own_go (fun t k => XS.icmpYes X0.here hx rfl (pc0 := 16) (pc' := 23) rfl (hb hby d1_16) rfl (tlt hc2).2.2.1 (by decide) (by decide) k) ?_
      show own_G _ _ _ (s₁.setTop (mkF m 23 #[.val (.int p0), .val (.int (p0 - (56320 : Int32)))] [])) _ _ _ _
      exact J23 _ _ X0 e0 N0 (p0 - (56320 : Int32)) 
    · refine own_ifI hc2 ?_
      refine own_go (fun t k => XS.icmpNo X0.here hx rfl (hb hby d1_16) rfl (flt hc2).2.2.1 k) ?_
      show own_G _ _ _ (s₁.setTop (mkF m 19 #[.val (.int p0), .val (.int (p0 - (56320 : Int32)))] [])) _ _ _ _
      refine own_go (fun t k => XS.iloadN X0.here hx rfl (hb hby d1_19) rfl k) ?_
      show own_G _ _ _ (s₁.setTop (mkF m 20 #[.val (.int p0), .val (.int (p0 - (56320 : Int32)))] [(.int (p0 - (56320 : Int32)))])) _ _ _ _
      refine own_go (fun t k => XS.goto X0.here hx rfl (pc0 := 20) (pc' := 24) rfl (hb hby d1_20) (by decide) (by decide) k) ?_
      show own_G _ _ _ (s₁.setTop (mkF m 24 #[.val (.int p0), .val (.int (p0 - (56320 : Int32)))] [(.int (p0 - (56320 : Int32)))])) _ _ _ _
      exact J24 _ _ X0 e0 N0 (p0 - (56320 : Int32)) (p0 - (56320 : Int32)) 
theorem d2_0 : decode method_2_code 0 = .ok (.iload_n 0, 1) := by decide +kernel
theorem d2_1 : decode method_2_code 1 = .ok (.ldc 7, 2) := by decide +kernel
theorem d2_3 : decode method_2_code 3 = .ok (.if_icmp .lt 14, 3) := by decide +kernel
theorem d2_6 : decode method_2_code 6 = .ok (.iload_n 0, 1) := by decide +kernel
theorem d2_7 : decode method_2_code 7 = .ok (.ldc 8, 2) := by decide +kernel
theorem d2_9 : decode method_2_code 9 = .ok (.if_icmp .gt 8, 3) := by decide +kernel
theorem d2_12 : decode method_2_code 12 = .ok (.iload_n 0, 1) := by decide +kernel
theorem d2_13 : decode method_2_code 13 = .ok (.ldc 9, 2) := by decide +kernel
theorem d2_15 : decode method_2_code 15 = .ok (.isub, 1) := by decide +kernel
theorem d2_16 : decode method_2_code 16 = .ok (.ireturn, 1) := by decide +kernel
theorem d2_17 : decode method_2_code 17 = .ok (.iconst (-1), 1) := by decide +kernel
theorem d2_18 : decode method_2_code 18 = .ok (.ireturn, 1) := by decide +kernel
def own_exp_17 (p0 : Int32)  : Int32 := (-1 : Int32)
def own_exp (p0 : Int32) : Int32 := (if p0 < (56448 : Int32) then (own_exp_17 p0 ) else (if (56575 : Int32) < p0 then (own_exp_17 p0 ) else (p0 - (56320 : Int32))))
theorem pn_1 : plainName "com/example/sift5/sift5/text/Utf8UndecodableBytePinLaw" = true := by first | (simp [plainName, overriddenIn]; done) | decide +kernel
theorem ef_2 (m : MethodId) (p0 : Int32) : entryFrame m #[(.int p0)] 1 = mkF m 0 #[.val (.int p0)] [] := by first | (simp [entryFrame, mkF, argsToLocals, Value.category]; done) | rfl
set_option maxRecDepth 65536 in
set_option maxHeartbeats 40000000 in
theorem rm2 (l : Launch) (Z : State) (a0 : Array Value) (hw : ∀ d ∈ tables_1, d.before a0 Z = true) (ws : List Jvm.Cond) (p0 : Int32) (h0 : Heap) (n0 : Nat) :
    MetFree l (⟨"com/example/sift5/sift5/text/Utf8UndecodableBytePinLaw", "expected", "(I)I"⟩ : MethodName) (head1 (Jvm.Cond.code (⟨"com/example/sift5/sift5/text/Utf8UndecodableBytePinLaw", "expected", "(I)I"⟩ : MethodName) method_2_code 1 (some .int) :: ws) ({ frames := 0, cells := 0, slots := 0, locals := 0 } : Room)) (fun a U => a = #[(.int p0)] ∧ Z.Warmed39 U.vm ∧ U.heap = h0) (fun _ _ _ _ _ => True) (fun _ U o U' => ∃ v L, o = .returned v ∧ (own_P n0 h0 (some (.int (own_exp p0)))) v U'.heap L ∧ FrameEnd U o U' L ({ frames := 0, cells := 0, slots := 0, locals := 0 } : Room).cells ({ frames := 0, cells := 0, slots := 0, locals := 0 } : Room).slots) := by
  refine MetFree.of_bodySF (plainFor_of_name pn_1) hisR ?_
  intro p e s m args below meth c s₁ Bd hml0 hP hK
  obtain ⟨rfl, hZ, hh⟩ := hP
  have hx := Bd.exec
  have hby := Bd.bytes
  have hml : c.maxLocals = 1 := hml0
  have hown : s.vm.findClass "com/example/sift5/sift5/text/Utf8UndecodableBytePinLaw" = some m.cls := findClass_of_methodNamed Bd.named
  have hnm := (name_of_methodNamed Bd.named Bd.method).1
  have hlk : meth.locks = false := BodyLoose.notSynchronized Bd
  have X0 : Stand p l e ({ frames := 0, cells := 0, slots := 0, locals := 0 } : Room) s m #[(.int p0)] below meth c s₁ [] 0 0 := Stand.of_body Bd
  have e0 : s₁.heap = h0 := by rw [← hh, Bd.state]; rfl
  have N0 := Fr.nil n0
  have J17 : ∀ (T : State) (Lc : List Loc) (X : Stand p l e ({ frames := 0, cells := 0, slots := 0, locals := 0 } : Room) s m #[(.int p0)] below meth c T Lc 0 0) (eT : T.heap = h0) (N : Fr n0 Lc)  , own_G p.tables e below (T.setTop (mkF m 17 #[.val (.int p0)] [])) s ({ frames := 0, cells := 0, slots := 0, locals := 0 } : Room).cells ({ frames := 0, cells := 0, slots := 0, locals := 0 } : Room).slots (own_P n0 h0 (some (.int (own_exp_17 p0 )))) := by
    intro T Lc X eT N  
    show own_G _ _ _ _ _ _ _ (own_P n0 h0 (some (.int ((-1 : Int32)))))
    refine own_go (fun t k => XS.iconst X.here hx rfl (hb hby d2_17) k) ?_
    show own_G _ _ _ (T.setTop (mkF m 18 #[.val (.int p0)] [(.int (-1 : Int32))])) _ _ _ _
    exact own_endI X hx hlk Bd.returns (hb hby d2_18) (by decide) (by decide) ⟨rfl, N, eT⟩
  show own_G p.tables e below (s₁.setTop (entryFrame m #[(.int p0)] 1)) s ({ frames := 0, cells := 0, slots := 0, locals := 0 } : Room).cells ({ frames := 0, cells := 0, slots := 0, locals := 0 } : Room).slots (own_P n0 h0 (some (.int ((if p0 < (56448 : Int32) then (own_exp_17 p0 ) else (if (56575 : Int32) < p0 then (own_exp_17 p0 ) else (p0 - (56320 : Int32))))))))
  refine own_go (fun t k => castTop (ef_2 m p0) k) ?_
  refine own_go (fun t k => XS.iloadN X0.here hx rfl (hb hby d2_0) rfl k) ?_
  show own_G _ _ _ (s₁.setTop (mkF m 1 #[.val (.int p0)] [(.int p0)])) _ _ _ _
  refine own_go (fun t k => X0.ldcInt hx hown (mvT hZ (hw _ (List.mem_of_getElem? (i := 9) rfl))) (g := (mkF m 1 #[.val (.int p0)] [(.int p0)])) rfl (hb hby d2_1) _ k) ?_
  show own_G _ _ _ (s₁.setTop (mkF m 3 #[.val (.int p0)] [(.int (56448 : Int32)), (.int p0)])) _ _ _ _
  by_cases hc1 : p0 < (56448 : Int32)
  · refine own_itI hc1 ?_
    refine own_go (fun t k => XS.icmpYes X0.here hx rfl (pc0 := 3) (pc' := 17) rfl (hb hby d2_3) rfl (tlt hc1).1 (by decide) (by decide) k) ?_
    show own_G _ _ _ (s₁.setTop (mkF m 17 #[.val (.int p0)] [])) _ _ _ _
    exact J17 _ _ X0 e0 N0  
  · refine own_ifI hc1 ?_
    refine own_go (fun t k => XS.icmpNo X0.here hx rfl (hb hby d2_3) rfl (flt hc1).1 k) ?_
    show own_G _ _ _ (s₁.setTop (mkF m 6 #[.val (.int p0)] [])) _ _ _ _
    refine own_go (fun t k => XS.iloadN X0.here hx rfl (hb hby d2_6) rfl k) ?_
    show own_G _ _ _ (s₁.setTop (mkF m 7 #[.val (.int p0)] [(.int p0)])) _ _ _ _
    refine own_go (fun t k => X0.ldcInt hx hown (mvT hZ (hw _ (List.mem_of_getElem? (i := 11) rfl))) (g := (mkF m 7 #[.val (.int p0)] [(.int p0)])) rfl (hb hby d2_7) _ k) ?_
    show own_G _ _ _ (s₁.setTop (mkF m 9 #[.val (.int p0)] [(.int (56575 : Int32)), (.int p0)])) _ _ _ _
    by_cases hc2 : (56575 : Int32) < p0
    · refine own_itI hc2 ?_
      refine own_go (fun t k => XS.icmpYes X0.here hx rfl (pc0 := 9) (pc' := 17) rfl (hb hby d2_9) rfl (tlt hc2).2.2.1 (by decide) (by decide) k) ?_
      show own_G _ _ _ (s₁.setTop (mkF m 17 #[.val (.int p0)] [])) _ _ _ _
      exact J17 _ _ X0 e0 N0  
    · refine own_ifI hc2 ?_
      refine own_go (fun t k => XS.icmpNo X0.here hx rfl (hb hby d2_9) rfl (flt hc2).2.2.1 k) ?_
      show own_G _ _ _ (s₁.setTop (mkF m 12 #[.val (.int p0)] [])) _ _ _ _
      refine own_go (fun t k => XS.iloadN X0.here hx rfl (hb hby d2_12) rfl k) ?_
      show own_G _ _ _ (s₁.setTop (mkF m 13 #[.val (.int p0)] [(.int p0)])) _ _ _ _
      refine own_go (fun t k => X0.ldcInt hx hown (mvT hZ (hw _ (List.mem_of_getElem? (i := 10) rfl))) (g := (mkF m 13 #[.val (.int p0)] [(.int p0)])) rfl (hb hby d2_13) _ k) ?_
      show own_G _ _ _ (s₁.setTop (mkF m 15 #[.val (.int p0)] [(.int (56320 : Int32)), (.int p0)])) _ _ _ _
      refine own_go (fun t k => XS.isub X0.here hx rfl (hb hby d2_15) rfl k) ?_
      show own_G _ _ _ (s₁.setTop (mkF m 16 #[.val (.int p0)] [(.int (p0 - (56320 : Int32)))])) _ _ _ _
      exact own_endI X0 hx hlk Bd.returns (hb hby d2_16) (by decide) (by decide) ⟨rfl, N0, e0⟩
theorem pd_0 : parseMethodDescriptor "(I)I" = some ⟨[.int], some .int⟩ := by decide +kernel
def own_law_100 (p0 : Int32) (p1 : Int32) (p2 : Int32) (v3 : Int32) (v4 : Int32) (v5 : Int32) (v6 : Int32) (v7 : Int32) (w0 : Int32) : Int32 := (w0 &&& 1)
def own_law_99 (p0 : Int32) (p1 : Int32) (p2 : Int32) (v3 : Int32) (v4 : Int32) (v5 : Int32) (v6 : Int32) (v7 : Int32) : Int32 := (own_law_100 p0 p1 p2 v3 v4 v5 v6 v7 (0 : Int32))
def own_law_79 (p0 : Int32) (p1 : Int32) (p2 : Int32) (v3 : Int32) (v4 : Int32) (v5 : Int32) (v6 : Int32) (w0 : Int32) : Int32 := (if v3 = (0 : Int32) then (own_law_99 p0 p1 p2 v3 v4 v5 v6 w0) else (if v5 = (0 : Int32) then (own_law_99 p0 p1 p2 v3 v4 v5 v6 w0) else (if w0 = (0 : Int32) then (own_law_99 p0 p1 p2 v3 v4 v5 v6 w0) else (own_law_100 p0 p1 p2 v3 v4 v5 v6 w0 (1 : Int32)))))
def own_law_49 (p0 : Int32) (p1 : Int32) (p2 : Int32) (v3 : Int32) (v4 : Int32) (w0 : Int32) : Int32 := (if (own_undec ((56320 : Int32) + ((128 : Int32) ||| (p2 &&& (127 : Int32))))) = ((128 : Int32) ||| (p2 &&& (127 : Int32))) then (own_law_79 p0 p1 p2 v3 v4 w0 ((128 : Int32) ||| (p2 &&& (127 : Int32))) (1 : Int32)) else (own_law_79 p0 p1 p2 v3 v4 w0 ((128 : Int32) ||| (p2 &&& (127 : Int32))) (0 : Int32)))
def own_law_16 (p0 : Int32) (p1 : Int32) (p2 : Int32) (w0 : Int32) : Int32 := (if (own_undec ((56320 : Int32) + ((p1 &&& (1023 : Int32)) - (256 : Int32)))) = (own_exp ((56320 : Int32) + ((p1 &&& (1023 : Int32)) - (256 : Int32)))) then (own_law_49 p0 p1 p2 w0 ((56320 : Int32) + ((p1 &&& (1023 : Int32)) - (256 : Int32))) (1 : Int32)) else (own_law_49 p0 p1 p2 w0 ((56320 : Int32) + ((p1 &&& (1023 : Int32)) - (256 : Int32))) (0 : Int32)))
def own_law (p0 : Int32) (p1 : Int32) (p2 : Int32) : Int32 := (if (own_undec p0) = (own_exp p0) then (own_law_16 p0 p1 p2 (1 : Int32)) else (own_law_16 p0 p1 p2 (0 : Int32)))
theorem ef_0 (m : MethodId) (p0 : Int32) (p1 : Int32) (p2 : Int32) : entryFrame m #[(.int p0), (.int p1), (.int p2)] maxLocals = mkF m 0 #[.val (.int p0), .val (.int p1), .val (.int p2), .unset, .unset, .unset, .unset, .unset] [] := by first | (simp [entryFrame, mkF, argsToLocals, Value.category, maxLocals]; done) | rfl
set_option maxRecDepth 65536 in
set_option maxHeartbeats 40000000 in
theorem rm0 (l : Launch) (Z : State) (a0 : Array Value) (hw : ∀ d ∈ tables_1, d.before a0 Z = true) (ws : List Jvm.Cond) (p0 : Int32) (p1 : Int32) (p2 : Int32) (h0 : Heap) (n0 : Nat) :
    MetFree l x (head1 (Jvm.Cond.code x code maxLocals ret :: ws) room_1) (fun a U => a = #[(.int p0), (.int p1), (.int p2)] ∧ Z.Warmed39 U.vm ∧ U.heap = h0) (fun _ _ _ _ _ => True) (fun _ U o U' => ∃ v L, o = .returned v ∧ (own_P n0 h0 (some (.int (own_law p0 p1 p2)))) v U'.heap L ∧ FrameEnd U o U' L room_1.cells room_1.slots) := by
  refine MetFree.of_bodySF (plainFor_of_name pn_1) hisR ?_
  intro p e s m args below meth c s₁ Bd hml0 hP hK
  obtain ⟨rfl, hZ, hh⟩ := hP
  have hx := Bd.exec
  have hby := Bd.bytes
  have hml : c.maxLocals = 8 := hml0
  have hown : s.vm.findClass "com/example/sift5/sift5/text/Utf8UndecodableBytePinLaw" = some m.cls := findClass_of_methodNamed Bd.named
  have hnm := (name_of_methodNamed Bd.named Bd.method).1
  have hlk : meth.locks = false := BodyLoose.notSynchronized Bd
  have X0 : Stand p l e room_1 s m #[(.int p0), (.int p1), (.int p2)] below meth c s₁ [] 0 0 := Stand.of_body Bd
  have e0 : s₁.heap = h0 := by rw [← hh, Bd.state]; rfl
  have N0 := Fr.nil n0
  have J100 : ∀ (T : State) (Lc : List Loc) (X : Stand p l e room_1 s m #[(.int p0), (.int p1), (.int p2)] below meth c T Lc 0 0) (eT : T.heap = h0) (N : Fr n0 Lc) (v3 : Int32) (v4 : Int32) (v5 : Int32) (v6 : Int32) (v7 : Int32) (w0 : Int32) , own_G p.tables e below (T.setTop (mkF m 100 #[.val (.int p0), .val (.int p1), .val (.int p2), .val (.int v3), .val (.int v4), .val (.int v5), .val (.int v6), .val (.int v7)] [(.int w0)])) s room_1.cells room_1.slots (own_P n0 h0 (some (.int (own_law_100 p0 p1 p2 v3 v4 v5 v6 v7 w0)))) := by
    intro T Lc X eT N v3 v4 v5 v6 v7 w0 
    show own_G _ _ _ _ _ _ _ (own_P n0 h0 (some (.int ((w0 &&& 1)))))
    exact own_endN X hx hlk (t := .boolean) Bd.returns (by simp) (hb hby at_100) (by decide) (by decide) ⟨rfl, N, eT⟩
  have J99 : ∀ (T : State) (Lc : List Loc) (X : Stand p l e room_1 s m #[(.int p0), (.int p1), (.int p2)] below meth c T Lc 0 0) (eT : T.heap = h0) (N : Fr n0 Lc) (v3 : Int32) (v4 : Int32) (v5 : Int32) (v6 : Int32) (v7 : Int32) , own_G p.tables e below (T.setTop (mkF m 99 #[.val (.int p0), .val (.int p1), .val (.int p2), .val (.int v3), .val (.int v4), .val (.int v5), .val (.int v6), .val (.int v7)] [])) s room_1.cells room_1.slots (own_P n0 h0 (some (.int (own_law_99 p0 p1 p2 v3 v4 v5 v6 v7)))) := by
    intro T Lc X eT N v3 v4 v5 v6 v7 
    show own_G _ _ _ _ _ _ _ (own_P n0 h0 (some (.int ((own_law_100 p0 p1 p2 v3 v4 v5 v6 v7 (0 : Int32))))))
    refine own_go (fun t k => XS.iconst X.here hx rfl (hb hby at_99) k) ?_
    show own_G _ _ _ (T.setTop (mkF m 100 #[.val (.int p0), .val (.int p1), .val (.int p2), .val (.int v3), .val (.int v4), .val (.int v5), .val (.int v6), .val (.int v7)] [(.int (0 : Int32))])) _ _ _ _
    exact J100 _ _ X eT N v3 v4 v5 v6 v7 (0 : Int32) 
  have J79 : ∀ (T : State) (Lc : List Loc) (X : Stand p l e room_1 s m #[(.int p0), (.int p1), (.int p2)] below meth c T Lc 0 0) (eT : T.heap = h0) (N : Fr n0 Lc) (v3 : Int32) (v4 : Int32) (v5 : Int32) (v6 : Int32) (w0 : Int32) , own_G p.tables e below (T.setTop (mkF m 79 #[.val (.int p0), .val (.int p1), .val (.int p2), .val (.int v3), .val (.int v4), .val (.int v5), .val (.int v6), .unset] [(.int w0)])) s room_1.cells room_1.slots (own_P n0 h0 (some (.int (own_law_79 p0 p1 p2 v3 v4 v5 v6 w0)))) := by
    intro T Lc X eT N v3 v4 v5 v6 w0 
    show own_G _ _ _ _ _ _ _ (own_P n0 h0 (some (.int ((if v3 = (0 : Int32) then (own_law_99 p0 p1 p2 v3 v4 v5 v6 w0) else (if v5 = (0 : Int32) then (own_law_99 p0 p1 p2 v3 v4 v5 v6 w0) else (if w0 = (0 : Int32) then (own_law_99 p0 p1 p2 v3 v4 v5 v6 w0) else (own_law_100 p0 p1 p2 v3 v4 v5 v6 w0 (1 : Int32)))))))))
    refine own_go (fun t k => XS.istore X.here hx rfl (hb hby at_79) rfl (l' := #[.val (.int p0), .val (.int p1), .val (.int p2), .val (.int v3), .val (.int v4), .val (.int v5), .val (.int v6), .val (.int w0)]) rfl k) ?_
    show own_G _ _ _ (T.setTop (mkF m 81 #[.val (.int p0), .val (.int p1), .val (.int p2), .val (.int v3), .val (.int v4), .val (.int v5), .val (.int v6), .val (.int w0)] [])) _ _ _ _
    refine own_go (fun t k => XS.iloadN X.here hx rfl (hb hby at_81) rfl k) ?_
    show own_G _ _ _ (T.setTop (mkF m 82 #[.val (.int p0), .val (.int p1), .val (.int p2), .val (.int v3), .val (.int v4), .val (.int v5), .val (.int v6), .val (.int w0)] [(.int v3)])) _ _ _ _
    by_cases hc1 : v3 = (0 : Int32)
    · refine own_itI hc1 ?_
      refine own_go (fun t k => XS.ifYes X.here hx rfl (pc0 := 82) (pc' := 99) rfl (hb hby at_82) rfl ((if0 _ _).trans (teq hc1).1) (by decide) (by decide) k) ?_
      show own_G _ _ _ (T.setTop (mkF m 99 #[.val (.int p0), .val (.int p1), .val (.int p2), .val (.int v3), .val (.int v4), .val (.int v5), .val (.int v6), .val (.int w0)] [])) _ _ _ _
      exact J99 _ _ X eT N v3 v4 v5 v6 w0 
    · refine own_ifI hc1 ?_
      refine own_go (fun t k => XS.ifNo X.here hx rfl (hb hby at_82) rfl ((if0 _ _).trans (feq hc1).1) k) ?_
      show own_G _ _ _ (T.setTop (mkF m 85 #[.val (.int p0), .val (.int p1), .val (.int p2), .val (.int v3), .val (.int v4), .val (.int v5), .val (.int v6), .val (.int w0)] [])) _ _ _ _
      refine own_go (fun t k => XS.iload X.here hx rfl (hb hby at_85) rfl k) ?_
      show own_G _ _ _ (T.setTop (mkF m 87 #[.val (.int p0), .val (.int p1), .val (.int p2), .val (.int v3), .val (.int v4), .val (.int v5), .val (.int v6), .val (.int w0)] [(.int v5)])) _ _ _ _
      by_cases hc2 : v5 = (0 : Int32)
      · refine own_itI hc2 ?_
        refine own_go (fun t k => XS.ifYes X.here hx rfl (pc0 := 87) (pc' := 99) rfl (hb hby at_87) rfl ((if0 _ _).trans (teq hc2).1) (by decide) (by decide) k) ?_
        show own_G _ _ _ (T.setTop (mkF m 99 #[.val (.int p0), .val (.int p1), .val (.int p2), .val (.int v3), .val (.int v4), .val (.int v5), .val (.int v6), .val (.int w0)] [])) _ _ _ _
        exact J99 _ _ X eT N v3 v4 v5 v6 w0 
      · refine own_ifI hc2 ?_
        refine own_go (fun t k => XS.ifNo X.here hx rfl (hb hby at_87) rfl ((if0 _ _).trans (feq hc2).1) k) ?_
        show own_G _ _ _ (T.setTop (mkF m 90 #[.val (.int p0), .val (.int p1), .val (.int p2), .val (.int v3), .val (.int v4), .val (.int v5), .val (.int v6), .val (.int w0)] [])) _ _ _ _
        refine own_go (fun t k => XS.iload X.here hx rfl (hb hby at_90) rfl k) ?_
        show own_G _ _ _ (T.setTop (mkF m 92 #[.val (.int p0), .val (.int p1), .val (.int p2), .val (.int v3), .val (.int v4), .val (.int v5), .val (.int v6), .val (.int w0)] [(.int w0)])) _ _ _ _
        by_cases hc3 : w0 = (0 : Int32)
        · refine own_itI hc3 ?_
          refine own_go (fun t k => XS.ifYes X.here hx rfl (pc0 := 92) (pc' := 99) rfl (hb hby at_92) rfl ((if0 _ _).trans (teq hc3).1) (by decide) (by decide) k) ?_
          show own_G _ _ _ (T.setTop (mkF m 99 #[.val (.int p0), .val (.int p1), .val (.int p2), .val (.int v3), .val (.int v4), .val (.int v5), .val (.int v6), .val (.int w0)] [])) _ _ _ _
          exact J99 _ _ X eT N v3 v4 v5 v6 w0 
        · refine own_ifI hc3 ?_
          refine own_go (fun t k => XS.ifNo X.here hx rfl (hb hby at_92) rfl ((if0 _ _).trans (feq hc3).1) k) ?_
          show own_G _ _ _ (T.setTop (mkF m 95 #[.val (.int p0), .val (.int p1), .val (.int p2), .val (.int v3), .val (.int v4), .val (.int v5), .val (.int v6), .val (.int w0)] [])) _ _ _ _
          refine own_go (fun t k => XS.iconst X.here hx rfl (hb hby at_95) k) ?_
          show own_G _ _ _ (T.setTop (mkF m 96 #[.val (.int p0), .val (.int p1), .val (.int p2), .val (.int v3), .val (.int v4), .val (.int v5), .val (.int v6), .val (.int w0)] [(.int (1 : Int32))])) _ _ _ _
          refine own_go (fun t k => XS.goto X.here hx rfl (pc0 := 96) (pc' := 100) rfl (hb hby at_96) (by decide) (by decide) k) ?_
          show own_G _ _ _ (T.setTop (mkF m 100 #[.val (.int p0), .val (.int p1), .val (.int p2), .val (.int v3), .val (.int v4), .val (.int v5), .val (.int v6), .val (.int w0)] [(.int (1 : Int32))])) _ _ _ _
          exact J100 _ _ X eT N v3 v4 v5 v6 w0 (1 : Int32) 
  have J49 : ∀ (T : State) (Lc : List Loc) (X : Stand p l e room_1 s m #[(.int p0), (.int p1), (.int p2)] below meth c T Lc 0 0) (eT : T.heap = h0) (N : Fr n0 Lc) (v3 : Int32) (v4 : Int32) (w0 : Int32) , own_G p.tables e below (T.setTop (mkF m 49 #[.val (.int p0), .val (.int p1), .val (.int p2), .val (.int v3), .val (.int v4), .unset, .unset, .unset] [(.int w0)])) s room_1.cells room_1.slots (own_P n0 h0 (some (.int (own_law_49 p0 p1 p2 v3 v4 w0)))) := by
    intro T Lc X eT N v3 v4 w0 
    show own_G _ _ _ _ _ _ _ (own_P n0 h0 (some (.int ((if (own_undec ((56320 : Int32) + ((128 : Int32) ||| (p2 &&& (127 : Int32))))) = ((128 : Int32) ||| (p2 &&& (127 : Int32))) then (own_law_79 p0 p1 p2 v3 v4 w0 ((128 : Int32) ||| (p2 &&& (127 : Int32))) (1 : Int32)) else (own_law_79 p0 p1 p2 v3 v4 w0 ((128 : Int32) ||| (p2 &&& (127 : Int32))) (0 : Int32)))))))
    refine own_go (fun t k => XS.istore X.here hx rfl (hb hby at_49) rfl (l' := #[.val (.int p0), .val (.int p1), .val (.int p2), .val (.int v3), .val (.int v4), .val (.int w0), .unset, .unset]) rfl k) ?_
    show own_G _ _ _ (T.setTop (mkF m 51 #[.val (.int p0), .val (.int p1), .val (.int p2), .val (.int v3), .val (.int v4), .val (.int w0), .unset, .unset] [])) _ _ _ _
    refine own_go (fun t k => XS.sipush X.here hx rfl (hb hby at_51) k) ?_
    show own_G _ _ _ (T.setTop (mkF m 54 #[.val (.int p0), .val (.int p1), .val (.int p2), .val (.int v3), .val (.int v4), .val (.int w0), .unset, .unset] [(.int (128 : Int32))])) _ _ _ _
    refine own_go (fun t k => XS.iloadN X.here hx rfl (hb hby at_54) rfl k) ?_
    show own_G _ _ _ (T.setTop (mkF m 55 #[.val (.int p0), .val (.int p1), .val (.int p2), .val (.int v3), .val (.int v4), .val (.int w0), .unset, .unset] [(.int p2), (.int (128 : Int32))])) _ _ _ _
    refine own_go (fun t k => XS.bipush X.here hx rfl (hb hby at_55) k) ?_
    show own_G _ _ _ (T.setTop (mkF m 57 #[.val (.int p0), .val (.int p1), .val (.int p2), .val (.int v3), .val (.int v4), .val (.int w0), .unset, .unset] [(.int (127 : Int32)), (.int p2), (.int (128 : Int32))])) _ _ _ _
    refine own_go (fun t k => XS.iand X.here hx rfl (hb hby at_57) rfl k) ?_
    show own_G _ _ _ (T.setTop (mkF m 58 #[.val (.int p0), .val (.int p1), .val (.int p2), .val (.int v3), .val (.int v4), .val (.int w0), .unset, .unset] [(.int (p2 &&& (127 : Int32))), (.int (128 : Int32))])) _ _ _ _
    refine own_go (fun t k => XS.ior X.here hx rfl (hb hby at_58) rfl k) ?_
    show own_G _ _ _ (T.setTop (mkF m 59 #[.val (.int p0), .val (.int p1), .val (.int p2), .val (.int v3), .val (.int v4), .val (.int w0), .unset, .unset] [(.int ((128 : Int32) ||| (p2 &&& (127 : Int32))))])) _ _ _ _
    refine own_go (fun t k => XS.istore X.here hx rfl (hb hby at_59) rfl (l' := #[.val (.int p0), .val (.int p1), .val (.int p2), .val (.int v3), .val (.int v4), .val (.int w0), .val (.int ((128 : Int32) ||| (p2 &&& (127 : Int32)))), .unset]) rfl k) ?_
    show own_G _ _ _ (T.setTop (mkF m 61 #[.val (.int p0), .val (.int p1), .val (.int p2), .val (.int v3), .val (.int v4), .val (.int w0), .val (.int ((128 : Int32) ||| (p2 &&& (127 : Int32)))), .unset] [])) _ _ _ _
    refine own_go (fun t k => X.ldcInt hx hown (mvT hZ (hw _ (List.mem_of_getElem? (i := 10) rfl))) (g := (mkF m 61 #[.val (.int p0), .val (.int p1), .val (.int p2), .val (.int v3), .val (.int v4), .val (.int w0), .val (.int ((128 : Int32) ||| (p2 &&& (127 : Int32)))), .unset] [])) rfl (hb hby at_61) _ k) ?_
    show own_G _ _ _ (T.setTop (mkF m 63 #[.val (.int p0), .val (.int p1), .val (.int p2), .val (.int v3), .val (.int v4), .val (.int w0), .val (.int ((128 : Int32) ||| (p2 &&& (127 : Int32)))), .unset] [(.int (56320 : Int32))])) _ _ _ _
    refine own_go (fun t k => XS.iload X.here hx rfl (hb hby at_63) rfl k) ?_
    show own_G _ _ _ (T.setTop (mkF m 65 #[.val (.int p0), .val (.int p1), .val (.int p2), .val (.int v3), .val (.int v4), .val (.int w0), .val (.int ((128 : Int32) ||| (p2 &&& (127 : Int32)))), .unset] [(.int ((128 : Int32) ||| (p2 &&& (127 : Int32)))), (.int (56320 : Int32))])) _ _ _ _
    refine own_go (fun t k => XS.iadd X.here hx rfl (hb hby at_65) rfl k) ?_
    show own_G _ _ _ (T.setTop (mkF m 66 #[.val (.int p0), .val (.int p1), .val (.int p2), .val (.int v3), .val (.int v4), .val (.int w0), .val (.int ((128 : Int32) ||| (p2 &&& (127 : Int32)))), .unset] [(.int ((56320 : Int32) + ((128 : Int32) ||| (p2 &&& (127 : Int32)))))])) _ _ _ _
    obtain ⟨_, _, ⟨T4, L4, k4, n4⟩, -, X4, ⟨Lc4, hQ4, l4, y4, z4⟩, st4⟩ := Jvm.LawKit.callS X hx (y := (⟨"com/example/sift5/sift5/text/Utf8", "undecodableByte", "(I)I"⟩ : MethodName)) hown (mvT hZ (hw _ (List.mem_of_getElem? (i := 0) rfl))) (mvT hZ (hw _ (List.mem_of_getElem? (i := 1) rfl))) (mvT hZ (hw _ (List.mem_of_getElem? (i := 2) rfl))) (mvT hZ (hw _ (List.mem_of_getElem? (i := 3) rfl))) (by decide) (backOf (W := 0) (rm1 l Z a0 hw [] ((56320 : Int32) + ((128 : Int32) ||| (p2 &&& (127 : Int32))))  h0 n0 ) hZ (hw _ (List.mem_of_getElem? (i := 3) rfl)) (hw _ (List.mem_of_getElem? (i := 2) rfl)) (by decide) (by decide)) (g := (mkF m 66 #[.val (.int p0), .val (.int p1), .val (.int p2), .val (.int v3), .val (.int v4), .val (.int w0), .val (.int ((128 : Int32) ||| (p2 &&& (127 : Int32)))), .unset] [(.int ((56320 : Int32) + ((128 : Int32) ||| (p2 &&& (127 : Int32)))))])) rfl (by rw [hml]; rfl) (argsL := [(.int ((56320 : Int32) + ((128 : Int32) ||| (p2 &&& (127 : Int32)))))]) (rest := []) (lenOf pd_0 rfl) rfl (by show 2 * 0 + _ ≤ _; exact Nat.le_of_eq rfl) (hb hby at_66) (fun _ _ => ⟨rfl, eT, (by decide : 0 + 0 ≤ _), (by decide : 0 + 0 ≤ _)⟩)
    dsimp only [Pt.U, Pt.locs, Pt.cells, Pt.slots] at X4 l4 y4 z4 st4 hQ4
    subst l4 y4 z4
    obtain ⟨rfl, N4q, e4⟩ := hQ4
    have N4 := Fr.app N N4q
    refine own_go (fun t k => st4 _ k) ?_
    show own_G _ _ _ (T4.setTop (mkF m 69 #[.val (.int p0), .val (.int p1), .val (.int p2), .val (.int v3), .val (.int v4), .val (.int w0), .val (.int ((128 : Int32) ||| (p2 &&& (127 : Int32)))), .unset] [(.int (own_undec ((56320 : Int32) + ((128 : Int32) ||| (p2 &&& (127 : Int32))))))])) _ _ _ _
    refine own_go (fun t k => XS.iload X4.here hx rfl (hb hby at_69) rfl k) ?_
    show own_G _ _ _ (T4.setTop (mkF m 71 #[.val (.int p0), .val (.int p1), .val (.int p2), .val (.int v3), .val (.int v4), .val (.int w0), .val (.int ((128 : Int32) ||| (p2 &&& (127 : Int32)))), .unset] [(.int ((128 : Int32) ||| (p2 &&& (127 : Int32)))), (.int (own_undec ((56320 : Int32) + ((128 : Int32) ||| (p2 &&& (127 : Int32))))))])) _ _ _ _
    by_cases hc5 : (own_undec ((56320 : Int32) + ((128 : Int32) ||| (p2 &&& (127 : Int32))))) = ((128 : Int32) ||| (p2 &&& (127 : Int32)))
    · refine own_itI hc5 ?_
      refine own_go (fun t k => XS.icmpNo X4.here hx rfl (hb hby at_71) rfl (teq hc5).2 k) ?_
      show own_G _ _ _ (T4.setTop (mkF m 74 #[.val (.int p0), .val (.int p1), .val (.int p2), .val (.int v3), .val (.int v4), .val (.int w0), .val (.int ((128 : Int32) ||| (p2 &&& (127 : Int32)))), .unset] [])) _ _ _ _
      refine own_go (fun t k => XS.iconst X4.here hx rfl (hb hby at_74) k) ?_
      show own_G _ _ _ (T4.setTop (mkF m 75 #[.val (.int p0), .val (.int p1), .val (.int p2), .val (.int v3), .val (.int v4), .val (.int w0), .val (.int ((128 : Int32) ||| (p2 &&& (127 : Int32)))), .unset] [(.int (1 : Int32))])) _ _ _ _
      refine own_go (fun t k => XS.goto X4.here hx rfl (pc0 := 75) (pc' := 79) rfl (hb hby at_75) (by decide) (by decide) k) ?_
      show own_G _ _ _ (T4.setTop (mkF m 79 #[.val (.int p0), .val (.int p1), .val (.int p2), .val (.int v3), .val (.int v4), .val (.int w0), .val (.int ((128 : Int32) ||| (p2 &&& (127 : Int32)))), .unset] [(.int (1 : Int32))])) _ _ _ _
      exact J79 _ _ X4 e4 N4 v3 v4 w0 ((128 : Int32) ||| (p2 &&& (127 : Int32))) (1 : Int32) 
    · refine own_ifI hc5 ?_
      refine own_go (fun t k => XS.icmpYes X4.here hx rfl (pc0 := 71) (pc' := 78) rfl (hb hby at_71) rfl (feq hc5).2 (by decide) (by decide) k) ?_
      show own_G _ _ _ (T4.setTop (mkF m 78 #[.val (.int p0), .val (.int p1), .val (.int p2), .val (.int v3), .val (.int v4), .val (.int w0), .val (.int ((128 : Int32) ||| (p2 &&& (127 : Int32)))), .unset] [])) _ _ _ _
      refine own_go (fun t k => XS.iconst X4.here hx rfl (hb hby at_78) k) ?_
      show own_G _ _ _ (T4.setTop (mkF m 79 #[.val (.int p0), .val (.int p1), .val (.int p2), .val (.int v3), .val (.int v4), .val (.int w0), .val (.int ((128 : Int32) ||| (p2 &&& (127 : Int32)))), .unset] [(.int (0 : Int32))])) _ _ _ _
      exact J79 _ _ X4 e4 N4 v3 v4 w0 ((128 : Int32) ||| (p2 &&& (127 : Int32))) (0 : Int32) 
  have J16 : ∀ (T : State) (Lc : List Loc) (X : Stand p l e room_1 s m #[(.int p0), (.int p1), (.int p2)] below meth c T Lc 0 0) (eT : T.heap = h0) (N : Fr n0 Lc) (w0 : Int32) , own_G p.tables e below (T.setTop (mkF m 16 #[.val (.int p0), .val (.int p1), .val (.int p2), .unset, .unset, .unset, .unset, .unset] [(.int w0)])) s room_1.cells room_1.slots (own_P n0 h0 (some (.int (own_law_16 p0 p1 p2 w0)))) := by
    intro T Lc X eT N w0 
    show own_G _ _ _ _ _ _ _ (own_P n0 h0 (some (.int ((if (own_undec ((56320 : Int32) + ((p1 &&& (1023 : Int32)) - (256 : Int32)))) = (own_exp ((56320 : Int32) + ((p1 &&& (1023 : Int32)) - (256 : Int32)))) then (own_law_49 p0 p1 p2 w0 ((56320 : Int32) + ((p1 &&& (1023 : Int32)) - (256 : Int32))) (1 : Int32)) else (own_law_49 p0 p1 p2 w0 ((56320 : Int32) + ((p1 &&& (1023 : Int32)) - (256 : Int32))) (0 : Int32)))))))
    refine own_go (fun t k => XS.istoreN X.here hx rfl (hb hby at_16) rfl (l' := #[.val (.int p0), .val (.int p1), .val (.int p2), .val (.int w0), .unset, .unset, .unset, .unset]) rfl k) ?_
    show own_G _ _ _ (T.setTop (mkF m 17 #[.val (.int p0), .val (.int p1), .val (.int p2), .val (.int w0), .unset, .unset, .unset, .unset] [])) _ _ _ _
    refine own_go (fun t k => X.ldcInt hx hown (mvT hZ (hw _ (List.mem_of_getElem? (i := 10) rfl))) (g := (mkF m 17 #[.val (.int p0), .val (.int p1), .val (.int p2), .val (.int w0), .unset, .unset, .unset, .unset] [])) rfl (hb hby at_17) _ k) ?_
    show own_G _ _ _ (T.setTop (mkF m 19 #[.val (.int p0), .val (.int p1), .val (.int p2), .val (.int w0), .unset, .unset, .unset, .unset] [(.int (56320 : Int32))])) _ _ _ _
    refine own_go (fun t k => XS.iloadN X.here hx rfl (hb hby at_19) rfl k) ?_
    show own_G _ _ _ (T.setTop (mkF m 20 #[.val (.int p0), .val (.int p1), .val (.int p2), .val (.int w0), .unset, .unset, .unset, .unset] [(.int p1), (.int (56320 : Int32))])) _ _ _ _
    refine own_go (fun t k => XS.sipush X.here hx rfl (hb hby at_20) k) ?_
    show own_G _ _ _ (T.setTop (mkF m 23 #[.val (.int p0), .val (.int p1), .val (.int p2), .val (.int w0), .unset, .unset, .unset, .unset] [(.int (1023 : Int32)), (.int p1), (.int (56320 : Int32))])) _ _ _ _
    refine own_go (fun t k => XS.iand X.here hx rfl (hb hby at_23) rfl k) ?_
    show own_G _ _ _ (T.setTop (mkF m 24 #[.val (.int p0), .val (.int p1), .val (.int p2), .val (.int w0), .unset, .unset, .unset, .unset] [(.int (p1 &&& (1023 : Int32))), (.int (56320 : Int32))])) _ _ _ _
    refine own_go (fun t k => XS.sipush X.here hx rfl (hb hby at_24) k) ?_
    show own_G _ _ _ (T.setTop (mkF m 27 #[.val (.int p0), .val (.int p1), .val (.int p2), .val (.int w0), .unset, .unset, .unset, .unset] [(.int (256 : Int32)), (.int (p1 &&& (1023 : Int32))), (.int (56320 : Int32))])) _ _ _ _
    refine own_go (fun t k => XS.isub X.here hx rfl (hb hby at_27) rfl k) ?_
    show own_G _ _ _ (T.setTop (mkF m 28 #[.val (.int p0), .val (.int p1), .val (.int p2), .val (.int w0), .unset, .unset, .unset, .unset] [(.int ((p1 &&& (1023 : Int32)) - (256 : Int32))), (.int (56320 : Int32))])) _ _ _ _
    refine own_go (fun t k => XS.iadd X.here hx rfl (hb hby at_28) rfl k) ?_
    show own_G _ _ _ (T.setTop (mkF m 29 #[.val (.int p0), .val (.int p1), .val (.int p2), .val (.int w0), .unset, .unset, .unset, .unset] [(.int ((56320 : Int32) + ((p1 &&& (1023 : Int32)) - (256 : Int32))))])) _ _ _ _
    refine own_go (fun t k => XS.istore X.here hx rfl (hb hby at_29) rfl (l' := #[.val (.int p0), .val (.int p1), .val (.int p2), .val (.int w0), .val (.int ((56320 : Int32) + ((p1 &&& (1023 : Int32)) - (256 : Int32)))), .unset, .unset, .unset]) rfl k) ?_
    show own_G _ _ _ (T.setTop (mkF m 31 #[.val (.int p0), .val (.int p1), .val (.int p2), .val (.int w0), .val (.int ((56320 : Int32) + ((p1 &&& (1023 : Int32)) - (256 : Int32)))), .unset, .unset, .unset] [])) _ _ _ _
    refine own_go (fun t k => XS.iload X.here hx rfl (hb hby at_31) rfl k) ?_
    show own_G _ _ _ (T.setTop (mkF m 33 #[.val (.int p0), .val (.int p1), .val (.int p2), .val (.int w0), .val (.int ((56320 : Int32) + ((p1 &&& (1023 : Int32)) - (256 : Int32)))), .unset, .unset, .unset] [(.int ((56320 : Int32) + ((p1 &&& (1023 : Int32)) - (256 : Int32))))])) _ _ _ _
    obtain ⟨_, _, ⟨T6, L6, k6, n6⟩, -, X6, ⟨Lc6, hQ6, l6, y6, z6⟩, st6⟩ := Jvm.LawKit.callS X hx (y := (⟨"com/example/sift5/sift5/text/Utf8", "undecodableByte", "(I)I"⟩ : MethodName)) hown (mvT hZ (hw _ (List.mem_of_getElem? (i := 0) rfl))) (mvT hZ (hw _ (List.mem_of_getElem? (i := 1) rfl))) (mvT hZ (hw _ (List.mem_of_getElem? (i := 2) rfl))) (mvT hZ (hw _ (List.mem_of_getElem? (i := 3) rfl))) (by decide) (backOf (W := 0) (rm1 l Z a0 hw [] ((56320 : Int32) + ((p1 &&& (1023 : Int32)) - (256 : Int32)))  h0 n0 ) hZ (hw _ (List.mem_of_getElem? (i := 3) rfl)) (hw _ (List.mem_of_getElem? (i := 2) rfl)) (by decide) (by decide)) (g := (mkF m 33 #[.val (.int p0), .val (.int p1), .val (.int p2), .val (.int w0), .val (.int ((56320 : Int32) + ((p1 &&& (1023 : Int32)) - (256 : Int32)))), .unset, .unset, .unset] [(.int ((56320 : Int32) + ((p1 &&& (1023 : Int32)) - (256 : Int32))))])) rfl (by rw [hml]; rfl) (argsL := [(.int ((56320 : Int32) + ((p1 &&& (1023 : Int32)) - (256 : Int32))))]) (rest := []) (lenOf pd_0 rfl) rfl (by show 2 * 0 + _ ≤ _; exact Nat.le_of_eq rfl) (hb hby at_33) (fun _ _ => ⟨rfl, eT, (by decide : 0 + 0 ≤ _), (by decide : 0 + 0 ≤ _)⟩)
    dsimp only [Pt.U, Pt.locs, Pt.cells, Pt.slots] at X6 l6 y6 z6 st6 hQ6
    subst l6 y6 z6
    obtain ⟨rfl, N6q, e6⟩ := hQ6
    have N6 := Fr.app N N6q
    refine own_go (fun t k => st6 _ k) ?_
    show own_G _ _ _ (T6.setTop (mkF m 36 #[.val (.int p0), .val (.int p1), .val (.int p2), .val (.int w0), .val (.int ((56320 : Int32) + ((p1 &&& (1023 : Int32)) - (256 : Int32)))), .unset, .unset, .unset] [(.int (own_undec ((56320 : Int32) + ((p1 &&& (1023 : Int32)) - (256 : Int32)))))])) _ _ _ _
    refine own_go (fun t k => XS.iload X6.here hx rfl (hb hby at_36) rfl k) ?_
    show own_G _ _ _ (T6.setTop (mkF m 38 #[.val (.int p0), .val (.int p1), .val (.int p2), .val (.int w0), .val (.int ((56320 : Int32) + ((p1 &&& (1023 : Int32)) - (256 : Int32)))), .unset, .unset, .unset] [(.int ((56320 : Int32) + ((p1 &&& (1023 : Int32)) - (256 : Int32)))), (.int (own_undec ((56320 : Int32) + ((p1 &&& (1023 : Int32)) - (256 : Int32)))))])) _ _ _ _
    obtain ⟨_, _, ⟨T7, L7, k7, n7⟩, -, X7, ⟨Lc7, hQ7, l7, y7, z7⟩, st7⟩ := Jvm.LawKit.callS X6 hx (y := (⟨"com/example/sift5/sift5/text/Utf8UndecodableBytePinLaw", "expected", "(I)I"⟩ : MethodName)) hown (mvT hZ (hw _ (List.mem_of_getElem? (i := 5) rfl))) (mvT hZ (hw _ (List.mem_of_getElem? (i := 6) rfl))) (mvT hZ (hw _ (List.mem_of_getElem? (i := 7) rfl))) (mvT hZ (hw _ (List.mem_of_getElem? (i := 8) rfl))) (by decide) (backOf (W := 1) (rm2 l Z a0 hw [] ((56320 : Int32) + ((p1 &&& (1023 : Int32)) - (256 : Int32)))  h0 n0 ) hZ (hw _ (List.mem_of_getElem? (i := 8) rfl)) (hw _ (List.mem_of_getElem? (i := 7) rfl)) (by decide) (by decide)) (g := (mkF m 38 #[.val (.int p0), .val (.int p1), .val (.int p2), .val (.int w0), .val (.int ((56320 : Int32) + ((p1 &&& (1023 : Int32)) - (256 : Int32)))), .unset, .unset, .unset] [(.int ((56320 : Int32) + ((p1 &&& (1023 : Int32)) - (256 : Int32)))), (.int (own_undec ((56320 : Int32) + ((p1 &&& (1023 : Int32)) - (256 : Int32)))))])) rfl (by rw [hml]; rfl) (argsL := [(.int ((56320 : Int32) + ((p1 &&& (1023 : Int32)) - (256 : Int32))))]) (rest := [(.int (own_undec ((56320 : Int32) + ((p1 &&& (1023 : Int32)) - (256 : Int32)))))]) (lenOf pd_0 rfl) rfl (by show 2 * 0 + _ ≤ _; exact Nat.le_of_eq rfl) (hb hby at_38) (fun _ _ => ⟨rfl, e6, (by decide : 0 + 0 ≤ _), (by decide : 0 + 0 ≤ _)⟩)
    dsimp only [Pt.U, Pt.locs, Pt.cells, Pt.slots] at X7 l7 y7 z7 st7 hQ7
    subst l7 y7 z7
    obtain ⟨rfl, N7q, e7⟩ := hQ7
    have N7 := Fr.app N6 N7q
    refine own_go (fun t k => st7 _ k) ?_
    show own_G _ _ _ (T7.setTop (mkF m 41 #[.val (.int p0), .val (.int p1), .val (.int p2), .val (.int w0), .val (.int ((56320 : Int32) + ((p1 &&& (1023 : Int32)) - (256 : Int32)))), .unset, .unset, .unset] [(.int (own_exp ((56320 : Int32) + ((p1 &&& (1023 : Int32)) - (256 : Int32))))), (.int (own_undec ((56320 : Int32) + ((p1 &&& (1023 : Int32)) - (256 : Int32)))))])) _ _ _ _
    by_cases hc8 : (own_undec ((56320 : Int32) + ((p1 &&& (1023 : Int32)) - (256 : Int32)))) = (own_exp ((56320 : Int32) + ((p1 &&& (1023 : Int32)) - (256 : Int32))))
    · refine own_itI hc8 ?_
      refine own_go (fun t k => XS.icmpNo X7.here hx rfl (hb hby at_41) rfl (teq hc8).2 k) ?_
      show own_G _ _ _ (T7.setTop (mkF m 44 #[.val (.int p0), .val (.int p1), .val (.int p2), .val (.int w0), .val (.int ((56320 : Int32) + ((p1 &&& (1023 : Int32)) - (256 : Int32)))), .unset, .unset, .unset] [])) _ _ _ _
      refine own_go (fun t k => XS.iconst X7.here hx rfl (hb hby at_44) k) ?_
      show own_G _ _ _ (T7.setTop (mkF m 45 #[.val (.int p0), .val (.int p1), .val (.int p2), .val (.int w0), .val (.int ((56320 : Int32) + ((p1 &&& (1023 : Int32)) - (256 : Int32)))), .unset, .unset, .unset] [(.int (1 : Int32))])) _ _ _ _
      refine own_go (fun t k => XS.goto X7.here hx rfl (pc0 := 45) (pc' := 49) rfl (hb hby at_45) (by decide) (by decide) k) ?_
      show own_G _ _ _ (T7.setTop (mkF m 49 #[.val (.int p0), .val (.int p1), .val (.int p2), .val (.int w0), .val (.int ((56320 : Int32) + ((p1 &&& (1023 : Int32)) - (256 : Int32)))), .unset, .unset, .unset] [(.int (1 : Int32))])) _ _ _ _
      exact J49 _ _ X7 e7 N7 w0 ((56320 : Int32) + ((p1 &&& (1023 : Int32)) - (256 : Int32))) (1 : Int32) 
    · refine own_ifI hc8 ?_
      refine own_go (fun t k => XS.icmpYes X7.here hx rfl (pc0 := 41) (pc' := 48) rfl (hb hby at_41) rfl (feq hc8).2 (by decide) (by decide) k) ?_
      show own_G _ _ _ (T7.setTop (mkF m 48 #[.val (.int p0), .val (.int p1), .val (.int p2), .val (.int w0), .val (.int ((56320 : Int32) + ((p1 &&& (1023 : Int32)) - (256 : Int32)))), .unset, .unset, .unset] [])) _ _ _ _
      refine own_go (fun t k => XS.iconst X7.here hx rfl (hb hby at_48) k) ?_
      show own_G _ _ _ (T7.setTop (mkF m 49 #[.val (.int p0), .val (.int p1), .val (.int p2), .val (.int w0), .val (.int ((56320 : Int32) + ((p1 &&& (1023 : Int32)) - (256 : Int32)))), .unset, .unset, .unset] [(.int (0 : Int32))])) _ _ _ _
      exact J49 _ _ X7 e7 N7 w0 ((56320 : Int32) + ((p1 &&& (1023 : Int32)) - (256 : Int32))) (0 : Int32) 
  show own_G p.tables e below (s₁.setTop (entryFrame m #[(.int p0), (.int p1), (.int p2)] maxLocals)) s room_1.cells room_1.slots (own_P n0 h0 (some (.int ((if (own_undec p0) = (own_exp p0) then (own_law_16 p0 p1 p2 (1 : Int32)) else (own_law_16 p0 p1 p2 (0 : Int32)))))))
  refine own_go (fun t k => castTop (ef_0 m p0 p1 p2) k) ?_
  refine own_go (fun t k => XS.iloadN X0.here hx rfl (hb hby at_0) rfl k) ?_
  show own_G _ _ _ (s₁.setTop (mkF m 1 #[.val (.int p0), .val (.int p1), .val (.int p2), .unset, .unset, .unset, .unset, .unset] [(.int p0)])) _ _ _ _
  obtain ⟨_, _, ⟨T9, L9, k9, n9⟩, -, X9, ⟨Lc9, hQ9, l9, y9, z9⟩, st9⟩ := Jvm.LawKit.callS X0 hx (y := (⟨"com/example/sift5/sift5/text/Utf8", "undecodableByte", "(I)I"⟩ : MethodName)) hown (mvT hZ (hw _ (List.mem_of_getElem? (i := 0) rfl))) (mvT hZ (hw _ (List.mem_of_getElem? (i := 1) rfl))) (mvT hZ (hw _ (List.mem_of_getElem? (i := 2) rfl))) (mvT hZ (hw _ (List.mem_of_getElem? (i := 3) rfl))) (by decide) (backOf (W := 0) (rm1 l Z a0 hw [] p0  h0 n0 ) hZ (hw _ (List.mem_of_getElem? (i := 3) rfl)) (hw _ (List.mem_of_getElem? (i := 2) rfl)) (by decide) (by decide)) (g := (mkF m 1 #[.val (.int p0), .val (.int p1), .val (.int p2), .unset, .unset, .unset, .unset, .unset] [(.int p0)])) rfl (by rw [hml]; rfl) (argsL := [(.int p0)]) (rest := []) (lenOf pd_0 rfl) rfl (by show 2 * 0 + _ ≤ _; exact Nat.le_of_eq rfl) (hb hby at_1) (fun _ _ => ⟨rfl, e0, (by decide : 0 + 0 ≤ _), (by decide : 0 + 0 ≤ _)⟩)
  dsimp only [Pt.U, Pt.locs, Pt.cells, Pt.slots] at X9 l9 y9 z9 st9 hQ9
  subst l9 y9 z9
  obtain ⟨rfl, N9q, e9⟩ := hQ9
  have N9 := Fr.app N0 N9q
  refine own_go (fun t k => st9 _ k) ?_
  show own_G _ _ _ (T9.setTop (mkF m 4 #[.val (.int p0), .val (.int p1), .val (.int p2), .unset, .unset, .unset, .unset, .unset] [(.int (own_undec p0))])) _ _ _ _
  refine own_go (fun t k => XS.iloadN X9.here hx rfl (hb hby at_4) rfl k) ?_
  show own_G _ _ _ (T9.setTop (mkF m 5 #[.val (.int p0), .val (.int p1), .val (.int p2), .unset, .unset, .unset, .unset, .unset] [(.int p0), (.int (own_undec p0))])) _ _ _ _
  obtain ⟨_, _, ⟨T10, L10, k10, n10⟩, -, X10, ⟨Lc10, hQ10, l10, y10, z10⟩, st10⟩ := Jvm.LawKit.callS X9 hx (y := (⟨"com/example/sift5/sift5/text/Utf8UndecodableBytePinLaw", "expected", "(I)I"⟩ : MethodName)) hown (mvT hZ (hw _ (List.mem_of_getElem? (i := 5) rfl))) (mvT hZ (hw _ (List.mem_of_getElem? (i := 6) rfl))) (mvT hZ (hw _ (List.mem_of_getElem? (i := 7) rfl))) (mvT hZ (hw _ (List.mem_of_getElem? (i := 8) rfl))) (by decide) (backOf (W := 1) (rm2 l Z a0 hw [] p0  h0 n0 ) hZ (hw _ (List.mem_of_getElem? (i := 8) rfl)) (hw _ (List.mem_of_getElem? (i := 7) rfl)) (by decide) (by decide)) (g := (mkF m 5 #[.val (.int p0), .val (.int p1), .val (.int p2), .unset, .unset, .unset, .unset, .unset] [(.int p0), (.int (own_undec p0))])) rfl (by rw [hml]; rfl) (argsL := [(.int p0)]) (rest := [(.int (own_undec p0))]) (lenOf pd_0 rfl) rfl (by show 2 * 0 + _ ≤ _; exact Nat.le_of_eq rfl) (hb hby at_5) (fun _ _ => ⟨rfl, e9, (by decide : 0 + 0 ≤ _), (by decide : 0 + 0 ≤ _)⟩)
  dsimp only [Pt.U, Pt.locs, Pt.cells, Pt.slots] at X10 l10 y10 z10 st10 hQ10
  subst l10 y10 z10
  obtain ⟨rfl, N10q, e10⟩ := hQ10
  have N10 := Fr.app N9 N10q
  refine own_go (fun t k => st10 _ k) ?_
  show own_G _ _ _ (T10.setTop (mkF m 8 #[.val (.int p0), .val (.int p1), .val (.int p2), .unset, .unset, .unset, .unset, .unset] [(.int (own_exp p0)), (.int (own_undec p0))])) _ _ _ _
  by_cases hc11 : (own_undec p0) = (own_exp p0)
  · refine own_itI hc11 ?_
    refine own_go (fun t k => XS.icmpNo X10.here hx rfl (hb hby at_8) rfl (teq hc11).2 k) ?_
    show own_G _ _ _ (T10.setTop (mkF m 11 #[.val (.int p0), .val (.int p1), .val (.int p2), .unset, .unset, .unset, .unset, .unset] [])) _ _ _ _
    refine own_go (fun t k => XS.iconst X10.here hx rfl (hb hby at_11) k) ?_
    show own_G _ _ _ (T10.setTop (mkF m 12 #[.val (.int p0), .val (.int p1), .val (.int p2), .unset, .unset, .unset, .unset, .unset] [(.int (1 : Int32))])) _ _ _ _
    refine own_go (fun t k => XS.goto X10.here hx rfl (pc0 := 12) (pc' := 16) rfl (hb hby at_12) (by decide) (by decide) k) ?_
    show own_G _ _ _ (T10.setTop (mkF m 16 #[.val (.int p0), .val (.int p1), .val (.int p2), .unset, .unset, .unset, .unset, .unset] [(.int (1 : Int32))])) _ _ _ _
    exact J16 _ _ X10 e10 N10 (1 : Int32) 
  · refine own_ifI hc11 ?_
    refine own_go (fun t k => XS.icmpYes X10.here hx rfl (pc0 := 8) (pc' := 15) rfl (hb hby at_8) rfl (feq hc11).2 (by decide) (by decide) k) ?_
    show own_G _ _ _ (T10.setTop (mkF m 15 #[.val (.int p0), .val (.int p1), .val (.int p2), .unset, .unset, .unset, .unset, .unset] [])) _ _ _ _
    refine own_go (fun t k => XS.iconst X10.here hx rfl (hb hby at_15) k) ?_
    show own_G _ _ _ (T10.setTop (mkF m 16 #[.val (.int p0), .val (.int p1), .val (.int p2), .unset, .unset, .unset, .unset, .unset] [(.int (0 : Int32))])) _ _ _ _
    exact J16 _ _ X10 e10 N10 (0 : Int32) 
theorem own_sub (a b : Int32) : ∃ k : Int, (a - b).toInt = a.toInt - b.toInt + 4294967296 * k ∧ -2147483648 ≤ (a - b).toInt ∧ (a-b).toInt < 2147483648 := by
  refine ⟨-((a.toInt - b.toInt - (a-b).toInt) / 4294967296), ?_, Int32.le_toInt _, Int32.toInt_lt _⟩
  have h := Int32.toInt_sub a b
  rw [Int.bmod_def] at h
  split at h <;> omega
theorem own_eq (p : Int32) : own_undec p = own_exp p := by
  simp only [own_undec, own_undec_23, own_undec_24, own_exp, own_exp_17]
  obtain ⟨k, e, h1, h2⟩ := own_sub p 56320
  have q1 := p.toInt_lt
  have q2 := p.le_toInt
  repeat' split
  all_goals simp only [Int32.lt_iff_toInt_lt, ← Int32.toInt_inj, Int32.reduceToInt] at *
  all_goals omega
theorem own_all : ∀ k : Fin 128, own_undec (56320 + (128 ||| Int32.ofInt (k.val : Int))) = 128 ||| Int32.ofInt (k.val : Int) := by decide +kernel
theorem own_trip (c : Int32) : own_undec (56320 + (128 ||| (c &&& 127))) = 128 ||| (c &&& 127) := by
  have e := Jvm.Kit.i32_mask c 127 (k := 7) (by decide) (by decide)
  have h : (c &&& 127).toInt = (((c.toInt % 128).toNat : Nat) : Int) := by rw [e]; omega
  have := own_all ⟨(c.toInt % 128).toNat, by omega⟩
  rw [show c &&& 127 = Int32.ofInt ((((c.toInt % 128).toNat : Nat) : Int)) by rw [← h, Int32.ofInt_toInt]]
  exact this
theorem own_law_true (a b c : Int32) : own_law a b c = 1 := by
  simp only [own_law, own_law_16, own_law_49, own_law_79, own_law_99, own_law_100, own_eq a, own_eq (56320 + _), own_trip, if_true]
  rw [← own_eq]
  simp only [own_trip]
  decide

set_option maxRecDepth 65536 in
set_option maxHeartbeats 40000000 in
theorem comes_1 {Post : Tables → Env → Array Value → State → Outcome → State → Prop} (hpost : ∀ tb e args s v u, (limb_1_1.after args s (.returned v) u = true ∧ limb_1_2.after args s (.returned v) u = true ∧ True) → FrameEnd s (.returned v) u (Jvm.fieldLocs frame_1_writes args s ++ Jvm.arrayLocs frame_1_arrays args s ++ Jvm.staticLocs frame_1_statics s) 0 0 → Post tb e args s (.returned v) u) :
    ArmFor flags0 classFile x code maxLocals ret World_1 tables_1 room_1 Calls_1 rest_1 Pre_1 Post := by
  intro l hfl _ _ p e ha hc hk s m args below hf hA hF happ hP
  obtain ⟨hcalls, hrest, hpre⟩ := hP
  obtain ⟨-, -, -, hnamed, -, -, -, hat⟩ := (Spec.applies_iff hf).mp happ
  obtain ⟨hg, hn⟩ := and_e (Cond.before_iff.mp (show (Jvm.Cond.and given_1 narrow_1).before args s = true from hpre))
  obtain ⟨g0, hg1⟩ := and_e hg
  obtain ⟨a0, r0⟩ := and_e hg1
  obtain ⟨a1, r1⟩ := and_e r0
  obtain ⟨w0, w1, w2, rfl⟩ : ∃ w0 w1 w2 : Value, args = #[w0, w1, w2] := by
    have hs : args.size = 3 := by simpa [Cond.value, given_1] using g0
    obtain ⟨L⟩ := args
    match L, hs with
    | [w0, w1, w2], _ => exact ⟨w0, w1, w2, rfl⟩
  have hw := fun d (hd : d ∈ tables_1) => atoms_spec (ws := Jvm.Cond.code x code maxLocals ret :: tables_1) hat d (List.mem_cons_of_mem _ hd)
  have hfit : Fit s := fun {y c} hc i hi => by
    obtain ⟨ha, rfl⟩ := Array.getElem?_eq_some_iff.mp hc
    have q := List.all_eq_true.mp ((Array.all_eq_true_iff_forall_mem.mp hF) _ (Array.getElem_mem ha)) i (List.mem_range.mpr hi)
    simpa [Array.getElem?_eq_getElem hi] using q
  obtain ⟨i0, ei0⟩ := is_v a0
  obtain rfl : w0 = (.int i0) := Option.some.inj ei0
  obtain ⟨i1, ei1⟩ := is_v a1
  obtain rfl : w1 = (.int i1) := Option.some.inj ei1
  obtain ⟨i2, ei2⟩ := is_v r1
  obtain rfl : w2 = (.int i2) := Option.some.inj ei2
  obtain ⟨n, o, h1, h2, h3, _, L, rfl, ⟨rfl, N, -⟩, hq⟩ := rm0 l s _ hw tables_1 i0 i1 i2  s.heap s.heap.size p e ha hc hk s m _ below hf ((Spec.applies_iff_loose hf).mp happ).1 ⟨rfl, State.Warmed39.refl s, rfl⟩ trivial
  refine ⟨n, _, h1, h2, h3, hpost _ _ _ _ _ _ ⟨Cond.after_iff.mpr rfl, Cond.after_iff.mpr (eq_i res_at (Term.int_eval (1)) (congrArg Value.int (own_law_true i0 i1 i2))), trivial⟩ ⟨hq.1, hq.2.1, (hq.2.2.sift fun y hy => Or.inr (N y hy)).mono (by decide) (by decide)⟩⟩
theorem main_1_1 : Claimed_1_1 := comes_1 fun _ _ _ _ _ _ h hF => ⟨h.1, hF⟩
theorem main_1_2 : Claimed_1_2 := comes_1 fun _ _ _ _ _ _ h hF => ⟨h.2.1, hF⟩
end Jvm.Pilot.@@N@@
namespace Jvm.Pilot.@@N@@
open Jvm Jvm.ClassFile Sem Op Lib Jvm.Free Jvm.Stand Jvm.Pilot.@@N@@.Jvm.D
/-! MADE BY PROGRAM (witnessworld.py) out of the Statement's table words and the real class files: 9 classes; the members and pool entries that the words name. The judged class is class 1, her method 2. -/
namespace start1
open Jvm.ClassFile
def u (s : String) : CpInfo := .utf8 (stringToUtf16 s)
/-- a pool by its gaps: so many unusable entries, then the entry; so many at the end -/
def gap : Nat → List CpInfo → List CpInfo
  | 0, r => r
  | n + 1, r => .unusable :: gap n r
def poolList (es : List (Nat × CpInfo)) (last : Nat) : List CpInfo := es.foldr (fun e r => gap e.1 (e.2 :: r)) (gap last [])
def pool (es : List (Nat × CpInfo)) (last : Nat) : Array CpInfo := ⟨poolList es last⟩
def fileOf (pool : Array CpInfo) (this : Nat) (attrs : Array Attribute := #[]) (ms : Array MethodInfo := #[]) (fl : Nat := 33) (sup : Nat := 0) (ifs : Array Nat := #[]) (fds : Array FieldInfo := #[]) : ClassFile where
  minorVersion := 0
  majorVersion := 65
  constantPool := pool
  accessFlags := fl
  thisClass := this
  superClass := sup
  interfaces := ifs
  fields := fds
  methods := ms
  attributes := attrs
def plain (name : String) (sup : Option ClassId) : Class where
  name := name
  kind := .ordinary
  loader := none
  accessFlags := 33
  super := sup
  interfaces := #[]
  cf := none
  fields := #[]
  methods := #[]
  instanceTypes := #[]
  staticTypes := #[]
  resolved := #[]
  callSites := []
  init := .initialized
  statics := none
  mirror := none

def pool0 : Array CpInfo := pool [(5, u "<init>"), (0, u "()V"), (1, .class_ 10), (1, u "java/lang/Object")] 113

def k0m0 : Method := { name := "<init>", desc := "()V", sig := { parameters := [], returnType := none }, accessFlags := 1, code := none }
/-- java/lang/Object -/
def k0 : Class := { plain "java/lang/Object" none with
  accessFlags := 33
  interfaces := #[]
  cf := some (fileOf pool0 8 #[] #[{ accessFlags := 1, nameIndex := 5, descriptorIndex := 6, attributes := #[] }] 33 0 #[] #[])
  fields := #[]
  methods := #[k0m0]
  instanceTypes := #[]
  staticTypes := #[]
  resolved := Array.replicate 124 none
  statics := none }

def pool1 : Array CpInfo := pool [(2, .class_ 4), (1, u "java/lang/Object"), (0, u "<init>"), (0, u "()V"), (0, .integer 56448), (0, .integer 56575), (0, .integer 56320), (0, .methodref 11 12), (0, .class_ 13), (0, .nameAndType 14 15), (0, u "com/example/sift5/sift5/text/Utf8"), (0, u "undecodableByte"), (0, u "(I)I"), (0, .methodref 17 18), (0, .class_ 19), (0, .nameAndType 20 15), (0, u "com/example/sift5/sift5/text/Utf8UndecodableBytePinLaw"), (0, u "expected"), (3, u "law"), (0, u "(III)Z")] 2

def k1m0 : Method := { name := "<init>", desc := "()V", sig := { parameters := [], returnType := none }, accessFlags := 2, code := none }
def k1c1 : Code := { maxStack := 2, maxLocals := 1, code := method_2_code, exceptionTable := #[], attributes := #[] }
def k1m1 : Method := { name := "expected", desc := "(I)I", sig := { parameters := [.int], returnType := some .int }, accessFlags := 10, code := some k1c1 }
def k1c2 : Code := { maxStack := 3, maxLocals := 8, code := code, exceptionTable := #[], attributes := #[] }
def k1m2 : Method := { name := "law", desc := "(III)Z", sig := { parameters := [.int, .int, .int], returnType := some .boolean }, accessFlags := 9, code := some k1c2 }
/-- com/example/sift5/sift5/text/Utf8UndecodableBytePinLaw -/
def k1 : Class := { plain "com/example/sift5/sift5/text/Utf8UndecodableBytePinLaw" (some 0) with
  accessFlags := 49
  interfaces := #[]
  cf := some (fileOf pool1 17 #[] #[{ accessFlags := 2, nameIndex := 5, descriptorIndex := 6, attributes := #[] }, { accessFlags := 10, nameIndex := 20, descriptorIndex := 15, attributes := #[] }, { accessFlags := 9, nameIndex := 24, descriptorIndex := 25, attributes := #[] }] 49 2 #[] #[])
  fields := #[]
  methods := #[k1m0, k1m1, k1m2]
  instanceTypes := #[]
  staticTypes := #[]
  resolved := Array.replicate 28 none
  statics := none }

def pool2 : Array CpInfo := pool [(2, .class_ 4), (1, u "java/lang/Object"), (0, u "<init>"), (0, u "()V"), (15, u "(I)I"), (19, .class_ 44), (1, u "com/example/sift5/sift5/text/Utf8"), (10, .integer 56320), (44, u "undecodableByte"), (0, u "UNDECODABLE"), (0, u "I"), (1, u "FIRST_NON_ASCII")] 29

def k2m0 : Method := { name := "<init>", desc := "()V", sig := { parameters := [], returnType := none }, accessFlags := 2, code := none }
def k2c1 : Code := { maxStack := 2, maxLocals := 2, code := prog_98_method_3_code, exceptionTable := #[], attributes := #[] }
def k2m1 : Method := { name := "undecodableByte", desc := "(I)I", sig := { parameters := [.int], returnType := some .int }, accessFlags := 9, code := some k2c1 }
/-- com/example/sift5/sift5/text/Utf8 -/
def k2 : Class := { plain "com/example/sift5/sift5/text/Utf8" (some 0) with
  accessFlags := 49
  interfaces := #[]
  cf := some (fileOf pool2 42 #[] #[{ accessFlags := 2, nameIndex := 5, descriptorIndex := 6, attributes := #[] }, { accessFlags := 9, nameIndex := 100, descriptorIndex := 22, attributes := #[] }] 49 2 #[] #[{ accessFlags := 26, nameIndex := 101, descriptorIndex := 102, attributes := #[] }, { accessFlags := 26, nameIndex := 104, descriptorIndex := 102, attributes := #[] }])
  fields := #[{ name := "UNDECODABLE", type := .int, accessFlags := 26, slot := 0, constantValue := 0 }, { name := "FIRST_NON_ASCII", type := .int, accessFlags := 26, slot := 1, constantValue := 0 }]
  methods := #[k2m0, k2m1]
  instanceTypes := #[]
  staticTypes := #[.int, .int]
  resolved := Array.replicate 134 none
  statics := none }

def pool3 : Array CpInfo := pool [(1, u "java/lang/Cloneable"), (0, .class_ 1), (0, u "java/lang/Object"), (0, .class_ 3)] 3

/-- java/lang/Cloneable -/
def k3 : Class := { plain "java/lang/Cloneable" (some 0) with
  accessFlags := 1537
  interfaces := #[]
  cf := some (fileOf pool3 2 #[] #[] 1537 4 #[] #[])
  fields := #[]
  methods := #[]
  instanceTypes := #[]
  staticTypes := #[]
  resolved := Array.replicate 8 none
  statics := none }

def pool4 : Array CpInfo := pool [(1, u "java/io/Serializable"), (0, .class_ 1), (0, u "java/lang/Object"), (0, .class_ 3)] 3

/-- java/io/Serializable -/
def k4 : Class := { plain "java/io/Serializable" (some 0) with
  accessFlags := 1537
  interfaces := #[]
  cf := some (fileOf pool4 2 #[] #[] 1537 4 #[] #[])
  fields := #[]
  methods := #[]
  instanceTypes := #[]
  staticTypes := #[]
  resolved := Array.replicate 8 none
  statics := none }

/-- the primitive byte -/
def k5 : Class := { plain "byte" none with kind := .primitive 'B', accessFlags := 0x411 }
/-- [B -/
def k6 : Class := { plain "[B" (some 0) with kind := .array 5 .byte, interfaces := #[3, 4], accessFlags := 1041 }

/-- the primitive int -/
def k7 : Class := { plain "int" none with kind := .primitive 'I', accessFlags := 0x411 }
/-- [I -/
def k8 : Class := { plain "[I" (some 0) with kind := .array 7 .int, interfaces := #[3, 4], accessFlags := 1041 }

def heap : Heap := #[]
def classes : Array Class := #[k0, k1, k2, k3, k4, k5, k6, k7, k8]
def interned : List (Array UInt16 × Addr) := []
def slotsUsed : Nat := 0
def theMethod : MethodId := ⟨1, 2⟩
def args0 : Array Value := #[.int 5, .int 6, .int 7]
def aboutOver (below : List Frame) : State where
  vm := { classes := classes, interned := interned.toArray }
  heap := heap
  slotsUsed := slotsUsed
  threads := #[{ frames := .invoking theMethod args0 :: below }]
def below0 : List Frame := [.native { method := ⟨0, 0⟩, args := #[] }]
def about1 : State := aboutOver below0
def p0 : Program := .bare "" "" ""
def e0 : Env := launch0.env 0 0 0
theorem w_frames : about1.frames = Frame.invoking theMethod args0 :: below0 := rfl
set_option maxRecDepth 65536 in
theorem w_args : argsFit about1.vm theMethod args0 = true := by decide +kernel
set_option maxRecDepth 65536 in
theorem w_heap : heapFits about1 = true := by decide +kernel
set_option maxRecDepth 65536 in
theorem w_runnable : about1.curStatus? = some .runnable := by decide +kernel
set_option maxRecDepth 65536 in
theorem w_alone : about1.alone = true := by decide +kernel
set_option maxRecDepth 65536 in
theorem w_named : about1.methodNamed? x = some theMethod := by decide +kernel
set_option maxRecDepth 65536 in
theorem w_hears : about1.hears theMethod below0 = true := by decide +kernel
set_option maxRecDepth 65536 in
theorem w_ripe : about1.ripe theMethod args0 below0 = true := by decide +kernel
theorem w_running : about1.status = .running := rfl
set_option maxRecDepth 65536 in
theorem w_room : about1.hasRoom e0.platform room_1 = true :=
  launch0.hasRoom_least _ room_1 (by decide +kernel) (by decide +kernel) (by decide +kernel) (by decide +kernel) (by decide +kernel) (by decide +kernel)
theorem allAtoms_all (ts : List Jvm.Cond) (a : Array Jvm.Value) (st : Jvm.State) : (allAtoms ts).before a st = ts.all (fun c => c.before a st) := by
  induction ts with
  | nil => rfl
  | cons c t ih =>
    show (Jvm.Cond.and c (allAtoms t)).before a st = _
    rw [Jvm.Cond.before_and, ih, List.all_cons]
def words1 : List Jvm.Cond := Jvm.Cond.code x code maxLocals ret :: tables_1
/-- a 'code' word, met by the world's own term for the bytes: nothing is compared byte by byte -/
theorem code_word {y : MethodName} {bytes : ByteArray} {mx : Nat} {rt : Option FieldType} {a : Array Value} {s : State} {m : MethodId} {meth : Method} {c : Code} (h1 : s.methodNamed? y = some m) (h2 : s.vm.method? m = some meth) (h3 : meth.code = some c) (h4 : c.code = bytes)
    (h5 : (c.maxLocals == mx && c.exceptionTable.isEmpty && decide (c.maxStack ≤ mostOperands) && decide (meth.sig.returnType = rt) && !meth.locks && decide (parseMethodDescriptor y.desc = some meth.sig)) = true) : (Jvm.Cond.code y bytes mx rt).before a s = true := by
  simp only [Bool.and_eq_true, beq_iff_eq, Bool.not_eq_true', decide_eq_true_eq] at h5
  obtain ⟨⟨⟨⟨⟨g1, g2⟩, g3⟩, g4⟩, g5⟩, g6⟩ := h5
  simp [Cond.before, Cond.holds, Cond.value, h1, h2, h3, h4, g1, g2, g3, g4, g5, g6]
def isCode : Jvm.Cond → Bool
  | .code _ _ _ _ => true
  | _ => false
theorem all_split {L : List Jvm.Cond} {P : Jvm.Cond → Bool} (h1 : L.all (fun c => isCode c || P c) = true) (h2 : ∀ c ∈ L.filter isCode, P c = true) : L.all P = true := by
  refine List.all_eq_true.mpr fun c hc => ?_
  have h := List.all_eq_true.mp h1 c hc
  rcases Bool.eq_false_or_eq_true (isCode c) with hi | hi
  · exact h2 c (List.mem_filter.mpr ⟨hc, hi⟩)
  · simpa [hi] using h
set_option maxRecDepth 65536 in
theorem w_c0 : (Jvm.Cond.code x code maxLocals ret).before args0 about1 = true := code_word (m := ⟨1, 2⟩) (meth := k1m2) (c := k1c2) (by decide +kernel) rfl rfl rfl (by decide +kernel)
set_option maxRecDepth 65536 in
theorem w_c1 : (Jvm.Cond.code ({ cls := "com/example/sift5/sift5/text/Utf8", name := "undecodableByte", desc := "(I)I" } : Jvm.MethodName) prog_98_method_3_code (2 : Nat) (Option.some Jvm.ClassFile.FieldType.int)).before args0 about1 = true := code_word (m := ⟨2, 1⟩) (meth := k2m1) (c := k2c1) (by decide +kernel) rfl rfl rfl (by decide +kernel)
set_option maxRecDepth 65536 in
theorem w_c2 : (Jvm.Cond.code ({ cls := "com/example/sift5/sift5/text/Utf8UndecodableBytePinLaw", name := "expected", desc := "(I)I" } : Jvm.MethodName) method_2_code (1 : Nat) (Option.some Jvm.ClassFile.FieldType.int)).before args0 about1 = true := code_word (m := ⟨1, 1⟩) (meth := k1m1) (c := k1c1) (by decide +kernel) rfl rfl rfl (by decide +kernel)
def codes1 : List Jvm.Cond := [Jvm.Cond.code x code maxLocals ret, Jvm.Cond.code ({ cls := "com/example/sift5/sift5/text/Utf8", name := "undecodableByte", desc := "(I)I" } : Jvm.MethodName) prog_98_method_3_code (2 : Nat) (Option.some Jvm.ClassFile.FieldType.int), Jvm.Cond.code ({ cls := "com/example/sift5/sift5/text/Utf8UndecodableBytePinLaw", name := "expected", desc := "(I)I" } : Jvm.MethodName) method_2_code (1 : Nat) (Option.some Jvm.ClassFile.FieldType.int)]
set_option maxRecDepth 65536 in
theorem codes_eq : words1.filter isCode = codes1 := rfl
theorem w_codes : ∀ c ∈ words1.filter isCode, c.before args0 about1 = true := by
  rw [codes_eq]
  intro c hc
  simp only [codes1, List.mem_cons, List.not_mem_nil, or_false] at hc
  rcases hc with rfl | rfl | rfl
  · exact w_c0
  · exact w_c1
  · exact w_c2
set_option maxRecDepth 65536 in
theorem w_t1 : words1.all (fun c => isCode c || c.before args0 about1) = true := by decide +kernel
theorem w_tables : (allAtoms (Jvm.Cond.code x code maxLocals ret :: tables_1)).before args0 about1 = true := by
  rw [allAtoms_all]
  show words1.all (fun c => c.before args0 about1) = true
  refine all_split ?_ w_codes
  rw [w_t1]
set_option maxRecDepth 65536 in
theorem w_case : (Jvm.Cond.and given_1 narrow_1).before args0 about1 = true := by decide +kernel
theorem w_applies : (headSpec (Jvm.Cond.code x code maxLocals ret :: tables_1) room_1).applies x e0.platform about1 = true :=
  (Spec.applies_iff w_frames).mpr ⟨w_running, w_runnable, w_alone, w_named, w_hears, w_ripe, w_room, w_tables⟩
theorem atStart : AtStart classFile x code maxLocals ret World_1 tables_1 room_1 Calls_1 rest_1 Pre_1 launch0 p0 e0 about1 theMethod args0 below0 :=
  ⟨lists_1, trivial, launch0.admits_env _ _ _, launch0.least_env, fairChoices_fair.cas, fairChoices_fair.clock, w_frames, w_args, w_heap, w_applies, trivial, trivial, w_case⟩
end start1
theorem witness_1 : WitnessClaimed_1 := ⟨start1.p0, start1.e0, start1.about1, start1.theMethod, start1.args0, start1.below0, start1.atStart⟩
end Jvm.Pilot.@@N@@
