import JvmDerived
import JvmDerived.Pilot.@@N@@Statement
import JvmDerived.Pilot.@@N@@Code
set_option linter.unusedVariables false
set_option linter.unusedSimpArgs false
@@BLOCK:NumsL.lean.txt@@
namespace Jvm.Pilot.@@N@@
open Jvm Jvm.ClassFile Sem Op Lib Jvm.Free Jvm.Stand Jvm.LawKit Jvm.RoadKit Bundle Jvm.Pilot.@@N@@.Jvm.D
/-! general: a run that comes to its end with what Q says -/
def own_G (tb : Tables) (e : Env) (below : List Frame) (S : State) (s : State) (C N : Nat) (Q : Option Value → Heap → List Loc → Prop) : Prop :=
  ∃ t o, Steps tb e below S t ∧ t.status = .running ∧ Ended t below o ∧ ∃ v L, o = .returned v ∧ Q v t.heap L ∧ FrameEnd s o t L C N
def own_P (n0 : Nat) (h0 : Heap) (w : Option Value) (v : Option Value) (h : Heap) (L : List Loc) : Prop := v = w ∧ Fr n0 L ∧ h = h0
section Own
variable {tb : Tables} {p : Program} {l : Launch} {e : Env} {R : Room} {s : State} {m : MethodId} {args : Array Value} {below : List Frame} {meth : Method} {c : Code} {T S S' : State} {locs : List Loc} {cells slots C N n0 : Nat} {h0 : Heap} {Q : Option Value → Heap → List Loc → Prop}
theorem own_go (h : ∀ t, Steps tb e below S' t → Steps tb e below S t) (k : own_G tb e below S' s C N Q) : own_G tb e below S s C N Q := by
  obtain ⟨t, o, a, b⟩ := k
  exact ⟨t, o, h t a, b⟩
theorem own_tr (h : Steps tb e below S S') (k : own_G tb e below S' s C N Q) : own_G tb e below S s C N Q := by
  obtain ⟨t, o, a, b⟩ := k
  exact ⟨t, o, h.trans a, b⟩
theorem own_itI {P : Prop} [Decidable P] {A B : Int32} (h : P) (k : own_G tb e below S s C N (own_P n0 h0 (some (.int A)))) : own_G tb e below S s C N (own_P n0 h0 (some (.int (if P then A else B)))) := by rw [if_pos h]; exact k
theorem own_ifI {P : Prop} [Decidable P] {A B : Int32} (h : ¬ P) (k : own_G tb e below S s C N (own_P n0 h0 (some (.int B)))) : own_G tb e below S s C N (own_P n0 h0 (some (.int (if P then A else B)))) := by rw [if_neg h]; exact k
theorem own_itJ {P : Prop} [Decidable P] {A B : Int64} (h : P) (k : own_G tb e below S s C N (own_P n0 h0 (some (.long A)))) : own_G tb e below S s C N (own_P n0 h0 (some (.long (if P then A else B)))) := by rw [if_pos h]; exact k
theorem own_ifJ {P : Prop} [Decidable P] {A B : Int64} (h : ¬ P) (k : own_G tb e below S s C N (own_P n0 h0 (some (.long B)))) : own_G tb e below S s C N (own_P n0 h0 (some (.long (if P then A else B)))) := by rw [if_neg h]; exact k
theorem own_endO {w : Value} {t : FieldType} {i : Instr} (X : Stand p l e R s m args below meth c T locs cells slots) (hx : p.tables.exec = Jvm.exec) (hlk : meth.locks = false) {pc : Nat} {Ls : Array Slot} {rest : List Value} (hret : meth.sig.returnType = some t) (hn : narrow t w = w)
    (hi : (i = .ireturn ∧ (t = .int ∨ t = .boolean ∨ t = .byte ∨ t = .char ∨ t = .short) ∧ ∃ z, w = .int z) ∨ (i = .lreturn ∧ t = .long ∧ ∃ z, w = .long z) ∨ (i = .dreturn ∧ t = .double ∧ ∃ z, w = .double z) ∨ (i = .freturn ∧ t = .float ∧ ∃ z, w = .float z) ∨ (i = .areturn ∧ t.isReference = true ∧ w.isRef = true))
    (hd : decode c.code pc = .ok (i, 1)) (hC : cells ≤ C) (hN : slots ≤ N) (hQ : Q (some w) T.heap locs) : own_G p.tables e below (T.setTop (mkF m pc Ls (w :: rest))) s C N Q := by
  obtain ⟨fs, hr, hrun, hended, hW, hsame⟩ := X.leave (v := some w) (fun h => by rw [hret] at h; cases h) hlk
  exact ⟨_, _, retOut X hx hret hn hi hd hr, hrun, hended, _, _, rfl, hQ, ⟨_, rfl⟩, hW, hsame.mono hC hN⟩
theorem own_endI {z : Int32} (X : Stand p l e R s m args below meth c T locs cells slots) (hx : p.tables.exec = Jvm.exec) (hlk : meth.locks = false) {pc : Nat} {Ls : Array Slot} {rest : List Value} (hret : meth.sig.returnType = some .int)
    (hd : decode c.code pc = .ok (.ireturn, 1)) (hC : cells ≤ C) (hN : slots ≤ N) (hQ : Q (some (.int z)) T.heap locs) : own_G p.tables e below (T.setTop (mkF m pc Ls (.int z :: rest))) s C N Q :=
  own_endO X hx hlk hret rfl (Or.inl ⟨rfl, Or.inl rfl, z, rfl⟩) hd hC hN hQ
theorem own_endJ {z : Int64} (X : Stand p l e R s m args below meth c T locs cells slots) (hx : p.tables.exec = Jvm.exec) (hlk : meth.locks = false) {pc : Nat} {Ls : Array Slot} {rest : List Value} (hret : meth.sig.returnType = some .long)
    (hd : decode c.code pc = .ok (.lreturn, 1)) (hC : cells ≤ C) (hN : slots ≤ N) (hQ : Q (some (.long z)) T.heap locs) : own_G p.tables e below (T.setTop (mkF m pc Ls (.long z :: rest))) s C N Q :=
  own_endO X hx hlk hret rfl (Or.inr (Or.inl ⟨rfl, rfl, z, rfl⟩)) hd hC hN hQ
theorem own_endR {w : Value} {t : FieldType} (X : Stand p l e R s m args below meth c T locs cells slots) (hx : p.tables.exec = Jvm.exec) (hlk : meth.locks = false) {pc : Nat} {Ls : Array Slot} {rest : List Value} (hret : meth.sig.returnType = some t) (hn : narrow t w = w) (ht : t.isReference = true) (hw : w.isRef = true)
    (hd : decode c.code pc = .ok (.areturn, 1)) (hC : cells ≤ C) (hN : slots ≤ N) (hQ : Q (some w) T.heap locs) : own_G p.tables e below (T.setTop (mkF m pc Ls (w :: rest))) s C N Q :=
  own_endO X hx hlk hret hn (Or.inr (Or.inr (Or.inr (Or.inr ⟨rfl, ht, hw⟩)))) hd hC hN hQ
theorem own_endN {z : Int32} {t : FieldType} (X : Stand p l e R s m args below meth c T locs cells slots) (hx : p.tables.exec = Jvm.exec) (hlk : meth.locks = false) {pc : Nat} {Ls : Array Slot} {rest : List Value} (hret : meth.sig.returnType = some t) (ht : t = .boolean ∨ t = .byte ∨ t = .char ∨ t = .short)
    (hd : decode c.code pc = .ok (.ireturn, 1)) (hC : cells ≤ C) (hN : slots ≤ N) (hQ : Q (some (.int (nar t z))) T.heap locs) : own_G p.tables e below (T.setTop (mkF m pc Ls (.int z :: rest))) s C N Q := by
  obtain ⟨fs, hr, hrun, hended, hW, hsame⟩ := X.leave (v := some (.int (nar t z))) (fun h => by rw [hret] at h; cases h) hlk
  exact ⟨_, _, retN X hx hret ht hd hr, hrun, hended, _, _, rfl, hQ, ⟨_, rfl⟩, hW, hsame.mono hC hN⟩
theorem own_endV (X : Stand p l e R s m args below meth c T locs cells slots) (hx : p.tables.exec = Jvm.exec) (hlk : meth.locks = false) {pc : Nat} {Ls : Array Slot} (hret : meth.sig.returnType = none)
    (hd : decode c.code pc = .ok (.return_, 1)) (hC : cells ≤ C) (hN : slots ≤ N) (hQ : Q none T.heap locs) : own_G p.tables e below (T.setTop (mkF m pc Ls [])) s C N Q := by
  obtain ⟨fs, hr, hrun, hended, hW, hsame⟩ := X.leave (v := none) (fun _ => rfl) hlk
  exact ⟨_, _, X.returnOut hx hret hd hr, hrun, hended, _, _, rfl, hQ, ⟨_, rfl⟩, hW, hsame.mono hC hN⟩
end Own
theorem d1_0 : decode method_2_code 0 = .ok (.iload_n 0, 1) := by decide +kernel
theorem d1_1 : decode method_2_code 1 = .ok (.ifCond .ne 5, 3) := by decide +kernel
theorem d1_4 : decode method_2_code 4 = .ok (.iconst 0, 1) := by decide +kernel
theorem d1_5 : decode method_2_code 5 = .ok (.ireturn, 1) := by decide +kernel
theorem d1_6 : decode method_2_code 6 = .ok (.iload_n 0, 1) := by decide +kernel
theorem d1_7 : decode method_2_code 7 = .ok (.iconst 1, 1) := by decide +kernel
theorem d1_8 : decode method_2_code 8 = .ok (.if_icmp .ne 6, 3) := by decide +kernel
theorem d1_11 : decode method_2_code 11 = .ok (.bipush 10, 2) := by decide +kernel
theorem d1_13 : decode method_2_code 13 = .ok (.ireturn, 1) := by decide +kernel
theorem d1_14 : decode method_2_code 14 = .ok (.iload_n 0, 1) := by decide +kernel
theorem d1_15 : decode method_2_code 15 = .ok (.iconst 2, 1) := by decide +kernel
theorem d1_16 : decode method_2_code 16 = .ok (.if_icmp .ne 6, 3) := by decide +kernel
theorem d1_19 : decode method_2_code 19 = .ok (.bipush 14, 2) := by decide +kernel
theorem d1_21 : decode method_2_code 21 = .ok (.ireturn, 1) := by decide +kernel
theorem d1_22 : decode method_2_code 22 = .ok (.iload_n 0, 1) := by decide +kernel
theorem d1_23 : decode method_2_code 23 = .ok (.iconst 3, 1) := by decide +kernel
theorem d1_24 : decode method_2_code 24 = .ok (.if_icmp .ne 6, 3) := by decide +kernel
theorem d1_27 : decode method_2_code 27 = .ok (.bipush 32, 2) := by decide +kernel
theorem d1_29 : decode method_2_code 29 = .ok (.ireturn, 1) := by decide +kernel
theorem d1_30 : decode method_2_code 30 = .ok (.iload_n 0, 1) := by decide +kernel
theorem d1_31 : decode method_2_code 31 = .ok (.iconst 4, 1) := by decide +kernel
theorem d1_32 : decode method_2_code 32 = .ok (.if_icmp .ne 6, 3) := by decide +kernel
theorem d1_35 : decode method_2_code 35 = .ok (.ldc 7, 2) := by decide +kernel
theorem d1_37 : decode method_2_code 37 = .ok (.ireturn, 1) := by decide +kernel
theorem d1_38 : decode method_2_code 38 = .ok (.iload_n 0, 1) := by decide +kernel
theorem d1_39 : decode method_2_code 39 = .ok (.iconst 5, 1) := by decide +kernel
theorem d1_40 : decode method_2_code 40 = .ok (.if_icmp .ne 6, 3) := by decide +kernel
theorem d1_43 : decode method_2_code 43 = .ok (.ldc 8, 2) := by decide +kernel
theorem d1_45 : decode method_2_code 45 = .ok (.ireturn, 1) := by decide +kernel
theorem d1_46 : decode method_2_code 46 = .ok (.iload_n 0, 1) := by decide +kernel
theorem d1_47 : decode method_2_code 47 = .ok (.bipush 6, 2) := by decide +kernel
theorem d1_49 : decode method_2_code 49 = .ok (.if_icmp .ne 6, 3) := by decide +kernel
theorem d1_52 : decode method_2_code 52 = .ok (.ldc 9, 2) := by decide +kernel
theorem d1_54 : decode method_2_code 54 = .ok (.ireturn, 1) := by decide +kernel
theorem d1_55 : decode method_2_code 55 = .ok (.iload_n 0, 1) := by decide +kernel
theorem d1_56 : decode method_2_code 56 = .ok (.bipush 7, 2) := by decide +kernel
theorem d1_58 : decode method_2_code 58 = .ok (.if_icmp .ne 6, 3) := by decide +kernel
theorem d1_61 : decode method_2_code 61 = .ok (.ldc 10, 2) := by decide +kernel
theorem d1_63 : decode method_2_code 63 = .ok (.ireturn, 1) := by decide +kernel
theorem d1_64 : decode method_2_code 64 = .ok (.iload_n 0, 1) := by decide +kernel
theorem d1_65 : decode method_2_code 65 = .ok (.bipush 8, 2) := by decide +kernel
theorem d1_67 : decode method_2_code 67 = .ok (.if_icmp .ne 6, 3) := by decide +kernel
theorem d1_70 : decode method_2_code 70 = .ok (.ldc 11, 2) := by decide +kernel
theorem d1_72 : decode method_2_code 72 = .ok (.ireturn, 1) := by decide +kernel
theorem d1_73 : decode method_2_code 73 = .ok (.ldc 14, 2) := by decide +kernel
theorem d1_75 : decode method_2_code 75 = .ok (.ireturn, 1) := by decide +kernel
def own_base (p0 : Int32) : Int32 := (if p0 = (0 : Int32) then (0 : Int32) else (if p0 = (1 : Int32) then (10 : Int32) else (if p0 = (2 : Int32) then (14 : Int32) else (if p0 = (3 : Int32) then (32 : Int32) else (if p0 = (4 : Int32) then (55296 : Int32) else (if p0 = (5 : Int32) then (57344 : Int32) else (if p0 = (6 : Int32) then (65534 : Int32) else (if p0 = (7 : Int32) then (65536 : Int32) else (if p0 = (8 : Int32) then (1114112 : Int32) else (-2147483648 : Int32))))))))))
theorem pn_0 : plainName "com/example/issuerd/issuerd/xml/DomIsXmlCharacterPinLaw" = true := by first | (simp [plainName, overriddenIn]; done) | decide +kernel
theorem ef_1 (m : MethodId) (p0 : Int32) : entryFrame m #[(.int p0)] 1 = mkF m 0 #[.val (.int p0)] [] := by first | (simp [entryFrame, mkF, argsToLocals, Value.category]; done) | rfl
set_option maxRecDepth 65536 in
set_option maxHeartbeats 40000000 in
theorem rm1 (l : Launch) (Z : State) (a0 : Array Value) (hw : ∀ d ∈ tables_1, d.before a0 Z = true) (ws : List Jvm.Cond) (p0 : Int32) (h0 : Heap) (n0 : Nat) :
    MetFree l (⟨"com/example/issuerd/issuerd/xml/DomIsXmlCharacterPinLaw", "base", "(I)I"⟩ : MethodName) (head1 (Jvm.Cond.code (⟨"com/example/issuerd/issuerd/xml/DomIsXmlCharacterPinLaw", "base", "(I)I"⟩ : MethodName) method_2_code 1 (some .int) :: ws) ({ frames := 0, cells := 0, slots := 0, locals := 0 } : Room)) (fun a U => a = #[(.int p0)] ∧ Z.Warmed39 U.vm ∧ U.heap = h0) (fun _ _ _ _ _ => True) (fun _ U o U' => ∃ v L, o = .returned v ∧ (own_P n0 h0 (some (.int (own_base p0)))) v U'.heap L ∧ FrameEnd U o U' L ({ frames := 0, cells := 0, slots := 0, locals := 0 } : Room).cells ({ frames := 0, cells := 0, slots := 0, locals := 0 } : Room).slots) := by
  refine MetFree.of_bodySF (plainFor_of_name pn_0) hisR ?_
  intro p e s m args below meth c s₁ Bd hml0 hP hK
  obtain ⟨rfl, hZ, hh⟩ := hP
  have hx := Bd.exec
  have hby := Bd.bytes
  have hml : c.maxLocals = 1 := hml0
  have hown : s.vm.findClass "com/example/issuerd/issuerd/xml/DomIsXmlCharacterPinLaw" = some m.cls := findClass_of_methodNamed Bd.named
  have hnm := (name_of_methodNamed Bd.named Bd.method).1
  have hlk : meth.locks = false := BodyLoose.notSynchronized Bd
  have X0 : Stand p l e ({ frames := 0, cells := 0, slots := 0, locals := 0 } : Room) s m #[(.int p0)] below meth c s₁ [] 0 0 := Stand.of_body Bd
  have e0 : s₁.heap = h0 := by rw [← hh, Bd.state]; rfl
  have N0 := Fr.nil n0
  show own_G p.tables e below (s₁.setTop (entryFrame m #[(.int p0)] 1)) s ({ frames := 0, cells := 0, slots := 0, locals := 0 } : Room).cells ({ frames := 0, cells := 0, slots := 0, locals := 0 } : Room).slots (own_P n0 h0 (some (.int ((if p0 = (0 : Int32) then (0 : Int32) else (if p0 = (1 : Int32) then (10 : Int32) else (if p0 = (2 : Int32) then (14 : Int32) else (if p0 = (3 : Int32) then (32 : Int32) else (if p0 = (4 : Int32) then (55296 : Int32) else (if p0 = (5 : Int32) then (57344 : Int32) else (if p0 = (6 : Int32) then (65534 : Int32) else (if p0 = (7 : Int32) then (65536 : Int32) else (if p0 = (8 : Int32) then (1114112 : Int32) else (-2147483648 : Int32))))))))))))))
  refine own_go (fun t k => castTop (ef_1 m p0) k) ?_
  refine own_go (fun t k => XS.iloadN X0.here hx rfl (hb hby d1_0) rfl k) ?_
  show own_G _ _ _ (s₁.setTop (mkF m 1 #[.val (.int p0)] [(.int p0)])) _ _ _ _
  by_cases hc1 : p0 = (0 : Int32)
  · refine own_itI hc1 ?_
    refine own_go (fun t k => XS.ifNo X0.here hx rfl (hb hby d1_1) rfl ((if0 _ _).trans (teq hc1).2) k) ?_
    show own_G _ _ _ (s₁.setTop (mkF m 4 #[.val (.int p0)] [])) _ _ _ _
    refine own_go (fun t k => XS.iconst X0.here hx rfl (hb hby d1_4) k) ?_
    show own_G _ _ _ (s₁.setTop (mkF m 5 #[.val (.int p0)] [(.int (0 : Int32))])) _ _ _ _
    exact own_endI X0 hx hlk Bd.returns (hb hby d1_5) (by decide) (by decide) ⟨rfl, N0, e0⟩
  · refine own_ifI hc1 ?_
    refine own_go (fun t k => XS.ifYes X0.here hx rfl (pc0 := 1) (pc' := 6) rfl (hb hby d1_1) rfl ((if0 _ _).trans (feq hc1).2) (by decide) (by decide) k) ?_
    show own_G _ _ _ (s₁.setTop (mkF m 6 #[.val (.int p0)] [])) _ _ _ _
    refine own_go (fun t k => XS.iloadN X0.here hx rfl (hb hby d1_6) rfl k) ?_
    show own_G _ _ _ (s₁.setTop (mkF m 7 #[.val (.int p0)] [(.int p0)])) _ _ _ _
    refine own_go (fun t k => XS.iconst X0.here hx rfl (hb hby d1_7) k) ?_
    show own_G _ _ _ (s₁.setTop (mkF m 8 #[.val (.int p0)] [(.int (1 : Int32)), (.int p0)])) _ _ _ _
    by_cases hc2 : p0 = (1 : Int32)
    · refine own_itI hc2 ?_
      refine own_go (fun t k => XS.icmpNo X0.here hx rfl (hb hby d1_8) rfl (teq hc2).2 k) ?_
      show own_G _ _ _ (s₁.setTop (mkF m 11 #[.val (.int p0)] [])) _ _ _ _
      refine own_go (fun t k => XS.bipush X0.here hx rfl (hb hby d1_11) k) ?_
      show own_G _ _ _ (s₁.setTop (mkF m 13 #[.val (.int p0)] [(.int (10 : Int32))])) _ _ _ _
      exact own_endI X0 hx hlk Bd.returns (hb hby d1_13) (by decide) (by decide) ⟨rfl, N0, e0⟩
    · refine own_ifI hc2 ?_
      refine own_go (fun t k => XS.icmpYes X0.here hx rfl (pc0 := 8) (pc' := 14) rfl (hb hby d1_8) rfl (feq hc2).2 (by decide) (by decide) k) ?_
      show own_G _ _ _ (s₁.setTop (mkF m 14 #[.val (.int p0)] [])) _ _ _ _
      refine own_go (fun t k => XS.iloadN X0.here hx rfl (hb hby d1_14) rfl k) ?_
      show own_G _ _ _ (s₁.setTop (mkF m 15 #[.val (.int p0)] [(.int p0)])) _ _ _ _
      refine own_go (fun t k => XS.iconst X0.here hx rfl (hb hby d1_15) k) ?_
      show own_G _ _ _ (s₁.setTop (mkF m 16 #[.val (.int p0)] [(.int (2 : Int32)), (.int p0)])) _ _ _ _
      by_cases hc3 : p0 = (2 : Int32)
      · refine own_itI hc3 ?_
        refine own_go (fun t k => XS.icmpNo X0.here hx rfl (hb hby d1_16) rfl (teq hc3).2 k) ?_
        show own_G _ _ _ (s₁.setTop (mkF m 19 #[.val (.int p0)] [])) _ _ _ _
        refine own_go (fun t k => XS.bipush X0.here hx rfl (hb hby d1_19) k) ?_
        show own_G _ _ _ (s₁.setTop (mkF m 21 #[.val (.int p0)] [(.int (14 : Int32))])) _ _ _ _
        exact own_endI X0 hx hlk Bd.returns (hb hby d1_21) (by decide) (by decide) ⟨rfl, N0, e0⟩
      · refine own_ifI hc3 ?_
        refine own_go (fun t k => XS.icmpYes X0.here hx rfl (pc0 := 16) (pc' := 22) rfl (hb hby d1_16) rfl (feq hc3).2 (by decide) (by decide) k) ?_
        show own_G _ _ _ (s₁.setTop (mkF m 22 #[.val (.int p0)] [])) _ _ _ _
        refine own_go (fun t k => XS.iloadN X0.here hx rfl (hb hby d1_22) rfl k) ?_
        show own_G _ _ _ (s₁.setTop (mkF m 23 #[.val (.int p0)] [(.int p0)])) _ _ _ _
        refine own_go (fun t k => XS.iconst X0.here hx rfl (hb hby d1_23) k) ?_
        show own_G _ _ _ (s₁.setTop (mkF m 24 #[.val (.int p0)] [(.int (3 : Int32)), (.int p0)])) _ _ _ _
        by_cases hc4 : p0 = (3 : Int32)
        · refine own_itI hc4 ?_
          refine own_go (fun t k => XS.icmpNo X0.here hx rfl (hb hby d1_24) rfl (teq hc4).2 k) ?_
          show own_G _ _ _ (s₁.setTop (mkF m 27 #[.val (.int p0)] [])) _ _ _ _
          refine own_go (fun t k => XS.bipush X0.here hx rfl (hb hby d1_27) k) ?_
          show own_G _ _ _ (s₁.setTop (mkF m 29 #[.val (.int p0)] [(.int (32 : Int32))])) _ _ _ _
          exact own_endI X0 hx hlk Bd.returns (hb hby d1_29) (by decide) (by decide) ⟨rfl, N0, e0⟩
        · refine own_ifI hc4 ?_
          refine own_go (fun t k => XS.icmpYes X0.here hx rfl (pc0 := 24) (pc' := 30) rfl (hb hby d1_24) rfl (feq hc4).2 (by decide) (by decide) k) ?_
          show own_G _ _ _ (s₁.setTop (mkF m 30 #[.val (.int p0)] [])) _ _ _ _
          refine own_go (fun t k => XS.iloadN X0.here hx rfl (hb hby d1_30) rfl k) ?_
          show own_G _ _ _ (s₁.setTop (mkF m 31 #[.val (.int p0)] [(.int p0)])) _ _ _ _
          refine own_go (fun t k => XS.iconst X0.here hx rfl (hb hby d1_31) k) ?_
          show own_G _ _ _ (s₁.setTop (mkF m 32 #[.val (.int p0)] [(.int (4 : Int32)), (.int p0)])) _ _ _ _
          by_cases hc5 : p0 = (4 : Int32)
          · refine own_itI hc5 ?_
            refine own_go (fun t k => XS.icmpNo X0.here hx rfl (hb hby d1_32) rfl (teq hc5).2 k) ?_
            show own_G _ _ _ (s₁.setTop (mkF m 35 #[.val (.int p0)] [])) _ _ _ _
            refine own_go (fun t k => X0.ldcInt hx hown (mvT hZ (hw _ (List.mem_of_getElem? (i := 15) rfl))) (g := (mkF m 35 #[.val (.int p0)] [])) rfl (hb hby d1_35) _ k) ?_
            show own_G _ _ _ (s₁.setTop (mkF m 37 #[.val (.int p0)] [(.int (55296 : Int32))])) _ _ _ _
            exact own_endI X0 hx hlk Bd.returns (hb hby d1_37) (by decide) (by decide) ⟨rfl, N0, e0⟩
          · refine own_ifI hc5 ?_
            refine own_go (fun t k => XS.icmpYes X0.here hx rfl (pc0 := 32) (pc' := 38) rfl (hb hby d1_32) rfl (feq hc5).2 (by decide) (by decide) k) ?_
            show own_G _ _ _ (s₁.setTop (mkF m 38 #[.val (.int p0)] [])) _ _ _ _
            refine own_go (fun t k => XS.iloadN X0.here hx rfl (hb hby d1_38) rfl k) ?_
            show own_G _ _ _ (s₁.setTop (mkF m 39 #[.val (.int p0)] [(.int p0)])) _ _ _ _
            refine own_go (fun t k => XS.iconst X0.here hx rfl (hb hby d1_39) k) ?_
            show own_G _ _ _ (s₁.setTop (mkF m 40 #[.val (.int p0)] [(.int (5 : Int32)), (.int p0)])) _ _ _ _
            by_cases hc6 : p0 = (5 : Int32)
            · refine own_itI hc6 ?_
              refine own_go (fun t k => XS.icmpNo X0.here hx rfl (hb hby d1_40) rfl (teq hc6).2 k) ?_
              show own_G _ _ _ (s₁.setTop (mkF m 43 #[.val (.int p0)] [])) _ _ _ _
              refine own_go (fun t k => X0.ldcInt hx hown (mvT hZ (hw _ (List.mem_of_getElem? (i := 18) rfl))) (g := (mkF m 43 #[.val (.int p0)] [])) rfl (hb hby d1_43) _ k) ?_
              show own_G _ _ _ (s₁.setTop (mkF m 45 #[.val (.int p0)] [(.int (57344 : Int32))])) _ _ _ _
              exact own_endI X0 hx hlk Bd.returns (hb hby d1_45) (by decide) (by decide) ⟨rfl, N0, e0⟩
            · refine own_ifI hc6 ?_
              refine own_go (fun t k => XS.icmpYes X0.here hx rfl (pc0 := 40) (pc' := 46) rfl (hb hby d1_40) rfl (feq hc6).2 (by decide) (by decide) k) ?_
              show own_G _ _ _ (s₁.setTop (mkF m 46 #[.val (.int p0)] [])) _ _ _ _
              refine own_go (fun t k => XS.iloadN X0.here hx rfl (hb hby d1_46) rfl k) ?_
              show own_G _ _ _ (s₁.setTop (mkF m 47 #[.val (.int p0)] [(.int p0)])) _ _ _ _
              refine own_go (fun t k => XS.bipush X0.here hx rfl (hb hby d1_47) k) ?_
              show own_G _ _ _ (s₁.setTop (mkF m 49 #[.val (.int p0)] [(.int (6 : Int32)), (.int p0)])) _ _ _ _
              by_cases hc7 : p0 = (6 : Int32)
              · refine own_itI hc7 ?_
                refine own_go (fun t k => XS.icmpNo X0.here hx rfl (hb hby d1_49) rfl (teq hc7).2 k) ?_
                show own_G _ _ _ (s₁.setTop (mkF m 52 #[.val (.int p0)] [])) _ _ _ _
                refine own_go (fun t k => X0.ldcInt hx hown (mvT hZ (hw _ (List.mem_of_getElem? (i := 16) rfl))) (g := (mkF m 52 #[.val (.int p0)] [])) rfl (hb hby d1_52) _ k) ?_
                show own_G _ _ _ (s₁.setTop (mkF m 54 #[.val (.int p0)] [(.int (65534 : Int32))])) _ _ _ _
                exact own_endI X0 hx hlk Bd.returns (hb hby d1_54) (by decide) (by decide) ⟨rfl, N0, e0⟩
              · refine own_ifI hc7 ?_
                refine own_go (fun t k => XS.icmpYes X0.here hx rfl (pc0 := 49) (pc' := 55) rfl (hb hby d1_49) rfl (feq hc7).2 (by decide) (by decide) k) ?_
                show own_G _ _ _ (s₁.setTop (mkF m 55 #[.val (.int p0)] [])) _ _ _ _
                refine own_go (fun t k => XS.iloadN X0.here hx rfl (hb hby d1_55) rfl k) ?_
                show own_G _ _ _ (s₁.setTop (mkF m 56 #[.val (.int p0)] [(.int p0)])) _ _ _ _
                refine own_go (fun t k => XS.bipush X0.here hx rfl (hb hby d1_56) k) ?_
                show own_G _ _ _ (s₁.setTop (mkF m 58 #[.val (.int p0)] [(.int (7 : Int32)), (.int p0)])) _ _ _ _
                by_cases hc8 : p0 = (7 : Int32)
                · refine own_itI hc8 ?_
                  refine own_go (fun t k => XS.icmpNo X0.here hx rfl (hb hby d1_58) rfl (teq hc8).2 k) ?_
                  show own_G _ _ _ (s₁.setTop (mkF m 61 #[.val (.int p0)] [])) _ _ _ _
                  refine own_go (fun t k => X0.ldcInt hx hown (mvT hZ (hw _ (List.mem_of_getElem? (i := 21) rfl))) (g := (mkF m 61 #[.val (.int p0)] [])) rfl (hb hby d1_61) _ k) ?_
                  show own_G _ _ _ (s₁.setTop (mkF m 63 #[.val (.int p0)] [(.int (65536 : Int32))])) _ _ _ _
                  exact own_endI X0 hx hlk Bd.returns (hb hby d1_63) (by decide) (by decide) ⟨rfl, N0, e0⟩
                · refine own_ifI hc8 ?_
                  refine own_go (fun t k => XS.icmpYes X0.here hx rfl (pc0 := 58) (pc' := 64) rfl (hb hby d1_58) rfl (feq hc8).2 (by decide) (by decide) k) ?_
                  show own_G _ _ _ (s₁.setTop (mkF m 64 #[.val (.int p0)] [])) _ _ _ _
                  refine own_go (fun t k => XS.iloadN X0.here hx rfl (hb hby d1_64) rfl k) ?_
                  show own_G _ _ _ (s₁.setTop (mkF m 65 #[.val (.int p0)] [(.int p0)])) _ _ _ _
                  refine own_go (fun t k => XS.bipush X0.here hx rfl (hb hby d1_65) k) ?_
                  show own_G _ _ _ (s₁.setTop (mkF m 67 #[.val (.int p0)] [(.int (8 : Int32)), (.int p0)])) _ _ _ _
                  by_cases hc9 : p0 = (8 : Int32)
                  · refine own_itI hc9 ?_
                    refine own_go (fun t k => XS.icmpNo X0.here hx rfl (hb hby d1_67) rfl (teq hc9).2 k) ?_
                    show own_G _ _ _ (s₁.setTop (mkF m 70 #[.val (.int p0)] [])) _ _ _ _
                    refine own_go (fun t k => X0.ldcInt hx hown (mvT hZ (hw _ (List.mem_of_getElem? (i := 24) rfl))) (g := (mkF m 70 #[.val (.int p0)] [])) rfl (hb hby d1_70) _ k) ?_
                    show own_G _ _ _ (s₁.setTop (mkF m 72 #[.val (.int p0)] [(.int (1114112 : Int32))])) _ _ _ _
                    exact own_endI X0 hx hlk Bd.returns (hb hby d1_72) (by decide) (by decide) ⟨rfl, N0, e0⟩
                  · refine own_ifI hc9 ?_
                    refine own_go (fun t k => XS.icmpYes X0.here hx rfl (pc0 := 67) (pc' := 73) rfl (hb hby d1_67) rfl (feq hc9).2 (by decide) (by decide) k) ?_
                    show own_G _ _ _ (s₁.setTop (mkF m 73 #[.val (.int p0)] [])) _ _ _ _
                    refine own_go (fun t k => X0.ldcInt hx hown (mvT hZ (hw _ (List.mem_of_getElem? (i := 23) rfl))) (g := (mkF m 73 #[.val (.int p0)] [])) rfl (hb hby d1_73) _ k) ?_
                    show own_G _ _ _ (s₁.setTop (mkF m 75 #[.val (.int p0)] [(.int (-2147483648 : Int32))])) _ _ _ _
                    exact own_endI X0 hx hlk Bd.returns (hb hby d1_75) (by decide) (by decide) ⟨rfl, N0, e0⟩
theorem d2_0 : decode prog_48_method_9_code 0 = .ok (.iload_n 0, 1) := by decide +kernel
theorem d2_1 : decode prog_48_method_9_code 1 = .ok (.bipush 32, 2) := by decide +kernel
theorem d2_3 : decode prog_48_method_9_code 3 = .ok (.if_icmp .lt 9, 3) := by decide +kernel
theorem d2_6 : decode prog_48_method_9_code 6 = .ok (.iload_n 0, 1) := by decide +kernel
theorem d2_7 : decode prog_48_method_9_code 7 = .ok (.ldc 230, 2) := by decide +kernel
theorem d2_9 : decode prog_48_method_9_code 9 = .ok (.if_icmp .lt 45, 3) := by decide +kernel
theorem d2_12 : decode prog_48_method_9_code 12 = .ok (.iload_n 0, 1) := by decide +kernel
theorem d2_13 : decode prog_48_method_9_code 13 = .ok (.bipush 9, 2) := by decide +kernel
theorem d2_15 : decode prog_48_method_9_code 15 = .ok (.if_icmp .eq 39, 3) := by decide +kernel
theorem d2_18 : decode prog_48_method_9_code 18 = .ok (.iload_n 0, 1) := by decide +kernel
theorem d2_19 : decode prog_48_method_9_code 19 = .ok (.bipush 10, 2) := by decide +kernel
theorem d2_21 : decode prog_48_method_9_code 21 = .ok (.if_icmp .eq 33, 3) := by decide +kernel
theorem d2_24 : decode prog_48_method_9_code 24 = .ok (.iload_n 0, 1) := by decide +kernel
theorem d2_25 : decode prog_48_method_9_code 25 = .ok (.bipush 13, 2) := by decide +kernel
theorem d2_27 : decode prog_48_method_9_code 27 = .ok (.if_icmp .eq 27, 3) := by decide +kernel
theorem d2_30 : decode prog_48_method_9_code 30 = .ok (.iload_n 0, 1) := by decide +kernel
theorem d2_31 : decode prog_48_method_9_code 31 = .ok (.ldc 231, 2) := by decide +kernel
theorem d2_33 : decode prog_48_method_9_code 33 = .ok (.if_icmp .lt 9, 3) := by decide +kernel
theorem d2_36 : decode prog_48_method_9_code 36 = .ok (.iload_n 0, 1) := by decide +kernel
theorem d2_37 : decode prog_48_method_9_code 37 = .ok (.ldc 232, 2) := by decide +kernel
theorem d2_39 : decode prog_48_method_9_code 39 = .ok (.if_icmp .le 15, 3) := by decide +kernel
theorem d2_42 : decode prog_48_method_9_code 42 = .ok (.iload_n 0, 1) := by decide +kernel
theorem d2_43 : decode prog_48_method_9_code 43 = .ok (.ldc 233, 2) := by decide +kernel
theorem d2_45 : decode prog_48_method_9_code 45 = .ok (.if_icmp .lt 13, 3) := by decide +kernel
theorem d2_48 : decode prog_48_method_9_code 48 = .ok (.iload_n 0, 1) := by decide +kernel
theorem d2_49 : decode prog_48_method_9_code 49 = .ok (.ldc 234, 2) := by decide +kernel
theorem d2_51 : decode prog_48_method_9_code 51 = .ok (.if_icmp .gt 7, 3) := by decide +kernel
theorem d2_54 : decode prog_48_method_9_code 54 = .ok (.iconst 1, 1) := by decide +kernel
theorem d2_55 : decode prog_48_method_9_code 55 = .ok (.goto 4, 3) := by decide +kernel
theorem d2_58 : decode prog_48_method_9_code 58 = .ok (.iconst 0, 1) := by decide +kernel
theorem d2_59 : decode prog_48_method_9_code 59 = .ok (.ireturn, 1) := by decide +kernel
def own_isx_59 (p0 : Int32) (w0 : Int32) : Int32 := (w0 &&& 1)
def own_isx_58 (p0 : Int32)  : Int32 := (own_isx_59 p0 (0 : Int32))
def own_isx_54 (p0 : Int32)  : Int32 := (own_isx_59 p0 (1 : Int32))
def own_isx_42 (p0 : Int32)  : Int32 := (if p0 < (65536 : Int32) then (own_isx_58 p0 ) else (if (1114111 : Int32) < p0 then (own_isx_58 p0 ) else (own_isx_54 p0 )))
def own_isx_12 (p0 : Int32)  : Int32 := (if p0 = (9 : Int32) then (own_isx_54 p0 ) else (if p0 = (10 : Int32) then (own_isx_54 p0 ) else (if p0 = (13 : Int32) then (own_isx_54 p0 ) else (if p0 < (57344 : Int32) then (own_isx_42 p0 ) else (if (65533 : Int32) < p0 then (own_isx_42 p0 ) else (own_isx_54 p0 ))))))
def own_isx (p0 : Int32) : Int32 := (if p0 < (32 : Int32) then (own_isx_12 p0 ) else (if p0 < (55296 : Int32) then (own_isx_54 p0 ) else (own_isx_12 p0 )))
theorem pn_1 : plainName "com/example/issuerd/issuerd/xml/Dom" = true := by first | (simp [plainName, overriddenIn]; done) | decide +kernel
theorem ef_2 (m : MethodId) (p0 : Int32) : entryFrame m #[(.int p0)] 1 = mkF m 0 #[.val (.int p0)] [] := by first | (simp [entryFrame, mkF, argsToLocals, Value.category]; done) | rfl
set_option maxRecDepth 65536 in
set_option maxHeartbeats 40000000 in
theorem rm2 (l : Launch) (Z : State) (a0 : Array Value) (hw : ∀ d ∈ tables_1, d.before a0 Z = true) (ws : List Jvm.Cond) (p0 : Int32) (h0 : Heap) (n0 : Nat) :
    MetFree l (⟨"com/example/issuerd/issuerd/xml/Dom", "isXmlCharacter", "(I)Z"⟩ : MethodName) (head1 (Jvm.Cond.code (⟨"com/example/issuerd/issuerd/xml/Dom", "isXmlCharacter", "(I)Z"⟩ : MethodName) prog_48_method_9_code 1 (some .boolean) :: ws) ({ frames := 0, cells := 0, slots := 0, locals := 0 } : Room)) (fun a U => a = #[(.int p0)] ∧ Z.Warmed39 U.vm ∧ U.heap = h0) (fun _ _ _ _ _ => True) (fun _ U o U' => ∃ v L, o = .returned v ∧ (own_P n0 h0 (some (.int (own_isx p0)))) v U'.heap L ∧ FrameEnd U o U' L ({ frames := 0, cells := 0, slots := 0, locals := 0 } : Room).cells ({ frames := 0, cells := 0, slots := 0, locals := 0 } : Room).slots) := by
  refine MetFree.of_bodySF (plainFor_of_name pn_1) hisR ?_
  intro p e s m args below meth c s₁ Bd hml0 hP hK
  obtain ⟨rfl, hZ, hh⟩ := hP
  have hx := Bd.exec
  have hby := Bd.bytes
  have hml : c.maxLocals = 1 := hml0
  have hown : s.vm.findClass "com/example/issuerd/issuerd/xml/Dom" = some m.cls := findClass_of_methodNamed Bd.named
  have hnm := (name_of_methodNamed Bd.named Bd.method).1
  have hlk : meth.locks = false := BodyLoose.notSynchronized Bd
  have X0 : Stand p l e ({ frames := 0, cells := 0, slots := 0, locals := 0 } : Room) s m #[(.int p0)] below meth c s₁ [] 0 0 := Stand.of_body Bd
  have e0 : s₁.heap = h0 := by rw [← hh, Bd.state]; rfl
  have N0 := Fr.nil n0
  have J59 : ∀ (T : State) (Lc : List Loc) (X : Stand p l e ({ frames := 0, cells := 0, slots := 0, locals := 0 } : Room) s m #[(.int p0)] below meth c T Lc 0 0) (eT : T.heap = h0) (N : Fr n0 Lc) (w0 : Int32) , own_G p.tables e below (T.setTop (mkF m 59 #[.val (.int p0)] [(.int w0)])) s ({ frames := 0, cells := 0, slots := 0, locals := 0 } : Room).cells ({ frames := 0, cells := 0, slots := 0, locals := 0 } : Room).slots (own_P n0 h0 (some (.int (own_isx_59 p0 w0)))) := by
    intro T Lc X eT N w0 
    show own_G _ _ _ _ _ _ _ (own_P n0 h0 (some (.int ((w0 &&& 1)))))
    exact own_endN X hx hlk (t := .boolean) Bd.returns (by simp) (hb hby d2_59) (by decide) (by decide) ⟨rfl, N, eT⟩
  have J58 : ∀ (T : State) (Lc : List Loc) (X : Stand p l e ({ frames := 0, cells := 0, slots := 0, locals := 0 } : Room) s m #[(.int p0)] below meth c T Lc 0 0) (eT : T.heap = h0) (N : Fr n0 Lc)  , own_G p.tables e below (T.setTop (mkF m 58 #[.val (.int p0)] [])) s ({ frames := 0, cells := 0, slots := 0, locals := 0 } : Room).cells ({ frames := 0, cells := 0, slots := 0, locals := 0 } : Room).slots (own_P n0 h0 (some (.int (own_isx_58 p0 )))) := by
    intro T Lc X eT N  
    show own_G _ _ _ _ _ _ _ (own_P n0 h0 (some (.int ((own_isx_59 p0 (0 : Int32))))))
    refine own_go (fun t k => XS.iconst X.here hx rfl (hb hby d2_58) k) ?_
    show own_G _ _ _ (T.setTop (mkF m 59 #[.val (.int p0)] [(.int (0 : Int32))])) _ _ _ _
    exact J59 _ _ X eT N (0 : Int32) 
  have J54 : ∀ (T : State) (Lc : List Loc) (X : Stand p l e ({ frames := 0, cells := 0, slots := 0, locals := 0 } : Room) s m #[(.int p0)] below meth c T Lc 0 0) (eT : T.heap = h0) (N : Fr n0 Lc)  , own_G p.tables e below (T.setTop (mkF m 54 #[.val (.int p0)] [])) s ({ frames := 0, cells := 0, slots := 0, locals := 0 } : Room).cells ({ frames := 0, cells := 0, slots := 0, locals := 0 } : Room).slots (own_P n0 h0 (some (.int (own_isx_54 p0 )))) := by
    intro T Lc X eT N  
    show own_G _ _ _ _ _ _ _ (own_P n0 h0 (some (.int ((own_isx_59 p0 (1 : Int32))))))
    refine own_go (fun t k => XS.iconst X.here hx rfl (hb hby d2_54) k) ?_
    show own_G _ _ _ (T.setTop (mkF m 55 #[.val (.int p0)] [(.int (1 : Int32))])) _ _ _ _
    refine own_go (fun t k => XS.goto X.here hx rfl (pc0 := 55) (pc' := 59) rfl (hb hby d2_55) (by decide) (by decide) k) ?_
    show own_G _ _ _ (T.setTop (mkF m 59 #[.val (.int p0)] [(.int (1 : Int32))])) _ _ _ _
    exact J59 _ _ X eT N (1 : Int32) 
  have J42 : ∀ (T : State) (Lc : List Loc) (X : Stand p l e ({ frames := 0, cells := 0, slots := 0, locals := 0 } : Room) s m #[(.int p0)] below meth c T Lc 0 0) (eT : T.heap = h0) (N : Fr n0 Lc)  , own_G p.tables e below (T.setTop (mkF m 42 #[.val (.int p0)] [])) s ({ frames := 0, cells := 0, slots := 0, locals := 0 } : Room).cells ({ frames := 0, cells := 0, slots := 0, locals := 0 } : Room).slots (own_P n0 h0 (some (.int (own_isx_42 p0 )))) := by
    intro T Lc X eT N  
    show own_G _ _ _ _ _ _ _ (own_P n0 h0 (some (.int ((if p0 < (65536 : Int32) then (own_isx_58 p0 ) else (if (1114111 : Int32) < p0 then (own_isx_58 p0 ) else (own_isx_54 p0 )))))))
    refine own_go (fun t k => XS.iloadN X.here hx rfl (hb hby d2_42) rfl k) ?_
    show own_G _ _ _ (T.setTop (mkF m 43 #[.val (.int p0)] [(.int p0)])) _ _ _ _
    refine own_go (fun t k => X.ldcInt hx hown (mvT hZ (hw _ (List.mem_of_getElem? (i := 9) rfl))) (g := (mkF m 43 #[.val (.int p0)] [(.int p0)])) rfl (hb hby d2_43) _ k) ?_
    show own_G _ _ _ (T.setTop (mkF m 45 #[.val (.int p0)] [(.int (65536 : Int32)), (.int p0)])) _ _ _ _
    by_cases hc1 : p0 < (65536 : Int32)
    · refine own_itI hc1 ?_
      refine own_go (fun t k => XS.icmpYes X.here hx rfl (pc0 := 45) (pc' := 58) rfl (hb hby d2_45) rfl (tlt hc1).1 (by decide) (by decide) k) ?_
      show own_G _ _ _ (T.setTop (mkF m 58 #[.val (.int p0)] [])) _ _ _ _
      exact J58 _ _ X eT N  
    · refine own_ifI hc1 ?_
      refine own_go (fun t k => XS.icmpNo X.here hx rfl (hb hby d2_45) rfl (flt hc1).1 k) ?_
      show own_G _ _ _ (T.setTop (mkF m 48 #[.val (.int p0)] [])) _ _ _ _
      refine own_go (fun t k => XS.iloadN X.here hx rfl (hb hby d2_48) rfl k) ?_
      show own_G _ _ _ (T.setTop (mkF m 49 #[.val (.int p0)] [(.int p0)])) _ _ _ _
      refine own_go (fun t k => X.ldcInt hx hown (mvT hZ (hw _ (List.mem_of_getElem? (i := 22) rfl))) (g := (mkF m 49 #[.val (.int p0)] [(.int p0)])) rfl (hb hby d2_49) _ k) ?_
      show own_G _ _ _ (T.setTop (mkF m 51 #[.val (.int p0)] [(.int (1114111 : Int32)), (.int p0)])) _ _ _ _
      by_cases hc2 : (1114111 : Int32) < p0
      · refine own_itI hc2 ?_
        refine own_go (fun t k => XS.icmpYes X.here hx rfl (pc0 := 51) (pc' := 58) rfl (hb hby d2_51) rfl (tlt hc2).2.2.1 (by decide) (by decide) k) ?_
        show own_G _ _ _ (T.setTop (mkF m 58 #[.val (.int p0)] [])) _ _ _ _
        exact J58 _ _ X eT N  
      · refine own_ifI hc2 ?_
        refine own_go (fun t k => XS.icmpNo X.here hx rfl (hb hby d2_51) rfl (flt hc2).2.2.1 k) ?_
        show own_G _ _ _ (T.setTop (mkF m 54 #[.val (.int p0)] [])) _ _ _ _
        exact J54 _ _ X eT N  
  have J12 : ∀ (T : State) (Lc : List Loc) (X : Stand p l e ({ frames := 0, cells := 0, slots := 0, locals := 0 } : Room) s m #[(.int p0)] below meth c T Lc 0 0) (eT : T.heap = h0) (N : Fr n0 Lc)  , own_G p.tables e below (T.setTop (mkF m 12 #[.val (.int p0)] [])) s ({ frames := 0, cells := 0, slots := 0, locals := 0 } : Room).cells ({ frames := 0, cells := 0, slots := 0, locals := 0 } : Room).slots (own_P n0 h0 (some (.int (own_isx_12 p0 )))) := by
    intro T Lc X eT N  
    show own_G _ _ _ _ _ _ _ (own_P n0 h0 (some (.int ((if p0 = (9 : Int32) then (own_isx_54 p0 ) else (if p0 = (10 : Int32) then (own_isx_54 p0 ) else (if p0 = (13 : Int32) then (own_isx_54 p0 ) else (if p0 < (57344 : Int32) then (own_isx_42 p0 ) else (if (65533 : Int32) < p0 then (own_isx_42 p0 ) else (own_isx_54 p0 ))))))))))
    refine own_go (fun t k => XS.iloadN X.here hx rfl (hb hby d2_12) rfl k) ?_
    show own_G _ _ _ (T.setTop (mkF m 13 #[.val (.int p0)] [(.int p0)])) _ _ _ _
    refine own_go (fun t k => XS.bipush X.here hx rfl (hb hby d2_13) k) ?_
    show own_G _ _ _ (T.setTop (mkF m 15 #[.val (.int p0)] [(.int (9 : Int32)), (.int p0)])) _ _ _ _
    by_cases hc3 : p0 = (9 : Int32)
    · refine own_itI hc3 ?_
      refine own_go (fun t k => XS.icmpYes X.here hx rfl (pc0 := 15) (pc' := 54) rfl (hb hby d2_15) rfl (teq hc3).1 (by decide) (by decide) k) ?_
      show own_G _ _ _ (T.setTop (mkF m 54 #[.val (.int p0)] [])) _ _ _ _
      exact J54 _ _ X eT N  
    · refine own_ifI hc3 ?_
      refine own_go (fun t k => XS.icmpNo X.here hx rfl (hb hby d2_15) rfl (feq hc3).1 k) ?_
      show own_G _ _ _ (T.setTop (mkF m 18 #[.val (.int p0)] [])) _ _ _ _
      refine own_go (fun t k => XS.iloadN X.here hx rfl (hb hby d2_18) rfl k) ?_
      show own_G _ _ _ (T.setTop (mkF m 19 #[.val (.int p0)] [(.int p0)])) _ _ _ _
      refine own_go (fun t k => XS.bipush X.here hx rfl (hb hby d2_19) k) ?_
      show own_G _ _ _ (T.setTop (mkF m 21 #[.val (.int p0)] [(.int (10 : Int32)), (.int p0)])) _ _ _ _
      by_cases hc4 : p0 = (10 : Int32)
      · refine own_itI hc4 ?_
        refine own_go (fun t k => XS.icmpYes X.here hx rfl (pc0 := 21) (pc' := 54) rfl (hb hby d2_21) rfl (teq hc4).1 (by decide) (by decide) k) ?_
        show own_G _ _ _ (T.setTop (mkF m 54 #[.val (.int p0)] [])) _ _ _ _
        exact J54 _ _ X eT N  
      · refine own_ifI hc4 ?_
        refine own_go (fun t k => XS.icmpNo X.here hx rfl (hb hby d2_21) rfl (feq hc4).1 k) ?_
        show own_G _ _ _ (T.setTop (mkF m 24 #[.val (.int p0)] [])) _ _ _ _
        refine own_go (fun t k => XS.iloadN X.here hx rfl (hb hby d2_24) rfl k) ?_
        show own_G _ _ _ (T.setTop (mkF m 25 #[.val (.int p0)] [(.int p0)])) _ _ _ _
        refine own_go (fun t k => XS.bipush X.here hx rfl (hb hby d2_25) k) ?_
        show own_G _ _ _ (T.setTop (mkF m 27 #[.val (.int p0)] [(.int (13 : Int32)), (.int p0)])) _ _ _ _
        by_cases hc5 : p0 = (13 : Int32)
        · refine own_itI hc5 ?_
          refine own_go (fun t k => XS.icmpYes X.here hx rfl (pc0 := 27) (pc' := 54) rfl (hb hby d2_27) rfl (teq hc5).1 (by decide) (by decide) k) ?_
          show own_G _ _ _ (T.setTop (mkF m 54 #[.val (.int p0)] [])) _ _ _ _
          exact J54 _ _ X eT N  
        · refine own_ifI hc5 ?_
          refine own_go (fun t k => XS.icmpNo X.here hx rfl (hb hby d2_27) rfl (feq hc5).1 k) ?_
          show own_G _ _ _ (T.setTop (mkF m 30 #[.val (.int p0)] [])) _ _ _ _
          refine own_go (fun t k => XS.iloadN X.here hx rfl (hb hby d2_30) rfl k) ?_
          show own_G _ _ _ (T.setTop (mkF m 31 #[.val (.int p0)] [(.int p0)])) _ _ _ _
          refine own_go (fun t k => X.ldcInt hx hown (mvT hZ (hw _ (List.mem_of_getElem? (i := 8) rfl))) (g := (mkF m 31 #[.val (.int p0)] [(.int p0)])) rfl (hb hby d2_31) _ k) ?_
          show own_G _ _ _ (T.setTop (mkF m 33 #[.val (.int p0)] [(.int (57344 : Int32)), (.int p0)])) _ _ _ _
          by_cases hc6 : p0 < (57344 : Int32)
          · refine own_itI hc6 ?_
            refine own_go (fun t k => XS.icmpYes X.here hx rfl (pc0 := 33) (pc' := 42) rfl (hb hby d2_33) rfl (tlt hc6).1 (by decide) (by decide) k) ?_
            show own_G _ _ _ (T.setTop (mkF m 42 #[.val (.int p0)] [])) _ _ _ _
            exact J42 _ _ X eT N  
          · refine own_ifI hc6 ?_
            refine own_go (fun t k => XS.icmpNo X.here hx rfl (hb hby d2_33) rfl (flt hc6).1 k) ?_
            show own_G _ _ _ (T.setTop (mkF m 36 #[.val (.int p0)] [])) _ _ _ _
            refine own_go (fun t k => XS.iloadN X.here hx rfl (hb hby d2_36) rfl k) ?_
            show own_G _ _ _ (T.setTop (mkF m 37 #[.val (.int p0)] [(.int p0)])) _ _ _ _
            refine own_go (fun t k => X.ldcInt hx hown (mvT hZ (hw _ (List.mem_of_getElem? (i := 19) rfl))) (g := (mkF m 37 #[.val (.int p0)] [(.int p0)])) rfl (hb hby d2_37) _ k) ?_
            show own_G _ _ _ (T.setTop (mkF m 39 #[.val (.int p0)] [(.int (65533 : Int32)), (.int p0)])) _ _ _ _
            by_cases hc7 : (65533 : Int32) < p0
            · refine own_itI hc7 ?_
              refine own_go (fun t k => XS.icmpNo X.here hx rfl (hb hby d2_39) rfl (tlt hc7).2.2.2 k) ?_
              show own_G _ _ _ (T.setTop (mkF m 42 #[.val (.int p0)] [])) _ _ _ _
              exact J42 _ _ X eT N  
            · refine own_ifI hc7 ?_
              refine own_go (fun t k => XS.icmpYes X.here hx rfl (pc0 := 39) (pc' := 54) rfl (hb hby d2_39) rfl (flt hc7).2.2.2 (by decide) (by decide) k) ?_
              show own_G _ _ _ (T.setTop (mkF m 54 #[.val (.int p0)] [])) _ _ _ _
              exact J54 _ _ X eT N  
  show own_G p.tables e below (s₁.setTop (entryFrame m #[(.int p0)] 1)) s ({ frames := 0, cells := 0, slots := 0, locals := 0 } : Room).cells ({ frames := 0, cells := 0, slots := 0, locals := 0 } : Room).slots (own_P n0 h0 (some (.int ((if p0 < (32 : Int32) then (own_isx_12 p0 ) else (if p0 < (55296 : Int32) then (own_isx_54 p0 ) else (own_isx_12 p0 )))))))
  refine own_go (fun t k => castTop (ef_2 m p0) k) ?_
  refine own_go (fun t k => XS.iloadN X0.here hx rfl (hb hby d2_0) rfl k) ?_
  show own_G _ _ _ (s₁.setTop (mkF m 1 #[.val (.int p0)] [(.int p0)])) _ _ _ _
  refine own_go (fun t k => XS.bipush X0.here hx rfl (hb hby d2_1) k) ?_
  show own_G _ _ _ (s₁.setTop (mkF m 3 #[.val (.int p0)] [(.int (32 : Int32)), (.int p0)])) _ _ _ _
  by_cases hc8 : p0 < (32 : Int32)
  · refine own_itI hc8 ?_
    refine own_go (fun t k => XS.icmpYes X0.here hx rfl (pc0 := 3) (pc' := 12) rfl (hb hby d2_3) rfl (tlt hc8).1 (by decide) (by decide) k) ?_
    show own_G _ _ _ (s₁.setTop (mkF m 12 #[.val (.int p0)] [])) _ _ _ _
    exact J12 _ _ X0 e0 N0  
  · refine own_ifI hc8 ?_
    refine own_go (fun t k => XS.icmpNo X0.here hx rfl (hb hby d2_3) rfl (flt hc8).1 k) ?_
    show own_G _ _ _ (s₁.setTop (mkF m 6 #[.val (.int p0)] [])) _ _ _ _
    refine own_go (fun t k => XS.iloadN X0.here hx rfl (hb hby d2_6) rfl k) ?_
    show own_G _ _ _ (s₁.setTop (mkF m 7 #[.val (.int p0)] [(.int p0)])) _ _ _ _
    refine own_go (fun t k => X0.ldcInt hx hown (mvT hZ (hw _ (List.mem_of_getElem? (i := 14) rfl))) (g := (mkF m 7 #[.val (.int p0)] [(.int p0)])) rfl (hb hby d2_7) _ k) ?_
    show own_G _ _ _ (s₁.setTop (mkF m 9 #[.val (.int p0)] [(.int (55296 : Int32)), (.int p0)])) _ _ _ _
    by_cases hc9 : p0 < (55296 : Int32)
    · refine own_itI hc9 ?_
      refine own_go (fun t k => XS.icmpYes X0.here hx rfl (pc0 := 9) (pc' := 54) rfl (hb hby d2_9) rfl (tlt hc9).1 (by decide) (by decide) k) ?_
      show own_G _ _ _ (s₁.setTop (mkF m 54 #[.val (.int p0)] [])) _ _ _ _
      exact J54 _ _ X0 e0 N0  
    · refine own_ifI hc9 ?_
      refine own_go (fun t k => XS.icmpNo X0.here hx rfl (hb hby d2_9) rfl (flt hc9).1 k) ?_
      show own_G _ _ _ (s₁.setTop (mkF m 12 #[.val (.int p0)] [])) _ _ _ _
      exact J12 _ _ X0 e0 N0  
theorem d3_0 : decode method_3_code 0 = .ok (.iload_n 0, 1) := by decide +kernel
theorem d3_1 : decode method_3_code 1 = .ok (.ifCond .lt 9, 3) := by decide +kernel
theorem d3_4 : decode method_3_code 4 = .ok (.iload_n 0, 1) := by decide +kernel
theorem d3_5 : decode method_3_code 5 = .ok (.ldc 15, 2) := by decide +kernel
theorem d3_7 : decode method_3_code 7 = .ok (.if_icmp .le 5, 3) := by decide +kernel
theorem d3_10 : decode method_3_code 10 = .ok (.iconst 0, 1) := by decide +kernel
theorem d3_11 : decode method_3_code 11 = .ok (.ireturn, 1) := by decide +kernel
theorem d3_12 : decode method_3_code 12 = .ok (.iload_n 0, 1) := by decide +kernel
theorem d3_13 : decode method_3_code 13 = .ok (.bipush 32, 2) := by decide +kernel
theorem d3_15 : decode method_3_code 15 = .ok (.if_icmp .ge 27, 3) := by decide +kernel
theorem d3_18 : decode method_3_code 18 = .ok (.iload_n 0, 1) := by decide +kernel
theorem d3_19 : decode method_3_code 19 = .ok (.bipush 9, 2) := by decide +kernel
theorem d3_21 : decode method_3_code 21 = .ok (.if_icmp .eq 15, 3) := by decide +kernel
theorem d3_24 : decode method_3_code 24 = .ok (.iload_n 0, 1) := by decide +kernel
theorem d3_25 : decode method_3_code 25 = .ok (.bipush 10, 2) := by decide +kernel
theorem d3_27 : decode method_3_code 27 = .ok (.if_icmp .eq 9, 3) := by decide +kernel
theorem d3_30 : decode method_3_code 30 = .ok (.iload_n 0, 1) := by decide +kernel
theorem d3_31 : decode method_3_code 31 = .ok (.bipush 13, 2) := by decide +kernel
theorem d3_33 : decode method_3_code 33 = .ok (.if_icmp .ne 7, 3) := by decide +kernel
theorem d3_36 : decode method_3_code 36 = .ok (.iconst 1, 1) := by decide +kernel
theorem d3_37 : decode method_3_code 37 = .ok (.goto 4, 3) := by decide +kernel
theorem d3_40 : decode method_3_code 40 = .ok (.iconst 0, 1) := by decide +kernel
theorem d3_41 : decode method_3_code 41 = .ok (.ireturn, 1) := by decide +kernel
theorem d3_42 : decode method_3_code 42 = .ok (.iload_n 0, 1) := by decide +kernel
theorem d3_43 : decode method_3_code 43 = .ok (.ldc 7, 2) := by decide +kernel
theorem d3_45 : decode method_3_code 45 = .ok (.if_icmp .lt 11, 3) := by decide +kernel
theorem d3_48 : decode method_3_code 48 = .ok (.iload_n 0, 1) := by decide +kernel
theorem d3_49 : decode method_3_code 49 = .ok (.ldc 16, 2) := by decide +kernel
theorem d3_51 : decode method_3_code 51 = .ok (.if_icmp .gt 5, 3) := by decide +kernel
theorem d3_54 : decode method_3_code 54 = .ok (.iconst 0, 1) := by decide +kernel
theorem d3_55 : decode method_3_code 55 = .ok (.ireturn, 1) := by decide +kernel
theorem d3_56 : decode method_3_code 56 = .ok (.iload_n 0, 1) := by decide +kernel
theorem d3_57 : decode method_3_code 57 = .ok (.ldc 9, 2) := by decide +kernel
theorem d3_59 : decode method_3_code 59 = .ok (.if_icmp .eq 9, 3) := by decide +kernel
theorem d3_62 : decode method_3_code 62 = .ok (.iload_n 0, 1) := by decide +kernel
theorem d3_63 : decode method_3_code 63 = .ok (.ldc 17, 2) := by decide +kernel
theorem d3_65 : decode method_3_code 65 = .ok (.if_icmp .ne 5, 3) := by decide +kernel
theorem d3_68 : decode method_3_code 68 = .ok (.iconst 0, 1) := by decide +kernel
theorem d3_69 : decode method_3_code 69 = .ok (.ireturn, 1) := by decide +kernel
theorem d3_70 : decode method_3_code 70 = .ok (.iconst 1, 1) := by decide +kernel
theorem d3_71 : decode method_3_code 71 = .ok (.ireturn, 1) := by decide +kernel
def own_ref_68 (p0 : Int32)  : Int32 := (0 : Int32)
def own_ref_56 (p0 : Int32)  : Int32 := (if p0 = (65534 : Int32) then (own_ref_68 p0 ) else (if p0 = (65535 : Int32) then (own_ref_68 p0 ) else (1 : Int32)))
def own_ref_41 (p0 : Int32) (w0 : Int32) : Int32 := (w0 &&& 1)
def own_ref_36 (p0 : Int32)  : Int32 := (own_ref_41 p0 (1 : Int32))
def own_ref_10 (p0 : Int32)  : Int32 := (0 : Int32)
def own_ref (p0 : Int32) : Int32 := (if p0 < (0 : Int32) then (own_ref_10 p0 ) else (if (1114111 : Int32) < p0 then (own_ref_10 p0 ) else (if p0 < (32 : Int32) then (if p0 = (9 : Int32) then (own_ref_36 p0 ) else (if p0 = (10 : Int32) then (own_ref_36 p0 ) else (if p0 = (13 : Int32) then (own_ref_36 p0 ) else (own_ref_41 p0 (0 : Int32))))) else (if p0 < (55296 : Int32) then (own_ref_56 p0 ) else (if (57343 : Int32) < p0 then (own_ref_56 p0 ) else (0 : Int32))))))
theorem ef_3 (m : MethodId) (p0 : Int32) : entryFrame m #[(.int p0)] 1 = mkF m 0 #[.val (.int p0)] [] := by first | (simp [entryFrame, mkF, argsToLocals, Value.category]; done) | rfl
set_option maxRecDepth 65536 in
set_option maxHeartbeats 40000000 in
theorem rm3 (l : Launch) (Z : State) (a0 : Array Value) (hw : ∀ d ∈ tables_1, d.before a0 Z = true) (ws : List Jvm.Cond) (p0 : Int32) (h0 : Heap) (n0 : Nat) :
    MetFree l (⟨"com/example/issuerd/issuerd/xml/DomIsXmlCharacterPinLaw", "reference", "(I)Z"⟩ : MethodName) (head1 (Jvm.Cond.code (⟨"com/example/issuerd/issuerd/xml/DomIsXmlCharacterPinLaw", "reference", "(I)Z"⟩ : MethodName) method_3_code 1 (some .boolean) :: ws) ({ frames := 0, cells := 0, slots := 0, locals := 0 } : Room)) (fun a U => a = #[(.int p0)] ∧ Z.Warmed39 U.vm ∧ U.heap = h0) (fun _ _ _ _ _ => True) (fun _ U o U' => ∃ v L, o = .returned v ∧ (own_P n0 h0 (some (.int (own_ref p0)))) v U'.heap L ∧ FrameEnd U o U' L ({ frames := 0, cells := 0, slots := 0, locals := 0 } : Room).cells ({ frames := 0, cells := 0, slots := 0, locals := 0 } : Room).slots) := by
  refine MetFree.of_bodySF (plainFor_of_name pn_0) hisR ?_
  intro p e s m args below meth c s₁ Bd hml0 hP hK
  obtain ⟨rfl, hZ, hh⟩ := hP
  have hx := Bd.exec
  have hby := Bd.bytes
  have hml : c.maxLocals = 1 := hml0
  have hown : s.vm.findClass "com/example/issuerd/issuerd/xml/DomIsXmlCharacterPinLaw" = some m.cls := findClass_of_methodNamed Bd.named
  have hnm := (name_of_methodNamed Bd.named Bd.method).1
  have hlk : meth.locks = false := BodyLoose.notSynchronized Bd
  have X0 : Stand p l e ({ frames := 0, cells := 0, slots := 0, locals := 0 } : Room) s m #[(.int p0)] below meth c s₁ [] 0 0 := Stand.of_body Bd
  have e0 : s₁.heap = h0 := by rw [← hh, Bd.state]; rfl
  have N0 := Fr.nil n0
  have J68 : ∀ (T : State) (Lc : List Loc) (X : Stand p l e ({ frames := 0, cells := 0, slots := 0, locals := 0 } : Room) s m #[(.int p0)] below meth c T Lc 0 0) (eT : T.heap = h0) (N : Fr n0 Lc)  , own_G p.tables e below (T.setTop (mkF m 68 #[.val (.int p0)] [])) s ({ frames := 0, cells := 0, slots := 0, locals := 0 } : Room).cells ({ frames := 0, cells := 0, slots := 0, locals := 0 } : Room).slots (own_P n0 h0 (some (.int (own_ref_68 p0 )))) := by
    intro T Lc X eT N  
    show own_G _ _ _ _ _ _ _ (own_P n0 h0 (some (.int ((0 : Int32)))))
    refine own_go (fun t k => XS.iconst X.here hx rfl (hb hby d3_68) k) ?_
    show own_G _ _ _ (T.setTop (mkF m 69 #[.val (.int p0)] [(.int (0 : Int32))])) _ _ _ _
    exact own_endN X hx hlk (t := .boolean) Bd.returns (by simp) (hb hby d3_69) (by decide) (by decide) ⟨rfl, N, eT⟩
  have J56 : ∀ (T : State) (Lc : List Loc) (X : Stand p l e ({ frames := 0, cells := 0, slots := 0, locals := 0 } : Room) s m #[(.int p0)] below meth c T Lc 0 0) (eT : T.heap = h0) (N : Fr n0 Lc)  , own_G p.tables e below (T.setTop (mkF m 56 #[.val (.int p0)] [])) s ({ frames := 0, cells := 0, slots := 0, locals := 0 } : Room).cells ({ frames := 0, cells := 0, slots := 0, locals := 0 } : Room).slots (own_P n0 h0 (some (.int (own_ref_56 p0 )))) := by
    intro T Lc X eT N  
    show own_G _ _ _ _ _ _ _ (own_P n0 h0 (some (.int ((if p0 = (65534 : Int32) then (own_ref_68 p0 ) else (if p0 = (65535 : Int32) then (own_ref_68 p0 ) else (1 : Int32)))))))
    refine own_go (fun t k => XS.iloadN X.here hx rfl (hb hby d3_56) rfl k) ?_
    show own_G _ _ _ (T.setTop (mkF m 57 #[.val (.int p0)] [(.int p0)])) _ _ _ _
    refine own_go (fun t k => X.ldcInt hx hown (mvT hZ (hw _ (List.mem_of_getElem? (i := 16) rfl))) (g := (mkF m 57 #[.val (.int p0)] [(.int p0)])) rfl (hb hby d3_57) _ k) ?_
    show own_G _ _ _ (T.setTop (mkF m 59 #[.val (.int p0)] [(.int (65534 : Int32)), (.int p0)])) _ _ _ _
    by_cases hc1 : p0 = (65534 : Int32)
    · refine own_itI hc1 ?_
      refine own_go (fun t k => XS.icmpYes X.here hx rfl (pc0 := 59) (pc' := 68) rfl (hb hby d3_59) rfl (teq hc1).1 (by decide) (by decide) k) ?_
      show own_G _ _ _ (T.setTop (mkF m 68 #[.val (.int p0)] [])) _ _ _ _
      exact J68 _ _ X eT N  
    · refine own_ifI hc1 ?_
      refine own_go (fun t k => XS.icmpNo X.here hx rfl (hb hby d3_59) rfl (feq hc1).1 k) ?_
      show own_G _ _ _ (T.setTop (mkF m 62 #[.val (.int p0)] [])) _ _ _ _
      refine own_go (fun t k => XS.iloadN X.here hx rfl (hb hby d3_62) rfl k) ?_
      show own_G _ _ _ (T.setTop (mkF m 63 #[.val (.int p0)] [(.int p0)])) _ _ _ _
      refine own_go (fun t k => X.ldcInt hx hown (mvT hZ (hw _ (List.mem_of_getElem? (i := 17) rfl))) (g := (mkF m 63 #[.val (.int p0)] [(.int p0)])) rfl (hb hby d3_63) _ k) ?_
      show own_G _ _ _ (T.setTop (mkF m 65 #[.val (.int p0)] [(.int (65535 : Int32)), (.int p0)])) _ _ _ _
      by_cases hc2 : p0 = (65535 : Int32)
      · refine own_itI hc2 ?_
        refine own_go (fun t k => XS.icmpNo X.here hx rfl (hb hby d3_65) rfl (teq hc2).2 k) ?_
        show own_G _ _ _ (T.setTop (mkF m 68 #[.val (.int p0)] [])) _ _ _ _
        exact J68 _ _ X eT N  
      · refine own_ifI hc2 ?_
        refine own_go (fun t k => XS.icmpYes X.here hx rfl (pc0 := 65) (pc' := 70) rfl (hb hby d3_65) rfl (feq hc2).2 (by decide) (by decide) k) ?_
        show own_G _ _ _ (T.setTop (mkF m 70 #[.val (.int p0)] [])) _ _ _ _
        refine own_go (fun t k => XS.iconst X.here hx rfl (hb hby d3_70) k) ?_
        show own_G _ _ _ (T.setTop (mkF m 71 #[.val (.int p0)] [(.int (1 : Int32))])) _ _ _ _
        exact own_endN X hx hlk (t := .boolean) Bd.returns (by simp) (hb hby d3_71) (by decide) (by decide) ⟨rfl, N, eT⟩
  have J41 : ∀ (T : State) (Lc : List Loc) (X : Stand p l e ({ frames := 0, cells := 0, slots := 0, locals := 0 } : Room) s m #[(.int p0)] below meth c T Lc 0 0) (eT : T.heap = h0) (N : Fr n0 Lc) (w0 : Int32) , own_G p.tables e below (T.setTop (mkF m 41 #[.val (.int p0)] [(.int w0)])) s ({ frames := 0, cells := 0, slots := 0, locals := 0 } : Room).cells ({ frames := 0, cells := 0, slots := 0, locals := 0 } : Room).slots (own_P n0 h0 (some (.int (own_ref_41 p0 w0)))) := by
    intro T Lc X eT N w0 
    show own_G _ _ _ _ _ _ _ (own_P n0 h0 (some (.int ((w0 &&& 1)))))
    exact own_endN X hx hlk (t := .boolean) Bd.returns (by simp) (hb hby d3_41) (by decide) (by decide) ⟨rfl, N, eT⟩
  have J36 : ∀ (T : State) (Lc : List Loc) (X : Stand p l e ({ frames := 0, cells := 0, slots := 0, locals := 0 } : Room) s m #[(.int p0)] below meth c T Lc 0 0) (eT : T.heap = h0) (N : Fr n0 Lc)  , own_G p.tables e below (T.setTop (mkF m 36 #[.val (.int p0)] [])) s ({ frames := 0, cells := 0, slots := 0, locals := 0 } : Room).cells ({ frames := 0, cells := 0, slots := 0, locals := 0 } : Room).slots (own_P n0 h0 (some (.int (own_ref_36 p0 )))) := by
    intro T Lc X eT N  
    show own_G _ _ _ _ _ _ _ (own_P n0 h0 (some (.int ((own_ref_41 p0 (1 : Int32))))))
    refine own_go (fun t k => XS.iconst X.here hx rfl (hb hby d3_36) k) ?_
    show own_G _ _ _ (T.setTop (mkF m 37 #[.val (.int p0)] [(.int (1 : Int32))])) _ _ _ _
    refine own_go (fun t k => XS.goto X.here hx rfl (pc0 := 37) (pc' := 41) rfl (hb hby d3_37) (by decide) (by decide) k) ?_
    show own_G _ _ _ (T.setTop (mkF m 41 #[.val (.int p0)] [(.int (1 : Int32))])) _ _ _ _
    exact J41 _ _ X eT N (1 : Int32) 
  have J10 : ∀ (T : State) (Lc : List Loc) (X : Stand p l e ({ frames := 0, cells := 0, slots := 0, locals := 0 } : Room) s m #[(.int p0)] below meth c T Lc 0 0) (eT : T.heap = h0) (N : Fr n0 Lc)  , own_G p.tables e below (T.setTop (mkF m 10 #[.val (.int p0)] [])) s ({ frames := 0, cells := 0, slots := 0, locals := 0 } : Room).cells ({ frames := 0, cells := 0, slots := 0, locals := 0 } : Room).slots (own_P n0 h0 (some (.int (own_ref_10 p0 )))) := by
    intro T Lc X eT N  
    show own_G _ _ _ _ _ _ _ (own_P n0 h0 (some (.int ((0 : Int32)))))
    refine own_go (fun t k => XS.iconst X.here hx rfl (hb hby d3_10) k) ?_
    show own_G _ _ _ (T.setTop (mkF m 11 #[.val (.int p0)] [(.int (0 : Int32))])) _ _ _ _
    exact own_endN X hx hlk (t := .boolean) Bd.returns (by simp) (hb hby d3_11) (by decide) (by decide) ⟨rfl, N, eT⟩
  show own_G p.tables e below (s₁.setTop (entryFrame m #[(.int p0)] 1)) s ({ frames := 0, cells := 0, slots := 0, locals := 0 } : Room).cells ({ frames := 0, cells := 0, slots := 0, locals := 0 } : Room).slots (own_P n0 h0 (some (.int ((if p0 < (0 : Int32) then (own_ref_10 p0 ) else (if (1114111 : Int32) < p0 then (own_ref_10 p0 ) else (if p0 < (32 : Int32) then (if p0 = (9 : Int32) then (own_ref_36 p0 ) else (if p0 = (10 : Int32) then (own_ref_36 p0 ) else (if p0 = (13 : Int32) then (own_ref_36 p0 ) else (own_ref_41 p0 (0 : Int32))))) else (if p0 < (55296 : Int32) then (own_ref_56 p0 ) else (if (57343 : Int32) < p0 then (own_ref_56 p0 ) else (0 : Int32))))))))))
  refine own_go (fun t k => castTop (ef_3 m p0) k) ?_
  refine own_go (fun t k => XS.iloadN X0.here hx rfl (hb hby d3_0) rfl k) ?_
  show own_G _ _ _ (s₁.setTop (mkF m 1 #[.val (.int p0)] [(.int p0)])) _ _ _ _
  by_cases hc3 : p0 < (0 : Int32)
  · refine own_itI hc3 ?_
    refine own_go (fun t k => XS.ifYes X0.here hx rfl (pc0 := 1) (pc' := 10) rfl (hb hby d3_1) rfl ((if0 _ _).trans (tlt hc3).1) (by decide) (by decide) k) ?_
    show own_G _ _ _ (s₁.setTop (mkF m 10 #[.val (.int p0)] [])) _ _ _ _
    exact J10 _ _ X0 e0 N0  
  · refine own_ifI hc3 ?_
    refine own_go (fun t k => XS.ifNo X0.here hx rfl (hb hby d3_1) rfl ((if0 _ _).trans (flt hc3).1) k) ?_
    show own_G _ _ _ (s₁.setTop (mkF m 4 #[.val (.int p0)] [])) _ _ _ _
    refine own_go (fun t k => XS.iloadN X0.here hx rfl (hb hby d3_4) rfl k) ?_
    show own_G _ _ _ (s₁.setTop (mkF m 5 #[.val (.int p0)] [(.int p0)])) _ _ _ _
    refine own_go (fun t k => X0.ldcInt hx hown (mvT hZ (hw _ (List.mem_of_getElem? (i := 13) rfl))) (g := (mkF m 5 #[.val (.int p0)] [(.int p0)])) rfl (hb hby d3_5) _ k) ?_
    show own_G _ _ _ (s₁.setTop (mkF m 7 #[.val (.int p0)] [(.int (1114111 : Int32)), (.int p0)])) _ _ _ _
    by_cases hc4 : (1114111 : Int32) < p0
    · refine own_itI hc4 ?_
      refine own_go (fun t k => XS.icmpNo X0.here hx rfl (hb hby d3_7) rfl (tlt hc4).2.2.2 k) ?_
      show own_G _ _ _ (s₁.setTop (mkF m 10 #[.val (.int p0)] [])) _ _ _ _
      exact J10 _ _ X0 e0 N0  
    · refine own_ifI hc4 ?_
      refine own_go (fun t k => XS.icmpYes X0.here hx rfl (pc0 := 7) (pc' := 12) rfl (hb hby d3_7) rfl (flt hc4).2.2.2 (by decide) (by decide) k) ?_
      show own_G _ _ _ (s₁.setTop (mkF m 12 #[.val (.int p0)] [])) _ _ _ _
      refine own_go (fun t k => XS.iloadN X0.here hx rfl (hb hby d3_12) rfl k) ?_
      show own_G _ _ _ (s₁.setTop (mkF m 13 #[.val (.int p0)] [(.int p0)])) _ _ _ _
      refine own_go (fun t k => XS.bipush X0.here hx rfl (hb hby d3_13) k) ?_
      show own_G _ _ _ (s₁.setTop (mkF m 15 #[.val (.int p0)] [(.int (32 : Int32)), (.int p0)])) _ _ _ _
      by_cases hc5 : p0 < (32 : Int32)
      · refine own_itI hc5 ?_
        refine own_go (fun t k => XS.icmpNo X0.here hx rfl (hb hby d3_15) rfl (tlt hc5).2.1 k) ?_
        show own_G _ _ _ (s₁.setTop (mkF m 18 #[.val (.int p0)] [])) _ _ _ _
        refine own_go (fun t k => XS.iloadN X0.here hx rfl (hb hby d3_18) rfl k) ?_
        show own_G _ _ _ (s₁.setTop (mkF m 19 #[.val (.int p0)] [(.int p0)])) _ _ _ _
        refine own_go (fun t k => XS.bipush X0.here hx rfl (hb hby d3_19) k) ?_
        show own_G _ _ _ (s₁.setTop (mkF m 21 #[.val (.int p0)] [(.int (9 : Int32)), (.int p0)])) _ _ _ _
        by_cases hc6 : p0 = (9 : Int32)
        · refine own_itI hc6 ?_
          refine own_go (fun t k => XS.icmpYes X0.here hx rfl (pc0 := 21) (pc' := 36) rfl (hb hby d3_21) rfl (teq hc6).1 (by decide) (by decide) k) ?_
          show own_G _ _ _ (s₁.setTop (mkF m 36 #[.val (.int p0)] [])) _ _ _ _
          exact J36 _ _ X0 e0 N0  
        · refine own_ifI hc6 ?_
          refine own_go (fun t k => XS.icmpNo X0.here hx rfl (hb hby d3_21) rfl (feq hc6).1 k) ?_
          show own_G _ _ _ (s₁.setTop (mkF m 24 #[.val (.int p0)] [])) _ _ _ _
          refine own_go (fun t k => XS.iloadN X0.here hx rfl (hb hby d3_24) rfl k) ?_
          show own_G _ _ _ (s₁.setTop (mkF m 25 #[.val (.int p0)] [(.int p0)])) _ _ _ _
          refine own_go (fun t k => XS.bipush X0.here hx rfl (hb hby d3_25) k) ?_
          show own_G _ _ _ (s₁.setTop (mkF m 27 #[.val (.int p0)] [(.int (10 : Int32)), (.int p0)])) _ _ _ _
          by_cases hc7 : p0 = (10 : Int32)
          · refine own_itI hc7 ?_
            refine own_go (fun t k => XS.icmpYes X0.here hx rfl (pc0 := 27) (pc' := 36) rfl (hb hby d3_27) rfl (teq hc7).1 (by decide) (by decide) k) ?_
            show own_G _ _ _ (s₁.setTop (mkF m 36 #[.val (.int p0)] [])) _ _ _ _
            exact J36 _ _ X0 e0 N0  
          · refine own_ifI hc7 ?_
            refine own_go (fun t k => XS.icmpNo X0.here hx rfl (hb hby d3_27) rfl (feq hc7).1 k) ?_
            show own_G _ _ _ (s₁.setTop (mkF m 30 #[.val (.int p0)] [])) _ _ _ _
            refine own_go (fun t k => XS.iloadN X0.here hx rfl (hb hby d3_30) rfl k) ?_
            show own_G _ _ _ (s₁.setTop (mkF m 31 #[.val (.int p0)] [(.int p0)])) _ _ _ _
            refine own_go (fun t k => XS.bipush X0.here hx rfl (hb hby d3_31) k) ?_
            show own_G _ _ _ (s₁.setTop (mkF m 33 #[.val (.int p0)] [(.int (13 : Int32)), (.int p0)])) _ _ _ _
            by_cases hc8 : p0 = (13 : Int32)
            · refine own_itI hc8 ?_
              refine own_go (fun t k => XS.icmpNo X0.here hx rfl (hb hby d3_33) rfl (teq hc8).2 k) ?_
              show own_G _ _ _ (s₁.setTop (mkF m 36 #[.val (.int p0)] [])) _ _ _ _
              exact J36 _ _ X0 e0 N0  
            · refine own_ifI hc8 ?_
              refine own_go (fun t k => XS.icmpYes X0.here hx rfl (pc0 := 33) (pc' := 40) rfl (hb hby d3_33) rfl (feq hc8).2 (by decide) (by decide) k) ?_
              show own_G _ _ _ (s₁.setTop (mkF m 40 #[.val (.int p0)] [])) _ _ _ _
              refine own_go (fun t k => XS.iconst X0.here hx rfl (hb hby d3_40) k) ?_
              show own_G _ _ _ (s₁.setTop (mkF m 41 #[.val (.int p0)] [(.int (0 : Int32))])) _ _ _ _
              exact J41 _ _ X0 e0 N0 (0 : Int32) 
      · refine own_ifI hc5 ?_
        refine own_go (fun t k => XS.icmpYes X0.here hx rfl (pc0 := 15) (pc' := 42) rfl (hb hby d3_15) rfl (flt hc5).2.1 (by decide) (by decide) k) ?_
        show own_G _ _ _ (s₁.setTop (mkF m 42 #[.val (.int p0)] [])) _ _ _ _
        refine own_go (fun t k => XS.iloadN X0.here hx rfl (hb hby d3_42) rfl k) ?_
        show own_G _ _ _ (s₁.setTop (mkF m 43 #[.val (.int p0)] [(.int p0)])) _ _ _ _
        refine own_go (fun t k => X0.ldcInt hx hown (mvT hZ (hw _ (List.mem_of_getElem? (i := 15) rfl))) (g := (mkF m 43 #[.val (.int p0)] [(.int p0)])) rfl (hb hby d3_43) _ k) ?_
        show own_G _ _ _ (s₁.setTop (mkF m 45 #[.val (.int p0)] [(.int (55296 : Int32)), (.int p0)])) _ _ _ _
        by_cases hc9 : p0 < (55296 : Int32)
        · refine own_itI hc9 ?_
          refine own_go (fun t k => XS.icmpYes X0.here hx rfl (pc0 := 45) (pc' := 56) rfl (hb hby d3_45) rfl (tlt hc9).1 (by decide) (by decide) k) ?_
          show own_G _ _ _ (s₁.setTop (mkF m 56 #[.val (.int p0)] [])) _ _ _ _
          exact J56 _ _ X0 e0 N0  
        · refine own_ifI hc9 ?_
          refine own_go (fun t k => XS.icmpNo X0.here hx rfl (hb hby d3_45) rfl (flt hc9).1 k) ?_
          show own_G _ _ _ (s₁.setTop (mkF m 48 #[.val (.int p0)] [])) _ _ _ _
          refine own_go (fun t k => XS.iloadN X0.here hx rfl (hb hby d3_48) rfl k) ?_
          show own_G _ _ _ (s₁.setTop (mkF m 49 #[.val (.int p0)] [(.int p0)])) _ _ _ _
          refine own_go (fun t k => X0.ldcInt hx hown (mvT hZ (hw _ (List.mem_of_getElem? (i := 20) rfl))) (g := (mkF m 49 #[.val (.int p0)] [(.int p0)])) rfl (hb hby d3_49) _ k) ?_
          show own_G _ _ _ (s₁.setTop (mkF m 51 #[.val (.int p0)] [(.int (57343 : Int32)), (.int p0)])) _ _ _ _
          by_cases hc10 : (57343 : Int32) < p0
          · refine own_itI hc10 ?_
            refine own_go (fun t k => XS.icmpYes X0.here hx rfl (pc0 := 51) (pc' := 56) rfl (hb hby d3_51) rfl (tlt hc10).2.2.1 (by decide) (by decide) k) ?_
            show own_G _ _ _ (s₁.setTop (mkF m 56 #[.val (.int p0)] [])) _ _ _ _
            exact J56 _ _ X0 e0 N0  
          · refine own_ifI hc10 ?_
            refine own_go (fun t k => XS.icmpNo X0.here hx rfl (hb hby d3_51) rfl (flt hc10).2.2.1 k) ?_
            show own_G _ _ _ (s₁.setTop (mkF m 54 #[.val (.int p0)] [])) _ _ _ _
            refine own_go (fun t k => XS.iconst X0.here hx rfl (hb hby d3_54) k) ?_
            show own_G _ _ _ (s₁.setTop (mkF m 55 #[.val (.int p0)] [(.int (0 : Int32))])) _ _ _ _
            exact own_endN X0 hx hlk (t := .boolean) Bd.returns (by simp) (hb hby d3_55) (by decide) (by decide) ⟨rfl, N0, e0⟩
theorem pd_0 : parseMethodDescriptor "(I)Z" = some ⟨[.int], some .boolean⟩ := by decide +kernel
theorem pd_1 : parseMethodDescriptor "(I)I" = some ⟨[.int], some .int⟩ := by decide +kernel
def own_law_44 (p0 : Int32) (p1 : Int32) (v2 : Int32) (v3 : Int32) (w0 : Int32) : Int32 := (w0 &&& 1)
def own_law_28 (p0 : Int32) (p1 : Int32) (v2 : Int32) (v3 : Int32) : Int32 := (if (own_isx v3) = (own_ref v3) then (own_law_44 p0 p1 v2 v3 (1 : Int32)) else (own_law_44 p0 p1 v2 v3 (0 : Int32)))
def own_law (p0 : Int32) (p1 : Int32) : Int32 := (if (p1 &&& (15 : Int32)) < (10 : Int32) then (own_law_28 p0 p1 (p1 &&& (15 : Int32)) ((own_base (p1 &&& (15 : Int32))) + ((p0 &&& (7 : Int32)) - (4 : Int32)))) else (own_law_28 p0 p1 (p1 &&& (15 : Int32)) p0))
theorem ef_0 (m : MethodId) (p0 : Int32) (p1 : Int32) : entryFrame m #[(.int p0), (.int p1)] maxLocals = mkF m 0 #[.val (.int p0), .val (.int p1), .unset, .unset] [] := by first | (simp [entryFrame, mkF, argsToLocals, Value.category, maxLocals]; done) | rfl
set_option maxRecDepth 65536 in
set_option maxHeartbeats 40000000 in
theorem rm0 (l : Launch) (Z : State) (a0 : Array Value) (hw : ∀ d ∈ tables_1, d.before a0 Z = true) (ws : List Jvm.Cond) (p0 : Int32) (p1 : Int32) (h0 : Heap) (n0 : Nat) :
    MetFree l x (head1 (Jvm.Cond.code x code maxLocals ret :: ws) room_1) (fun a U => a = #[(.int p0), (.int p1)] ∧ Z.Warmed39 U.vm ∧ U.heap = h0) (fun _ _ _ _ _ => True) (fun _ U o U' => ∃ v L, o = .returned v ∧ (own_P n0 h0 (some (.int (own_law p0 p1)))) v U'.heap L ∧ FrameEnd U o U' L room_1.cells room_1.slots) := by
  refine MetFree.of_bodySF (plainFor_of_name pn_0) hisR ?_
  intro p e s m args below meth c s₁ Bd hml0 hP hK
  obtain ⟨rfl, hZ, hh⟩ := hP
  have hx := Bd.exec
  have hby := Bd.bytes
  have hml : c.maxLocals = 4 := hml0
  have hown : s.vm.findClass "com/example/issuerd/issuerd/xml/DomIsXmlCharacterPinLaw" = some m.cls := findClass_of_methodNamed Bd.named
  have hnm := (name_of_methodNamed Bd.named Bd.method).1
  have hlk : meth.locks = false := BodyLoose.notSynchronized Bd
  have X0 : Stand p l e room_1 s m #[(.int p0), (.int p1)] below meth c s₁ [] 0 0 := Stand.of_body Bd
  have e0 : s₁.heap = h0 := by rw [← hh, Bd.state]; rfl
  have N0 := Fr.nil n0
  have J44 : ∀ (T : State) (Lc : List Loc) (X : Stand p l e room_1 s m #[(.int p0), (.int p1)] below meth c T Lc 0 0) (eT : T.heap = h0) (N : Fr n0 Lc) (v2 : Int32) (v3 : Int32) (w0 : Int32) , own_G p.tables e below (T.setTop (mkF m 44 #[.val (.int p0), .val (.int p1), .val (.int v2), .val (.int v3)] [(.int w0)])) s room_1.cells room_1.slots (own_P n0 h0 (some (.int (own_law_44 p0 p1 v2 v3 w0)))) := by
    intro T Lc X eT N v2 v3 w0 
    show own_G _ _ _ _ _ _ _ (own_P n0 h0 (some (.int ((w0 &&& 1)))))
    exact own_endN X hx hlk (t := .boolean) Bd.returns (by simp) (hb hby at_44) (by decide) (by decide) ⟨rfl, N, eT⟩
  have J28 : ∀ (T : State) (Lc : List Loc) (X : Stand p l e room_1 s m #[(.int p0), (.int p1)] below meth c T Lc 0 0) (eT : T.heap = h0) (N : Fr n0 Lc) (v2 : Int32) (v3 : Int32) , own_G p.tables e below (T.setTop (mkF m 28 #[.val (.int p0), .val (.int p1), .val (.int v2), .val (.int v3)] [])) s room_1.cells room_1.slots (own_P n0 h0 (some (.int (own_law_28 p0 p1 v2 v3)))) := by
    intro T Lc X eT N v2 v3 
    show own_G _ _ _ _ _ _ _ (own_P n0 h0 (some (.int ((if (own_isx v3) = (own_ref v3) then (own_law_44 p0 p1 v2 v3 (1 : Int32)) else (own_law_44 p0 p1 v2 v3 (0 : Int32)))))))
    refine own_go (fun t k => XS.iloadN X.here hx rfl (hb hby at_28) rfl k) ?_
    show own_G _ _ _ (T.setTop (mkF m 29 #[.val (.int p0), .val (.int p1), .val (.int v2), .val (.int v3)] [(.int v3)])) _ _ _ _
    obtain ⟨_, _, ⟨T1, L1, k1, n1⟩, -, X1, ⟨Lc1, hQ1, l1, y1, z1⟩, st1⟩ := Jvm.LawKit.callS X hx (y := (⟨"com/example/issuerd/issuerd/xml/Dom", "isXmlCharacter", "(I)Z"⟩ : MethodName)) hown (mvT hZ (hw _ (List.mem_of_getElem? (i := 4) rfl))) (mvT hZ (hw _ (List.mem_of_getElem? (i := 5) rfl))) (mvT hZ (hw _ (List.mem_of_getElem? (i := 6) rfl))) (mvT hZ (hw _ (List.mem_of_getElem? (i := 7) rfl))) (by decide) (backOf (W := 0) (rm2 l Z a0 hw [] v3  h0 n0 ) hZ (hw _ (List.mem_of_getElem? (i := 7) rfl)) (hw _ (List.mem_of_getElem? (i := 6) rfl)) (by decide) (by decide)) (g := (mkF m 29 #[.val (.int p0), .val (.int p1), .val (.int v2), .val (.int v3)] [(.int v3)])) rfl (by rw [hml]; rfl) (argsL := [(.int v3)]) (rest := []) (lenOf pd_0 rfl) rfl (by show 2 * 0 + _ ≤ _; exact Nat.le_of_eq rfl) (hb hby at_29) (fun _ _ => ⟨rfl, eT, (by decide : 0 + 0 ≤ _), (by decide : 0 + 0 ≤ _)⟩)
    dsimp only [Pt.U, Pt.locs, Pt.cells, Pt.slots] at X1 l1 y1 z1 st1 hQ1
    subst l1 y1 z1
    obtain ⟨rfl, N1q, e1⟩ := hQ1
    have N1 := Fr.app N N1q
    refine own_go (fun t k => st1 _ k) ?_
    show own_G _ _ _ (T1.setTop (mkF m 32 #[.val (.int p0), .val (.int p1), .val (.int v2), .val (.int v3)] [(.int (own_isx v3))])) _ _ _ _
    refine own_go (fun t k => XS.iloadN X1.here hx rfl (hb hby at_32) rfl k) ?_
    show own_G _ _ _ (T1.setTop (mkF m 33 #[.val (.int p0), .val (.int p1), .val (.int v2), .val (.int v3)] [(.int v3), (.int (own_isx v3))])) _ _ _ _
    obtain ⟨_, _, ⟨T2, L2, k2, n2⟩, -, X2, ⟨Lc2, hQ2, l2, y2, z2⟩, st2⟩ := Jvm.LawKit.callS X1 hx (y := (⟨"com/example/issuerd/issuerd/xml/DomIsXmlCharacterPinLaw", "reference", "(I)Z"⟩ : MethodName)) hown (mvT hZ (hw _ (List.mem_of_getElem? (i := 10) rfl))) (mvT hZ (hw _ (List.mem_of_getElem? (i := 11) rfl))) (mvT hZ (hw _ (List.mem_of_getElem? (i := 2) rfl))) (mvT hZ (hw _ (List.mem_of_getElem? (i := 12) rfl))) (by decide) (backOf (W := 1) (rm3 l Z a0 hw [] v3  h0 n0 ) hZ (hw _ (List.mem_of_getElem? (i := 12) rfl)) (hw _ (List.mem_of_getElem? (i := 2) rfl)) (by decide) (by decide)) (g := (mkF m 33 #[.val (.int p0), .val (.int p1), .val (.int v2), .val (.int v3)] [(.int v3), (.int (own_isx v3))])) rfl (by rw [hml]; rfl) (argsL := [(.int v3)]) (rest := [(.int (own_isx v3))]) (lenOf pd_0 rfl) rfl (by show 2 * 0 + _ ≤ _; exact Nat.le_of_eq rfl) (hb hby at_33) (fun _ _ => ⟨rfl, e1, (by decide : 0 + 0 ≤ _), (by decide : 0 + 0 ≤ _)⟩)
    dsimp only [Pt.U, Pt.locs, Pt.cells, Pt.slots] at X2 l2 y2 z2 st2 hQ2
    subst l2 y2 z2
    obtain ⟨rfl, N2q, e2⟩ := hQ2
    have N2 := Fr.app N1 N2q
    refine own_go (fun t k => st2 _ k) ?_
    show own_G _ _ _ (T2.setTop (mkF m 36 #[.val (.int p0), .val (.int p1), .val (.int v2), .val (.int v3)] [(.int (own_ref v3)), (.int (own_isx v3))])) _ _ _ _
    by_cases hc3 : (own_isx v3) = (own_ref v3)
    · refine own_itI hc3 ?_
      refine own_go (fun t k => XS.icmpNo X2.here hx rfl (hb hby at_36) rfl (teq hc3).2 k) ?_
      show own_G _ _ _ (T2.setTop (mkF m 39 #[.val (.int p0), .val (.int p1), .val (.int v2), .val (.int v3)] [])) _ _ _ _
      refine own_go (fun t k => XS.iconst X2.here hx rfl (hb hby at_39) k) ?_
      show own_G _ _ _ (T2.setTop (mkF m 40 #[.val (.int p0), .val (.int p1), .val (.int v2), .val (.int v3)] [(.int (1 : Int32))])) _ _ _ _
      refine own_go (fun t k => XS.goto X2.here hx rfl (pc0 := 40) (pc' := 44) rfl (hb hby at_40) (by decide) (by decide) k) ?_
      show own_G _ _ _ (T2.setTop (mkF m 44 #[.val (.int p0), .val (.int p1), .val (.int v2), .val (.int v3)] [(.int (1 : Int32))])) _ _ _ _
      exact J44 _ _ X2 e2 N2 v2 v3 (1 : Int32) 
    · refine own_ifI hc3 ?_
      refine own_go (fun t k => XS.icmpYes X2.here hx rfl (pc0 := 36) (pc' := 43) rfl (hb hby at_36) rfl (feq hc3).2 (by decide) (by decide) k) ?_
      show own_G _ _ _ (T2.setTop (mkF m 43 #[.val (.int p0), .val (.int p1), .val (.int v2), .val (.int v3)] [])) _ _ _ _
      refine own_go (fun t k => XS.iconst X2.here hx rfl (hb hby at_43) k) ?_
      show own_G _ _ _ (T2.setTop (mkF m 44 #[.val (.int p0), .val (.int p1), .val (.int v2), .val (.int v3)] [(.int (0 : Int32))])) _ _ _ _
      exact J44 _ _ X2 e2 N2 v2 v3 (0 : Int32) 
  show own_G p.tables e below (s₁.setTop (entryFrame m #[(.int p0), (.int p1)] maxLocals)) s room_1.cells room_1.slots (own_P n0 h0 (some (.int ((if (p1 &&& (15 : Int32)) < (10 : Int32) then (own_law_28 p0 p1 (p1 &&& (15 : Int32)) ((own_base (p1 &&& (15 : Int32))) + ((p0 &&& (7 : Int32)) - (4 : Int32)))) else (own_law_28 p0 p1 (p1 &&& (15 : Int32)) p0))))))
  refine own_go (fun t k => castTop (ef_0 m p0 p1) k) ?_
  refine own_go (fun t k => XS.iloadN X0.here hx rfl (hb hby at_0) rfl k) ?_
  show own_G _ _ _ (s₁.setTop (mkF m 1 #[.val (.int p0), .val (.int p1), .unset, .unset] [(.int p1)])) _ _ _ _
  refine own_go (fun t k => XS.bipush X0.here hx rfl (hb hby at_1) k) ?_
  show own_G _ _ _ (s₁.setTop (mkF m 3 #[.val (.int p0), .val (.int p1), .unset, .unset] [(.int (15 : Int32)), (.int p1)])) _ _ _ _
  refine own_go (fun t k => XS.iand X0.here hx rfl (hb hby at_3) rfl k) ?_
  show own_G _ _ _ (s₁.setTop (mkF m 4 #[.val (.int p0), .val (.int p1), .unset, .unset] [(.int (p1 &&& (15 : Int32)))])) _ _ _ _
  refine own_go (fun t k => XS.istoreN X0.here hx rfl (hb hby at_4) rfl (l' := #[.val (.int p0), .val (.int p1), .val (.int (p1 &&& (15 : Int32))), .unset]) rfl k) ?_
  show own_G _ _ _ (s₁.setTop (mkF m 5 #[.val (.int p0), .val (.int p1), .val (.int (p1 &&& (15 : Int32))), .unset] [])) _ _ _ _
  refine own_go (fun t k => XS.iloadN X0.here hx rfl (hb hby at_5) rfl k) ?_
  show own_G _ _ _ (s₁.setTop (mkF m 6 #[.val (.int p0), .val (.int p1), .val (.int (p1 &&& (15 : Int32))), .unset] [(.int (p1 &&& (15 : Int32)))])) _ _ _ _
  refine own_go (fun t k => XS.bipush X0.here hx rfl (hb hby at_6) k) ?_
  show own_G _ _ _ (s₁.setTop (mkF m 8 #[.val (.int p0), .val (.int p1), .val (.int (p1 &&& (15 : Int32))), .unset] [(.int (10 : Int32)), (.int (p1 &&& (15 : Int32)))])) _ _ _ _
  by_cases hc4 : (p1 &&& (15 : Int32)) < (10 : Int32)
  · refine own_itI hc4 ?_
    refine own_go (fun t k => XS.icmpYes X0.here hx rfl (pc0 := 8) (pc' := 16) rfl (hb hby at_8) rfl (tlt hc4).1 (by decide) (by decide) k) ?_
    show own_G _ _ _ (s₁.setTop (mkF m 16 #[.val (.int p0), .val (.int p1), .val (.int (p1 &&& (15 : Int32))), .unset] [])) _ _ _ _
    refine own_go (fun t k => XS.iloadN X0.here hx rfl (hb hby at_16) rfl k) ?_
    show own_G _ _ _ (s₁.setTop (mkF m 17 #[.val (.int p0), .val (.int p1), .val (.int (p1 &&& (15 : Int32))), .unset] [(.int (p1 &&& (15 : Int32)))])) _ _ _ _
    obtain ⟨_, _, ⟨T5, L5, k5, n5⟩, -, X5, ⟨Lc5, hQ5, l5, y5, z5⟩, st5⟩ := Jvm.LawKit.callS X0 hx (y := (⟨"com/example/issuerd/issuerd/xml/DomIsXmlCharacterPinLaw", "base", "(I)I"⟩ : MethodName)) hown (mvT hZ (hw _ (List.mem_of_getElem? (i := 0) rfl))) (mvT hZ (hw _ (List.mem_of_getElem? (i := 1) rfl))) (mvT hZ (hw _ (List.mem_of_getElem? (i := 2) rfl))) (mvT hZ (hw _ (List.mem_of_getElem? (i := 3) rfl))) (by decide) (backOf (W := 0) (rm1 l Z a0 hw [] (p1 &&& (15 : Int32))  h0 n0 ) hZ (hw _ (List.mem_of_getElem? (i := 3) rfl)) (hw _ (List.mem_of_getElem? (i := 2) rfl)) (by decide) (by decide)) (g := (mkF m 17 #[.val (.int p0), .val (.int p1), .val (.int (p1 &&& (15 : Int32))), .unset] [(.int (p1 &&& (15 : Int32)))])) rfl (by rw [hml]; rfl) (argsL := [(.int (p1 &&& (15 : Int32)))]) (rest := []) (lenOf pd_1 rfl) rfl (by show 2 * 0 + _ ≤ _; exact Nat.le_of_eq rfl) (hb hby at_17) (fun _ _ => ⟨rfl, e0, (by decide : 0 + 0 ≤ _), (by decide : 0 + 0 ≤ _)⟩)
    dsimp only [Pt.U, Pt.locs, Pt.cells, Pt.slots] at X5 l5 y5 z5 st5 hQ5
    subst l5 y5 z5
    obtain ⟨rfl, N5q, e5⟩ := hQ5
    have N5 := Fr.app N0 N5q
    refine own_go (fun t k => st5 _ k) ?_
    show own_G _ _ _ (T5.setTop (mkF m 20 #[.val (.int p0), .val (.int p1), .val (.int (p1 &&& (15 : Int32))), .unset] [(.int (own_base (p1 &&& (15 : Int32))))])) _ _ _ _
    refine own_go (fun t k => XS.iloadN X5.here hx rfl (hb hby at_20) rfl k) ?_
    show own_G _ _ _ (T5.setTop (mkF m 21 #[.val (.int p0), .val (.int p1), .val (.int (p1 &&& (15 : Int32))), .unset] [(.int p0), (.int (own_base (p1 &&& (15 : Int32))))])) _ _ _ _
    refine own_go (fun t k => XS.bipush X5.here hx rfl (hb hby at_21) k) ?_
    show own_G _ _ _ (T5.setTop (mkF m 23 #[.val (.int p0), .val (.int p1), .val (.int (p1 &&& (15 : Int32))), .unset] [(.int (7 : Int32)), (.int p0), (.int (own_base (p1 &&& (15 : Int32))))])) _ _ _ _
    refine own_go (fun t k => XS.iand X5.here hx rfl (hb hby at_23) rfl k) ?_
    show own_G _ _ _ (T5.setTop (mkF m 24 #[.val (.int p0), .val (.int p1), .val (.int (p1 &&& (15 : Int32))), .unset] [(.int (p0 &&& (7 : Int32))), (.int (own_base (p1 &&& (15 : Int32))))])) _ _ _ _
    refine own_go (fun t k => XS.iconst X5.here hx rfl (hb hby at_24) k) ?_
    show own_G _ _ _ (T5.setTop (mkF m 25 #[.val (.int p0), .val (.int p1), .val (.int (p1 &&& (15 : Int32))), .unset] [(.int (4 : Int32)), (.int (p0 &&& (7 : Int32))), (.int (own_base (p1 &&& (15 : Int32))))])) _ _ _ _
    refine own_go (fun t k => XS.isub X5.here hx rfl (hb hby at_25) rfl k) ?_
    show own_G _ _ _ (T5.setTop (mkF m 26 #[.val (.int p0), .val (.int p1), .val (.int (p1 &&& (15 : Int32))), .unset] [(.int ((p0 &&& (7 : Int32)) - (4 : Int32))), (.int (own_base (p1 &&& (15 : Int32))))])) _ _ _ _
    refine own_go (fun t k => XS.iadd X5.here hx rfl (hb hby at_26) rfl k) ?_
    show own_G _ _ _ (T5.setTop (mkF m 27 #[.val (.int p0), .val (.int p1), .val (.int (p1 &&& (15 : Int32))), .unset] [(.int ((own_base (p1 &&& (15 : Int32))) + ((p0 &&& (7 : Int32)) - (4 : Int32))))])) _ _ _ _
    refine own_go (fun t k => XS.istoreN X5.here hx rfl (hb hby at_27) rfl (l' := #[.val (.int p0), .val (.int p1), .val (.int (p1 &&& (15 : Int32))), .val (.int ((own_base (p1 &&& (15 : Int32))) + ((p0 &&& (7 : Int32)) - (4 : Int32))))]) rfl k) ?_
    show own_G _ _ _ (T5.setTop (mkF m 28 #[.val (.int p0), .val (.int p1), .val (.int (p1 &&& (15 : Int32))), .val (.int ((own_base (p1 &&& (15 : Int32))) + ((p0 &&& (7 : Int32)) - (4 : Int32))))] [])) _ _ _ _
    exact J28 _ _ X5 e5 N5 (p1 &&& (15 : Int32)) ((own_base (p1 &&& (15 : Int32))) + ((p0 &&& (7 : Int32)) - (4 : Int32))) 
  · refine own_ifI hc4 ?_
    refine own_go (fun t k => XS.icmpNo X0.here hx rfl (hb hby at_8) rfl (flt hc4).1 k) ?_
    show own_G _ _ _ (s₁.setTop (mkF m 11 #[.val (.int p0), .val (.int p1), .val (.int (p1 &&& (15 : Int32))), .unset] [])) _ _ _ _
    refine own_go (fun t k => XS.iloadN X0.here hx rfl (hb hby at_11) rfl k) ?_
    show own_G _ _ _ (s₁.setTop (mkF m 12 #[.val (.int p0), .val (.int p1), .val (.int (p1 &&& (15 : Int32))), .unset] [(.int p0)])) _ _ _ _
    refine own_go (fun t k => XS.istoreN X0.here hx rfl (hb hby at_12) rfl (l' := #[.val (.int p0), .val (.int p1), .val (.int (p1 &&& (15 : Int32))), .val (.int p0)]) rfl k) ?_
    show own_G _ _ _ (s₁.setTop (mkF m 13 #[.val (.int p0), .val (.int p1), .val (.int (p1 &&& (15 : Int32))), .val (.int p0)] [])) _ _ _ _
    refine own_go (fun t k => XS.goto X0.here hx rfl (pc0 := 13) (pc' := 28) rfl (hb hby at_13) (by decide) (by decide) k) ?_
    show own_G _ _ _ (s₁.setTop (mkF m 28 #[.val (.int p0), .val (.int p1), .val (.int (p1 &&& (15 : Int32))), .val (.int p0)] [])) _ _ _ _
    exact J28 _ _ X0 e0 N0 (p1 &&& (15 : Int32)) p0 
theorem own_eq (p : Int32) : own_isx p = own_ref p := by
  simp only [own_isx, own_isx_12, own_isx_42, own_isx_54, own_isx_58, own_isx_59, own_ref, own_ref_10, own_ref_36, own_ref_41, own_ref_56, own_ref_68]
  have q1 := p.toInt_lt
  have q2 := p.le_toInt
  repeat' split
  all_goals first | rfl | (simp only [Int32.lt_iff_toInt_lt, ← Int32.toInt_inj, Int32.reduceToInt] at *; omega)
theorem own_law_true (a b : Int32) : own_law a b = 1 := by
  have h : ∀ u v w z : Int32, own_law_28 u v w z = 1 := fun u v w z => by
    simp only [own_law_28, own_law_44, own_eq, if_true]
    decide
  simp only [own_law, h]
  split <;> rfl

set_option maxRecDepth 65536 in
set_option maxHeartbeats 40000000 in
theorem comes_1 {Post : Tables → Env → Array Value → State → Outcome → State → Prop} (hpost : ∀ tb e args s v u, (limb_1_1.after args s (.returned v) u = true ∧ limb_1_2.after args s (.returned v) u = true ∧ True) → FrameEnd s (.returned v) u (Jvm.fieldLocs frame_1_writes args s ++ Jvm.arrayLocs frame_1_arrays args s ++ Jvm.staticLocs frame_1_statics s) 0 0 → Post tb e args s (.returned v) u) :
    ArmFor flags0 classFile x code maxLocals ret World_1 tables_1 room_1 Calls_1 rest_1 Pre_1 Post := by
  intro l hfl _ _ p e ha hc hk s m args below hf hA hF happ hP
  obtain ⟨hcalls, hrest, hpre⟩ := hP
  obtain ⟨-, -, -, hnamed, -, -, -, hat⟩ := (Spec.applies_iff hf).mp happ
  obtain ⟨hg, hn⟩ := and_e (Cond.before_iff.mp (show (Jvm.Cond.and given_1 narrow_1).before args s = true from hpre))
  obtain ⟨g0, hg1⟩ := and_e hg
  obtain ⟨a0, r0⟩ := and_e hg1
  obtain ⟨w0, w1, rfl⟩ : ∃ w0 w1 : Value, args = #[w0, w1] := by
    have hs : args.size = 2 := by simpa [Cond.value, given_1] using g0
    obtain ⟨L⟩ := args
    match L, hs with
    | [w0, w1], _ => exact ⟨w0, w1, rfl⟩
  have hw := fun d (hd : d ∈ tables_1) => atoms_spec (ws := Jvm.Cond.code x code maxLocals ret :: tables_1) hat d (List.mem_cons_of_mem _ hd)
  have hfit : Fit s := fun {y c} hc i hi => by
    obtain ⟨ha, rfl⟩ := Array.getElem?_eq_some_iff.mp hc
    have q := List.all_eq_true.mp ((Array.all_eq_true_iff_forall_mem.mp hF) _ (Array.getElem_mem ha)) i (List.mem_range.mpr hi)
    simpa [Array.getElem?_eq_getElem hi] using q
  obtain ⟨i0, ei0⟩ := is_v a0
  obtain rfl : w0 = (.int i0) := Option.some.inj ei0
  obtain ⟨i1, ei1⟩ := is_v r0
  obtain rfl : w1 = (.int i1) := Option.some.inj ei1
  obtain ⟨n, o, h1, h2, h3, _, L, rfl, ⟨rfl, N, -⟩, hq⟩ := rm0 l s _ hw tables_1 i0 i1  s.heap s.heap.size p e ha hc hk s m _ below hf ((Spec.applies_iff_loose hf).mp happ).1 ⟨rfl, State.Warmed39.refl s, rfl⟩ trivial
  refine ⟨n, _, h1, h2, h3, hpost _ _ _ _ _ _ ⟨Cond.after_iff.mpr rfl, Cond.after_iff.mpr (eq_i res_at (Term.int_eval (1)) (congrArg Value.int (own_law_true i0 i1))), trivial⟩ ⟨hq.1, hq.2.1, (hq.2.2.sift fun y hy => Or.inr (N y hy)).mono (by decide) (by decide)⟩⟩
theorem main_1_1 : Claimed_1_1 := comes_1 fun _ _ _ _ _ _ h hF => ⟨h.1, hF⟩
theorem main_1_2 : Claimed_1_2 := comes_1 fun _ _ _ _ _ _ h hF => ⟨h.2.1, hF⟩
end Jvm.Pilot.@@N@@
namespace Jvm.Pilot.@@N@@
open Jvm Jvm.ClassFile Sem Op Lib Jvm.Free Jvm.Stand Jvm.Pilot.@@N@@.Jvm.D
/-! MADE BY PROGRAM (witnessworld.py) out of the Statement's table words and the real class files: 9 classes; the members and pool entries that the words name. The judged class is class 1, her method 3. -/
namespace start1
open Jvm.ClassFile
def u (s : String) : CpInfo := .utf8 (stringToUtf16 s)
/-- a pool by its gaps: so many unusable entries, then the entry; so many at the end -/
def gap : Nat → List CpInfo → List CpInfo
  | 0, r => r
  | n + 1, r => .unusable :: gap n r
def poolList (es : List (Nat × CpInfo)) (last : Nat) : List CpInfo := es.foldr (fun e r => gap e.1 (e.2 :: r)) (gap last [])
def pool (es : List (Nat × CpInfo)) (last : Nat) : Array CpInfo := ⟨poolList es last⟩
def fileOf (pool : Array CpInfo) (this : Nat) (attrs : Array Attribute := #[]) (ms : Array MethodInfo := #[]) (fl : Nat := 33) (sup : Nat := 0) (ifs : Array Nat := #[]) (fds : Array FieldInfo := #[]) : ClassFile where
  minorVersion := 0
  majorVersion := 65
  constantPool := pool
  accessFlags := fl
  thisClass := this
  superClass := sup
  interfaces := ifs
  fields := fds
  methods := ms
  attributes := attrs
def plain (name : String) (sup : Option ClassId) : Class where
  name := name
  kind := .ordinary
  loader := none
  accessFlags := 33
  super := sup
  interfaces := #[]
  cf := none
  fields := #[]
  methods := #[]
  instanceTypes := #[]
  staticTypes := #[]
  resolved := #[]
  callSites := []
  init := .initialized
  statics := none
  mirror := none

def pool0 : Array CpInfo := pool [(5, u "<init>"), (0, u "()V"), (1, .class_ 10), (1, u "java/lang/Object")] 113

def k0m0 : Method := { name := "<init>", desc := "()V", sig := { parameters := [], returnType := none }, accessFlags := 1, code := none }
/-- java/lang/Object -/
def k0 : Class := { plain "java/lang/Object" none with
  accessFlags := 33
  interfaces := #[]
  cf := some (fileOf pool0 8 #[] #[{ accessFlags := 1, nameIndex := 5, descriptorIndex := 6, attributes := #[] }] 33 0 #[] #[])
  fields := #[]
  methods := #[k0m0]
  instanceTypes := #[]
  staticTypes := #[]
  resolved := Array.replicate 124 none
  statics := none }

def pool1 : Array CpInfo := pool [(2, .class_ 4), (1, u "java/lang/Object"), (0, u "<init>"), (0, u "()V"), (0, .integer 55296), (0, .integer 57344), (0, .integer 65534), (0, .integer 65536), (0, .integer 1114112), (2, .integer 2147483648), (0, .integer 1114111), (0, .integer 57343), (0, .integer 65535), (0, .methodref 19 20), (0, .class_ 21), (0, .nameAndType 22 23), (0, u "com/example/issuerd/issuerd/xml/DomIsXmlCharacterPinLaw"), (0, u "base"), (0, u "(I)I"), (0, .methodref 25 26), (0, .class_ 27), (0, .nameAndType 28 29), (0, u "com/example/issuerd/issuerd/xml/Dom"), (0, u "isXmlCharacter"), (0, u "(I)Z"), (0, .methodref 19 31), (0, .nameAndType 32 29), (0, u "reference"), (3, u "law"), (0, u "(II)Z")] 2

def k1m0 : Method := { name := "<init>", desc := "()V", sig := { parameters := [], returnType := none }, accessFlags := 2, code := none }
def k1c1 : Code := { maxStack := 2, maxLocals := 1, code := method_2_code, exceptionTable := #[], attributes := #[] }
def k1m1 : Method := { name := "base", desc := "(I)I", sig := { parameters := [.int], returnType := some .int }, accessFlags := 10, code := some k1c1 }
def k1c2 : Code := { maxStack := 2, maxLocals := 1, code := method_3_code, exceptionTable := #[], attributes := #[] }
def k1m2 : Method := { name := "reference", desc := "(I)Z", sig := { parameters := [.int], returnType := some .boolean }, accessFlags := 10, code := some k1c2 }
def k1c3 : Code := { maxStack := 3, maxLocals := 4, code := code, exceptionTable := #[], attributes := #[] }
def k1m3 : Method := { name := "law", desc := "(II)Z", sig := { parameters := [.int, .int], returnType := some .boolean }, accessFlags := 9, code := some k1c3 }
/-- com/example/issuerd/issuerd/xml/DomIsXmlCharacterPinLaw -/
def k1 : Class := { plain "com/example/issuerd/issuerd/xml/DomIsXmlCharacterPinLaw" (some 0) with
  accessFlags := 49
  interfaces := #[]
  cf := some (fileOf pool1 19 #[] #[{ accessFlags := 2, nameIndex := 5, descriptorIndex := 6, attributes := #[] }, { accessFlags := 10, nameIndex := 22, descriptorIndex := 23, attributes := #[] }, { accessFlags := 10, nameIndex := 32, descriptorIndex := 29, attributes := #[] }, { accessFlags := 9, nameIndex := 36, descriptorIndex := 37, attributes := #[] }] 49 2 #[] #[])
  fields := #[]
  methods := #[k1m0, k1m1, k1m2, k1m3]
  instanceTypes := #[]
  staticTypes := #[]
  resolved := Array.replicate 40 none
  statics := none }

def pool2 : Array CpInfo := pool [(2, .class_ 4), (1, u "java/lang/Object"), (0, u "<init>"), (0, u "()V"), (25, .class_ 34), (1, u "com/example/issuerd/issuerd/xml/Dom"), (94, u "IN_ATTRIBUTE"), (0, u "[Ljava/lang/String;"), (14, u "IN_TEXT"), (23, u "IN_MARKUP"), (24, u "isXmlCharacter"), (0, u "(I)Z"), (34, .integer 55296), (0, .integer 57344), (0, .integer 65533), (0, .integer 65536), (0, .integer 1114111), (24, u "XML_DECLARATION"), (0, u "Ljava/lang/String;")] 29

def k2m0 : Method := { name := "<init>", desc := "()V", sig := { parameters := [], returnType := none }, accessFlags := 2, code := none }
def k2c1 : Code := { maxStack := 2, maxLocals := 1, code := prog_48_method_9_code, exceptionTable := #[], attributes := #[] }
def k2m1 : Method := { name := "isXmlCharacter", desc := "(I)Z", sig := { parameters := [.int], returnType := some .boolean }, accessFlags := 8, code := some k2c1 }
/-- com/example/issuerd/issuerd/xml/Dom -/
def k2 : Class := { plain "com/example/issuerd/issuerd/xml/Dom" (some 0) with
  accessFlags := 49
  interfaces := #[]
  cf := some (fileOf pool2 32 #[] #[{ accessFlags := 2, nameIndex := 5, descriptorIndex := 6, attributes := #[] }, { accessFlags := 8, nameIndex := 194, descriptorIndex := 195, attributes := #[] }] 49 2 #[] #[{ accessFlags := 24, nameIndex := 259, descriptorIndex := 260, attributes := #[] }, { accessFlags := 26, nameIndex := 145, descriptorIndex := 130, attributes := #[] }, { accessFlags := 26, nameIndex := 129, descriptorIndex := 130, attributes := #[] }, { accessFlags := 26, nameIndex := 169, descriptorIndex := 130, attributes := #[] }])
  fields := #[{ name := "XML_DECLARATION", type := (.object "java/lang/String"), accessFlags := 24, slot := 0, constantValue := 0 }, { name := "IN_TEXT", type := (.array (.object "java/lang/String")), accessFlags := 26, slot := 1, constantValue := 0 }, { name := "IN_ATTRIBUTE", type := (.array (.object "java/lang/String")), accessFlags := 26, slot := 2, constantValue := 0 }, { name := "IN_MARKUP", type := (.array (.object "java/lang/String")), accessFlags := 26, slot := 3, constantValue := 0 }]
  methods := #[k2m0, k2m1]
  instanceTypes := #[]
  staticTypes := #[(.object "java/lang/String"), (.array (.object "java/lang/String")), (.array (.object "java/lang/String")), (.array (.object "java/lang/String"))]
  resolved := Array.replicate 290 none
  statics := none }

def pool3 : Array CpInfo := pool [(1, u "java/lang/Cloneable"), (0, .class_ 1), (0, u "java/lang/Object"), (0, .class_ 3)] 3

/-- java/lang/Cloneable -/
def k3 : Class := { plain "java/lang/Cloneable" (some 0) with
  accessFlags := 1537
  interfaces := #[]
  cf := some (fileOf pool3 2 #[] #[] 1537 4 #[] #[])
  fields := #[]
  methods := #[]
  instanceTypes := #[]
  staticTypes := #[]
  resolved := Array.replicate 8 none
  statics := none }

def pool4 : Array CpInfo := pool [(1, u "java/io/Serializable"), (0, .class_ 1), (0, u "java/lang/Object"), (0, .class_ 3)] 3

/-- java/io/Serializable -/
def k4 : Class := { plain "java/io/Serializable" (some 0) with
  accessFlags := 1537
  interfaces := #[]
  cf := some (fileOf pool4 2 #[] #[] 1537 4 #[] #[])
  fields := #[]
  methods := #[]
  instanceTypes := #[]
  staticTypes := #[]
  resolved := Array.replicate 8 none
  statics := none }

/-- the primitive byte -/
def k5 : Class := { plain "byte" none with kind := .primitive 'B', accessFlags := 0x411 }
/-- [B -/
def k6 : Class := { plain "[B" (some 0) with kind := .array 5 .byte, interfaces := #[3, 4], accessFlags := 1041 }

/-- the primitive int -/
def k7 : Class := { plain "int" none with kind := .primitive 'I', accessFlags := 0x411 }
/-- [I -/
def k8 : Class := { plain "[I" (some 0) with kind := .array 7 .int, interfaces := #[3, 4], accessFlags := 1041 }

def heap : Heap := #[]
def classes : Array Class := #[k0, k1, k2, k3, k4, k5, k6, k7, k8]
def interned : List (Array UInt16 × Addr) := []
def slotsUsed : Nat := 0
def theMethod : MethodId := ⟨1, 3⟩
def args0 : Array Value := #[.int 5, .int 6]
def aboutOver (below : List Frame) : State where
  vm := { classes := classes, interned := interned.toArray }
  heap := heap
  slotsUsed := slotsUsed
  threads := #[{ frames := .invoking theMethod args0 :: below }]
def below0 : List Frame := [.native { method := ⟨0, 0⟩, args := #[] }]
def about1 : State := aboutOver below0
def p0 : Program := .bare "" "" ""
def e0 : Env := launch0.env 0 0 0
theorem w_frames : about1.frames = Frame.invoking theMethod args0 :: below0 := rfl
set_option maxRecDepth 65536 in
theorem w_args : argsFit about1.vm theMethod args0 = true := by decide +kernel
set_option maxRecDepth 65536 in
theorem w_heap : heapFits about1 = true := by decide +kernel
set_option maxRecDepth 65536 in
theorem w_runnable : about1.curStatus? = some .runnable := by decide +kernel
set_option maxRecDepth 65536 in
theorem w_alone : about1.alone = true := by decide +kernel
set_option maxRecDepth 65536 in
theorem w_named : about1.methodNamed? x = some theMethod := by decide +kernel
set_option maxRecDepth 65536 in
theorem w_hears : about1.hears theMethod below0 = true := by decide +kernel
set_option maxRecDepth 65536 in
theorem w_ripe : about1.ripe theMethod args0 below0 = true := by decide +kernel
theorem w_running : about1.status = .running := rfl
set_option maxRecDepth 65536 in
theorem w_room : about1.hasRoom e0.platform room_1 = true :=
  launch0.hasRoom_least _ room_1 (by decide +kernel) (by decide +kernel) (by decide +kernel) (by decide +kernel) (by decide +kernel) (by decide +kernel)
theorem allAtoms_all (ts : List Jvm.Cond) (a : Array Jvm.Value) (st : Jvm.State) : (allAtoms ts).before a st = ts.all (fun c => c.before a st) := by
  induction ts with
  | nil => rfl
  | cons c t ih =>
    show (Jvm.Cond.and c (allAtoms t)).before a st = _
    rw [Jvm.Cond.before_and, ih, List.all_cons]
def words1 : List Jvm.Cond := Jvm.Cond.code x code maxLocals ret :: tables_1
/-- a 'code' word, met by the world's own term for the bytes: nothing is compared byte by byte -/
theorem code_word {y : MethodName} {bytes : ByteArray} {mx : Nat} {rt : Option FieldType} {a : Array Value} {s : State} {m : MethodId} {meth : Method} {c : Code} (h1 : s.methodNamed? y = some m) (h2 : s.vm.method? m = some meth) (h3 : meth.code = some c) (h4 : c.code = bytes)
    (h5 : (c.maxLocals == mx && c.exceptionTable.isEmpty && decide (c.maxStack ≤ mostOperands) && decide (meth.sig.returnType = rt) && !meth.locks && decide (parseMethodDescriptor y.desc = some meth.sig)) = true) : (Jvm.Cond.code y bytes mx rt).before a s = true := by
  simp only [Bool.and_eq_true, beq_iff_eq, Bool.not_eq_true', decide_eq_true_eq] at h5
  obtain ⟨⟨⟨⟨⟨g1, g2⟩, g3⟩, g4⟩, g5⟩, g6⟩ := h5
  simp [Cond.before, Cond.holds, Cond.value, h1, h2, h3, h4, g1, g2, g3, g4, g5, g6]
def isCode : Jvm.Cond → Bool
  | .code _ _ _ _ => true
  | _ => false
theorem all_split {L : List Jvm.Cond} {P : Jvm.Cond → Bool} (h1 : L.all (fun c => isCode c || P c) = true) (h2 : ∀ c ∈ L.filter isCode, P c = true) : L.all P = true := by
  refine List.all_eq_true.mpr fun c hc => ?_
  have h := List.all_eq_true.mp h1 c hc
  rcases Bool.eq_false_or_eq_true (isCode c) with hi | hi
  · exact h2 c (List.mem_filter.mpr ⟨hc, hi⟩)
  · simpa [hi] using h
set_option maxRecDepth 65536 in
theorem w_c0 : (Jvm.Cond.code x code maxLocals ret).before args0 about1 = true := code_word (m := ⟨1, 3⟩) (meth := k1m3) (c := k1c3) (by decide +kernel) rfl rfl rfl (by decide +kernel)
set_option maxRecDepth 65536 in
theorem w_c1 : (Jvm.Cond.code ({ cls := "com/example/issuerd/issuerd/xml/DomIsXmlCharacterPinLaw", name := "base", desc := "(I)I" } : Jvm.MethodName) method_2_code (1 : Nat) (Option.some Jvm.ClassFile.FieldType.int)).before args0 about1 = true := code_word (m := ⟨1, 1⟩) (meth := k1m1) (c := k1c1) (by decide +kernel) rfl rfl rfl (by decide +kernel)
set_option maxRecDepth 65536 in
theorem w_c2 : (Jvm.Cond.code ({ cls := "com/example/issuerd/issuerd/xml/Dom", name := "isXmlCharacter", desc := "(I)Z" } : Jvm.MethodName) prog_48_method_9_code (1 : Nat) (Option.some Jvm.ClassFile.FieldType.boolean)).before args0 about1 = true := code_word (m := ⟨2, 1⟩) (meth := k2m1) (c := k2c1) (by decide +kernel) rfl rfl rfl (by decide +kernel)
set_option maxRecDepth 65536 in
theorem w_c3 : (Jvm.Cond.code ({ cls := "com/example/issuerd/issuerd/xml/DomIsXmlCharacterPinLaw", name := "reference", desc := "(I)Z" } : Jvm.MethodName) method_3_code (1 : Nat) (Option.some Jvm.ClassFile.FieldType.boolean)).before args0 about1 = true := code_word (m := ⟨1, 2⟩) (meth := k1m2) (c := k1c2) (by decide +kernel) rfl rfl rfl (by decide +kernel)
def codes1 : List Jvm.Cond := [Jvm.Cond.code x code maxLocals ret, Jvm.Cond.code ({ cls := "com/example/issuerd/issuerd/xml/DomIsXmlCharacterPinLaw", name := "base", desc := "(I)I" } : Jvm.MethodName) method_2_code (1 : Nat) (Option.some Jvm.ClassFile.FieldType.int), Jvm.Cond.code ({ cls := "com/example/issuerd/issuerd/xml/Dom", name := "isXmlCharacter", desc := "(I)Z" } : Jvm.MethodName) prog_48_method_9_code (1 : Nat) (Option.some Jvm.ClassFile.FieldType.boolean), Jvm.Cond.code ({ cls := "com/example/issuerd/issuerd/xml/DomIsXmlCharacterPinLaw", name := "reference", desc := "(I)Z" } : Jvm.MethodName) method_3_code (1 : Nat) (Option.some Jvm.ClassFile.FieldType.boolean)]
set_option maxRecDepth 65536 in
theorem codes_eq : words1.filter isCode = codes1 := rfl
theorem w_codes : ∀ c ∈ words1.filter isCode, c.before args0 about1 = true := by
  rw [codes_eq]
  intro c hc
  simp only [codes1, List.mem_cons, List.not_mem_nil, or_false] at hc
  rcases hc with rfl | rfl | rfl | rfl
  · exact w_c0
  · exact w_c1
  · exact w_c2
  · exact w_c3
set_option maxRecDepth 65536 in
theorem w_t1 : (words1.take 24).all (fun c => isCode c || c.before args0 about1) = true := by decide +kernel
set_option maxRecDepth 65536 in
theorem w_t2 : (words1.drop 24).all (fun c => isCode c || c.before args0 about1) = true := by decide +kernel
theorem w_tables : (allAtoms (Jvm.Cond.code x code maxLocals ret :: tables_1)).before args0 about1 = true := by
  rw [allAtoms_all]
  show words1.all (fun c => c.before args0 about1) = true
  refine all_split ?_ w_codes
  rw [← List.take_append_drop 24 words1, List.all_append, w_t1, w_t2]
  rfl
set_option maxRecDepth 65536 in
theorem w_case : (Jvm.Cond.and given_1 narrow_1).before args0 about1 = true := by decide +kernel
theorem w_applies : (headSpec (Jvm.Cond.code x code maxLocals ret :: tables_1) room_1).applies x e0.platform about1 = true :=
  (Spec.applies_iff w_frames).mpr ⟨w_running, w_runnable, w_alone, w_named, w_hears, w_ripe, w_room, w_tables⟩
theorem atStart : AtStart classFile x code maxLocals ret World_1 tables_1 room_1 Calls_1 rest_1 Pre_1 launch0 p0 e0 about1 theMethod args0 below0 :=
  ⟨lists_1, trivial, launch0.admits_env _ _ _, launch0.least_env, fairChoices_fair.cas, fairChoices_fair.clock, w_frames, w_args, w_heap, w_applies, trivial, trivial, w_case⟩
end start1
theorem witness_1 : WitnessClaimed_1 := ⟨start1.p0, start1.e0, start1.about1, start1.theMethod, start1.args0, start1.below0, start1.atStart⟩
end Jvm.Pilot.@@N@@
