import JvmDerived
import JvmDerived.Pilot.@@N@@Statement
import JvmDerived.Pilot.@@N@@Code
set_option linter.unusedVariables false
set_option linter.unusedSimpArgs false
@@BLOCK:NumsL.lean.txt@@
namespace Jvm.Pilot.@@N@@
open Jvm Jvm.ClassFile Sem Op Lib Jvm.Free Jvm.Stand Jvm.LawKit Jvm.RoadKit Bundle Jvm.Pilot.@@N@@.Jvm.D
/-! general: a run that comes to its end with what Q says -/
def own_G (tb : Tables) (e : Env) (below : List Frame) (S : State) (s : State) (C N : Nat) (Q : Option Value → Heap → List Loc → Prop) : Prop :=
  ∃ t o, Steps tb e below S t ∧ t.status = .running ∧ Ended t below o ∧ ∃ v L, o = .returned v ∧ Q v t.heap L ∧ FrameEnd s o t L C N
def own_P (n0 : Nat) (h0 : Heap) (w : Option Value) (v : Option Value) (h : Heap) (L : List Loc) : Prop := v = w ∧ Fr n0 L ∧ h = h0
section Own
variable {tb : Tables} {p : Program} {l : Launch} {e : Env} {R : Room} {s : State} {m : MethodId} {args : Array Value} {below : List Frame} {meth : Method} {c : Code} {T S S' : State} {locs : List Loc} {cells slots C N n0 : Nat} {h0 : Heap} {Q : Option Value → Heap → List Loc → Prop}
theorem own_go (h : ∀ t, Steps tb e below S' t → Steps tb e below S t) (k : own_G tb e below S' s C N Q) : own_G tb e below S s C N Q := by
  obtain ⟨t, o, a, b⟩ := k
  exact ⟨t, o, h t a, b⟩
theorem own_tr (h : Steps tb e below S S') (k : own_G tb e below S' s C N Q) : own_G tb e below S s C N Q := by
  obtain ⟨t, o, a, b⟩ := k
  exact ⟨t, o, h.trans a, b⟩
theorem own_itI {P : Prop} [Decidable P] {A B : Int32} (h : P) (k : own_G tb e below S s C N (own_P n0 h0 (some (.int A)))) : own_G tb e below S s C N (own_P n0 h0 (some (.int (if P then A else B)))) := by rw [if_pos h]; exact k
theorem own_ifI {P : Prop} [Decidable P] {A B : Int32} (h : ¬ P) (k : own_G tb e below S s C N (own_P n0 h0 (some (.int B)))) : own_G tb e below S s C N (own_P n0 h0 (some (.int (if P then A else B)))) := by rw [if_neg h]; exact k
theorem own_itJ {P : Prop} [Decidable P] {A B : Int64} (h : P) (k : own_G tb e below S s C N (own_P n0 h0 (some (.long A)))) : own_G tb e below S s C N (own_P n0 h0 (some (.long (if P then A else B)))) := by rw [if_pos h]; exact k
theorem own_ifJ {P : Prop} [Decidable P] {A B : Int64} (h : ¬ P) (k : own_G tb e below S s C N (own_P n0 h0 (some (.long B)))) : own_G tb e below S s C N (own_P n0 h0 (some (.long (if P then A else B)))) := by rw [if_neg h]; exact k
theorem own_endO {w : Value} {t : FieldType} {i : Instr} (X : Stand p l e R s m args below meth c T locs cells slots) (hx : p.tables.exec = Jvm.exec) (hlk : meth.locks = false) {pc : Nat} {Ls : Array Slot} {rest : List Value} (hret : meth.sig.returnType = some t) (hn : narrow t w = w)
    (hi : (i = .ireturn ∧ (t = .int ∨ t = .boolean ∨ t = .byte ∨ t = .char ∨ t = .short) ∧ ∃ z, w = .int z) ∨ (i = .lreturn ∧ t = .long ∧ ∃ z, w = .long z) ∨ (i = .dreturn ∧ t = .double ∧ ∃ z, w = .double z) ∨ (i = .freturn ∧ t = .float ∧ ∃ z, w = .float z) ∨ (i = .areturn ∧ t.isReference = true ∧ w.isRef = true))
    (hd : decode c.code pc = .ok (i, 1)) (hC : cells ≤ C) (hN : slots ≤ N) (hQ : Q (some w) T.heap locs) : own_G p.tables e below (T.setTop (mkF m pc Ls (w :: rest))) s C N Q := by
  obtain ⟨fs, hr, hrun, hended, hW, hsame⟩ := X.leave (v := some w) (fun h => by rw [hret] at h; cases h) hlk
  exact ⟨_, _, retOut X hx hret hn hi hd hr, hrun, hended, _, _, rfl, hQ, ⟨_, rfl⟩, hW, hsame.mono hC hN⟩
theorem own_endI {z : Int32} (X : Stand p l e R s m args below meth c T locs cells slots) (hx : p.tables.exec = Jvm.exec) (hlk : meth.locks = false) {pc : Nat} {Ls : Array Slot} {rest : List Value} (hret : meth.sig.returnType = some .int)
    (hd : decode c.code pc = .ok (.ireturn, 1)) (hC : cells ≤ C) (hN : slots ≤ N) (hQ : Q (some (.int z)) T.heap locs) : own_G p.tables e below (T.setTop (mkF m pc Ls (.int z :: rest))) s C N Q :=
  own_endO X hx hlk hret rfl (Or.inl ⟨rfl, Or.inl rfl, z, rfl⟩) hd hC hN hQ
theorem own_endJ {z : Int64} (X : Stand p l e R s m args below meth c T locs cells slots) (hx : p.tables.exec = Jvm.exec) (hlk : meth.locks = false) {pc : Nat} {Ls : Array Slot} {rest : List Value} (hret : meth.sig.returnType = some .long)
    (hd : decode c.code pc = .ok (.lreturn, 1)) (hC : cells ≤ C) (hN : slots ≤ N) (hQ : Q (some (.long z)) T.heap locs) : own_G p.tables e below (T.setTop (mkF m pc Ls (.long z :: rest))) s C N Q :=
  own_endO X hx hlk hret rfl (Or.inr (Or.inl ⟨rfl, rfl, z, rfl⟩)) hd hC hN hQ
theorem own_endR {w : Value} {t : FieldType} (X : Stand p l e R s m args below meth c T locs cells slots) (hx : p.tables.exec = Jvm.exec) (hlk : meth.locks = false) {pc : Nat} {Ls : Array Slot} {rest : List Value} (hret : meth.sig.returnType = some t) (hn : narrow t w = w) (ht : t.isReference = true) (hw : w.isRef = true)
    (hd : decode c.code pc = .ok (.areturn, 1)) (hC : cells ≤ C) (hN : slots ≤ N) (hQ : Q (some w) T.heap locs) : own_G p.tables e below (T.setTop (mkF m pc Ls (w :: rest))) s C N Q :=
  own_endO X hx hlk hret hn (Or.inr (Or.inr (Or.inr (Or.inr ⟨rfl, ht, hw⟩)))) hd hC hN hQ
theorem own_endN {z : Int32} {t : FieldType} (X : Stand p l e R s m args below meth c T locs cells slots) (hx : p.tables.exec = Jvm.exec) (hlk : meth.locks = false) {pc : Nat} {Ls : Array Slot} {rest : List Value} (hret : meth.sig.returnType = some t) (ht : t = .boolean ∨ t = .byte ∨ t = .char ∨ t = .short)
    (hd : decode c.code pc = .ok (.ireturn, 1)) (hC : cells ≤ C) (hN : slots ≤ N) (hQ : Q (some (.int (nar t z))) T.heap locs) : own_G p.tables e below (T.setTop (mkF m pc Ls (.int z :: rest))) s C N Q := by
  obtain ⟨fs, hr, hrun, hended, hW, hsame⟩ := X.leave (v := some (.int (nar t z))) (fun h => by rw [hret] at h; cases h) hlk
  exact ⟨_, _, retN X hx hret ht hd hr, hrun, hended, _, _, rfl, hQ, ⟨_, rfl⟩, hW, hsame.mono hC hN⟩
theorem own_endV (X : Stand p l e R s m args below meth c T locs cells slots) (hx : p.tables.exec = Jvm.exec) (hlk : meth.locks = false) {pc : Nat} {Ls : Array Slot} (hret : meth.sig.returnType = none)
    (hd : decode c.code pc = .ok (.return_, 1)) (hC : cells ≤ C) (hN : slots ≤ N) (hQ : Q none T.heap locs) : own_G p.tables e below (T.setTop (mkF m pc Ls [])) s C N Q := by
  obtain ⟨fs, hr, hrun, hended, hW, hsame⟩ := X.leave (v := none) (fun _ => rfl) hlk
  exact ⟨_, _, X.returnOut hx hret hd hr, hrun, hended, _, _, rfl, hQ, ⟨_, rfl⟩, hW, hsame.mono hC hN⟩
end Own
theorem d1_0 : decode prog_14_method_2_code 0 = .ok (.iload_n 0, 1) := by decide +kernel
theorem d1_1 : decode prog_14_method_2_code 1 = .ok (.bipush 65, 2) := by decide +kernel
theorem d1_3 : decode prog_14_method_2_code 3 = .ok (.if_icmp .lt 9, 3) := by decide +kernel
theorem d1_6 : decode prog_14_method_2_code 6 = .ok (.iload_n 0, 1) := by decide +kernel
theorem d1_7 : decode prog_14_method_2_code 7 = .ok (.bipush 90, 2) := by decide +kernel
theorem d1_9 : decode prog_14_method_2_code 9 = .ok (.if_icmp .le 51, 3) := by decide +kernel
theorem d1_12 : decode prog_14_method_2_code 12 = .ok (.iload_n 0, 1) := by decide +kernel
theorem d1_13 : decode prog_14_method_2_code 13 = .ok (.bipush 97, 2) := by decide +kernel
theorem d1_15 : decode prog_14_method_2_code 15 = .ok (.if_icmp .lt 9, 3) := by decide +kernel
theorem d1_18 : decode prog_14_method_2_code 18 = .ok (.iload_n 0, 1) := by decide +kernel
theorem d1_19 : decode prog_14_method_2_code 19 = .ok (.bipush 122, 2) := by decide +kernel
theorem d1_21 : decode prog_14_method_2_code 21 = .ok (.if_icmp .le 39, 3) := by decide +kernel
theorem d1_24 : decode prog_14_method_2_code 24 = .ok (.iload_n 0, 1) := by decide +kernel
theorem d1_25 : decode prog_14_method_2_code 25 = .ok (.bipush 48, 2) := by decide +kernel
theorem d1_27 : decode prog_14_method_2_code 27 = .ok (.if_icmp .lt 9, 3) := by decide +kernel
theorem d1_30 : decode prog_14_method_2_code 30 = .ok (.iload_n 0, 1) := by decide +kernel
theorem d1_31 : decode prog_14_method_2_code 31 = .ok (.bipush 57, 2) := by decide +kernel
theorem d1_33 : decode prog_14_method_2_code 33 = .ok (.if_icmp .le 27, 3) := by decide +kernel
theorem d1_36 : decode prog_14_method_2_code 36 = .ok (.iload_n 0, 1) := by decide +kernel
theorem d1_37 : decode prog_14_method_2_code 37 = .ok (.bipush 45, 2) := by decide +kernel
theorem d1_39 : decode prog_14_method_2_code 39 = .ok (.if_icmp .eq 21, 3) := by decide +kernel
theorem d1_42 : decode prog_14_method_2_code 42 = .ok (.iload_n 0, 1) := by decide +kernel
theorem d1_43 : decode prog_14_method_2_code 43 = .ok (.bipush 46, 2) := by decide +kernel
theorem d1_45 : decode prog_14_method_2_code 45 = .ok (.if_icmp .eq 15, 3) := by decide +kernel
theorem d1_48 : decode prog_14_method_2_code 48 = .ok (.iload_n 0, 1) := by decide +kernel
theorem d1_49 : decode prog_14_method_2_code 49 = .ok (.bipush 95, 2) := by decide +kernel
theorem d1_51 : decode prog_14_method_2_code 51 = .ok (.if_icmp .eq 9, 3) := by decide +kernel
theorem d1_54 : decode prog_14_method_2_code 54 = .ok (.iload_n 0, 1) := by decide +kernel
theorem d1_55 : decode prog_14_method_2_code 55 = .ok (.bipush 126, 2) := by decide +kernel
theorem d1_57 : decode prog_14_method_2_code 57 = .ok (.if_icmp .ne 7, 3) := by decide +kernel
theorem d1_60 : decode prog_14_method_2_code 60 = .ok (.iconst 1, 1) := by decide +kernel
theorem d1_61 : decode prog_14_method_2_code 61 = .ok (.goto 4, 3) := by decide +kernel
theorem d1_64 : decode prog_14_method_2_code 64 = .ok (.iconst 0, 1) := by decide +kernel
theorem d1_65 : decode prog_14_method_2_code 65 = .ok (.ireturn, 1) := by decide +kernel
def own_unres_65 (p0 : Int32) (w0 : Int32) : Int32 := (w0 &&& 1)
def own_unres_60 (p0 : Int32)  : Int32 := (own_unres_65 p0 (1 : Int32))
def own_unres_36 (p0 : Int32)  : Int32 := (if p0 = (45 : Int32) then (own_unres_60 p0 ) else (if p0 = (46 : Int32) then (own_unres_60 p0 ) else (if p0 = (95 : Int32) then (own_unres_60 p0 ) else (if p0 = (126 : Int32) then (own_unres_60 p0 ) else (own_unres_65 p0 (0 : Int32))))))
def own_unres_24 (p0 : Int32)  : Int32 := (if p0 < (48 : Int32) then (own_unres_36 p0 ) else (if (57 : Int32) < p0 then (own_unres_36 p0 ) else (own_unres_60 p0 )))
def own_unres_12 (p0 : Int32)  : Int32 := (if p0 < (97 : Int32) then (own_unres_24 p0 ) else (if (122 : Int32) < p0 then (own_unres_24 p0 ) else (own_unres_60 p0 )))
def own_unres (p0 : Int32) : Int32 := (if p0 < (65 : Int32) then (own_unres_12 p0 ) else (if (90 : Int32) < p0 then (own_unres_12 p0 ) else (own_unres_60 p0 )))
theorem pn_0 : plainName "com/example/amid2/amid2/PercentEncoding" = true := by first | (simp [plainName, overriddenIn]; done) | decide +kernel
theorem ef_1 (m : MethodId) (p0 : Int32) : entryFrame m #[(.int p0)] 1 = mkF m 0 #[.val (.int p0)] [] := by first | (simp [entryFrame, mkF, argsToLocals, Value.category]; done) | rfl
set_option maxRecDepth 65536 in
set_option maxHeartbeats 40000000 in
theorem rm1 (l : Launch) (Z : State) (a0 : Array Value) (hw : ∀ d ∈ tables_1, d.before a0 Z = true) (ws : List Jvm.Cond) (p0 : Int32) (h0 : Heap) (n0 : Nat) :
    MetFree l (⟨"com/example/amid2/amid2/PercentEncoding", "isUnreserved", "(C)Z"⟩ : MethodName) (head1 (Jvm.Cond.code (⟨"com/example/amid2/amid2/PercentEncoding", "isUnreserved", "(C)Z"⟩ : MethodName) prog_14_method_2_code 1 (some .boolean) :: ws) ({ frames := 0, cells := 0, slots := 0, locals := 0 } : Room)) (fun a U => a = #[(.int p0)] ∧ Z.Warmed39 U.vm ∧ U.heap = h0) (fun _ _ _ _ _ => True) (fun _ U o U' => ∃ v L, o = .returned v ∧ (own_P n0 h0 (some (.int (own_unres p0)))) v U'.heap L ∧ FrameEnd U o U' L ({ frames := 0, cells := 0, slots := 0, locals := 0 } : Room).cells ({ frames := 0, cells := 0, slots := 0, locals := 0 } : Room).slots) := by
  refine MetFree.of_bodySF (plainFor_of_name pn_0) hisR ?_
  intro p e s m args below meth c s₁ Bd hml0 hP hK
  obtain ⟨rfl, hZ, hh⟩ := hP
  have hx := Bd.exec
  have hby := Bd.bytes
  have hml : c.maxLocals = 1 := hml0
  have hown : s.vm.findClass "com/example/amid2/amid2/PercentEncoding" = some m.cls := findClass_of_methodNamed Bd.named
  have hnm := (name_of_methodNamed Bd.named Bd.method).1
  have hlk : meth.locks = false := BodyLoose.notSynchronized Bd
  have X0 : Stand p l e ({ frames := 0, cells := 0, slots := 0, locals := 0 } : Room) s m #[(.int p0)] below meth c s₁ [] 0 0 := Stand.of_body Bd
  have e0 : s₁.heap = h0 := by rw [← hh, Bd.state]; rfl
  have N0 := Fr.nil n0
  have J65 : ∀ (T : State) (Lc : List Loc) (X : Stand p l e ({ frames := 0, cells := 0, slots := 0, locals := 0 } : Room) s m #[(.int p0)] below meth c T Lc 0 0) (eT : T.heap = h0) (N : Fr n0 Lc) (w0 : Int32) , own_G p.tables e below (T.setTop (mkF m 65 #[.val (.int p0)] [(.int w0)])) s ({ frames := 0, cells := 0, slots := 0, locals := 0 } : Room).cells ({ frames := 0, cells := 0, slots := 0, locals := 0 } : Room).slots (own_P n0 h0 (some (.int (own_unres_65 p0 w0)))) := by
    intro T Lc X eT N w0 
    show own_G _ _ _ _ _ _ _ (own_P n0 h0 (some (.int ((w0 &&& 1)))))
    exact own_endN X hx hlk (t := .boolean) Bd.returns (by simp) (hb hby d1_65) (by decide) (by decide) ⟨rfl, N, eT⟩
  have J60 : ∀ (T : State) (Lc : List Loc) (X : Stand p l e ({ frames := 0, cells := 0, slots := 0, locals := 0 } : Room) s m #[(.int p0)] below meth c T Lc 0 0) (eT : T.heap = h0) (N : Fr n0 Lc)  , own_G p.tables e below (T.setTop (mkF m 60 #[.val (.int p0)] [])) s ({ frames := 0, cells := 0, slots := 0, locals := 0 } : Room).cells ({ frames := 0, cells := 0, slots := 0, locals := 0 } : Room).slots (own_P n0 h0 (some (.int (own_unres_60 p0 )))) := by
    intro T Lc X eT N  
    show own_G _ _ _ _ _ _ _ (own_P n0 h0 (some (.int ((own_unres_65 p0 (1 : Int32))))))
    refine own_go (fun t k => XS.iconst X.here hx rfl (hb hby d1_60) k) ?_
    show own_G _ _ _ (T.setTop (mkF m 61 #[.val (.int p0)] [(.int (1 : Int32))])) _ _ _ _
    refine own_go (fun t k => XS.goto X.here hx rfl (pc0 := 61) (pc' := 65) rfl (hb hby d1_61) (by decide) (by decide) k) ?_
    show own_G _ _ _ (T.setTop (mkF m 65 #[.val (.int p0)] [(.int (1 : Int32))])) _ _ _ _
    exact J65 _ _ X eT N (1 : Int32) 
  have J36 : ∀ (T : State) (Lc : List Loc) (X : Stand p l e ({ frames := 0, cells := 0, slots := 0, locals := 0 } : Room) s m #[(.int p0)] below meth c T Lc 0 0) (eT : T.heap = h0) (N : Fr n0 Lc)  , own_G p.tables e below (T.setTop (mkF m 36 #[.val (.int p0)] [])) s ({ frames := 0, cells := 0, slots := 0, locals := 0 } : Room).cells ({ frames := 0, cells := 0, slots := 0, locals := 0 } : Room).slots (own_P n0 h0 (some (.int (own_unres_36 p0 )))) := by
    intro T Lc X eT N  
    show own_G _ _ _ _ _ _ _ (own_P n0 h0 (some (.int ((if p0 = (45 : Int32) then (own_unres_60 p0 ) else (if p0 = (46 : Int32) then (own_unres_60 p0 ) else (if p0 = (95 : Int32) then (own_unres_60 p0 ) else (if p0 = (126 : Int32) then (own_unres_60 p0 ) else (own_unres_65 p0 (0 : Int32))))))))))
    refine own_go (fun t k => XS.iloadN X.here hx rfl (hb hby d1_36) rfl k) ?_
    show own_G _ _ _ (T.setTop (mkF m 37 #[.val (.int p0)] [(.int p0)])) _ _ _ _
    refine own_go (fun t k => XS.bipush X.here hx rfl (hb hby d1_37) k) ?_
    show own_G _ _ _ (T.setTop (mkF m 39 #[.val (.int p0)] [(.int (45 : Int32)), (.int p0)])) _ _ _ _
    by_cases hc1 : p0 = (45 : Int32)
    · refine own_itI hc1 ?_
      refine own_go (fun t k => XS.icmpYes X.here hx rfl (pc0 := 39) (pc' := 60) rfl (hb hby d1_39) rfl (teq hc1).1 (by decide) (by decide) k) ?_
      show own_G _ _ _ (T.setTop (mkF m 60 #[.val (.int p0)] [])) _ _ _ _
      exact J60 _ _ X eT N  
    · refine own_ifI hc1 ?_
      refine own_go (fun t k => XS.icmpNo X.here hx rfl (hb hby d1_39) rfl (feq hc1).1 k) ?_
      show own_G _ _ _ (T.setTop (mkF m 42 #[.val (.int p0)] [])) _ _ _ _
      refine own_go (fun t k => XS.iloadN X.here hx rfl (hb hby d1_42) rfl k) ?_
      show own_G _ _ _ (T.setTop (mkF m 43 #[.val (.int p0)] [(.int p0)])) _ _ _ _
      refine own_go (fun t k => XS.bipush X.here hx rfl (hb hby d1_43) k) ?_
      show own_G _ _ _ (T.setTop (mkF m 45 #[.val (.int p0)] [(.int (46 : Int32)), (.int p0)])) _ _ _ _
      by_cases hc2 : p0 = (46 : Int32)
      · refine own_itI hc2 ?_
        refine own_go (fun t k => XS.icmpYes X.here hx rfl (pc0 := 45) (pc' := 60) rfl (hb hby d1_45) rfl (teq hc2).1 (by decide) (by decide) k) ?_
        show own_G _ _ _ (T.setTop (mkF m 60 #[.val (.int p0)] [])) _ _ _ _
        exact J60 _ _ X eT N  
      · refine own_ifI hc2 ?_
        refine own_go (fun t k => XS.icmpNo X.here hx rfl (hb hby d1_45) rfl (feq hc2).1 k) ?_
        show own_G _ _ _ (T.setTop (mkF m 48 #[.val (.int p0)] [])) _ _ _ _
        refine own_go (fun t k => XS.iloadN X.here hx rfl (hb hby d1_48) rfl k) ?_
        show own_G _ _ _ (T.setTop (mkF m 49 #[.val (.int p0)] [(.int p0)])) _ _ _ _
        refine own_go (fun t k => XS.bipush X.here hx rfl (hb hby d1_49) k) ?_
        show own_G _ _ _ (T.setTop (mkF m 51 #[.val (.int p0)] [(.int (95 : Int32)), (.int p0)])) _ _ _ _
        by_cases hc3 : p0 = (95 : Int32)
        · refine own_itI hc3 ?_
          refine own_go (fun t k => XS.icmpYes X.here hx rfl (pc0 := 51) (pc' := 60) rfl (hb hby d1_51) rfl (teq hc3).1 (by decide) (by decide) k) ?_
          show own_G _ _ _ (T.setTop (mkF m 60 #[.val (.int p0)] [])) _ _ _ _
          exact J60 _ _ X eT N  
        · refine own_ifI hc3 ?_
          refine own_go (fun t k => XS.icmpNo X.here hx rfl (hb hby d1_51) rfl (feq hc3).1 k) ?_
          show own_G _ _ _ (T.setTop (mkF m 54 #[.val (.int p0)] [])) _ _ _ _
          refine own_go (fun t k => XS.iloadN X.here hx rfl (hb hby d1_54) rfl k) ?_
          show own_G _ _ _ (T.setTop (mkF m 55 #[.val (.int p0)] [(.int p0)])) _ _ _ _
          refine own_go (fun t k => XS.bipush X.here hx rfl (hb hby d1_55) k) ?_
          show own_G _ _ _ (T.setTop (mkF m 57 #[.val (.int p0)] [(.int (126 : Int32)), (.int p0)])) _ _ _ _
          by_cases hc4 : p0 = (126 : Int32)
          · refine own_itI hc4 ?_
            refine own_go (fun t k => XS.icmpNo X.here hx rfl (hb hby d1_57) rfl (teq hc4).2 k) ?_
            show own_G _ _ _ (T.setTop (mkF m 60 #[.val (.int p0)] [])) _ _ _ _
            exact J60 _ _ X eT N  
          · refine own_ifI hc4 ?_
            refine own_go (fun t k => XS.icmpYes X.here hx rfl (pc0 := 57) (pc' := 64) rfl (hb hby d1_57) rfl (feq hc4).2 (by decide) (by decide) k) ?_
            show own_G _ _ _ (T.setTop (mkF m 64 #[.val (.int p0)] [])) _ _ _ _
            refine own_go (fun t k => XS.iconst X.here hx rfl (hb hby d1_64) k) ?_
            show own_G _ _ _ (T.setTop (mkF m 65 #[.val (.int p0)] [(.int (0 : Int32))])) _ _ _ _
            exact J65 _ _ X eT N (0 : Int32) 
  have J24 : ∀ (T : State) (Lc : List Loc) (X : Stand p l e ({ frames := 0, cells := 0, slots := 0, locals := 0 } : Room) s m #[(.int p0)] below meth c T Lc 0 0) (eT : T.heap = h0) (N : Fr n0 Lc)  , own_G p.tables e below (T.setTop (mkF m 24 #[.val (.int p0)] [])) s ({ frames := 0, cells := 0, slots := 0, locals := 0 } : Room).cells ({ frames := 0, cells := 0, slots := 0, locals := 0 } : Room).slots (own_P n0 h0 (some (.int (own_unres_24 p0 )))) := by
    intro T Lc X eT N  
    show own_G _ _ _ _ _ _ _ (own_P n0 h0 (some (.int ((if p0 < (48 : Int32) then (own_unres_36 p0 ) else (if (57 : Int32) < p0 then (own_unres_36 p0 ) else (own_unres_60 p0 )))))))
    refine own_go (fun t k => XS.iloadN X.here hx rfl (hb hby d1_24) rfl k) ?_
    show own_G _ _ _ (T.setTop (mkF m 25 #[.val (.int p0)] [(.int p0)])) _ _ _ _
    refine own_go (fun t k => XS.bipush X.here hx rfl (hb hby d1_25) k) ?_
    show own_G _ _ _ (T.setTop (mkF m 27 #[.val (.int p0)] [(.int (48 : Int32)), (.int p0)])) _ _ _ _
    by_cases hc5 : p0 < (48 : Int32)
    · refine own_itI hc5 ?_
      refine own_go (fun t k => XS.icmpYes X.here hx rfl (pc0 := 27) (pc' := 36) rfl (hb hby d1_27) rfl (tlt hc5).1 (by decide) (by decide) k) ?_
      show own_G _ _ _ (T.setTop (mkF m 36 #[.val (.int p0)] [])) _ _ _ _
      exact J36 _ _ X eT N  
    · refine own_ifI hc5 ?_
      refine own_go (fun t k => XS.icmpNo X.here hx rfl (hb hby d1_27) rfl (flt hc5).1 k) ?_
      show own_G _ _ _ (T.setTop (mkF m 30 #[.val (.int p0)] [])) _ _ _ _
      refine own_go (fun t k => XS.iloadN X.here hx rfl (hb hby d1_30) rfl k) ?_
      show own_G _ _ _ (T.setTop (mkF m 31 #[.val (.int p0)] [(.int p0)])) _ _ _ _
      refine own_go (fun t k => XS.bipush X.here hx rfl (hb hby d1_31) k) ?_
      show own_G _ _ _ (T.setTop (mkF m 33 #[.val (.int p0)] [(.int (57 : Int32)), (.int p0)])) _ _ _ _
      by_cases hc6 : (57 : Int32) < p0
      · refine own_itI hc6 ?_
        refine own_go (fun t k => XS.icmpNo X.here hx rfl (hb hby d1_33) rfl (tlt hc6).2.2.2 k) ?_
        show own_G _ _ _ (T.setTop (mkF m 36 #[.val (.int p0)] [])) _ _ _ _
        exact J36 _ _ X eT N  
      · refine own_ifI hc6 ?_
        refine own_go (fun t k => XS.icmpYes X.here hx rfl (pc0 := 33) (pc' := 60) rfl (hb hby d1_33) rfl (flt hc6).2.2.2 (by decide) (by decide) k) ?_
        show own_G _ _ _ (T.setTop (mkF m 60 #[.val (.int p0)] [])) _ _ _ _
        exact J60 _ _ X eT N  
  have J12 : ∀ (T : State) (Lc : List Loc) (X : Stand p l e ({ frames := 0, cells := 0, slots := 0, locals := 0 } : Room) s m #[(.int p0)] below meth c T Lc 0 0) (eT : T.heap = h0) (N : Fr n0 Lc)  , own_G p.tables e below (T.setTop (mkF m 12 #[.val (.int p0)] [])) s ({ frames := 0, cells := 0, slots := 0, locals := 0 } : Room).cells ({ frames := 0, cells := 0, slots := 0, locals := 0 } : Room).slots (own_P n0 h0 (some (.int (own_unres_12 p0 )))) := by
    intro T Lc X eT N  
    show own_G _ _ _ _ _ _ _ (own_P n0 h0 (some (.int ((if p0 < (97 : Int32) then (own_unres_24 p0 ) else (if (122 : Int32) < p0 then (own_unres_24 p0 ) else (own_unres_60 p0 )))))))
    refine own_go (fun t k => XS.iloadN X.here hx rfl (hb hby d1_12) rfl k) ?_
    show own_G _ _ _ (T.setTop (mkF m 13 #[.val (.int p0)] [(.int p0)])) _ _ _ _
    refine own_go (fun t k => XS.bipush X.here hx rfl (hb hby d1_13) k) ?_
    show own_G _ _ _ (T.setTop (mkF m 15 #[.val (.int p0)] [(.int (97 : Int32)), (.int p0)])) _ _ _ _
    by_cases hc7 : p0 < (97 : Int32)
    · refine own_itI hc7 ?_
      refine own_go (fun t k => XS.icmpYes X.here hx rfl (pc0 := 15) (pc' := 24) rfl (hb hby d1_15) rfl (tlt hc7).1 (by decide) (by decide) k) ?_
      show own_G _ _ _ (T.setTop (mkF m 24 #[.val (.int p0)] [])) _ _ _ _
      exact J24 _ _ X eT N  
    · refine own_ifI hc7 ?_
      refine own_go (fun t k => XS.icmpNo X.here hx rfl (hb hby d1_15) rfl (flt hc7).1 k) ?_
      show own_G _ _ _ (T.setTop (mkF m 18 #[.val (.int p0)] [])) _ _ _ _
      refine own_go (fun t k => XS.iloadN X.here hx rfl (hb hby d1_18) rfl k) ?_
      show own_G _ _ _ (T.setTop (mkF m 19 #[.val (.int p0)] [(.int p0)])) _ _ _ _
      refine own_go (fun t k => XS.bipush X.here hx rfl (hb hby d1_19) k) ?_
      show own_G _ _ _ (T.setTop (mkF m 21 #[.val (.int p0)] [(.int (122 : Int32)), (.int p0)])) _ _ _ _
      by_cases hc8 : (122 : Int32) < p0
      · refine own_itI hc8 ?_
        refine own_go (fun t k => XS.icmpNo X.here hx rfl (hb hby d1_21) rfl (tlt hc8).2.2.2 k) ?_
        show own_G _ _ _ (T.setTop (mkF m 24 #[.val (.int p0)] [])) _ _ _ _
        exact J24 _ _ X eT N  
      · refine own_ifI hc8 ?_
        refine own_go (fun t k => XS.icmpYes X.here hx rfl (pc0 := 21) (pc' := 60) rfl (hb hby d1_21) rfl (flt hc8).2.2.2 (by decide) (by decide) k) ?_
        show own_G _ _ _ (T.setTop (mkF m 60 #[.val (.int p0)] [])) _ _ _ _
        exact J60 _ _ X eT N  
  show own_G p.tables e below (s₁.setTop (entryFrame m #[(.int p0)] 1)) s ({ frames := 0, cells := 0, slots := 0, locals := 0 } : Room).cells ({ frames := 0, cells := 0, slots := 0, locals := 0 } : Room).slots (own_P n0 h0 (some (.int ((if p0 < (65 : Int32) then (own_unres_12 p0 ) else (if (90 : Int32) < p0 then (own_unres_12 p0 ) else (own_unres_60 p0 )))))))
  refine own_go (fun t k => castTop (ef_1 m p0) k) ?_
  refine own_go (fun t k => XS.iloadN X0.here hx rfl (hb hby d1_0) rfl k) ?_
  show own_G _ _ _ (s₁.setTop (mkF m 1 #[.val (.int p0)] [(.int p0)])) _ _ _ _
  refine own_go (fun t k => XS.bipush X0.here hx rfl (hb hby d1_1) k) ?_
  show own_G _ _ _ (s₁.setTop (mkF m 3 #[.val (.int p0)] [(.int (65 : Int32)), (.int p0)])) _ _ _ _
  by_cases hc9 : p0 < (65 : Int32)
  · refine own_itI hc9 ?_
    refine own_go (fun t k => XS.icmpYes X0.here hx rfl (pc0 := 3) (pc' := 12) rfl (hb hby d1_3) rfl (tlt hc9).1 (by decide) (by decide) k) ?_
    show own_G _ _ _ (s₁.setTop (mkF m 12 #[.val (.int p0)] [])) _ _ _ _
    exact J12 _ _ X0 e0 N0  
  · refine own_ifI hc9 ?_
    refine own_go (fun t k => XS.icmpNo X0.here hx rfl (hb hby d1_3) rfl (flt hc9).1 k) ?_
    show own_G _ _ _ (s₁.setTop (mkF m 6 #[.val (.int p0)] [])) _ _ _ _
    refine own_go (fun t k => XS.iloadN X0.here hx rfl (hb hby d1_6) rfl k) ?_
    show own_G _ _ _ (s₁.setTop (mkF m 7 #[.val (.int p0)] [(.int p0)])) _ _ _ _
    refine own_go (fun t k => XS.bipush X0.here hx rfl (hb hby d1_7) k) ?_
    show own_G _ _ _ (s₁.setTop (mkF m 9 #[.val (.int p0)] [(.int (90 : Int32)), (.int p0)])) _ _ _ _
    by_cases hc10 : (90 : Int32) < p0
    · refine own_itI hc10 ?_
      refine own_go (fun t k => XS.icmpNo X0.here hx rfl (hb hby d1_9) rfl (tlt hc10).2.2.2 k) ?_
      show own_G _ _ _ (s₁.setTop (mkF m 12 #[.val (.int p0)] [])) _ _ _ _
      exact J12 _ _ X0 e0 N0  
    · refine own_ifI hc10 ?_
      refine own_go (fun t k => XS.icmpYes X0.here hx rfl (pc0 := 9) (pc' := 60) rfl (hb hby d1_9) rfl (flt hc10).2.2.2 (by decide) (by decide) k) ?_
      show own_G _ _ _ (s₁.setTop (mkF m 60 #[.val (.int p0)] [])) _ _ _ _
      exact J60 _ _ X0 e0 N0  
theorem d2_0 : decode method_2_code 0 = .ok (.iload_n 0, 1) := by decide +kernel
theorem d2_1 : decode method_2_code 1 = .ok (.sipush 128, 3) := by decide +kernel
theorem d2_4 : decode method_2_code 4 = .ok (.if_icmp .lt 5, 3) := by decide +kernel
theorem d2_7 : decode method_2_code 7 = .ok (.iconst 0, 1) := by decide +kernel
theorem d2_8 : decode method_2_code 8 = .ok (.ireturn, 1) := by decide +kernel
theorem d2_9 : decode method_2_code 9 = .ok (.iload_n 0, 1) := by decide +kernel
theorem d2_10 : decode method_2_code 10 = .ok (.bipush 64, 2) := by decide +kernel
theorem d2_12 : decode method_2_code 12 = .ok (.if_icmp .ge 21, 3) := by decide +kernel
theorem d2_15 : decode method_2_code 15 = .ok (.ldc2_w 9, 3) := by decide +kernel
theorem d2_18 : decode method_2_code 18 = .ok (.iload_n 0, 1) := by decide +kernel
theorem d2_19 : decode method_2_code 19 = .ok (.lushr, 1) := by decide +kernel
theorem d2_20 : decode method_2_code 20 = .ok (.lconst 1, 1) := by decide +kernel
theorem d2_21 : decode method_2_code 21 = .ok (.land, 1) := by decide +kernel
theorem d2_22 : decode method_2_code 22 = .ok (.lconst 0, 1) := by decide +kernel
theorem d2_23 : decode method_2_code 23 = .ok (.lcmp, 1) := by decide +kernel
theorem d2_24 : decode method_2_code 24 = .ok (.ifCond .eq 7, 3) := by decide +kernel
theorem d2_27 : decode method_2_code 27 = .ok (.iconst 1, 1) := by decide +kernel
theorem d2_28 : decode method_2_code 28 = .ok (.goto 4, 3) := by decide +kernel
theorem d2_31 : decode method_2_code 31 = .ok (.iconst 0, 1) := by decide +kernel
theorem d2_32 : decode method_2_code 32 = .ok (.ireturn, 1) := by decide +kernel
theorem d2_33 : decode method_2_code 33 = .ok (.ldc2_w 11, 3) := by decide +kernel
theorem d2_36 : decode method_2_code 36 = .ok (.iload_n 0, 1) := by decide +kernel
theorem d2_37 : decode method_2_code 37 = .ok (.bipush 64, 2) := by decide +kernel
theorem d2_39 : decode method_2_code 39 = .ok (.isub, 1) := by decide +kernel
theorem d2_40 : decode method_2_code 40 = .ok (.lushr, 1) := by decide +kernel
theorem d2_41 : decode method_2_code 41 = .ok (.lconst 1, 1) := by decide +kernel
theorem d2_42 : decode method_2_code 42 = .ok (.land, 1) := by decide +kernel
theorem d2_43 : decode method_2_code 43 = .ok (.lconst 0, 1) := by decide +kernel
theorem d2_44 : decode method_2_code 44 = .ok (.lcmp, 1) := by decide +kernel
theorem d2_45 : decode method_2_code 45 = .ok (.ifCond .eq 7, 3) := by decide +kernel
theorem d2_48 : decode method_2_code 48 = .ok (.iconst 1, 1) := by decide +kernel
theorem d2_49 : decode method_2_code 49 = .ok (.goto 4, 3) := by decide +kernel
theorem d2_52 : decode method_2_code 52 = .ok (.iconst 0, 1) := by decide +kernel
theorem d2_53 : decode method_2_code 53 = .ok (.ireturn, 1) := by decide +kernel
def own_exp_53 (p0 : Int32) (w0 : Int32) : Int32 := (w0 &&& 1)
def own_exp_32 (p0 : Int32) (w0 : Int32) : Int32 := (w0 &&& 1)
def own_exp (p0 : Int32) : Int32 := (if p0 < (128 : Int32) then (if p0 < (64 : Int32) then (if ((((288054454291267584 : Int64).toUInt64 >>> (p0 &&& 0x3f).toInt64.toUInt64).toInt64) &&& (1 : Int64)) = (0 : Int64) then (own_exp_32 p0 (0 : Int32)) else (own_exp_32 p0 (1 : Int32))) else (if ((((5188146764422578174 : Int64).toUInt64 >>> ((p0 - (64 : Int32)) &&& 0x3f).toInt64.toUInt64).toInt64) &&& (1 : Int64)) = (0 : Int64) then (own_exp_53 p0 (0 : Int32)) else (own_exp_53 p0 (1 : Int32)))) else (0 : Int32))
theorem pn_1 : plainName "com/example/amid2/amid2/PercentEncodingIsUnreservedPinLaw" = true := by first | (simp [plainName, overriddenIn]; done) | decide +kernel
theorem ef_2 (m : MethodId) (p0 : Int32) : entryFrame m #[(.int p0)] 1 = mkF m 0 #[.val (.int p0)] [] := by first | (simp [entryFrame, mkF, argsToLocals, Value.category]; done) | rfl
set_option maxRecDepth 65536 in
set_option maxHeartbeats 40000000 in
theorem rm2 (l : Launch) (Z : State) (a0 : Array Value) (hw : ∀ d ∈ tables_1, d.before a0 Z = true) (ws : List Jvm.Cond) (p0 : Int32) (h0 : Heap) (n0 : Nat) :
    MetFree l (⟨"com/example/amid2/amid2/PercentEncodingIsUnreservedPinLaw", "expected", "(C)Z"⟩ : MethodName) (head1 (Jvm.Cond.code (⟨"com/example/amid2/amid2/PercentEncodingIsUnreservedPinLaw", "expected", "(C)Z"⟩ : MethodName) method_2_code 1 (some .boolean) :: ws) ({ frames := 0, cells := 0, slots := 0, locals := 0 } : Room)) (fun a U => a = #[(.int p0)] ∧ Z.Warmed39 U.vm ∧ U.heap = h0) (fun _ _ _ _ _ => True) (fun _ U o U' => ∃ v L, o = .returned v ∧ (own_P n0 h0 (some (.int (own_exp p0)))) v U'.heap L ∧ FrameEnd U o U' L ({ frames := 0, cells := 0, slots := 0, locals := 0 } : Room).cells ({ frames := 0, cells := 0, slots := 0, locals := 0 } : Room).slots) := by
  refine MetFree.of_bodySF (plainFor_of_name pn_1) hisR ?_
  intro p e s m args below meth c s₁ Bd hml0 hP hK
  obtain ⟨rfl, hZ, hh⟩ := hP
  have hx := Bd.exec
  have hby := Bd.bytes
  have hml : c.maxLocals = 1 := hml0
  have hown : s.vm.findClass "com/example/amid2/amid2/PercentEncodingIsUnreservedPinLaw" = some m.cls := findClass_of_methodNamed Bd.named
  have hnm := (name_of_methodNamed Bd.named Bd.method).1
  have hlk : meth.locks = false := BodyLoose.notSynchronized Bd
  have X0 : Stand p l e ({ frames := 0, cells := 0, slots := 0, locals := 0 } : Room) s m #[(.int p0)] below meth c s₁ [] 0 0 := Stand.of_body Bd
  have e0 : s₁.heap = h0 := by rw [← hh, Bd.state]; rfl
  have N0 := Fr.nil n0
  have J53 : ∀ (T : State) (Lc : List Loc) (X : Stand p l e ({ frames := 0, cells := 0, slots := 0, locals := 0 } : Room) s m #[(.int p0)] below meth c T Lc 0 0) (eT : T.heap = h0) (N : Fr n0 Lc) (w0 : Int32) , own_G p.tables e below (T.setTop (mkF m 53 #[.val (.int p0)] [(.int w0)])) s ({ frames := 0, cells := 0, slots := 0, locals := 0 } : Room).cells ({ frames := 0, cells := 0, slots := 0, locals := 0 } : Room).slots (own_P n0 h0 (some (.int (own_exp_53 p0 w0)))) := by
    intro T Lc X eT N w0 
    show own_G _ _ _ _ _ _ _ (own_P n0 h0 (some (.int ((w0 &&& 1)))))
    exact own_endN X hx hlk (t := .boolean) Bd.returns (by simp) (hb hby d2_53) (by decide) (by decide) ⟨rfl, N, eT⟩
  have J32 : ∀ (T : State) (Lc : List Loc) (X : Stand p l e ({ frames := 0, cells := 0, slots := 0, locals := 0 } : Room) s m #[(.int p0)] below meth c T Lc 0 0) (eT : T.heap = h0) (N : Fr n0 Lc) (w0 : Int32) , own_G p.tables e below (T.setTop (mkF m 32 #[.val (.int p0)] [(.int w0)])) s ({ frames := 0, cells := 0, slots := 0, locals := 0 } : Room).cells ({ frames := 0, cells := 0, slots := 0, locals := 0 } : Room).slots (own_P n0 h0 (some (.int (own_exp_32 p0 w0)))) := by
    intro T Lc X eT N w0 
    show own_G _ _ _ _ _ _ _ (own_P n0 h0 (some (.int ((w0 &&& 1)))))
    exact own_endN X hx hlk (t := .boolean) Bd.returns (by simp) (hb hby d2_32) (by decide) (by decide) ⟨rfl, N, eT⟩
  show own_G p.tables e below (s₁.setTop (entryFrame m #[(.int p0)] 1)) s ({ frames := 0, cells := 0, slots := 0, locals := 0 } : Room).cells ({ frames := 0, cells := 0, slots := 0, locals := 0 } : Room).slots (own_P n0 h0 (some (.int ((if p0 < (128 : Int32) then (if p0 < (64 : Int32) then (if ((((288054454291267584 : Int64).toUInt64 >>> (p0 &&& 0x3f).toInt64.toUInt64).toInt64) &&& (1 : Int64)) = (0 : Int64) then (own_exp_32 p0 (0 : Int32)) else (own_exp_32 p0 (1 : Int32))) else (if ((((5188146764422578174 : Int64).toUInt64 >>> ((p0 - (64 : Int32)) &&& 0x3f).toInt64.toUInt64).toInt64) &&& (1 : Int64)) = (0 : Int64) then (own_exp_53 p0 (0 : Int32)) else (own_exp_53 p0 (1 : Int32)))) else (0 : Int32))))))
  refine own_go (fun t k => castTop (ef_2 m p0) k) ?_
  refine own_go (fun t k => XS.iloadN X0.here hx rfl (hb hby d2_0) rfl k) ?_
  show own_G _ _ _ (s₁.setTop (mkF m 1 #[.val (.int p0)] [(.int p0)])) _ _ _ _
  refine own_go (fun t k => XS.sipush X0.here hx rfl (hb hby d2_1) k) ?_
  show own_G _ _ _ (s₁.setTop (mkF m 4 #[.val (.int p0)] [(.int (128 : Int32)), (.int p0)])) _ _ _ _
  by_cases hc1 : p0 < (128 : Int32)
  · refine own_itI hc1 ?_
    refine own_go (fun t k => XS.icmpYes X0.here hx rfl (pc0 := 4) (pc' := 9) rfl (hb hby d2_4) rfl (tlt hc1).1 (by decide) (by decide) k) ?_
    show own_G _ _ _ (s₁.setTop (mkF m 9 #[.val (.int p0)] [])) _ _ _ _
    refine own_go (fun t k => XS.iloadN X0.here hx rfl (hb hby d2_9) rfl k) ?_
    show own_G _ _ _ (s₁.setTop (mkF m 10 #[.val (.int p0)] [(.int p0)])) _ _ _ _
    refine own_go (fun t k => XS.bipush X0.here hx rfl (hb hby d2_10) k) ?_
    show own_G _ _ _ (s₁.setTop (mkF m 12 #[.val (.int p0)] [(.int (64 : Int32)), (.int p0)])) _ _ _ _
    by_cases hc2 : p0 < (64 : Int32)
    · refine own_itI hc2 ?_
      refine own_go (fun t k => XS.icmpNo X0.here hx rfl (hb hby d2_12) rfl (tlt hc2).2.1 k) ?_
      show own_G _ _ _ (s₁.setTop (mkF m 15 #[.val (.int p0)] [])) _ _ _ _
      refine own_go (fun t k => X0.ldc2Long hx hown (mvT hZ (hw _ (List.mem_of_getElem? (i := 8) rfl))) (g := (mkF m 15 #[.val (.int p0)] [])) rfl (hb hby d2_15) _ k) ?_
      show own_G _ _ _ (s₁.setTop (mkF m 18 #[.val (.int p0)] [(.long (288054454291267584 : Int64))])) _ _ _ _
      refine own_go (fun t k => XS.iloadN X0.here hx rfl (hb hby d2_18) rfl k) ?_
      show own_G _ _ _ (s₁.setTop (mkF m 19 #[.val (.int p0)] [(.int p0), (.long (288054454291267584 : Int64))])) _ _ _ _
      refine own_go (fun t k => XS.lushr X0.here hx rfl (hb hby d2_19) rfl k) ?_
      show own_G _ _ _ (s₁.setTop (mkF m 20 #[.val (.int p0)] [(.long (((288054454291267584 : Int64).toUInt64 >>> (p0 &&& 0x3f).toInt64.toUInt64).toInt64))])) _ _ _ _
      refine own_go (fun t k => XS.lconst X0.here hx rfl (hb hby d2_20) k) ?_
      show own_G _ _ _ (s₁.setTop (mkF m 21 #[.val (.int p0)] [(.long (1 : Int64)), (.long (((288054454291267584 : Int64).toUInt64 >>> (p0 &&& 0x3f).toInt64.toUInt64).toInt64))])) _ _ _ _
      refine own_go (fun t k => XS.land X0.here hx rfl (hb hby d2_21) rfl k) ?_
      show own_G _ _ _ (s₁.setTop (mkF m 22 #[.val (.int p0)] [(.long ((((288054454291267584 : Int64).toUInt64 >>> (p0 &&& 0x3f).toInt64.toUInt64).toInt64) &&& (1 : Int64)))])) _ _ _ _
      refine own_go (fun t k => XS.lconst X0.here hx rfl (hb hby d2_22) k) ?_
      show own_G _ _ _ (s₁.setTop (mkF m 23 #[.val (.int p0)] [(.long (0 : Int64)), (.long ((((288054454291267584 : Int64).toUInt64 >>> (p0 &&& 0x3f).toInt64.toUInt64).toInt64) &&& (1 : Int64)))])) _ _ _ _
      refine own_go (fun t k => XS.lcmp X0.here hx rfl (hb hby d2_23) rfl k) ?_
      show own_G _ _ _ (s₁.setTop (mkF m 24 #[.val (.int p0)] [(.int (lcmpW ((((288054454291267584 : Int64).toUInt64 >>> (p0 &&& 0x3f).toInt64.toUInt64).toInt64) &&& (1 : Int64)) (0 : Int64)))])) _ _ _ _
      by_cases hc3 : ((((288054454291267584 : Int64).toUInt64 >>> (p0 &&& 0x3f).toInt64.toUInt64).toInt64) &&& (1 : Int64)) = (0 : Int64)
      · refine own_itI hc3 ?_
        refine own_go (fun t k => XS.ifYes X0.here hx rfl (pc0 := 24) (pc' := 31) rfl (hb hby d2_24) rfl ((if0 _ _).trans (teq ((lw_eq _ _).mpr hc3)).1) (by decide) (by decide) k) ?_
        show own_G _ _ _ (s₁.setTop (mkF m 31 #[.val (.int p0)] [])) _ _ _ _
        refine own_go (fun t k => XS.iconst X0.here hx rfl (hb hby d2_31) k) ?_
        show own_G _ _ _ (s₁.setTop (mkF m 32 #[.val (.int p0)] [(.int (0 : Int32))])) _ _ _ _
        exact J32 _ _ X0 e0 N0 (0 : Int32) 
      · refine own_ifI hc3 ?_
        refine own_go (fun t k => XS.ifNo X0.here hx rfl (hb hby d2_24) rfl ((if0 _ _).trans (feq (fun q => hc3 ((lw_eq _ _).mp q))).1) k) ?_
        show own_G _ _ _ (s₁.setTop (mkF m 27 #[.val (.int p0)] [])) _ _ _ _
        refine own_go (fun t k => XS.iconst X0.here hx rfl (hb hby d2_27) k) ?_
        show own_G _ _ _ (s₁.setTop (mkF m 28 #[.val (.int p0)] [(.int (1 : Int32))])) _ _ _ _
        refine own_go (fun t k => XS.goto X0.here hx rfl (pc0 := 28) (pc' := 32) rfl (hb hby d2_28) (by decide) (by decide) k) ?_
        show own_G _ _ _ (s₁.setTop (mkF m 32 #[.val (.int p0)] [(.int (1 : Int32))])) _ _ _ _
        exact J32 _ _ X0 e0 N0 (1 : Int32) 
    · refine own_ifI hc2 ?_
      refine own_go (fun t k => XS.icmpYes X0.here hx rfl (pc0 := 12) (pc' := 33) rfl (hb hby d2_12) rfl (flt hc2).2.1 (by decide) (by decide) k) ?_
      show own_G _ _ _ (s₁.setTop (mkF m 33 #[.val (.int p0)] [])) _ _ _ _
      refine own_go (fun t k => X0.ldc2Long hx hown (mvT hZ (hw _ (List.mem_of_getElem? (i := 9) rfl))) (g := (mkF m 33 #[.val (.int p0)] [])) rfl (hb hby d2_33) _ k) ?_
      show own_G _ _ _ (s₁.setTop (mkF m 36 #[.val (.int p0)] [(.long (5188146764422578174 : Int64))])) _ _ _ _
      refine own_go (fun t k => XS.iloadN X0.here hx rfl (hb hby d2_36) rfl k) ?_
      show own_G _ _ _ (s₁.setTop (mkF m 37 #[.val (.int p0)] [(.int p0), (.long (5188146764422578174 : Int64))])) _ _ _ _
      refine own_go (fun t k => XS.bipush X0.here hx rfl (hb hby d2_37) k) ?_
      show own_G _ _ _ (s₁.setTop (mkF m 39 #[.val (.int p0)] [(.int (64 : Int32)), (.int p0), (.long (5188146764422578174 : Int64))])) _ _ _ _
      refine own_go (fun t k => XS.isub X0.here hx rfl (hb hby d2_39) rfl k) ?_
      show own_G _ _ _ (s₁.setTop (mkF m 40 #[.val (.int p0)] [(.int (p0 - (64 : Int32))), (.long (5188146764422578174 : Int64))])) _ _ _ _
      refine own_go (fun t k => XS.lushr X0.here hx rfl (hb hby d2_40) rfl k) ?_
      show own_G _ _ _ (s₁.setTop (mkF m 41 #[.val (.int p0)] [(.long (((5188146764422578174 : Int64).toUInt64 >>> ((p0 - (64 : Int32)) &&& 0x3f).toInt64.toUInt64).toInt64))])) _ _ _ _
      refine own_go (fun t k => XS.lconst X0.here hx rfl (hb hby d2_41) k) ?_
      show own_G _ _ _ (s₁.setTop (mkF m 42 #[.val (.int p0)] [(.long (1 : Int64)), (.long (((5188146764422578174 : Int64).toUInt64 >>> ((p0 - (64 : Int32)) &&& 0x3f).toInt64.toUInt64).toInt64))])) _ _ _ _
      refine own_go (fun t k => XS.land X0.here hx rfl (hb hby d2_42) rfl k) ?_
      show own_G _ _ _ (s₁.setTop (mkF m 43 #[.val (.int p0)] [(.long ((((5188146764422578174 : Int64).toUInt64 >>> ((p0 - (64 : Int32)) &&& 0x3f).toInt64.toUInt64).toInt64) &&& (1 : Int64)))])) _ _ _ _
      refine own_go (fun t k => XS.lconst X0.here hx rfl (hb hby d2_43) k) ?_
      show own_G _ _ _ (s₁.setTop (mkF m 44 #[.val (.int p0)] [(.long (0 : Int64)), (.long ((((5188146764422578174 : Int64).toUInt64 >>> ((p0 - (64 : Int32)) &&& 0x3f).toInt64.toUInt64).toInt64) &&& (1 : Int64)))])) _ _ _ _
      refine own_go (fun t k => XS.lcmp X0.here hx rfl (hb hby d2_44) rfl k) ?_
      show own_G _ _ _ (s₁.setTop (mkF m 45 #[.val (.int p0)] [(.int (lcmpW ((((5188146764422578174 : Int64).toUInt64 >>> ((p0 - (64 : Int32)) &&& 0x3f).toInt64.toUInt64).toInt64) &&& (1 : Int64)) (0 : Int64)))])) _ _ _ _
      by_cases hc4 : ((((5188146764422578174 : Int64).toUInt64 >>> ((p0 - (64 : Int32)) &&& 0x3f).toInt64.toUInt64).toInt64) &&& (1 : Int64)) = (0 : Int64)
      · refine own_itI hc4 ?_
        refine own_go (fun t k => XS.ifYes X0.here hx rfl (pc0 := 45) (pc' := 52) rfl (hb hby d2_45) rfl ((if0 _ _).trans (teq ((lw_eq _ _).mpr hc4)).1) (by decide) (by decide) k) ?_
        show own_G _ _ _ (s₁.setTop (mkF m 52 #[.val (.int p0)] [])) _ _ _ _
        refine own_go (fun t k => XS.iconst X0.here hx rfl (hb hby d2_52) k) ?_
        show own_G _ _ _ (s₁.setTop (mkF m 53 #[.val (.int p0)] [(.int (0 : Int32))])) _ _ _ _
        exact J53 _ _ X0 e0 N0 (0 : Int32) 
      · refine own_ifI hc4 ?_
        refine own_go (fun t k => XS.ifNo X0.here hx rfl (hb hby d2_45) rfl ((if0 _ _).trans (feq (fun q => hc4 ((lw_eq _ _).mp q))).1) k) ?_
        show own_G _ _ _ (s₁.setTop (mkF m 48 #[.val (.int p0)] [])) _ _ _ _
        refine own_go (fun t k => XS.iconst X0.here hx rfl (hb hby d2_48) k) ?_
        show own_G _ _ _ (s₁.setTop (mkF m 49 #[.val (.int p0)] [(.int (1 : Int32))])) _ _ _ _
        refine own_go (fun t k => XS.goto X0.here hx rfl (pc0 := 49) (pc' := 53) rfl (hb hby d2_49) (by decide) (by decide) k) ?_
        show own_G _ _ _ (s₁.setTop (mkF m 53 #[.val (.int p0)] [(.int (1 : Int32))])) _ _ _ _
        exact J53 _ _ X0 e0 N0 (1 : Int32) 
  · refine own_ifI hc1 ?_
    refine own_go (fun t k => XS.icmpNo X0.here hx rfl (hb hby d2_4) rfl (flt hc1).1 k) ?_
    show own_G _ _ _ (s₁.setTop (mkF m 7 #[.val (.int p0)] [])) _ _ _ _
    refine own_go (fun t k => XS.iconst X0.here hx rfl (hb hby d2_7) k) ?_
    show own_G _ _ _ (s₁.setTop (mkF m 8 #[.val (.int p0)] [(.int (0 : Int32))])) _ _ _ _
    exact own_endN X0 hx hlk (t := .boolean) Bd.returns (by simp) (hb hby d2_8) (by decide) (by decide) ⟨rfl, N0, e0⟩
theorem pd_0 : parseMethodDescriptor "(C)Z" = some ⟨[.char], some .boolean⟩ := by decide +kernel
def own_law_19 (p0 : Int32) (v1 : Int32) (w0 : Int32) : Int32 := (w0 &&& 1)
def own_law (p0 : Int32) : Int32 := (if (own_unres p0.toUInt32.toUInt16.toUInt32.toInt32) = (own_exp p0.toUInt32.toUInt16.toUInt32.toInt32) then (own_law_19 p0 p0.toUInt32.toUInt16.toUInt32.toInt32 (1 : Int32)) else (own_law_19 p0 p0.toUInt32.toUInt16.toUInt32.toInt32 (0 : Int32)))
theorem ef_0 (m : MethodId) (p0 : Int32) : entryFrame m #[(.int p0)] maxLocals = mkF m 0 #[.val (.int p0), .unset] [] := by first | (simp [entryFrame, mkF, argsToLocals, Value.category, maxLocals]; done) | rfl
set_option maxRecDepth 65536 in
set_option maxHeartbeats 40000000 in
theorem rm0 (l : Launch) (Z : State) (a0 : Array Value) (hw : ∀ d ∈ tables_1, d.before a0 Z = true) (ws : List Jvm.Cond) (p0 : Int32) (h0 : Heap) (n0 : Nat) :
    MetFree l x (head1 (Jvm.Cond.code x code maxLocals ret :: ws) room_1) (fun a U => a = #[(.int p0)] ∧ Z.Warmed39 U.vm ∧ U.heap = h0) (fun _ _ _ _ _ => True) (fun _ U o U' => ∃ v L, o = .returned v ∧ (own_P n0 h0 (some (.int (own_law p0)))) v U'.heap L ∧ FrameEnd U o U' L room_1.cells room_1.slots) := by
  refine MetFree.of_bodySF (plainFor_of_name pn_1) hisR ?_
  intro p e s m args below meth c s₁ Bd hml0 hP hK
  obtain ⟨rfl, hZ, hh⟩ := hP
  have hx := Bd.exec
  have hby := Bd.bytes
  have hml : c.maxLocals = 2 := hml0
  have hown : s.vm.findClass "com/example/amid2/amid2/PercentEncodingIsUnreservedPinLaw" = some m.cls := findClass_of_methodNamed Bd.named
  have hnm := (name_of_methodNamed Bd.named Bd.method).1
  have hlk : meth.locks = false := BodyLoose.notSynchronized Bd
  have X0 : Stand p l e room_1 s m #[(.int p0)] below meth c s₁ [] 0 0 := Stand.of_body Bd
  have e0 : s₁.heap = h0 := by rw [← hh, Bd.state]; rfl
  have N0 := Fr.nil n0
  have J19 : ∀ (T : State) (Lc : List Loc) (X : Stand p l e room_1 s m #[(.int p0)] below meth c T Lc 0 0) (eT : T.heap = h0) (N : Fr n0 Lc) (v1 : Int32) (w0 : Int32) , own_G p.tables e below (T.setTop (mkF m 19 #[.val (.int p0), .val (.int v1)] [(.int w0)])) s room_1.cells room_1.slots (own_P n0 h0 (some (.int (own_law_19 p0 v1 w0)))) := by
    intro T Lc X eT N v1 w0 
    show own_G _ _ _ _ _ _ _ (own_P n0 h0 (some (.int ((w0 &&& 1)))))
    exact own_endN X hx hlk (t := .boolean) Bd.returns (by simp) (hb hby at_19) (by decide) (by decide) ⟨rfl, N, eT⟩
  show own_G p.tables e below (s₁.setTop (entryFrame m #[(.int p0)] maxLocals)) s room_1.cells room_1.slots (own_P n0 h0 (some (.int ((if (own_unres p0.toUInt32.toUInt16.toUInt32.toInt32) = (own_exp p0.toUInt32.toUInt16.toUInt32.toInt32) then (own_law_19 p0 p0.toUInt32.toUInt16.toUInt32.toInt32 (1 : Int32)) else (own_law_19 p0 p0.toUInt32.toUInt16.toUInt32.toInt32 (0 : Int32)))))))
  refine own_go (fun t k => castTop (ef_0 m p0) k) ?_
  refine own_go (fun t k => XS.iloadN X0.here hx rfl (hb hby at_0) rfl k) ?_
  show own_G _ _ _ (s₁.setTop (mkF m 1 #[.val (.int p0), .unset] [(.int p0)])) _ _ _ _
  refine own_go (fun t k => XS.i2c X0.here hx rfl (hb hby at_1) rfl k) ?_
  show own_G _ _ _ (s₁.setTop (mkF m 2 #[.val (.int p0), .unset] [(.int p0.toUInt32.toUInt16.toUInt32.toInt32)])) _ _ _ _
  refine own_go (fun t k => XS.istoreN X0.here hx rfl (hb hby at_2) rfl (l' := #[.val (.int p0), .val (.int p0.toUInt32.toUInt16.toUInt32.toInt32)]) rfl k) ?_
  show own_G _ _ _ (s₁.setTop (mkF m 3 #[.val (.int p0), .val (.int p0.toUInt32.toUInt16.toUInt32.toInt32)] [])) _ _ _ _
  refine own_go (fun t k => XS.iloadN X0.here hx rfl (hb hby at_3) rfl k) ?_
  show own_G _ _ _ (s₁.setTop (mkF m 4 #[.val (.int p0), .val (.int p0.toUInt32.toUInt16.toUInt32.toInt32)] [(.int p0.toUInt32.toUInt16.toUInt32.toInt32)])) _ _ _ _
  obtain ⟨_, _, ⟨T1, L1, k1, n1⟩, -, X1, ⟨Lc1, hQ1, l1, y1, z1⟩, st1⟩ := Jvm.LawKit.callS X0 hx (y := (⟨"com/example/amid2/amid2/PercentEncoding", "isUnreserved", "(C)Z"⟩ : MethodName)) hown (mvT hZ (hw _ (List.mem_of_getElem? (i := 0) rfl))) (mvT hZ (hw _ (List.mem_of_getElem? (i := 1) rfl))) (mvT hZ (hw _ (List.mem_of_getElem? (i := 2) rfl))) (mvT hZ (hw _ (List.mem_of_getElem? (i := 3) rfl))) (by decide) (backOf (W := 0) (rm1 l Z a0 hw [] p0.toUInt32.toUInt16.toUInt32.toInt32  h0 n0 ) hZ (hw _ (List.mem_of_getElem? (i := 3) rfl)) (hw _ (List.mem_of_getElem? (i := 2) rfl)) (by decide) (by decide)) (g := (mkF m 4 #[.val (.int p0), .val (.int p0.toUInt32.toUInt16.toUInt32.toInt32)] [(.int p0.toUInt32.toUInt16.toUInt32.toInt32)])) rfl (by rw [hml]; rfl) (argsL := [(.int p0.toUInt32.toUInt16.toUInt32.toInt32)]) (rest := []) (lenOf pd_0 rfl) rfl (by show 2 * 0 + _ ≤ _; exact Nat.le_of_eq rfl) (hb hby at_4) (fun _ _ => ⟨rfl, e0, (by decide : 0 + 0 ≤ _), (by decide : 0 + 0 ≤ _)⟩)
  dsimp only [Pt.U, Pt.locs, Pt.cells, Pt.slots] at X1 l1 y1 z1 st1 hQ1
  subst l1 y1 z1
  obtain ⟨rfl, N1q, e1⟩ := hQ1
  have N1 := Fr.app N0 N1q
  refine own_go (fun t k => st1 _ k) ?_
  show own_G _ _ _ (T1.setTop (mkF m 7 #[.val (.int p0), .val (.int p0.toUInt32.toUInt16.toUInt32.toInt32)] [(.int (own_unres p0.toUInt32.toUInt16.toUInt32.toInt32))])) _ _ _ _
  refine own_go (fun t k => XS.iloadN X1.here hx rfl (hb hby at_7) rfl k) ?_
  show own_G _ _ _ (T1.setTop (mkF m 8 #[.val (.int p0), .val (.int p0.toUInt32.toUInt16.toUInt32.toInt32)] [(.int p0.toUInt32.toUInt16.toUInt32.toInt32), (.int (own_unres p0.toUInt32.toUInt16.toUInt32.toInt32))])) _ _ _ _
  obtain ⟨_, _, ⟨T2, L2, k2, n2⟩, -, X2, ⟨Lc2, hQ2, l2, y2, z2⟩, st2⟩ := Jvm.LawKit.callS X1 hx (y := (⟨"com/example/amid2/amid2/PercentEncodingIsUnreservedPinLaw", "expected", "(C)Z"⟩ : MethodName)) hown (mvT hZ (hw _ (List.mem_of_getElem? (i := 4) rfl))) (mvT hZ (hw _ (List.mem_of_getElem? (i := 5) rfl))) (mvT hZ (hw _ (List.mem_of_getElem? (i := 6) rfl))) (mvT hZ (hw _ (List.mem_of_getElem? (i := 7) rfl))) (by decide) (backOf (W := 1) (rm2 l Z a0 hw [] p0.toUInt32.toUInt16.toUInt32.toInt32  h0 n0 ) hZ (hw _ (List.mem_of_getElem? (i := 7) rfl)) (hw _ (List.mem_of_getElem? (i := 6) rfl)) (by decide) (by decide)) (g := (mkF m 8 #[.val (.int p0), .val (.int p0.toUInt32.toUInt16.toUInt32.toInt32)] [(.int p0.toUInt32.toUInt16.toUInt32.toInt32), (.int (own_unres p0.toUInt32.toUInt16.toUInt32.toInt32))])) rfl (by rw [hml]; rfl) (argsL := [(.int p0.toUInt32.toUInt16.toUInt32.toInt32)]) (rest := [(.int (own_unres p0.toUInt32.toUInt16.toUInt32.toInt32))]) (lenOf pd_0 rfl) rfl (by show 2 * 0 + _ ≤ _; exact Nat.le_of_eq rfl) (hb hby at_8) (fun _ _ => ⟨rfl, e1, (by decide : 0 + 0 ≤ _), (by decide : 0 + 0 ≤ _)⟩)
  dsimp only [Pt.U, Pt.locs, Pt.cells, Pt.slots] at X2 l2 y2 z2 st2 hQ2
  subst l2 y2 z2
  obtain ⟨rfl, N2q, e2⟩ := hQ2
  have N2 := Fr.app N1 N2q
  refine own_go (fun t k => st2 _ k) ?_
  show own_G _ _ _ (T2.setTop (mkF m 11 #[.val (.int p0), .val (.int p0.toUInt32.toUInt16.toUInt32.toInt32)] [(.int (own_exp p0.toUInt32.toUInt16.toUInt32.toInt32)), (.int (own_unres p0.toUInt32.toUInt16.toUInt32.toInt32))])) _ _ _ _
  by_cases hc3 : (own_unres p0.toUInt32.toUInt16.toUInt32.toInt32) = (own_exp p0.toUInt32.toUInt16.toUInt32.toInt32)
  · refine own_itI hc3 ?_
    refine own_go (fun t k => XS.icmpNo X2.here hx rfl (hb hby at_11) rfl (teq hc3).2 k) ?_
    show own_G _ _ _ (T2.setTop (mkF m 14 #[.val (.int p0), .val (.int p0.toUInt32.toUInt16.toUInt32.toInt32)] [])) _ _ _ _
    refine own_go (fun t k => XS.iconst X2.here hx rfl (hb hby at_14) k) ?_
    show own_G _ _ _ (T2.setTop (mkF m 15 #[.val (.int p0), .val (.int p0.toUInt32.toUInt16.toUInt32.toInt32)] [(.int (1 : Int32))])) _ _ _ _
    refine own_go (fun t k => XS.goto X2.here hx rfl (pc0 := 15) (pc' := 19) rfl (hb hby at_15) (by decide) (by decide) k) ?_
    show own_G _ _ _ (T2.setTop (mkF m 19 #[.val (.int p0), .val (.int p0.toUInt32.toUInt16.toUInt32.toInt32)] [(.int (1 : Int32))])) _ _ _ _
    exact J19 _ _ X2 e2 N2 p0.toUInt32.toUInt16.toUInt32.toInt32 (1 : Int32) 
  · refine own_ifI hc3 ?_
    refine own_go (fun t k => XS.icmpYes X2.here hx rfl (pc0 := 11) (pc' := 18) rfl (hb hby at_11) rfl (feq hc3).2 (by decide) (by decide) k) ?_
    show own_G _ _ _ (T2.setTop (mkF m 18 #[.val (.int p0), .val (.int p0.toUInt32.toUInt16.toUInt32.toInt32)] [])) _ _ _ _
    refine own_go (fun t k => XS.iconst X2.here hx rfl (hb hby at_18) k) ?_
    show own_G _ _ _ (T2.setTop (mkF m 19 #[.val (.int p0), .val (.int p0.toUInt32.toUInt16.toUInt32.toInt32)] [(.int (0 : Int32))])) _ _ _ _
    exact J19 _ _ X2 e2 N2 p0.toUInt32.toUInt16.toUInt32.toInt32 (0 : Int32) 
theorem own_low : ∀ k : Fin 128, own_unres (Int32.ofInt (k.val : Int)) = own_exp (Int32.ofInt (k.val : Int)) := by decide +kernel
theorem own_eq (c : Int32) (h0 : 0 ≤ c.toInt) : own_unres c = own_exp c := by
  by_cases h : c.toInt < 128
  · have := own_low ⟨c.toInt.toNat, by omega⟩
    rw [show c = Int32.ofInt ((c.toInt.toNat : Nat) : Int) by rw [Int.toNat_of_nonneg h0, Int32.ofInt_toInt]]
    exact this
  · have hn : ¬ c < 128 := by simp only [Int32.lt_iff_toInt_lt, Int32.reduceToInt]; exact h
    simp only [own_exp, own_unres, own_unres_12, own_unres_24, own_unres_36, own_unres_60, own_unres_65, if_neg hn]
    repeat' split
    all_goals first | rfl | (exfalso; simp only [Int32.lt_iff_toInt_lt, ← Int32.toInt_inj, Int32.reduceToInt] at *; omega)
theorem own_char (x : Int32) : 0 ≤ (x.toUInt32.toUInt16.toUInt32.toInt32).toInt := by
  have h : (x.toUInt32.toUInt16.toUInt32.toInt32).toBitVec.toNat < 65536 := by
    show (x.toUInt32.toUInt16.toUInt32).toNat < 65536
    rw [UInt16.toNat_toUInt32]
    exact x.toUInt32.toUInt16.toNat_lt
  show 0 ≤ (x.toUInt32.toUInt16.toUInt32.toInt32).toBitVec.toInt
  rw [BitVec.toInt_eq_toNat_cond]
  split <;> omega
theorem own_law_true (a : Int32) : own_law a = 1 := by
  simp only [own_law, own_law_19, own_eq _ (own_char a), if_true]
  decide

set_option maxRecDepth 65536 in
set_option maxHeartbeats 40000000 in
theorem comes_1 {Post : Tables → Env → Array Value → State → Outcome → State → Prop} (hpost : ∀ tb e args s v u, (limb_1_1.after args s (.returned v) u = true ∧ limb_1_2.after args s (.returned v) u = true ∧ True) → FrameEnd s (.returned v) u (Jvm.fieldLocs frame_1_writes args s ++ Jvm.arrayLocs frame_1_arrays args s ++ Jvm.staticLocs frame_1_statics s) 0 0 → Post tb e args s (.returned v) u) :
    ArmFor flags0 classFile x code maxLocals ret World_1 tables_1 room_1 Calls_1 rest_1 Pre_1 Post := by
  intro l hfl _ _ p e ha hc hk s m args below hf hA hF happ hP
  obtain ⟨hcalls, hrest, hpre⟩ := hP
  obtain ⟨-, -, -, hnamed, -, -, -, hat⟩ := (Spec.applies_iff hf).mp happ
  obtain ⟨hg, hn⟩ := and_e (Cond.before_iff.mp (show (Jvm.Cond.and given_1 narrow_1).before args s = true from hpre))
  obtain ⟨g0, hg1⟩ := and_e hg
  obtain ⟨w0, rfl⟩ : ∃ w0 : Value, args = #[w0] := by
    have hs : args.size = 1 := by simpa [Cond.value, given_1] using g0
    obtain ⟨L⟩ := args
    match L, hs with
    | [w0], _ => exact ⟨w0, rfl⟩
  have hw := fun d (hd : d ∈ tables_1) => atoms_spec (ws := Jvm.Cond.code x code maxLocals ret :: tables_1) hat d (List.mem_cons_of_mem _ hd)
  have hfit : Fit s := fun {y c} hc i hi => by
    obtain ⟨ha, rfl⟩ := Array.getElem?_eq_some_iff.mp hc
    have q := List.all_eq_true.mp ((Array.all_eq_true_iff_forall_mem.mp hF) _ (Array.getElem_mem ha)) i (List.mem_range.mpr hi)
    simpa [Array.getElem?_eq_getElem hi] using q
  obtain ⟨i0, ei0⟩ := is_v hg1
  obtain rfl : w0 = (.int i0) := Option.some.inj ei0
  obtain ⟨n, o, h1, h2, h3, _, L, rfl, ⟨rfl, N, -⟩, hq⟩ := rm0 l s _ hw tables_1 i0  s.heap s.heap.size p e ha hc hk s m _ below hf ((Spec.applies_iff_loose hf).mp happ).1 ⟨rfl, State.Warmed39.refl s, rfl⟩ trivial
  refine ⟨n, _, h1, h2, h3, hpost _ _ _ _ _ _ ⟨Cond.after_iff.mpr rfl, Cond.after_iff.mpr (eq_i res_at (Term.int_eval (1)) (congrArg Value.int (own_law_true i0))), trivial⟩ ⟨hq.1, hq.2.1, (hq.2.2.sift fun y hy => Or.inr (N y hy)).mono (by decide) (by decide)⟩⟩
theorem main_1_1 : Claimed_1_1 := comes_1 fun _ _ _ _ _ _ h hF => ⟨h.1, hF⟩
theorem main_1_2 : Claimed_1_2 := comes_1 fun _ _ _ _ _ _ h hF => ⟨h.2.1, hF⟩
end Jvm.Pilot.@@N@@
namespace Jvm.Pilot.@@N@@
open Jvm Jvm.ClassFile Sem Op Lib Jvm.Free Jvm.Stand Jvm.Pilot.@@N@@.Jvm.D
/-! MADE BY PROGRAM (witnessworld.py) out of the Statement's table words and the real class files: 9 classes; the members and pool entries that the words name. The judged class is class 1, her method 2. -/
namespace start1
open Jvm.ClassFile
def u (s : String) : CpInfo := .utf8 (stringToUtf16 s)
/-- a pool by its gaps: so many unusable entries, then the entry; so many at the end -/
def gap : Nat → List CpInfo → List CpInfo
  | 0, r => r
  | n + 1, r => .unusable :: gap n r
def poolList (es : List (Nat × CpInfo)) (last : Nat) : List CpInfo := es.foldr (fun e r => gap e.1 (e.2 :: r)) (gap last [])
def pool (es : List (Nat × CpInfo)) (last : Nat) : Array CpInfo := ⟨poolList es last⟩
def fileOf (pool : Array CpInfo) (this : Nat) (attrs : Array Attribute := #[]) (ms : Array MethodInfo := #[]) (fl : Nat := 33) (sup : Nat := 0) (ifs : Array Nat := #[]) (fds : Array FieldInfo := #[]) : ClassFile where
  minorVersion := 0
  majorVersion := 65
  constantPool := pool
  accessFlags := fl
  thisClass := this
  superClass := sup
  interfaces := ifs
  fields := fds
  methods := ms
  attributes := attrs
def plain (name : String) (sup : Option ClassId) : Class where
  name := name
  kind := .ordinary
  loader := none
  accessFlags := 33
  super := sup
  interfaces := #[]
  cf := none
  fields := #[]
  methods := #[]
  instanceTypes := #[]
  staticTypes := #[]
  resolved := #[]
  callSites := []
  init := .initialized
  statics := none
  mirror := none

def pool0 : Array CpInfo := pool [(5, u "<init>"), (0, u "()V"), (1, .class_ 10), (1, u "java/lang/Object")] 113

def k0m0 : Method := { name := "<init>", desc := "()V", sig := { parameters := [], returnType := none }, accessFlags := 1, code := none }
/-- java/lang/Object -/
def k0 : Class := { plain "java/lang/Object" none with
  accessFlags := 33
  interfaces := #[]
  cf := some (fileOf pool0 8 #[] #[{ accessFlags := 1, nameIndex := 5, descriptorIndex := 6, attributes := #[] }] 33 0 #[] #[])
  fields := #[]
  methods := #[k0m0]
  instanceTypes := #[]
  staticTypes := #[]
  resolved := Array.replicate 124 none
  statics := none }

def pool1 : Array CpInfo := pool [(2, .class_ 4), (1, u "java/lang/Object"), (0, u "<init>"), (0, u "()V"), (0, .class_ 8), (0, u "com/example/amid2/amid2/PercentEncodingIsUnreservedPinLaw"), (0, .long 288054454291267584), (1, .long 5188146764422578174), (1, .methodref 14 15), (0, .class_ 16), (0, .nameAndType 17 18), (0, u "com/example/amid2/amid2/PercentEncoding"), (0, u "isUnreserved"), (0, u "(C)Z"), (0, .methodref 7 20), (0, .nameAndType 21 18), (0, u "expected"), (0, u "LOW"), (0, u "J"), (1, u "HIGH"), (3, u "law"), (0, u "(I)Z")] 2

def k1m0 : Method := { name := "<init>", desc := "()V", sig := { parameters := [], returnType := none }, accessFlags := 2, code := none }
def k1c1 : Code := { maxStack := 4, maxLocals := 1, code := method_2_code, exceptionTable := #[], attributes := #[] }
def k1m1 : Method := { name := "expected", desc := "(C)Z", sig := { parameters := [.char], returnType := some .boolean }, accessFlags := 10, code := some k1c1 }
def k1c2 : Code := { maxStack := 2, maxLocals := 2, code := code, exceptionTable := #[], attributes := #[] }
def k1m2 : Method := { name := "law", desc := "(I)Z", sig := { parameters := [.int], returnType := some .boolean }, accessFlags := 9, code := some k1c2 }
/-- com/example/amid2/amid2/PercentEncodingIsUnreservedPinLaw -/
def k1 : Class := { plain "com/example/amid2/amid2/PercentEncodingIsUnreservedPinLaw" (some 0) with
  accessFlags := 49
  interfaces := #[]
  cf := some (fileOf pool1 7 #[] #[{ accessFlags := 2, nameIndex := 5, descriptorIndex := 6, attributes := #[] }, { accessFlags := 10, nameIndex := 21, descriptorIndex := 18, attributes := #[] }, { accessFlags := 9, nameIndex := 29, descriptorIndex := 30, attributes := #[] }] 49 2 #[] #[{ accessFlags := 26, nameIndex := 22, descriptorIndex := 23, attributes := #[] }, { accessFlags := 26, nameIndex := 25, descriptorIndex := 23, attributes := #[] }])
  fields := #[{ name := "LOW", type := .long, accessFlags := 26, slot := 0, constantValue := 0 }, { name := "HIGH", type := .long, accessFlags := 26, slot := 1, constantValue := 0 }]
  methods := #[k1m0, k1m1, k1m2]
  instanceTypes := #[]
  staticTypes := #[.long, .long]
  resolved := Array.replicate 33 none
  statics := none }

def pool2 : Array CpInfo := pool [(2, .class_ 4), (1, u "java/lang/Object"), (0, u "<init>"), (0, u "()V"), (24, .class_ 33), (1, u "com/example/amid2/amid2/PercentEncoding"), (4, u "isUnreserved"), (0, u "(C)Z")] 18

def k2m0 : Method := { name := "<init>", desc := "()V", sig := { parameters := [], returnType := none }, accessFlags := 2, code := none }
def k2c1 : Code := { maxStack := 2, maxLocals := 1, code := prog_14_method_2_code, exceptionTable := #[], attributes := #[] }
def k2m1 : Method := { name := "isUnreserved", desc := "(C)Z", sig := { parameters := [.char], returnType := some .boolean }, accessFlags := 8, code := some k2c1 }
/-- com/example/amid2/amid2/PercentEncoding -/
def k2 : Class := { plain "com/example/amid2/amid2/PercentEncoding" (some 0) with
  accessFlags := 48
  interfaces := #[]
  cf := some (fileOf pool2 31 #[] #[{ accessFlags := 2, nameIndex := 5, descriptorIndex := 6, attributes := #[] }, { accessFlags := 8, nameIndex := 38, descriptorIndex := 39, attributes := #[] }] 48 2 #[] #[])
  fields := #[]
  methods := #[k2m0, k2m1]
  instanceTypes := #[]
  staticTypes := #[]
  resolved := Array.replicate 58 none
  statics := none }

def pool3 : Array CpInfo := pool [(1, u "java/lang/Cloneable"), (0, .class_ 1), (0, u "java/lang/Object"), (0, .class_ 3)] 3

/-- java/lang/Cloneable -/
def k3 : Class := { plain "java/lang/Cloneable" (some 0) with
  accessFlags := 1537
  interfaces := #[]
  cf := some (fileOf pool3 2 #[] #[] 1537 4 #[] #[])
  fields := #[]
  methods := #[]
  instanceTypes := #[]
  staticTypes := #[]
  resolved := Array.replicate 8 none
  statics := none }

def pool4 : Array CpInfo := pool [(1, u "java/io/Serializable"), (0, .class_ 1), (0, u "java/lang/Object"), (0, .class_ 3)] 3

/-- java/io/Serializable -/
def k4 : Class := { plain "java/io/Serializable" (some 0) with
  accessFlags := 1537
  interfaces := #[]
  cf := some (fileOf pool4 2 #[] #[] 1537 4 #[] #[])
  fields := #[]
  methods := #[]
  instanceTypes := #[]
  staticTypes := #[]
  resolved := Array.replicate 8 none
  statics := none }

/-- the primitive byte -/
def k5 : Class := { plain "byte" none with kind := .primitive 'B', accessFlags := 0x411 }
/-- [B -/
def k6 : Class := { plain "[B" (some 0) with kind := .array 5 .byte, interfaces := #[3, 4], accessFlags := 1041 }

/-- the primitive int -/
def k7 : Class := { plain "int" none with kind := .primitive 'I', accessFlags := 0x411 }
/-- [I -/
def k8 : Class := { plain "[I" (some 0) with kind := .array 7 .int, interfaces := #[3, 4], accessFlags := 1041 }

def heap : Heap := #[]
def classes : Array Class := #[k0, k1, k2, k3, k4, k5, k6, k7, k8]
def interned : List (Array UInt16 × Addr) := []
def slotsUsed : Nat := 0
def theMethod : MethodId := ⟨1, 2⟩
def args0 : Array Value := #[.int 5]
def aboutOver (below : List Frame) : State where
  vm := { classes := classes, interned := interned.toArray }
  heap := heap
  slotsUsed := slotsUsed
  threads := #[{ frames := .invoking theMethod args0 :: below }]
def below0 : List Frame := [.native { method := ⟨0, 0⟩, args := #[] }]
def about1 : State := aboutOver below0
def p0 : Program := .bare "" "" ""
def e0 : Env := launch0.env 0 0 0
theorem w_frames : about1.frames = Frame.invoking theMethod args0 :: below0 := rfl
set_option maxRecDepth 65536 in
theorem w_args : argsFit about1.vm theMethod args0 = true := by decide +kernel
set_option maxRecDepth 65536 in
theorem w_heap : heapFits about1 = true := by decide +kernel
set_option maxRecDepth 65536 in
theorem w_runnable : about1.curStatus? = some .runnable := by decide +kernel
set_option maxRecDepth 65536 in
theorem w_alone : about1.alone = true := by decide +kernel
set_option maxRecDepth 65536 in
theorem w_named : about1.methodNamed? x = some theMethod := by decide +kernel
set_option maxRecDepth 65536 in
theorem w_hears : about1.hears theMethod below0 = true := by decide +kernel
set_option maxRecDepth 65536 in
theorem w_ripe : about1.ripe theMethod args0 below0 = true := by decide +kernel
theorem w_running : about1.status = .running := rfl
set_option maxRecDepth 65536 in
theorem w_room : about1.hasRoom e0.platform room_1 = true :=
  launch0.hasRoom_least _ room_1 (by decide +kernel) (by decide +kernel) (by decide +kernel) (by decide +kernel) (by decide +kernel) (by decide +kernel)
theorem allAtoms_all (ts : List Jvm.Cond) (a : Array Jvm.Value) (st : Jvm.State) : (allAtoms ts).before a st = ts.all (fun c => c.before a st) := by
  induction ts with
  | nil => rfl
  | cons c t ih =>
    show (Jvm.Cond.and c (allAtoms t)).before a st = _
    rw [Jvm.Cond.before_and, ih, List.all_cons]
def words1 : List Jvm.Cond := Jvm.Cond.code x code maxLocals ret :: tables_1
/-- a 'code' word, met by the world's own term for the bytes: nothing is compared byte by byte -/
theorem code_word {y : MethodName} {bytes : ByteArray} {mx : Nat} {rt : Option FieldType} {a : Array Value} {s : State} {m : MethodId} {meth : Method} {c : Code} (h1 : s.methodNamed? y = some m) (h2 : s.vm.method? m = some meth) (h3 : meth.code = some c) (h4 : c.code = bytes)
    (h5 : (c.maxLocals == mx && c.exceptionTable.isEmpty && decide (c.maxStack ≤ mostOperands) && decide (meth.sig.returnType = rt) && !meth.locks && decide (parseMethodDescriptor y.desc = some meth.sig)) = true) : (Jvm.Cond.code y bytes mx rt).before a s = true := by
  simp only [Bool.and_eq_true, beq_iff_eq, Bool.not_eq_true', decide_eq_true_eq] at h5
  obtain ⟨⟨⟨⟨⟨g1, g2⟩, g3⟩, g4⟩, g5⟩, g6⟩ := h5
  simp [Cond.before, Cond.holds, Cond.value, h1, h2, h3, h4, g1, g2, g3, g4, g5, g6]
def isCode : Jvm.Cond → Bool
  | .code _ _ _ _ => true
  | _ => false
theorem all_split {L : List Jvm.Cond} {P : Jvm.Cond → Bool} (h1 : L.all (fun c => isCode c || P c) = true) (h2 : ∀ c ∈ L.filter isCode, P c = true) : L.all P = true := by
  refine List.all_eq_true.mpr fun c hc => ?_
  have h := List.all_eq_true.mp h1 c hc
  rcases Bool.eq_false_or_eq_true (isCode c) with hi | hi
  · exact h2 c (List.mem_filter.mpr ⟨hc, hi⟩)
  · simpa [hi] using h
set_option maxRecDepth 65536 in
theorem w_c0 : (Jvm.Cond.code x code maxLocals ret).before args0 about1 = true := code_word (m := ⟨1, 2⟩) (meth := k1m2) (c := k1c2) (by decide +kernel) rfl rfl rfl (by decide +kernel)
set_option maxRecDepth 65536 in
theorem w_c1 : (Jvm.Cond.code ({ cls := "com/example/amid2/amid2/PercentEncoding", name := "isUnreserved", desc := "(C)Z" } : Jvm.MethodName) prog_14_method_2_code (1 : Nat) (Option.some Jvm.ClassFile.FieldType.boolean)).before args0 about1 = true := code_word (m := ⟨2, 1⟩) (meth := k2m1) (c := k2c1) (by decide +kernel) rfl rfl rfl (by decide +kernel)
set_option maxRecDepth 65536 in
theorem w_c2 : (Jvm.Cond.code ({ cls := "com/example/amid2/amid2/PercentEncodingIsUnreservedPinLaw", name := "expected", desc := "(C)Z" } : Jvm.MethodName) method_2_code (1 : Nat) (Option.some Jvm.ClassFile.FieldType.boolean)).before args0 about1 = true := code_word (m := ⟨1, 1⟩) (meth := k1m1) (c := k1c1) (by decide +kernel) rfl rfl rfl (by decide +kernel)
def codes1 : List Jvm.Cond := [Jvm.Cond.code x code maxLocals ret, Jvm.Cond.code ({ cls := "com/example/amid2/amid2/PercentEncoding", name := "isUnreserved", desc := "(C)Z" } : Jvm.MethodName) prog_14_method_2_code (1 : Nat) (Option.some Jvm.ClassFile.FieldType.boolean), Jvm.Cond.code ({ cls := "com/example/amid2/amid2/PercentEncodingIsUnreservedPinLaw", name := "expected", desc := "(C)Z" } : Jvm.MethodName) method_2_code (1 : Nat) (Option.some Jvm.ClassFile.FieldType.boolean)]
set_option maxRecDepth 65536 in
theorem codes_eq : words1.filter isCode = codes1 := rfl
theorem w_codes : ∀ c ∈ words1.filter isCode, c.before args0 about1 = true := by
  rw [codes_eq]
  intro c hc
  simp only [codes1, List.mem_cons, List.not_mem_nil, or_false] at hc
  rcases hc with rfl | rfl | rfl
  · exact w_c0
  · exact w_c1
  · exact w_c2
set_option maxRecDepth 65536 in
theorem w_t1 : words1.all (fun c => isCode c || c.before args0 about1) = true := by decide +kernel
theorem w_tables : (allAtoms (Jvm.Cond.code x code maxLocals ret :: tables_1)).before args0 about1 = true := by
  rw [allAtoms_all]
  show words1.all (fun c => c.before args0 about1) = true
  refine all_split ?_ w_codes
  rw [w_t1]
set_option maxRecDepth 65536 in
theorem w_case : (Jvm.Cond.and given_1 narrow_1).before args0 about1 = true := by decide +kernel
theorem w_applies : (headSpec (Jvm.Cond.code x code maxLocals ret :: tables_1) room_1).applies x e0.platform about1 = true :=
  (Spec.applies_iff w_frames).mpr ⟨w_running, w_runnable, w_alone, w_named, w_hears, w_ripe, w_room, w_tables⟩
theorem atStart : AtStart classFile x code maxLocals ret World_1 tables_1 room_1 Calls_1 rest_1 Pre_1 launch0 p0 e0 about1 theMethod args0 below0 :=
  ⟨lists_1, trivial, launch0.admits_env _ _ _, launch0.least_env, fairChoices_fair.cas, fairChoices_fair.clock, w_frames, w_args, w_heap, w_applies, trivial, trivial, w_case⟩
end start1
theorem witness_1 : WitnessClaimed_1 := ⟨start1.p0, start1.e0, start1.about1, start1.theMethod, start1.args0, start1.below0, start1.atStart⟩
end Jvm.Pilot.@@N@@
