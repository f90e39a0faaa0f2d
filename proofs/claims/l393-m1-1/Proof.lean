import JvmDerived
import JvmDerived.Pilot.@@N@@Statement
import JvmDerived.Pilot.@@N@@Code
set_option linter.unusedVariables false
set_option linter.unusedSimpArgs false
@@BLOCK:NumsL.lean.txt@@
namespace Jvm.Pilot.@@N@@
open Jvm Jvm.ClassFile Sem Op Lib Jvm.Free Jvm.Stand Jvm.LawKit Jvm.RoadKit Bundle Jvm.Pilot.@@N@@.Jvm.D
/-! general: a run that comes to its end with what Q says -/
def own_G (tb : Tables) (e : Env) (below : List Frame) (S : State) (s : State) (C N : Nat) (Q : Option Value → Heap → List Loc → Prop) : Prop :=
  ∃ t o, Steps tb e below S t ∧ t.status = .running ∧ Ended t below o ∧ ∃ v L, o = .returned v ∧ Q v t.heap L ∧ FrameEnd s o t L C N
def own_P (n0 : Nat) (h0 : Heap) (w : Option Value) (v : Option Value) (h : Heap) (L : List Loc) : Prop := v = w ∧ Fr n0 L ∧ h = h0
section Own
variable {tb : Tables} {p : Program} {l : Launch} {e : Env} {R : Room} {s : State} {m : MethodId} {args : Array Value} {below : List Frame} {meth : Method} {c : Code} {T S S' : State} {locs : List Loc} {cells slots C N n0 : Nat} {h0 : Heap} {Q : Option Value → Heap → List Loc → Prop}
theorem own_go (h : ∀ t, Steps tb e below S' t → Steps tb e below S t) (k : own_G tb e below S' s C N Q) : own_G tb e below S s C N Q := by
  obtain ⟨t, o, a, b⟩ := k
  exact ⟨t, o, h t a, b⟩
theorem own_tr (h : Steps tb e below S S') (k : own_G tb e below S' s C N Q) : own_G tb e below S s C N Q := by
  obtain ⟨t, o, a, b⟩ := k
  exact ⟨t, o, h.trans a, b⟩
theorem own_itI {P : Prop} [Decidable P] {A B : Int32} (h : P) (k : own_G tb e below S s C N (own_P n0 h0 (some (.int A)))) : own_G tb e below S s C N (own_P n0 h0 (some (.int (if P then A else B)))) := by rw [if_pos h]; exact k
theorem own_ifI {P : Prop} [Decidable P] {A B : Int32} (h : ¬ P) (k : own_G tb e below S s C N (own_P n0 h0 (some (.int B)))) : own_G tb e below S s C N (own_P n0 h0 (some (.int (if P then A else B)))) := by rw [if_neg h]; exact k
theorem own_itJ {P : Prop} [Decidable P] {A B : Int64} (h : P) (k : own_G tb e below S s C N (own_P n0 h0 (some (.long A)))) : own_G tb e below S s C N (own_P n0 h0 (some (.long (if P then A else B)))) := by rw [if_pos h]; exact k
theorem own_ifJ {P : Prop} [Decidable P] {A B : Int64} (h : ¬ P) (k : own_G tb e below S s C N (own_P n0 h0 (some (.long B)))) : own_G tb e below S s C N (own_P n0 h0 (some (.long (if P then A else B)))) := by rw [if_neg h]; exact k
theorem own_endO {w : Value} {t : FieldType} {i : Instr} (X : Stand p l e R s m args below meth c T locs cells slots) (hx : p.tables.exec = Jvm.exec) (hlk : meth.locks = false) {pc : Nat} {Ls : Array Slot} {rest : List Value} (hret : meth.sig.returnType = some t) (hn : narrow t w = w)
    (hi : (i = .ireturn ∧ (t = .int ∨ t = .boolean ∨ t = .byte ∨ t = .char ∨ t = .short) ∧ ∃ z, w = .int z) ∨ (i = .lreturn ∧ t = .long ∧ ∃ z, w = .long z) ∨ (i = .dreturn ∧ t = .double ∧ ∃ z, w = .double z) ∨ (i = .freturn ∧ t = .float ∧ ∃ z, w = .float z) ∨ (i = .areturn ∧ t.isReference = true ∧ w.isRef = true))
    (hd : decode c.code pc = .ok (i, 1)) (hC : cells ≤ C) (hN : slots ≤ N) (hQ : Q (some w) T.heap locs) : own_G p.tables e below (T.setTop (mkF m pc Ls (w :: rest))) s C N Q := by
  obtain ⟨fs, hr, hrun, hended, hW, hsame⟩ := X.leave (v := some w) (fun h => by rw [hret] at h; cases h) hlk
  exact ⟨_, _, retOut X hx hret hn hi hd hr, hrun, hended, _, _, rfl, hQ, ⟨_, rfl⟩, hW, hsame.mono hC hN⟩
theorem own_endI {z : Int32} (X : Stand p l e R s m args below meth c T locs cells slots) (hx : p.tables.exec = Jvm.exec) (hlk : meth.locks = false) {pc : Nat} {Ls : Array Slot} {rest : List Value} (hret : meth.sig.returnType = some .int)
    (hd : decode c.code pc = .ok (.ireturn, 1)) (hC : cells ≤ C) (hN : slots ≤ N) (hQ : Q (some (.int z)) T.heap locs) : own_G p.tables e below (T.setTop (mkF m pc Ls (.int z :: rest))) s C N Q :=
  own_endO X hx hlk hret rfl (Or.inl ⟨rfl, Or.inl rfl, z, rfl⟩) hd hC hN hQ
theorem own_endJ {z : Int64} (X : Stand p l e R s m args below meth c T locs cells slots) (hx : p.tables.exec = Jvm.exec) (hlk : meth.locks = false) {pc : Nat} {Ls : Array Slot} {rest : List Value} (hret : meth.sig.returnType = some .long)
    (hd : decode c.code pc = .ok (.lreturn, 1)) (hC : cells ≤ C) (hN : slots ≤ N) (hQ : Q (some (.long z)) T.heap locs) : own_G p.tables e below (T.setTop (mkF m pc Ls (.long z :: rest))) s C N Q :=
  own_endO X hx hlk hret rfl (Or.inr (Or.inl ⟨rfl, rfl, z, rfl⟩)) hd hC hN hQ
theorem own_endR {w : Value} {t : FieldType} (X : Stand p l e R s m args below meth c T locs cells slots) (hx : p.tables.exec = Jvm.exec) (hlk : meth.locks = false) {pc : Nat} {Ls : Array Slot} {rest : List Value} (hret : meth.sig.returnType = some t) (hn : narrow t w = w) (ht : t.isReference = true) (hw : w.isRef = true)
    (hd : decode c.code pc = .ok (.areturn, 1)) (hC : cells ≤ C) (hN : slots ≤ N) (hQ : Q (some w) T.heap locs) : own_G p.tables e below (T.setTop (mkF m pc Ls (w :: rest))) s C N Q :=
  own_endO X hx hlk hret hn (Or.inr (Or.inr (Or.inr (Or.inr ⟨rfl, ht, hw⟩)))) hd hC hN hQ
theorem own_endN {z : Int32} {t : FieldType} (X : Stand p l e R s m args below meth c T locs cells slots) (hx : p.tables.exec = Jvm.exec) (hlk : meth.locks = false) {pc : Nat} {Ls : Array Slot} {rest : List Value} (hret : meth.sig.returnType = some t) (ht : t = .boolean ∨ t = .byte ∨ t = .char ∨ t = .short)
    (hd : decode c.code pc = .ok (.ireturn, 1)) (hC : cells ≤ C) (hN : slots ≤ N) (hQ : Q (some (.int (nar t z))) T.heap locs) : own_G p.tables e below (T.setTop (mkF m pc Ls (.int z :: rest))) s C N Q := by
  obtain ⟨fs, hr, hrun, hended, hW, hsame⟩ := X.leave (v := some (.int (nar t z))) (fun h => by rw [hret] at h; cases h) hlk
  exact ⟨_, _, retN X hx hret ht hd hr, hrun, hended, _, _, rfl, hQ, ⟨_, rfl⟩, hW, hsame.mono hC hN⟩
theorem own_endV (X : Stand p l e R s m args below meth c T locs cells slots) (hx : p.tables.exec = Jvm.exec) (hlk : meth.locks = false) {pc : Nat} {Ls : Array Slot} (hret : meth.sig.returnType = none)
    (hd : decode c.code pc = .ok (.return_, 1)) (hC : cells ≤ C) (hN : slots ≤ N) (hQ : Q none T.heap locs) : own_G p.tables e below (T.setTop (mkF m pc Ls [])) s C N Q := by
  obtain ⟨fs, hr, hrun, hended, hW, hsame⟩ := X.leave (v := none) (fun _ => rfl) hlk
  exact ⟨_, _, X.returnOut hx hret hd hr, hrun, hended, _, _, rfl, hQ, ⟨_, rfl⟩, hW, hsame.mono hC hN⟩
end Own
theorem d1_0 : decode prog_4_method_7_code 0 = .ok (.iconst 0, 1) := by decide +kernel
theorem d1_1 : decode prog_4_method_7_code 1 = .ok (.istore 4, 2) := by decide +kernel
theorem d1_3 : decode prog_4_method_7_code 3 = .ok (.lload_n 0, 1) := by decide +kernel
theorem d1_4 : decode prog_4_method_7_code 4 = .ok (.lload_n 2, 1) := by decide +kernel
theorem d1_5 : decode prog_4_method_7_code 5 = .ok (.lcmp, 1) := by decide +kernel
theorem d1_6 : decode prog_4_method_7_code 6 = .ok (.ifCond .le 9, 3) := by decide +kernel
theorem d1_9 : decode prog_4_method_7_code 9 = .ok (.iconst 1, 1) := by decide +kernel
theorem d1_10 : decode prog_4_method_7_code 10 = .ok (.istore 4, 2) := by decide +kernel
theorem d1_12 : decode prog_4_method_7_code 12 = .ok (.goto 13, 3) := by decide +kernel
theorem d1_15 : decode prog_4_method_7_code 15 = .ok (.lload_n 0, 1) := by decide +kernel
theorem d1_16 : decode prog_4_method_7_code 16 = .ok (.lload_n 2, 1) := by decide +kernel
theorem d1_17 : decode prog_4_method_7_code 17 = .ok (.lneg, 1) := by decide +kernel
theorem d1_18 : decode prog_4_method_7_code 18 = .ok (.lcmp, 1) := by decide +kernel
theorem d1_19 : decode prog_4_method_7_code 19 = .ok (.ifCond .ge 6, 3) := by decide +kernel
theorem d1_22 : decode prog_4_method_7_code 22 = .ok (.iconst (-1), 1) := by decide +kernel
theorem d1_23 : decode prog_4_method_7_code 23 = .ok (.istore 4, 2) := by decide +kernel
theorem d1_25 : decode prog_4_method_7_code 25 = .ok (.iload 4, 2) := by decide +kernel
theorem d1_27 : decode prog_4_method_7_code 27 = .ok (.ireturn, 1) := by decide +kernel
def own_sgn_25 (p0 : Int64) (p1 : Int64) (v4 : Int32) : Int32 := v4
def own_sgn (p0 : Int64) (p1 : Int64) : Int32 := (if p1 < p0 then (own_sgn_25 p0 p1 (1 : Int32)) else (if p0 < (-p1) then (own_sgn_25 p0 p1 (-1 : Int32)) else (own_sgn_25 p0 p1 (0 : Int32))))
theorem pn_0 : plainName "com/example/slackline/slackline/Factors" = true := by first | (simp [plainName, overriddenIn]; done) | decide +kernel
theorem ef_1 (m : MethodId) (p0 : Int64) (p1 : Int64) : entryFrame m #[(.long p0), (.long p1)] 5 = mkF m 0 #[.val (.long p0), .second, .val (.long p1), .second, .unset] [] := by first | (simp [entryFrame, mkF, argsToLocals, Value.category]; done) | rfl
set_option maxRecDepth 65536 in
set_option maxHeartbeats 40000000 in
theorem rm1 (l : Launch) (Z : State) (a0 : Array Value) (hw : ∀ d ∈ tables_1, d.before a0 Z = true) (ws : List Jvm.Cond) (p0 : Int64) (p1 : Int64) (h0 : Heap) (n0 : Nat) :
    MetFree l (⟨"com/example/slackline/slackline/Factors", "signBeyond", "(JJ)I"⟩ : MethodName) (head1 (Jvm.Cond.code (⟨"com/example/slackline/slackline/Factors", "signBeyond", "(JJ)I"⟩ : MethodName) prog_4_method_7_code 5 (some .int) :: ws) ({ frames := 0, cells := 0, slots := 0, locals := 0 } : Room)) (fun a U => a = #[(.long p0), (.long p1)] ∧ Z.Warmed39 U.vm ∧ U.heap = h0) (fun _ _ _ _ _ => True) (fun _ U o U' => ∃ v L, o = .returned v ∧ (own_P n0 h0 (some (.int (own_sgn p0 p1)))) v U'.heap L ∧ FrameEnd U o U' L ({ frames := 0, cells := 0, slots := 0, locals := 0 } : Room).cells ({ frames := 0, cells := 0, slots := 0, locals := 0 } : Room).slots) := by
  refine MetFree.of_bodySF (plainFor_of_name pn_0) hisR ?_
  intro p e s m args below meth c s₁ Bd hml0 hP hK
  obtain ⟨rfl, hZ, hh⟩ := hP
  have hx := Bd.exec
  have hby := Bd.bytes
  have hml : c.maxLocals = 5 := hml0
  have hown : s.vm.findClass "com/example/slackline/slackline/Factors" = some m.cls := findClass_of_methodNamed Bd.named
  have hnm := (name_of_methodNamed Bd.named Bd.method).1
  have hlk : meth.locks = false := BodyLoose.notSynchronized Bd
  have X0 : Stand p l e ({ frames := 0, cells := 0, slots := 0, locals := 0 } : Room) s m #[(.long p0), (.long p1)] below meth c s₁ [] 0 0 := Stand.of_body Bd
  have e0 : s₁.heap = h0 := by rw [← hh, Bd.state]; rfl
  have N0 := Fr.nil n0
  have J25 : ∀ (T : State) (Lc : List Loc) (X : Stand p l e ({ frames := 0, cells := 0, slots := 0, locals := 0 } : Room) s m #[(.long p0), (.long p1)] below meth c T Lc 0 0) (eT : T.heap = h0) (N : Fr n0 Lc) (v4 : Int32) , own_G p.tables e below (T.setTop (mkF m 25 #[.val (.long p0), .second, .val (.long p1), .second, .val (.int v4)] [])) s ({ frames := 0, cells := 0, slots := 0, locals := 0 } : Room).cells ({ frames := 0, cells := 0, slots := 0, locals := 0 } : Room).slots (own_P n0 h0 (some (.int (own_sgn_25 p0 p1 v4)))) := by
    intro T Lc X eT N v4 
    show own_G _ _ _ _ _ _ _ (own_P n0 h0 (some (.int (v4))))
    refine own_go (fun t k => XS.iload X.here hx rfl (hb hby d1_25) rfl k) ?_
    show own_G _ _ _ (T.setTop (mkF m 27 #[.val (.long p0), .second, .val (.long p1), .second, .val (.int v4)] [(.int v4)])) _ _ _ _
    exact own_endI X hx hlk Bd.returns (hb hby d1_27) (by decide) (by decide) ⟨rfl, N, eT⟩
  show own_G p.tables e below (s₁.setTop (entryFrame m #[(.long p0), (.long p1)] 5)) s ({ frames := 0, cells := 0, slots := 0, locals := 0 } : Room).cells ({ frames := 0, cells := 0, slots := 0, locals := 0 } : Room).slots (own_P n0 h0 (some (.int ((if p1 < p0 then (own_sgn_25 p0 p1 (1 : Int32)) else (if p0 < (-p1) then (own_sgn_25 p0 p1 (-1 : Int32)) else (own_sgn_25 p0 p1 (0 : Int32))))))))
  refine own_go (fun t k => castTop (ef_1 m p0 p1) k) ?_
  refine own_go (fun t k => XS.iconst X0.here hx rfl (hb hby d1_0) k) ?_
  show own_G _ _ _ (s₁.setTop (mkF m 1 #[.val (.long p0), .second, .val (.long p1), .second, .unset] [(.int (0 : Int32))])) _ _ _ _
  refine own_go (fun t k => XS.istore X0.here hx rfl (hb hby d1_1) rfl (l' := #[.val (.long p0), .second, .val (.long p1), .second, .val (.int (0 : Int32))]) rfl k) ?_
  show own_G _ _ _ (s₁.setTop (mkF m 3 #[.val (.long p0), .second, .val (.long p1), .second, .val (.int (0 : Int32))] [])) _ _ _ _
  refine own_go (fun t k => XS.lloadN X0.here hx rfl (hb hby d1_3) rfl k) ?_
  show own_G _ _ _ (s₁.setTop (mkF m 4 #[.val (.long p0), .second, .val (.long p1), .second, .val (.int (0 : Int32))] [(.long p0)])) _ _ _ _
  refine own_go (fun t k => XS.lloadN X0.here hx rfl (hb hby d1_4) rfl k) ?_
  show own_G _ _ _ (s₁.setTop (mkF m 5 #[.val (.long p0), .second, .val (.long p1), .second, .val (.int (0 : Int32))] [(.long p1), (.long p0)])) _ _ _ _
  refine own_go (fun t k => XS.lcmp X0.here hx rfl (hb hby d1_5) rfl k) ?_
  show own_G _ _ _ (s₁.setTop (mkF m 6 #[.val (.long p0), .second, .val (.long p1), .second, .val (.int (0 : Int32))] [(.int (lcmpW p0 p1))])) _ _ _ _
  by_cases hc1 : p1 < p0
  · refine own_itI hc1 ?_
    refine own_go (fun t k => XS.ifNo X0.here hx rfl (hb hby d1_6) rfl ((if0 _ _).trans (tlt ((lw_gt _ _).mpr hc1)).2.2.2) k) ?_
    show own_G _ _ _ (s₁.setTop (mkF m 9 #[.val (.long p0), .second, .val (.long p1), .second, .val (.int (0 : Int32))] [])) _ _ _ _
    refine own_go (fun t k => XS.iconst X0.here hx rfl (hb hby d1_9) k) ?_
    show own_G _ _ _ (s₁.setTop (mkF m 10 #[.val (.long p0), .second, .val (.long p1), .second, .val (.int (0 : Int32))] [(.int (1 : Int32))])) _ _ _ _
    refine own_go (fun t k => XS.istore X0.here hx rfl (hb hby d1_10) rfl (l' := #[.val (.long p0), .second, .val (.long p1), .second, .val (.int (1 : Int32))]) rfl k) ?_
    show own_G _ _ _ (s₁.setTop (mkF m 12 #[.val (.long p0), .second, .val (.long p1), .second, .val (.int (1 : Int32))] [])) _ _ _ _
    refine own_go (fun t k => XS.goto X0.here hx rfl (pc0 := 12) (pc' := 25) rfl (hb hby d1_12) (by decide) (by decide) k) ?_
    show own_G _ _ _ (s₁.setTop (mkF m 25 #[.val (.long p0), .second, .val (.long p1), .second, .val (.int (1 : Int32))] [])) _ _ _ _
    exact J25 _ _ X0 e0 N0 (1 : Int32) 
  · refine own_ifI hc1 ?_
    refine own_go (fun t k => XS.ifYes X0.here hx rfl (pc0 := 6) (pc' := 15) rfl (hb hby d1_6) rfl ((if0 _ _).trans (flt (fun q => hc1 ((lw_gt _ _).mp q))).2.2.2) (by decide) (by decide) k) ?_
    show own_G _ _ _ (s₁.setTop (mkF m 15 #[.val (.long p0), .second, .val (.long p1), .second, .val (.int (0 : Int32))] [])) _ _ _ _
    refine own_go (fun t k => XS.lloadN X0.here hx rfl (hb hby d1_15) rfl k) ?_
    show own_G _ _ _ (s₁.setTop (mkF m 16 #[.val (.long p0), .second, .val (.long p1), .second, .val (.int (0 : Int32))] [(.long p0)])) _ _ _ _
    refine own_go (fun t k => XS.lloadN X0.here hx rfl (hb hby d1_16) rfl k) ?_
    show own_G _ _ _ (s₁.setTop (mkF m 17 #[.val (.long p0), .second, .val (.long p1), .second, .val (.int (0 : Int32))] [(.long p1), (.long p0)])) _ _ _ _
    refine own_go (fun t k => XS.lneg X0.here hx rfl (hb hby d1_17) rfl k) ?_
    show own_G _ _ _ (s₁.setTop (mkF m 18 #[.val (.long p0), .second, .val (.long p1), .second, .val (.int (0 : Int32))] [(.long (-p1)), (.long p0)])) _ _ _ _
    refine own_go (fun t k => XS.lcmp X0.here hx rfl (hb hby d1_18) rfl k) ?_
    show own_G _ _ _ (s₁.setTop (mkF m 19 #[.val (.long p0), .second, .val (.long p1), .second, .val (.int (0 : Int32))] [(.int (lcmpW p0 (-p1)))])) _ _ _ _
    by_cases hc2 : p0 < (-p1)
    · refine own_itI hc2 ?_
      refine own_go (fun t k => XS.ifNo X0.here hx rfl (hb hby d1_19) rfl ((if0 _ _).trans (tlt ((lw_lt _ _).mpr hc2)).2.1) k) ?_
      show own_G _ _ _ (s₁.setTop (mkF m 22 #[.val (.long p0), .second, .val (.long p1), .second, .val (.int (0 : Int32))] [])) _ _ _ _
      refine own_go (fun t k => XS.iconst X0.here hx rfl (hb hby d1_22) k) ?_
      show own_G _ _ _ (s₁.setTop (mkF m 23 #[.val (.long p0), .second, .val (.long p1), .second, .val (.int (0 : Int32))] [(.int (-1 : Int32))])) _ _ _ _
      refine own_go (fun t k => XS.istore X0.here hx rfl (hb hby d1_23) rfl (l' := #[.val (.long p0), .second, .val (.long p1), .second, .val (.int (-1 : Int32))]) rfl k) ?_
      show own_G _ _ _ (s₁.setTop (mkF m 25 #[.val (.long p0), .second, .val (.long p1), .second, .val (.int (-1 : Int32))] [])) _ _ _ _
      exact J25 _ _ X0 e0 N0 (-1 : Int32) 
    · refine own_ifI hc2 ?_
      refine own_go (fun t k => XS.ifYes X0.here hx rfl (pc0 := 19) (pc' := 25) rfl (hb hby d1_19) rfl ((if0 _ _).trans (flt (fun q => hc2 ((lw_lt _ _).mp q))).2.1) (by decide) (by decide) k) ?_
      show own_G _ _ _ (s₁.setTop (mkF m 25 #[.val (.long p0), .second, .val (.long p1), .second, .val (.int (0 : Int32))] [])) _ _ _ _
      exact J25 _ _ X0 e0 N0 (0 : Int32) 
theorem pd_0 : parseMethodDescriptor "(JJ)I" = some ⟨[.long, .long], some .int⟩ := by decide +kernel
def own_law_265 (p0 : Int64) (p1 : Int64) (v4 : Int64) (v6 : Int32) (v7 : Int32) (v8 : Int32) : Int32 := (v7 &&& 1)
def own_law_263 (p0 : Int64) (p1 : Int64) (v4 : Int64) (v6 : Int32) (v7 : Int32) (v8 : Int32) (w0 : Int32) : Int32 := (own_law_265 p0 p1 v4 v6 w0 v8)
def own_law_262 (p0 : Int64) (p1 : Int64) (v4 : Int64) (v6 : Int32) (v7 : Int32) (v8 : Int32) : Int32 := (own_law_263 p0 p1 v4 v6 v7 v8 (0 : Int32))
def own_law_237 (p0 : Int64) (p1 : Int64) (v4 : Int64) (v6 : Int32) (v7 : Int32) (v8 : Int32) (w0 : Int32) : Int32 := (if w0 = (0 : Int32) then (own_law_262 p0 p1 v4 v6 w0 v8) else (if (own_sgn ((-v4) - (1 : Int64)) v4) = (-1 : Int32) then (own_law_263 p0 p1 v4 v6 w0 v8 (1 : Int32)) else (own_law_262 p0 p1 v4 v6 w0 v8)))
def own_law_236 (p0 : Int64) (p1 : Int64) (v4 : Int64) (v6 : Int32) (v7 : Int32) (v8 : Int32) : Int32 := (own_law_237 p0 p1 v4 v6 v7 v8 (0 : Int32))
def own_law_203 (p0 : Int64) (p1 : Int64) (v4 : Int64) (v6 : Int32) (v7 : Int32) (v8 : Int32) (w0 : Int32) : Int32 := (if v4 < (9223372036854775807 : Int64) then (if w0 = (0 : Int32) then (own_law_236 p0 p1 v4 v6 w0 v8) else (if (own_sgn (v4 + (1 : Int64)) v4) = (1 : Int32) then (own_law_237 p0 p1 v4 v6 w0 v8 (1 : Int32)) else (own_law_236 p0 p1 v4 v6 w0 v8))) else (own_law_265 p0 p1 v4 v6 w0 v8))
def own_law_202 (p0 : Int64) (p1 : Int64) (v4 : Int64) (v6 : Int32) (v7 : Int32) (v8 : Int32) : Int32 := (own_law_203 p0 p1 v4 v6 v7 v8 (0 : Int32))
def own_law_180 (p0 : Int64) (p1 : Int64) (v4 : Int64) (v6 : Int32) (v7 : Int32) (v8 : Int32) (w0 : Int32) : Int32 := (if w0 = (0 : Int32) then (own_law_202 p0 p1 v4 v6 w0 v8) else (if (own_sgn (-v4) v4) = (0 : Int32) then (own_law_203 p0 p1 v4 v6 w0 v8 (1 : Int32)) else (own_law_202 p0 p1 v4 v6 w0 v8)))
def own_law_179 (p0 : Int64) (p1 : Int64) (v4 : Int64) (v6 : Int32) (v7 : Int32) (v8 : Int32) : Int32 := (own_law_180 p0 p1 v4 v6 v7 v8 (0 : Int32))
def own_law_160 (p0 : Int64) (p1 : Int64) (v4 : Int64) (v6 : Int32) (v7 : Int32) (v8 : Int32) : Int32 := (if v7 = (0 : Int32) then (own_law_179 p0 p1 v4 v6 v7 v8) else (if (own_sgn v4 v4) = (0 : Int32) then (own_law_180 p0 p1 v4 v6 v7 v8 (1 : Int32)) else (own_law_179 p0 p1 v4 v6 v7 v8)))
def own_law_158 (p0 : Int64) (p1 : Int64) (v4 : Int64) (v6 : Int32) (v7 : Int32) (v8 : Int32) (w0 : Int32) : Int32 := (own_law_160 p0 p1 v4 v6 w0 v8)
def own_law_157 (p0 : Int64) (p1 : Int64) (v4 : Int64) (v6 : Int32) (v7 : Int32) (v8 : Int32) : Int32 := (own_law_158 p0 p1 v4 v6 v7 v8 (0 : Int32))
def own_law_127 (p0 : Int64) (p1 : Int64) (v4 : Int64) (v6 : Int32) (v7 : Int32) (v8 : Int32) : Int32 := (if p0 = (-9223372036854775808 : Int64) then (own_law_160 p0 p1 v4 v6 v7 v8) else (if v7 = (0 : Int32) then (own_law_157 p0 p1 v4 v6 v7 v8) else (if (own_sgn (-p0) v4) = (-v6) then (own_law_158 p0 p1 v4 v6 v7 v8 (1 : Int32)) else (own_law_157 p0 p1 v4 v6 v7 v8))))
def own_law_125 (p0 : Int64) (p1 : Int64) (v4 : Int64) (v6 : Int32) (v7 : Int32) (v8 : Int32) (w0 : Int32) : Int32 := (own_law_127 p0 p1 v4 v6 w0 v8)
def own_law_124 (p0 : Int64) (p1 : Int64) (v4 : Int64) (v6 : Int32) (v7 : Int32) (v8 : Int32) : Int32 := (own_law_125 p0 p1 v4 v6 v7 v8 (0 : Int32))
def own_law_105 (p0 : Int64) (p1 : Int64) (v4 : Int64) (v6 : Int32) (v7 : Int32) (v8 : Int32) (w0 : Int32) : Int32 := (own_law_127 p0 p1 v4 v6 w0 v8)
def own_law_104 (p0 : Int64) (p1 : Int64) (v4 : Int64) (v6 : Int32) (v7 : Int32) (v8 : Int32) : Int32 := (own_law_105 p0 p1 v4 v6 v7 v8 (0 : Int32))
def own_law_97 (p0 : Int64) (p1 : Int64) (v4 : Int64) (v6 : Int32) (v7 : Int32) (v8 : Int32) (w0 : Int32) (w1 : Int32) : Int32 := (if w1 = w0 then (own_law_105 p0 p1 v4 v6 v7 v8 (1 : Int32)) else (own_law_104 p0 p1 v4 v6 v7 v8))
def own_law_86 (p0 : Int64) (p1 : Int64) (v4 : Int64) (v6 : Int32) (v7 : Int32) (v8 : Int32) (w0 : Int32) : Int32 := (if (0 : Int64) < p0 then (own_law_97 p0 p1 v4 v6 v7 v8 (1 : Int32) w0) else (own_law_97 p0 p1 v4 v6 v7 v8 (0 : Int32) w0))
def own_law_59 (p0 : Int64) (p1 : Int64) (v4 : Int64) (v6 : Int32) (v7 : Int32) (w0 : Int32) : Int32 := (if w0 = (0 : Int32) then (if v7 = (0 : Int32) then (own_law_124 p0 p1 v4 v6 v7 w0) else (if v6 = (0 : Int32) then (own_law_125 p0 p1 v4 v6 v7 w0 (1 : Int32)) else (own_law_124 p0 p1 v4 v6 v7 w0))) else (if v7 = (0 : Int32) then (own_law_104 p0 p1 v4 v6 v7 w0) else (if v6 = (0 : Int32) then (own_law_104 p0 p1 v4 v6 v7 w0) else (if (0 : Int32) < v6 then (own_law_86 p0 p1 v4 v6 v7 w0 (1 : Int32)) else (own_law_86 p0 p1 v4 v6 v7 w0 (0 : Int32))))))
def own_law_54 (p0 : Int64) (p1 : Int64) (v4 : Int64) (v6 : Int32) (v7 : Int32) : Int32 := (own_law_59 p0 p1 v4 v6 v7 (1 : Int32))
def own_law_37 (p0 : Int64) (p1 : Int64) (v4 : Int64) (v6 : Int32) (w0 : Int32) : Int32 := (if v4 < p0 then (own_law_54 p0 p1 v4 v6 w0) else (if p0 < (-v4) then (own_law_54 p0 p1 v4 v6 w0) else (own_law_59 p0 p1 v4 v6 w0 (0 : Int32))))
def own_law_32 (p0 : Int64) (p1 : Int64) (v4 : Int64) (v6 : Int32) : Int32 := (own_law_37 p0 p1 v4 v6 (1 : Int32))
def own_law (p0 : Int64) (p1 : Int64) : Int32 := (if (own_sgn p0 (p1 &&& (9223372036854775807 : Int64))) = (-1 : Int32) then (own_law_32 p0 p1 (p1 &&& (9223372036854775807 : Int64)) (own_sgn p0 (p1 &&& (9223372036854775807 : Int64)))) else (if (own_sgn p0 (p1 &&& (9223372036854775807 : Int64))) = (0 : Int32) then (own_law_32 p0 p1 (p1 &&& (9223372036854775807 : Int64)) (own_sgn p0 (p1 &&& (9223372036854775807 : Int64)))) else (if (own_sgn p0 (p1 &&& (9223372036854775807 : Int64))) = (1 : Int32) then (own_law_32 p0 p1 (p1 &&& (9223372036854775807 : Int64)) (own_sgn p0 (p1 &&& (9223372036854775807 : Int64)))) else (own_law_37 p0 p1 (p1 &&& (9223372036854775807 : Int64)) (own_sgn p0 (p1 &&& (9223372036854775807 : Int64))) (0 : Int32)))))
theorem pn_1 : plainName "com/example/slackline/slackline/FactorsSignBeyondPinLaw" = true := by first | (simp [plainName, overriddenIn]; done) | decide +kernel
theorem ef_0 (m : MethodId) (p0 : Int64) (p1 : Int64) : entryFrame m #[(.long p0), (.long p1)] maxLocals = mkF m 0 #[.val (.long p0), .second, .val (.long p1), .second, .unset, .unset, .unset, .unset, .unset] [] := by first | (simp [entryFrame, mkF, argsToLocals, Value.category, maxLocals]; done) | rfl
set_option maxRecDepth 65536 in
set_option maxHeartbeats 40000000 in
theorem rm0 (l : Launch) (Z : State) (a0 : Array Value) (hw : ∀ d ∈ tables_1, d.before a0 Z = true) (ws : List Jvm.Cond) (p0 : Int64) (p1 : Int64) (h0 : Heap) (n0 : Nat) :
    MetFree l x (head1 (Jvm.Cond.code x code maxLocals ret :: ws) room_1) (fun a U => a = #[(.long p0), (.long p1)] ∧ Z.Warmed39 U.vm ∧ U.heap = h0) (fun _ _ _ _ _ => True) (fun _ U o U' => ∃ v L, o = .returned v ∧ (own_P n0 h0 (some (.int (own_law p0 p1)))) v U'.heap L ∧ FrameEnd U o U' L room_1.cells room_1.slots) := by
  refine MetFree.of_bodySF (plainFor_of_name pn_1) hisR ?_
  intro p e s m args below meth c s₁ Bd hml0 hP hK
  obtain ⟨rfl, hZ, hh⟩ := hP
  have hx := Bd.exec
  have hby := Bd.bytes
  have hml : c.maxLocals = 9 := hml0
  have hown : s.vm.findClass "com/example/slackline/slackline/FactorsSignBeyondPinLaw" = some m.cls := findClass_of_methodNamed Bd.named
  have hnm := (name_of_methodNamed Bd.named Bd.method).1
  have hlk : meth.locks = false := BodyLoose.notSynchronized Bd
  have X0 : Stand p l e room_1 s m #[(.long p0), (.long p1)] below meth c s₁ [] 0 0 := Stand.of_body Bd
  have e0 : s₁.heap = h0 := by rw [← hh, Bd.state]; rfl
  have N0 := Fr.nil n0
  have J265 : ∀ (T : State) (Lc : List Loc) (X : Stand p l e room_1 s m #[(.long p0), (.long p1)] below meth c T Lc 0 0) (eT : T.heap = h0) (N : Fr n0 Lc) (v4 : Int64) (v6 : Int32) (v7 : Int32) (v8 : Int32) , own_G p.tables e below (T.setTop (mkF m 265 #[.val (.long p0), .second, .val (.long p1), .second, .val (.long v4), .second, .val (.int v6), .val (.int v7), .val (.int v8)] [])) s room_1.cells room_1.slots (own_P n0 h0 (some (.int (own_law_265 p0 p1 v4 v6 v7 v8)))) := by
    intro T Lc X eT N v4 v6 v7 v8 
    show own_G _ _ _ _ _ _ _ (own_P n0 h0 (some (.int ((v7 &&& 1)))))
    refine own_go (fun t k => XS.iload X.here hx rfl (hb hby at_265) rfl k) ?_
    show own_G _ _ _ (T.setTop (mkF m 267 #[.val (.long p0), .second, .val (.long p1), .second, .val (.long v4), .second, .val (.int v6), .val (.int v7), .val (.int v8)] [(.int v7)])) _ _ _ _
    exact own_endN X hx hlk (t := .boolean) Bd.returns (by simp) (hb hby at_267) (by decide) (by decide) ⟨rfl, N, eT⟩
  have J263 : ∀ (T : State) (Lc : List Loc) (X : Stand p l e room_1 s m #[(.long p0), (.long p1)] below meth c T Lc 0 0) (eT : T.heap = h0) (N : Fr n0 Lc) (v4 : Int64) (v6 : Int32) (v7 : Int32) (v8 : Int32) (w0 : Int32) , own_G p.tables e below (T.setTop (mkF m 263 #[.val (.long p0), .second, .val (.long p1), .second, .val (.long v4), .second, .val (.int v6), .val (.int v7), .val (.int v8)] [(.int w0)])) s room_1.cells room_1.slots (own_P n0 h0 (some (.int (own_law_263 p0 p1 v4 v6 v7 v8 w0)))) := by
    intro T Lc X eT N v4 v6 v7 v8 w0 
    show own_G _ _ _ _ _ _ _ (own_P n0 h0 (some (.int ((own_law_265 p0 p1 v4 v6 w0 v8)))))
    refine own_go (fun t k => XS.istore X.here hx rfl (hb hby at_263) rfl (l' := #[.val (.long p0), .second, .val (.long p1), .second, .val (.long v4), .second, .val (.int v6), .val (.int w0), .val (.int v8)]) rfl k) ?_
    show own_G _ _ _ (T.setTop (mkF m 265 #[.val (.long p0), .second, .val (.long p1), .second, .val (.long v4), .second, .val (.int v6), .val (.int w0), .val (.int v8)] [])) _ _ _ _
    exact J265 _ _ X eT N v4 v6 w0 v8 
  have J262 : ∀ (T : State) (Lc : List Loc) (X : Stand p l e room_1 s m #[(.long p0), (.long p1)] below meth c T Lc 0 0) (eT : T.heap = h0) (N : Fr n0 Lc) (v4 : Int64) (v6 : Int32) (v7 : Int32) (v8 : Int32) , own_G p.tables e below (T.setTop (mkF m 262 #[.val (.long p0), .second, .val (.long p1), .second, .val (.long v4), .second, .val (.int v6), .val (.int v7), .val (.int v8)] [])) s room_1.cells room_1.slots (own_P n0 h0 (some (.int (own_law_262 p0 p1 v4 v6 v7 v8)))) := by
    intro T Lc X eT N v4 v6 v7 v8 
    show own_G _ _ _ _ _ _ _ (own_P n0 h0 (some (.int ((own_law_263 p0 p1 v4 v6 v7 v8 (0 : Int32))))))
    refine own_go (fun t k => XS.iconst X.here hx rfl (hb hby at_262) k) ?_
    show own_G _ _ _ (T.setTop (mkF m 263 #[.val (.long p0), .second, .val (.long p1), .second, .val (.long v4), .second, .val (.int v6), .val (.int v7), .val (.int v8)] [(.int (0 : Int32))])) _ _ _ _
    exact J263 _ _ X eT N v4 v6 v7 v8 (0 : Int32) 
  have J237 : ∀ (T : State) (Lc : List Loc) (X : Stand p l e room_1 s m #[(.long p0), (.long p1)] below meth c T Lc 0 0) (eT : T.heap = h0) (N : Fr n0 Lc) (v4 : Int64) (v6 : Int32) (v7 : Int32) (v8 : Int32) (w0 : Int32) , own_G p.tables e below (T.setTop (mkF m 237 #[.val (.long p0), .second, .val (.long p1), .second, .val (.long v4), .second, .val (.int v6), .val (.int v7), .val (.int v8)] [(.int w0)])) s room_1.cells room_1.slots (own_P n0 h0 (some (.int (own_law_237 p0 p1 v4 v6 v7 v8 w0)))) := by
    intro T Lc X eT N v4 v6 v7 v8 w0 
    show own_G _ _ _ _ _ _ _ (own_P n0 h0 (some (.int ((if w0 = (0 : Int32) then (own_law_262 p0 p1 v4 v6 w0 v8) else (if (own_sgn ((-v4) - (1 : Int64)) v4) = (-1 : Int32) then (own_law_263 p0 p1 v4 v6 w0 v8 (1 : Int32)) else (own_law_262 p0 p1 v4 v6 w0 v8)))))))
    refine own_go (fun t k => XS.istore X.here hx rfl (hb hby at_237) rfl (l' := #[.val (.long p0), .second, .val (.long p1), .second, .val (.long v4), .second, .val (.int v6), .val (.int w0), .val (.int v8)]) rfl k) ?_
    show own_G _ _ _ (T.setTop (mkF m 239 #[.val (.long p0), .second, .val (.long p1), .second, .val (.long v4), .second, .val (.int v6), .val (.int w0), .val (.int v8)] [])) _ _ _ _
    refine own_go (fun t k => XS.iload X.here hx rfl (hb hby at_239) rfl k) ?_
    show own_G _ _ _ (T.setTop (mkF m 241 #[.val (.long p0), .second, .val (.long p1), .second, .val (.long v4), .second, .val (.int v6), .val (.int w0), .val (.int v8)] [(.int w0)])) _ _ _ _
    by_cases hc1 : w0 = (0 : Int32)
    · refine own_itI hc1 ?_
      refine own_go (fun t k => XS.ifYes X.here hx rfl (pc0 := 241) (pc' := 262) rfl (hb hby at_241) rfl ((if0 _ _).trans (teq hc1).1) (by decide) (by decide) k) ?_
      show own_G _ _ _ (T.setTop (mkF m 262 #[.val (.long p0), .second, .val (.long p1), .second, .val (.long v4), .second, .val (.int v6), .val (.int w0), .val (.int v8)] [])) _ _ _ _
      exact J262 _ _ X eT N v4 v6 w0 v8 
    · refine own_ifI hc1 ?_
      refine own_go (fun t k => XS.ifNo X.here hx rfl (hb hby at_241) rfl ((if0 _ _).trans (feq hc1).1) k) ?_
      show own_G _ _ _ (T.setTop (mkF m 244 #[.val (.long p0), .second, .val (.long p1), .second, .val (.long v4), .second, .val (.int v6), .val (.int w0), .val (.int v8)] [])) _ _ _ _
      refine own_go (fun t k => XS.lload X.here hx rfl (hb hby at_244) rfl k) ?_
      show own_G _ _ _ (T.setTop (mkF m 246 #[.val (.long p0), .second, .val (.long p1), .second, .val (.long v4), .second, .val (.int v6), .val (.int w0), .val (.int v8)] [(.long v4)])) _ _ _ _
      refine own_go (fun t k => XS.lneg X.here hx rfl (hb hby at_246) rfl k) ?_
      show own_G _ _ _ (T.setTop (mkF m 247 #[.val (.long p0), .second, .val (.long p1), .second, .val (.long v4), .second, .val (.int v6), .val (.int w0), .val (.int v8)] [(.long (-v4))])) _ _ _ _
      refine own_go (fun t k => XS.lconst X.here hx rfl (hb hby at_247) k) ?_
      show own_G _ _ _ (T.setTop (mkF m 248 #[.val (.long p0), .second, .val (.long p1), .second, .val (.long v4), .second, .val (.int v6), .val (.int w0), .val (.int v8)] [(.long (1 : Int64)), (.long (-v4))])) _ _ _ _
      refine own_go (fun t k => XS.lsub X.here hx rfl (hb hby at_248) rfl k) ?_
      show own_G _ _ _ (T.setTop (mkF m 249 #[.val (.long p0), .second, .val (.long p1), .second, .val (.long v4), .second, .val (.int v6), .val (.int w0), .val (.int v8)] [(.long ((-v4) - (1 : Int64)))])) _ _ _ _
      refine own_go (fun t k => XS.lload X.here hx rfl (hb hby at_249) rfl k) ?_
      show own_G _ _ _ (T.setTop (mkF m 251 #[.val (.long p0), .second, .val (.long p1), .second, .val (.long v4), .second, .val (.int v6), .val (.int w0), .val (.int v8)] [(.long v4), (.long ((-v4) - (1 : Int64)))])) _ _ _ _
      obtain ⟨_, _, ⟨T2, L2, k2, n2⟩, -, X2, ⟨Lc2, hQ2, l2, y2, z2⟩, st2⟩ := Jvm.LawKit.callS X hx (y := (⟨"com/example/slackline/slackline/Factors", "signBeyond", "(JJ)I"⟩ : MethodName)) hown (mvT hZ (hw _ (List.mem_of_getElem? (i := 1) rfl))) (mvT hZ (hw _ (List.mem_of_getElem? (i := 2) rfl))) (mvT hZ (hw _ (List.mem_of_getElem? (i := 3) rfl))) (mvT hZ (hw _ (List.mem_of_getElem? (i := 4) rfl))) (by decide) (backOf (W := 0) (rm1 l Z a0 hw [] ((-v4) - (1 : Int64)) v4  h0 n0 ) hZ (hw _ (List.mem_of_getElem? (i := 4) rfl)) (hw _ (List.mem_of_getElem? (i := 3) rfl)) (by decide) (by decide)) (g := (mkF m 251 #[.val (.long p0), .second, .val (.long p1), .second, .val (.long v4), .second, .val (.int v6), .val (.int w0), .val (.int v8)] [(.long v4), (.long ((-v4) - (1 : Int64)))])) rfl (by rw [hml]; rfl) (argsL := [(.long ((-v4) - (1 : Int64))), (.long v4)]) (rest := []) (lenOf pd_0 rfl) rfl (by show 2 * 0 + _ ≤ _; exact Nat.le_of_eq rfl) (hb hby at_251) (fun _ _ => ⟨rfl, eT, (by decide : 0 + 0 ≤ _), (by decide : 0 + 0 ≤ _)⟩)
      dsimp only [Pt.U, Pt.locs, Pt.cells, Pt.slots] at X2 l2 y2 z2 st2 hQ2
      subst l2 y2 z2
      obtain ⟨rfl, N2q, e2⟩ := hQ2
      have N2 := Fr.app N N2q
      refine own_go (fun t k => st2 _ k) ?_
      show own_G _ _ _ (T2.setTop (mkF m 254 #[.val (.long p0), .second, .val (.long p1), .second, .val (.long v4), .second, .val (.int v6), .val (.int w0), .val (.int v8)] [(.int (own_sgn ((-v4) - (1 : Int64)) v4))])) _ _ _ _
      refine own_go (fun t k => XS.iconst X2.here hx rfl (hb hby at_254) k) ?_
      show own_G _ _ _ (T2.setTop (mkF m 255 #[.val (.long p0), .second, .val (.long p1), .second, .val (.long v4), .second, .val (.int v6), .val (.int w0), .val (.int v8)] [(.int (-1 : Int32)), (.int (own_sgn ((-v4) - (1 : Int64)) v4))])) _ _ _ _
      by_cases hc3 : (own_sgn ((-v4) - (1 : Int64)) v4) = (-1 : Int32)
      · refine own_itI hc3 ?_
        refine own_go (fun t k => XS.icmpNo X2.here hx rfl (hb hby at_255) rfl (teq hc3).2 k) ?_
        show own_G _ _ _ (T2.setTop (mkF m 258 #[.val (.long p0), .second, .val (.long p1), .second, .val (.long v4), .second, .val (.int v6), .val (.int w0), .val (.int v8)] [])) _ _ _ _
        refine own_go (fun t k => XS.iconst X2.here hx rfl (hb hby at_258) k) ?_
        show own_G _ _ _ (T2.setTop (mkF m 259 #[.val (.long p0), .second, .val (.long p1), .second, .val (.long v4), .second, .val (.int v6), .val (.int w0), .val (.int v8)] [(.int (1 : Int32))])) _ _ _ _
        refine own_go (fun t k => XS.goto X2.here hx rfl (pc0 := 259) (pc' := 263) rfl (hb hby at_259) (by decide) (by decide) k) ?_
        show own_G _ _ _ (T2.setTop (mkF m 263 #[.val (.long p0), .second, .val (.long p1), .second, .val (.long v4), .second, .val (.int v6), .val (.int w0), .val (.int v8)] [(.int (1 : Int32))])) _ _ _ _
        exact J263 _ _ X2 e2 N2 v4 v6 w0 v8 (1 : Int32) 
      · refine own_ifI hc3 ?_
        refine own_go (fun t k => XS.icmpYes X2.here hx rfl (pc0 := 255) (pc' := 262) rfl (hb hby at_255) rfl (feq hc3).2 (by decide) (by decide) k) ?_
        show own_G _ _ _ (T2.setTop (mkF m 262 #[.val (.long p0), .second, .val (.long p1), .second, .val (.long v4), .second, .val (.int v6), .val (.int w0), .val (.int v8)] [])) _ _ _ _
        exact J262 _ _ X2 e2 N2 v4 v6 w0 v8 
  have J236 : ∀ (T : State) (Lc : List Loc) (X : Stand p l e room_1 s m #[(.long p0), (.long p1)] below meth c T Lc 0 0) (eT : T.heap = h0) (N : Fr n0 Lc) (v4 : Int64) (v6 : Int32) (v7 : Int32) (v8 : Int32) , own_G p.tables e below (T.setTop (mkF m 236 #[.val (.long p0), .second, .val (.long p1), .second, .val (.long v4), .second, .val (.int v6), .val (.int v7), .val (.int v8)] [])) s room_1.cells room_1.slots (own_P n0 h0 (some (.int (own_law_236 p0 p1 v4 v6 v7 v8)))) := by
    intro T Lc X eT N v4 v6 v7 v8 
    show own_G _ _ _ _ _ _ _ (own_P n0 h0 (some (.int ((own_law_237 p0 p1 v4 v6 v7 v8 (0 : Int32))))))
    refine own_go (fun t k => XS.iconst X.here hx rfl (hb hby at_236) k) ?_
    show own_G _ _ _ (T.setTop (mkF m 237 #[.val (.long p0), .second, .val (.long p1), .second, .val (.long v4), .second, .val (.int v6), .val (.int v7), .val (.int v8)] [(.int (0 : Int32))])) _ _ _ _
    exact J237 _ _ X eT N v4 v6 v7 v8 (0 : Int32) 
  have J203 : ∀ (T : State) (Lc : List Loc) (X : Stand p l e room_1 s m #[(.long p0), (.long p1)] below meth c T Lc 0 0) (eT : T.heap = h0) (N : Fr n0 Lc) (v4 : Int64) (v6 : Int32) (v7 : Int32) (v8 : Int32) (w0 : Int32) , own_G p.tables e below (T.setTop (mkF m 203 #[.val (.long p0), .second, .val (.long p1), .second, .val (.long v4), .second, .val (.int v6), .val (.int v7), .val (.int v8)] [(.int w0)])) s room_1.cells room_1.slots (own_P n0 h0 (some (.int (own_law_203 p0 p1 v4 v6 v7 v8 w0)))) := by
    intro T Lc X eT N v4 v6 v7 v8 w0 
    show own_G _ _ _ _ _ _ _ (own_P n0 h0 (some (.int ((if v4 < (9223372036854775807 : Int64) then (if w0 = (0 : Int32) then (own_law_236 p0 p1 v4 v6 w0 v8) else (if (own_sgn (v4 + (1 : Int64)) v4) = (1 : Int32) then (own_law_237 p0 p1 v4 v6 w0 v8 (1 : Int32)) else (own_law_236 p0 p1 v4 v6 w0 v8))) else (own_law_265 p0 p1 v4 v6 w0 v8))))))
    refine own_go (fun t k => XS.istore X.here hx rfl (hb hby at_203) rfl (l' := #[.val (.long p0), .second, .val (.long p1), .second, .val (.long v4), .second, .val (.int v6), .val (.int w0), .val (.int v8)]) rfl k) ?_
    show own_G _ _ _ (T.setTop (mkF m 205 #[.val (.long p0), .second, .val (.long p1), .second, .val (.long v4), .second, .val (.int v6), .val (.int w0), .val (.int v8)] [])) _ _ _ _
    refine own_go (fun t k => XS.lload X.here hx rfl (hb hby at_205) rfl k) ?_
    show own_G _ _ _ (T.setTop (mkF m 207 #[.val (.long p0), .second, .val (.long p1), .second, .val (.long v4), .second, .val (.int v6), .val (.int w0), .val (.int v8)] [(.long v4)])) _ _ _ _
    refine own_go (fun t k => X.ldc2Long hx hown (mvT hZ (hw _ (List.mem_of_getElem? (i := 0) rfl))) (g := (mkF m 207 #[.val (.long p0), .second, .val (.long p1), .second, .val (.long v4), .second, .val (.int v6), .val (.int w0), .val (.int v8)] [(.long v4)])) rfl (hb hby at_207) _ k) ?_
    show own_G _ _ _ (T.setTop (mkF m 210 #[.val (.long p0), .second, .val (.long p1), .second, .val (.long v4), .second, .val (.int v6), .val (.int w0), .val (.int v8)] [(.long (9223372036854775807 : Int64)), (.long v4)])) _ _ _ _
    refine own_go (fun t k => XS.lcmp X.here hx rfl (hb hby at_210) rfl k) ?_
    show own_G _ _ _ (T.setTop (mkF m 211 #[.val (.long p0), .second, .val (.long p1), .second, .val (.long v4), .second, .val (.int v6), .val (.int w0), .val (.int v8)] [(.int (lcmpW v4 (9223372036854775807 : Int64)))])) _ _ _ _
    by_cases hc4 : v4 < (9223372036854775807 : Int64)
    · refine own_itI hc4 ?_
      refine own_go (fun t k => XS.ifNo X.here hx rfl (hb hby at_211) rfl ((if0 _ _).trans (tlt ((lw_lt _ _).mpr hc4)).2.1) k) ?_
      show own_G _ _ _ (T.setTop (mkF m 214 #[.val (.long p0), .second, .val (.long p1), .second, .val (.long v4), .second, .val (.int v6), .val (.int w0), .val (.int v8)] [])) _ _ _ _
      refine own_go (fun t k => XS.iload X.here hx rfl (hb hby at_214) rfl k) ?_
      show own_G _ _ _ (T.setTop (mkF m 216 #[.val (.long p0), .second, .val (.long p1), .second, .val (.long v4), .second, .val (.int v6), .val (.int w0), .val (.int v8)] [(.int w0)])) _ _ _ _
      by_cases hc5 : w0 = (0 : Int32)
      · refine own_itI hc5 ?_
        refine own_go (fun t k => XS.ifYes X.here hx rfl (pc0 := 216) (pc' := 236) rfl (hb hby at_216) rfl ((if0 _ _).trans (teq hc5).1) (by decide) (by decide) k) ?_
        show own_G _ _ _ (T.setTop (mkF m 236 #[.val (.long p0), .second, .val (.long p1), .second, .val (.long v4), .second, .val (.int v6), .val (.int w0), .val (.int v8)] [])) _ _ _ _
        exact J236 _ _ X eT N v4 v6 w0 v8 
      · refine own_ifI hc5 ?_
        refine own_go (fun t k => XS.ifNo X.here hx rfl (hb hby at_216) rfl ((if0 _ _).trans (feq hc5).1) k) ?_
        show own_G _ _ _ (T.setTop (mkF m 219 #[.val (.long p0), .second, .val (.long p1), .second, .val (.long v4), .second, .val (.int v6), .val (.int w0), .val (.int v8)] [])) _ _ _ _
        refine own_go (fun t k => XS.lload X.here hx rfl (hb hby at_219) rfl k) ?_
        show own_G _ _ _ (T.setTop (mkF m 221 #[.val (.long p0), .second, .val (.long p1), .second, .val (.long v4), .second, .val (.int v6), .val (.int w0), .val (.int v8)] [(.long v4)])) _ _ _ _
        refine own_go (fun t k => XS.lconst X.here hx rfl (hb hby at_221) k) ?_
        show own_G _ _ _ (T.setTop (mkF m 222 #[.val (.long p0), .second, .val (.long p1), .second, .val (.long v4), .second, .val (.int v6), .val (.int w0), .val (.int v8)] [(.long (1 : Int64)), (.long v4)])) _ _ _ _
        refine own_go (fun t k => XS.ladd X.here hx rfl (hb hby at_222) rfl k) ?_
        show own_G _ _ _ (T.setTop (mkF m 223 #[.val (.long p0), .second, .val (.long p1), .second, .val (.long v4), .second, .val (.int v6), .val (.int w0), .val (.int v8)] [(.long (v4 + (1 : Int64)))])) _ _ _ _
        refine own_go (fun t k => XS.lload X.here hx rfl (hb hby at_223) rfl k) ?_
        show own_G _ _ _ (T.setTop (mkF m 225 #[.val (.long p0), .second, .val (.long p1), .second, .val (.long v4), .second, .val (.int v6), .val (.int w0), .val (.int v8)] [(.long v4), (.long (v4 + (1 : Int64)))])) _ _ _ _
        obtain ⟨_, _, ⟨T6, L6, k6, n6⟩, -, X6, ⟨Lc6, hQ6, l6, y6, z6⟩, st6⟩ := Jvm.LawKit.callS X hx (y := (⟨"com/example/slackline/slackline/Factors", "signBeyond", "(JJ)I"⟩ : MethodName)) hown (mvT hZ (hw _ (List.mem_of_getElem? (i := 1) rfl))) (mvT hZ (hw _ (List.mem_of_getElem? (i := 2) rfl))) (mvT hZ (hw _ (List.mem_of_getElem? (i := 3) rfl))) (mvT hZ (hw _ (List.mem_of_getElem? (i := 4) rfl))) (by decide) (backOf (W := 0) (rm1 l Z a0 hw [] (v4 + (1 : Int64)) v4  h0 n0 ) hZ (hw _ (List.mem_of_getElem? (i := 4) rfl)) (hw _ (List.mem_of_getElem? (i := 3) rfl)) (by decide) (by decide)) (g := (mkF m 225 #[.val (.long p0), .second, .val (.long p1), .second, .val (.long v4), .second, .val (.int v6), .val (.int w0), .val (.int v8)] [(.long v4), (.long (v4 + (1 : Int64)))])) rfl (by rw [hml]; rfl) (argsL := [(.long (v4 + (1 : Int64))), (.long v4)]) (rest := []) (lenOf pd_0 rfl) rfl (by show 2 * 0 + _ ≤ _; exact Nat.le_of_eq rfl) (hb hby at_225) (fun _ _ => ⟨rfl, eT, (by decide : 0 + 0 ≤ _), (by decide : 0 + 0 ≤ _)⟩)
        dsimp only [Pt.U, Pt.locs, Pt.cells, Pt.slots] at X6 l6 y6 z6 st6 hQ6
        subst l6 y6 z6
        obtain ⟨rfl, N6q, e6⟩ := hQ6
        have N6 := Fr.app N N6q
        refine own_go (fun t k => st6 _ k) ?_
        show own_G _ _ _ (T6.setTop (mkF m 228 #[.val (.long p0), .second, .val (.long p1), .second, .val (.long v4), .second, .val (.int v6), .val (.int w0), .val (.int v8)] [(.int (own_sgn (v4 + (1 : Int64)) v4))])) _ _ _ _
        refine own_go (fun t k => XS.iconst X6.here hx rfl (hb hby at_228) k) ?_
        show own_G _ _ _ (T6.setTop (mkF m 229 #[.val (.long p0), .second, .val (.long p1), .second, .val (.long v4), .second, .val (.int v6), .val (.int w0), .val (.int v8)] [(.int (1 : Int32)), (.int (own_sgn (v4 + (1 : Int64)) v4))])) _ _ _ _
        by_cases hc7 : (own_sgn (v4 + (1 : Int64)) v4) = (1 : Int32)
        · refine own_itI hc7 ?_
          refine own_go (fun t k => XS.icmpNo X6.here hx rfl (hb hby at_229) rfl (teq hc7).2 k) ?_
          show own_G _ _ _ (T6.setTop (mkF m 232 #[.val (.long p0), .second, .val (.long p1), .second, .val (.long v4), .second, .val (.int v6), .val (.int w0), .val (.int v8)] [])) _ _ _ _
          refine own_go (fun t k => XS.iconst X6.here hx rfl (hb hby at_232) k) ?_
          show own_G _ _ _ (T6.setTop (mkF m 233 #[.val (.long p0), .second, .val (.long p1), .second, .val (.long v4), .second, .val (.int v6), .val (.int w0), .val (.int v8)] [(.int (1 : Int32))])) _ _ _ _
          refine own_go (fun t k => XS.goto X6.here hx rfl (pc0 := 233) (pc' := 237) rfl (hb hby at_233) (by decide) (by decide) k) ?_
          show own_G _ _ _ (T6.setTop (mkF m 237 #[.val (.long p0), .second, .val (.long p1), .second, .val (.long v4), .second, .val (.int v6), .val (.int w0), .val (.int v8)] [(.int (1 : Int32))])) _ _ _ _
          exact J237 _ _ X6 e6 N6 v4 v6 w0 v8 (1 : Int32) 
        · refine own_ifI hc7 ?_
          refine own_go (fun t k => XS.icmpYes X6.here hx rfl (pc0 := 229) (pc' := 236) rfl (hb hby at_229) rfl (feq hc7).2 (by decide) (by decide) k) ?_
          show own_G _ _ _ (T6.setTop (mkF m 236 #[.val (.long p0), .second, .val (.long p1), .second, .val (.long v4), .second, .val (.int v6), .val (.int w0), .val (.int v8)] [])) _ _ _ _
          exact J236 _ _ X6 e6 N6 v4 v6 w0 v8 
    · refine own_ifI hc4 ?_
      refine own_go (fun t k => XS.ifYes X.here hx rfl (pc0 := 211) (pc' := 265) rfl (hb hby at_211) rfl ((if0 _ _).trans (flt (fun q => hc4 ((lw_lt _ _).mp q))).2.1) (by decide) (by decide) k) ?_
      show own_G _ _ _ (T.setTop (mkF m 265 #[.val (.long p0), .second, .val (.long p1), .second, .val (.long v4), .second, .val (.int v6), .val (.int w0), .val (.int v8)] [])) _ _ _ _
      exact J265 _ _ X eT N v4 v6 w0 v8 
  have J202 : ∀ (T : State) (Lc : List Loc) (X : Stand p l e room_1 s m #[(.long p0), (.long p1)] below meth c T Lc 0 0) (eT : T.heap = h0) (N : Fr n0 Lc) (v4 : Int64) (v6 : Int32) (v7 : Int32) (v8 : Int32) , own_G p.tables e below (T.setTop (mkF m 202 #[.val (.long p0), .second, .val (.long p1), .second, .val (.long v4), .second, .val (.int v6), .val (.int v7), .val (.int v8)] [])) s room_1.cells room_1.slots (own_P n0 h0 (some (.int (own_law_202 p0 p1 v4 v6 v7 v8)))) := by
    intro T Lc X eT N v4 v6 v7 v8 
    show own_G _ _ _ _ _ _ _ (own_P n0 h0 (some (.int ((own_law_203 p0 p1 v4 v6 v7 v8 (0 : Int32))))))
    refine own_go (fun t k => XS.iconst X.here hx rfl (hb hby at_202) k) ?_
    show own_G _ _ _ (T.setTop (mkF m 203 #[.val (.long p0), .second, .val (.long p1), .second, .val (.long v4), .second, .val (.int v6), .val (.int v7), .val (.int v8)] [(.int (0 : Int32))])) _ _ _ _
    exact J203 _ _ X eT N v4 v6 v7 v8 (0 : Int32) 
  have J180 : ∀ (T : State) (Lc : List Loc) (X : Stand p l e room_1 s m #[(.long p0), (.long p1)] below meth c T Lc 0 0) (eT : T.heap = h0) (N : Fr n0 Lc) (v4 : Int64) (v6 : Int32) (v7 : Int32) (v8 : Int32) (w0 : Int32) , own_G p.tables e below (T.setTop (mkF m 180 #[.val (.long p0), .second, .val (.long p1), .second, .val (.long v4), .second, .val (.int v6), .val (.int v7), .val (.int v8)] [(.int w0)])) s room_1.cells room_1.slots (own_P n0 h0 (some (.int (own_law_180 p0 p1 v4 v6 v7 v8 w0)))) := by
    intro T Lc X eT N v4 v6 v7 v8 w0 
    show own_G _ _ _ _ _ _ _ (own_P n0 h0 (some (.int ((if w0 = (0 : Int32) then (own_law_202 p0 p1 v4 v6 w0 v8) else (if (own_sgn (-v4) v4) = (0 : Int32) then (own_law_203 p0 p1 v4 v6 w0 v8 (1 : Int32)) else (own_law_202 p0 p1 v4 v6 w0 v8)))))))
    refine own_go (fun t k => XS.istore X.here hx rfl (hb hby at_180) rfl (l' := #[.val (.long p0), .second, .val (.long p1), .second, .val (.long v4), .second, .val (.int v6), .val (.int w0), .val (.int v8)]) rfl k) ?_
    show own_G _ _ _ (T.setTop (mkF m 182 #[.val (.long p0), .second, .val (.long p1), .second, .val (.long v4), .second, .val (.int v6), .val (.int w0), .val (.int v8)] [])) _ _ _ _
    refine own_go (fun t k => XS.iload X.here hx rfl (hb hby at_182) rfl k) ?_
    show own_G _ _ _ (T.setTop (mkF m 184 #[.val (.long p0), .second, .val (.long p1), .second, .val (.long v4), .second, .val (.int v6), .val (.int w0), .val (.int v8)] [(.int w0)])) _ _ _ _
    by_cases hc8 : w0 = (0 : Int32)
    · refine own_itI hc8 ?_
      refine own_go (fun t k => XS.ifYes X.here hx rfl (pc0 := 184) (pc' := 202) rfl (hb hby at_184) rfl ((if0 _ _).trans (teq hc8).1) (by decide) (by decide) k) ?_
      show own_G _ _ _ (T.setTop (mkF m 202 #[.val (.long p0), .second, .val (.long p1), .second, .val (.long v4), .second, .val (.int v6), .val (.int w0), .val (.int v8)] [])) _ _ _ _
      exact J202 _ _ X eT N v4 v6 w0 v8 
    · refine own_ifI hc8 ?_
      refine own_go (fun t k => XS.ifNo X.here hx rfl (hb hby at_184) rfl ((if0 _ _).trans (feq hc8).1) k) ?_
      show own_G _ _ _ (T.setTop (mkF m 187 #[.val (.long p0), .second, .val (.long p1), .second, .val (.long v4), .second, .val (.int v6), .val (.int w0), .val (.int v8)] [])) _ _ _ _
      refine own_go (fun t k => XS.lload X.here hx rfl (hb hby at_187) rfl k) ?_
      show own_G _ _ _ (T.setTop (mkF m 189 #[.val (.long p0), .second, .val (.long p1), .second, .val (.long v4), .second, .val (.int v6), .val (.int w0), .val (.int v8)] [(.long v4)])) _ _ _ _
      refine own_go (fun t k => XS.lneg X.here hx rfl (hb hby at_189) rfl k) ?_
      show own_G _ _ _ (T.setTop (mkF m 190 #[.val (.long p0), .second, .val (.long p1), .second, .val (.long v4), .second, .val (.int v6), .val (.int w0), .val (.int v8)] [(.long (-v4))])) _ _ _ _
      refine own_go (fun t k => XS.lload X.here hx rfl (hb hby at_190) rfl k) ?_
      show own_G _ _ _ (T.setTop (mkF m 192 #[.val (.long p0), .second, .val (.long p1), .second, .val (.long v4), .second, .val (.int v6), .val (.int w0), .val (.int v8)] [(.long v4), (.long (-v4))])) _ _ _ _
      obtain ⟨_, _, ⟨T9, L9, k9, n9⟩, -, X9, ⟨Lc9, hQ9, l9, y9, z9⟩, st9⟩ := Jvm.LawKit.callS X hx (y := (⟨"com/example/slackline/slackline/Factors", "signBeyond", "(JJ)I"⟩ : MethodName)) hown (mvT hZ (hw _ (List.mem_of_getElem? (i := 1) rfl))) (mvT hZ (hw _ (List.mem_of_getElem? (i := 2) rfl))) (mvT hZ (hw _ (List.mem_of_getElem? (i := 3) rfl))) (mvT hZ (hw _ (List.mem_of_getElem? (i := 4) rfl))) (by decide) (backOf (W := 0) (rm1 l Z a0 hw [] (-v4) v4  h0 n0 ) hZ (hw _ (List.mem_of_getElem? (i := 4) rfl)) (hw _ (List.mem_of_getElem? (i := 3) rfl)) (by decide) (by decide)) (g := (mkF m 192 #[.val (.long p0), .second, .val (.long p1), .second, .val (.long v4), .second, .val (.int v6), .val (.int w0), .val (.int v8)] [(.long v4), (.long (-v4))])) rfl (by rw [hml]; rfl) (argsL := [(.long (-v4)), (.long v4)]) (rest := []) (lenOf pd_0 rfl) rfl (by show 2 * 0 + _ ≤ _; exact Nat.le_of_eq rfl) (hb hby at_192) (fun _ _ => ⟨rfl, eT, (by decide : 0 + 0 ≤ _), (by decide : 0 + 0 ≤ _)⟩)
      dsimp only [Pt.U, Pt.locs, Pt.cells, Pt.slots] at X9 l9 y9 z9 st9 hQ9
      subst l9 y9 z9
      obtain ⟨rfl, N9q, e9⟩ := hQ9
      have N9 := Fr.app N N9q
      refine own_go (fun t k => st9 _ k) ?_
      show own_G _ _ _ (T9.setTop (mkF m 195 #[.val (.long p0), .second, .val (.long p1), .second, .val (.long v4), .second, .val (.int v6), .val (.int w0), .val (.int v8)] [(.int (own_sgn (-v4) v4))])) _ _ _ _
      by_cases hc10 : (own_sgn (-v4) v4) = (0 : Int32)
      · refine own_itI hc10 ?_
        refine own_go (fun t k => XS.ifNo X9.here hx rfl (hb hby at_195) rfl ((if0 _ _).trans (teq hc10).2) k) ?_
        show own_G _ _ _ (T9.setTop (mkF m 198 #[.val (.long p0), .second, .val (.long p1), .second, .val (.long v4), .second, .val (.int v6), .val (.int w0), .val (.int v8)] [])) _ _ _ _
        refine own_go (fun t k => XS.iconst X9.here hx rfl (hb hby at_198) k) ?_
        show own_G _ _ _ (T9.setTop (mkF m 199 #[.val (.long p0), .second, .val (.long p1), .second, .val (.long v4), .second, .val (.int v6), .val (.int w0), .val (.int v8)] [(.int (1 : Int32))])) _ _ _ _
        refine own_go (fun t k => XS.goto X9.here hx rfl (pc0 := 199) (pc' := 203) rfl (hb hby at_199) (by decide) (by decide) k) ?_
        show own_G _ _ _ (T9.setTop (mkF m 203 #[.val (.long p0), .second, .val (.long p1), .second, .val (.long v4), .second, .val (.int v6), .val (.int w0), .val (.int v8)] [(.int (1 : Int32))])) _ _ _ _
        exact J203 _ _ X9 e9 N9 v4 v6 w0 v8 (1 : Int32) 
      · refine own_ifI hc10 ?_
        refine own_go (fun t k => XS.ifYes X9.here hx rfl (pc0 := 195) (pc' := 202) rfl (hb hby at_195) rfl ((if0 _ _).trans (feq hc10).2) (by decide) (by decide) k) ?_
        show own_G _ _ _ (T9.setTop (mkF m 202 #[.val (.long p0), .second, .val (.long p1), .second, .val (.long v4), .second, .val (.int v6), .val (.int w0), .val (.int v8)] [])) _ _ _ _
        exact J202 _ _ X9 e9 N9 v4 v6 w0 v8 
  have J179 : ∀ (T : State) (Lc : List Loc) (X : Stand p l e room_1 s m #[(.long p0), (.long p1)] below meth c T Lc 0 0) (eT : T.heap = h0) (N : Fr n0 Lc) (v4 : Int64) (v6 : Int32) (v7 : Int32) (v8 : Int32) , own_G p.tables e below (T.setTop (mkF m 179 #[.val (.long p0), .second, .val (.long p1), .second, .val (.long v4), .second, .val (.int v6), .val (.int v7), .val (.int v8)] [])) s room_1.cells room_1.slots (own_P n0 h0 (some (.int (own_law_179 p0 p1 v4 v6 v7 v8)))) := by
    intro T Lc X eT N v4 v6 v7 v8 
    show own_G _ _ _ _ _ _ _ (own_P n0 h0 (some (.int ((own_law_180 p0 p1 v4 v6 v7 v8 (0 : Int32))))))
    refine own_go (fun t k => XS.iconst X.here hx rfl (hb hby at_179) k) ?_
    show own_G _ _ _ (T.setTop (mkF m 180 #[.val (.long p0), .second, .val (.long p1), .second, .val (.long v4), .second, .val (.int v6), .val (.int v7), .val (.int v8)] [(.int (0 : Int32))])) _ _ _ _
    exact J180 _ _ X eT N v4 v6 v7 v8 (0 : Int32) 
  have J160 : ∀ (T : State) (Lc : List Loc) (X : Stand p l e room_1 s m #[(.long p0), (.long p1)] below meth c T Lc 0 0) (eT : T.heap = h0) (N : Fr n0 Lc) (v4 : Int64) (v6 : Int32) (v7 : Int32) (v8 : Int32) , own_G p.tables e below (T.setTop (mkF m 160 #[.val (.long p0), .second, .val (.long p1), .second, .val (.long v4), .second, .val (.int v6), .val (.int v7), .val (.int v8)] [])) s room_1.cells room_1.slots (own_P n0 h0 (some (.int (own_law_160 p0 p1 v4 v6 v7 v8)))) := by
    intro T Lc X eT N v4 v6 v7 v8 
    show own_G _ _ _ _ _ _ _ (own_P n0 h0 (some (.int ((if v7 = (0 : Int32) then (own_law_179 p0 p1 v4 v6 v7 v8) else (if (own_sgn v4 v4) = (0 : Int32) then (own_law_180 p0 p1 v4 v6 v7 v8 (1 : Int32)) else (own_law_179 p0 p1 v4 v6 v7 v8)))))))
    refine own_go (fun t k => XS.iload X.here hx rfl (hb hby at_160) rfl k) ?_
    show own_G _ _ _ (T.setTop (mkF m 162 #[.val (.long p0), .second, .val (.long p1), .second, .val (.long v4), .second, .val (.int v6), .val (.int v7), .val (.int v8)] [(.int v7)])) _ _ _ _
    by_cases hc11 : v7 = (0 : Int32)
    · refine own_itI hc11 ?_
      refine own_go (fun t k => XS.ifYes X.here hx rfl (pc0 := 162) (pc' := 179) rfl (hb hby at_162) rfl ((if0 _ _).trans (teq hc11).1) (by decide) (by decide) k) ?_
      show own_G _ _ _ (T.setTop (mkF m 179 #[.val (.long p0), .second, .val (.long p1), .second, .val (.long v4), .second, .val (.int v6), .val (.int v7), .val (.int v8)] [])) _ _ _ _
      exact J179 _ _ X eT N v4 v6 v7 v8 
    · refine own_ifI hc11 ?_
      refine own_go (fun t k => XS.ifNo X.here hx rfl (hb hby at_162) rfl ((if0 _ _).trans (feq hc11).1) k) ?_
      show own_G _ _ _ (T.setTop (mkF m 165 #[.val (.long p0), .second, .val (.long p1), .second, .val (.long v4), .second, .val (.int v6), .val (.int v7), .val (.int v8)] [])) _ _ _ _
      refine own_go (fun t k => XS.lload X.here hx rfl (hb hby at_165) rfl k) ?_
      show own_G _ _ _ (T.setTop (mkF m 167 #[.val (.long p0), .second, .val (.long p1), .second, .val (.long v4), .second, .val (.int v6), .val (.int v7), .val (.int v8)] [(.long v4)])) _ _ _ _
      refine own_go (fun t k => XS.lload X.here hx rfl (hb hby at_167) rfl k) ?_
      show own_G _ _ _ (T.setTop (mkF m 169 #[.val (.long p0), .second, .val (.long p1), .second, .val (.long v4), .second, .val (.int v6), .val (.int v7), .val (.int v8)] [(.long v4), (.long v4)])) _ _ _ _
      obtain ⟨_, _, ⟨T12, L12, k12, n12⟩, -, X12, ⟨Lc12, hQ12, l12, y12, z12⟩, st12⟩ := Jvm.LawKit.callS X hx (y := (⟨"com/example/slackline/slackline/Factors", "signBeyond", "(JJ)I"⟩ : MethodName)) hown (mvT hZ (hw _ (List.mem_of_getElem? (i := 1) rfl))) (mvT hZ (hw _ (List.mem_of_getElem? (i := 2) rfl))) (mvT hZ (hw _ (List.mem_of_getElem? (i := 3) rfl))) (mvT hZ (hw _ (List.mem_of_getElem? (i := 4) rfl))) (by decide) (backOf (W := 0) (rm1 l Z a0 hw [] v4 v4  h0 n0 ) hZ (hw _ (List.mem_of_getElem? (i := 4) rfl)) (hw _ (List.mem_of_getElem? (i := 3) rfl)) (by decide) (by decide)) (g := (mkF m 169 #[.val (.long p0), .second, .val (.long p1), .second, .val (.long v4), .second, .val (.int v6), .val (.int v7), .val (.int v8)] [(.long v4), (.long v4)])) rfl (by rw [hml]; rfl) (argsL := [(.long v4), (.long v4)]) (rest := []) (lenOf pd_0 rfl) rfl (by show 2 * 0 + _ ≤ _; exact Nat.le_of_eq rfl) (hb hby at_169) (fun _ _ => ⟨rfl, eT, (by decide : 0 + 0 ≤ _), (by decide : 0 + 0 ≤ _)⟩)
      dsimp only [Pt.U, Pt.locs, Pt.cells, Pt.slots] at X12 l12 y12 z12 st12 hQ12
      subst l12 y12 z12
      obtain ⟨rfl, N12q, e12⟩ := hQ12
      have N12 := Fr.app N N12q
      refine own_go (fun t k => st12 _ k) ?_
      show own_G _ _ _ (T12.setTop (mkF m 172 #[.val (.long p0), .second, .val (.long p1), .second, .val (.long v4), .second, .val (.int v6), .val (.int v7), .val (.int v8)] [(.int (own_sgn v4 v4))])) _ _ _ _
      by_cases hc13 : (own_sgn v4 v4) = (0 : Int32)
      · refine own_itI hc13 ?_
        refine own_go (fun t k => XS.ifNo X12.here hx rfl (hb hby at_172) rfl ((if0 _ _).trans (teq hc13).2) k) ?_
        show own_G _ _ _ (T12.setTop (mkF m 175 #[.val (.long p0), .second, .val (.long p1), .second, .val (.long v4), .second, .val (.int v6), .val (.int v7), .val (.int v8)] [])) _ _ _ _
        refine own_go (fun t k => XS.iconst X12.here hx rfl (hb hby at_175) k) ?_
        show own_G _ _ _ (T12.setTop (mkF m 176 #[.val (.long p0), .second, .val (.long p1), .second, .val (.long v4), .second, .val (.int v6), .val (.int v7), .val (.int v8)] [(.int (1 : Int32))])) _ _ _ _
        refine own_go (fun t k => XS.goto X12.here hx rfl (pc0 := 176) (pc' := 180) rfl (hb hby at_176) (by decide) (by decide) k) ?_
        show own_G _ _ _ (T12.setTop (mkF m 180 #[.val (.long p0), .second, .val (.long p1), .second, .val (.long v4), .second, .val (.int v6), .val (.int v7), .val (.int v8)] [(.int (1 : Int32))])) _ _ _ _
        exact J180 _ _ X12 e12 N12 v4 v6 v7 v8 (1 : Int32) 
      · refine own_ifI hc13 ?_
        refine own_go (fun t k => XS.ifYes X12.here hx rfl (pc0 := 172) (pc' := 179) rfl (hb hby at_172) rfl ((if0 _ _).trans (feq hc13).2) (by decide) (by decide) k) ?_
        show own_G _ _ _ (T12.setTop (mkF m 179 #[.val (.long p0), .second, .val (.long p1), .second, .val (.long v4), .second, .val (.int v6), .val (.int v7), .val (.int v8)] [])) _ _ _ _
        exact J179 _ _ X12 e12 N12 v4 v6 v7 v8 
  have J158 : ∀ (T : State) (Lc : List Loc) (X : Stand p l e room_1 s m #[(.long p0), (.long p1)] below meth c T Lc 0 0) (eT : T.heap = h0) (N : Fr n0 Lc) (v4 : Int64) (v6 : Int32) (v7 : Int32) (v8 : Int32) (w0 : Int32) , own_G p.tables e below (T.setTop (mkF m 158 #[.val (.long p0), .second, .val (.long p1), .second, .val (.long v4), .second, .val (.int v6), .val (.int v7), .val (.int v8)] [(.int w0)])) s room_1.cells room_1.slots (own_P n0 h0 (some (.int (own_law_158 p0 p1 v4 v6 v7 v8 w0)))) := by
    intro T Lc X eT N v4 v6 v7 v8 w0 
    show own_G _ _ _ _ _ _ _ (own_P n0 h0 (some (.int ((own_law_160 p0 p1 v4 v6 w0 v8)))))
    refine own_go (fun t k => XS.istore X.here hx rfl (hb hby at_158) rfl (l' := #[.val (.long p0), .second, .val (.long p1), .second, .val (.long v4), .second, .val (.int v6), .val (.int w0), .val (.int v8)]) rfl k) ?_
    show own_G _ _ _ (T.setTop (mkF m 160 #[.val (.long p0), .second, .val (.long p1), .second, .val (.long v4), .second, .val (.int v6), .val (.int w0), .val (.int v8)] [])) _ _ _ _
    exact J160 _ _ X eT N v4 v6 w0 v8 
  have J157 : ∀ (T : State) (Lc : List Loc) (X : Stand p l e room_1 s m #[(.long p0), (.long p1)] below meth c T Lc 0 0) (eT : T.heap = h0) (N : Fr n0 Lc) (v4 : Int64) (v6 : Int32) (v7 : Int32) (v8 : Int32) , own_G p.tables e below (T.setTop (mkF m 157 #[.val (.long p0), .second, .val (.long p1), .second, .val (.long v4), .second, .val (.int v6), .val (.int v7), .val (.int v8)] [])) s room_1.cells room_1.slots (own_P n0 h0 (some (.int (own_law_157 p0 p1 v4 v6 v7 v8)))) := by
    intro T Lc X eT N v4 v6 v7 v8 
    show own_G _ _ _ _ _ _ _ (own_P n0 h0 (some (.int ((own_law_158 p0 p1 v4 v6 v7 v8 (0 : Int32))))))
    refine own_go (fun t k => XS.iconst X.here hx rfl (hb hby at_157) k) ?_
    show own_G _ _ _ (T.setTop (mkF m 158 #[.val (.long p0), .second, .val (.long p1), .second, .val (.long v4), .second, .val (.int v6), .val (.int v7), .val (.int v8)] [(.int (0 : Int32))])) _ _ _ _
    exact J158 _ _ X eT N v4 v6 v7 v8 (0 : Int32) 
  have J127 : ∀ (T : State) (Lc : List Loc) (X : Stand p l e room_1 s m #[(.long p0), (.long p1)] below meth c T Lc 0 0) (eT : T.heap = h0) (N : Fr n0 Lc) (v4 : Int64) (v6 : Int32) (v7 : Int32) (v8 : Int32) , own_G p.tables e below (T.setTop (mkF m 127 #[.val (.long p0), .second, .val (.long p1), .second, .val (.long v4), .second, .val (.int v6), .val (.int v7), .val (.int v8)] [])) s room_1.cells room_1.slots (own_P n0 h0 (some (.int (own_law_127 p0 p1 v4 v6 v7 v8)))) := by
    intro T Lc X eT N v4 v6 v7 v8 
    show own_G _ _ _ _ _ _ _ (own_P n0 h0 (some (.int ((if p0 = (-9223372036854775808 : Int64) then (own_law_160 p0 p1 v4 v6 v7 v8) else (if v7 = (0 : Int32) then (own_law_157 p0 p1 v4 v6 v7 v8) else (if (own_sgn (-p0) v4) = (-v6) then (own_law_158 p0 p1 v4 v6 v7 v8 (1 : Int32)) else (own_law_157 p0 p1 v4 v6 v7 v8))))))))
    refine own_go (fun t k => XS.lloadN X.here hx rfl (hb hby at_127) rfl k) ?_
    show own_G _ _ _ (T.setTop (mkF m 128 #[.val (.long p0), .second, .val (.long p1), .second, .val (.long v4), .second, .val (.int v6), .val (.int v7), .val (.int v8)] [(.long p0)])) _ _ _ _
    refine own_go (fun t k => X.ldc2Long hx hown (mvT hZ (hw _ (List.mem_of_getElem? (i := 5) rfl))) (g := (mkF m 128 #[.val (.long p0), .second, .val (.long p1), .second, .val (.long v4), .second, .val (.int v6), .val (.int v7), .val (.int v8)] [(.long p0)])) rfl (hb hby at_128) _ k) ?_
    show own_G _ _ _ (T.setTop (mkF m 131 #[.val (.long p0), .second, .val (.long p1), .second, .val (.long v4), .second, .val (.int v6), .val (.int v7), .val (.int v8)] [(.long (-9223372036854775808 : Int64)), (.long p0)])) _ _ _ _
    refine own_go (fun t k => XS.lcmp X.here hx rfl (hb hby at_131) rfl k) ?_
    show own_G _ _ _ (T.setTop (mkF m 132 #[.val (.long p0), .second, .val (.long p1), .second, .val (.long v4), .second, .val (.int v6), .val (.int v7), .val (.int v8)] [(.int (lcmpW p0 (-9223372036854775808 : Int64)))])) _ _ _ _
    by_cases hc14 : p0 = (-9223372036854775808 : Int64)
    · refine own_itI hc14 ?_
      refine own_go (fun t k => XS.ifYes X.here hx rfl (pc0 := 132) (pc' := 160) rfl (hb hby at_132) rfl ((if0 _ _).trans (teq ((lw_eq _ _).mpr hc14)).1) (by decide) (by decide) k) ?_
      show own_G _ _ _ (T.setTop (mkF m 160 #[.val (.long p0), .second, .val (.long p1), .second, .val (.long v4), .second, .val (.int v6), .val (.int v7), .val (.int v8)] [])) _ _ _ _
      exact J160 _ _ X eT N v4 v6 v7 v8 
    · refine own_ifI hc14 ?_
      refine own_go (fun t k => XS.ifNo X.here hx rfl (hb hby at_132) rfl ((if0 _ _).trans (feq (fun q => hc14 ((lw_eq _ _).mp q))).1) k) ?_
      show own_G _ _ _ (T.setTop (mkF m 135 #[.val (.long p0), .second, .val (.long p1), .second, .val (.long v4), .second, .val (.int v6), .val (.int v7), .val (.int v8)] [])) _ _ _ _
      refine own_go (fun t k => XS.iload X.here hx rfl (hb hby at_135) rfl k) ?_
      show own_G _ _ _ (T.setTop (mkF m 137 #[.val (.long p0), .second, .val (.long p1), .second, .val (.long v4), .second, .val (.int v6), .val (.int v7), .val (.int v8)] [(.int v7)])) _ _ _ _
      by_cases hc15 : v7 = (0 : Int32)
      · refine own_itI hc15 ?_
        refine own_go (fun t k => XS.ifYes X.here hx rfl (pc0 := 137) (pc' := 157) rfl (hb hby at_137) rfl ((if0 _ _).trans (teq hc15).1) (by decide) (by decide) k) ?_
        show own_G _ _ _ (T.setTop (mkF m 157 #[.val (.long p0), .second, .val (.long p1), .second, .val (.long v4), .second, .val (.int v6), .val (.int v7), .val (.int v8)] [])) _ _ _ _
        exact J157 _ _ X eT N v4 v6 v7 v8 
      · refine own_ifI hc15 ?_
        refine own_go (fun t k => XS.ifNo X.here hx rfl (hb hby at_137) rfl ((if0 _ _).trans (feq hc15).1) k) ?_
        show own_G _ _ _ (T.setTop (mkF m 140 #[.val (.long p0), .second, .val (.long p1), .second, .val (.long v4), .second, .val (.int v6), .val (.int v7), .val (.int v8)] [])) _ _ _ _
        refine own_go (fun t k => XS.lloadN X.here hx rfl (hb hby at_140) rfl k) ?_
        show own_G _ _ _ (T.setTop (mkF m 141 #[.val (.long p0), .second, .val (.long p1), .second, .val (.long v4), .second, .val (.int v6), .val (.int v7), .val (.int v8)] [(.long p0)])) _ _ _ _
        refine own_go (fun t k => XS.lneg X.here hx rfl (hb hby at_141) rfl k) ?_
        show own_G _ _ _ (T.setTop (mkF m 142 #[.val (.long p0), .second, .val (.long p1), .second, .val (.long v4), .second, .val (.int v6), .val (.int v7), .val (.int v8)] [(.long (-p0))])) _ _ _ _
        refine own_go (fun t k => XS.lload X.here hx rfl (hb hby at_142) rfl k) ?_
        show own_G _ _ _ (T.setTop (mkF m 144 #[.val (.long p0), .second, .val (.long p1), .second, .val (.long v4), .second, .val (.int v6), .val (.int v7), .val (.int v8)] [(.long v4), (.long (-p0))])) _ _ _ _
        obtain ⟨_, _, ⟨T16, L16, k16, n16⟩, -, X16, ⟨Lc16, hQ16, l16, y16, z16⟩, st16⟩ := Jvm.LawKit.callS X hx (y := (⟨"com/example/slackline/slackline/Factors", "signBeyond", "(JJ)I"⟩ : MethodName)) hown (mvT hZ (hw _ (List.mem_of_getElem? (i := 1) rfl))) (mvT hZ (hw _ (List.mem_of_getElem? (i := 2) rfl))) (mvT hZ (hw _ (List.mem_of_getElem? (i := 3) rfl))) (mvT hZ (hw _ (List.mem_of_getElem? (i := 4) rfl))) (by decide) (backOf (W := 0) (rm1 l Z a0 hw [] (-p0) v4  h0 n0 ) hZ (hw _ (List.mem_of_getElem? (i := 4) rfl)) (hw _ (List.mem_of_getElem? (i := 3) rfl)) (by decide) (by decide)) (g := (mkF m 144 #[.val (.long p0), .second, .val (.long p1), .second, .val (.long v4), .second, .val (.int v6), .val (.int v7), .val (.int v8)] [(.long v4), (.long (-p0))])) rfl (by rw [hml]; rfl) (argsL := [(.long (-p0)), (.long v4)]) (rest := []) (lenOf pd_0 rfl) rfl (by show 2 * 0 + _ ≤ _; exact Nat.le_of_eq rfl) (hb hby at_144) (fun _ _ => ⟨rfl, eT, (by decide : 0 + 0 ≤ _), (by decide : 0 + 0 ≤ _)⟩)
        dsimp only [Pt.U, Pt.locs, Pt.cells, Pt.slots] at X16 l16 y16 z16 st16 hQ16
        subst l16 y16 z16
        obtain ⟨rfl, N16q, e16⟩ := hQ16
        have N16 := Fr.app N N16q
        refine own_go (fun t k => st16 _ k) ?_
        show own_G _ _ _ (T16.setTop (mkF m 147 #[.val (.long p0), .second, .val (.long p1), .second, .val (.long v4), .second, .val (.int v6), .val (.int v7), .val (.int v8)] [(.int (own_sgn (-p0) v4))])) _ _ _ _
        refine own_go (fun t k => XS.iload X16.here hx rfl (hb hby at_147) rfl k) ?_
        show own_G _ _ _ (T16.setTop (mkF m 149 #[.val (.long p0), .second, .val (.long p1), .second, .val (.long v4), .second, .val (.int v6), .val (.int v7), .val (.int v8)] [(.int v6), (.int (own_sgn (-p0) v4))])) _ _ _ _
        refine own_go (fun t k => XS.ineg X16.here hx rfl (hb hby at_149) rfl k) ?_
        show own_G _ _ _ (T16.setTop (mkF m 150 #[.val (.long p0), .second, .val (.long p1), .second, .val (.long v4), .second, .val (.int v6), .val (.int v7), .val (.int v8)] [(.int (-v6)), (.int (own_sgn (-p0) v4))])) _ _ _ _
        by_cases hc17 : (own_sgn (-p0) v4) = (-v6)
        · refine own_itI hc17 ?_
          refine own_go (fun t k => XS.icmpNo X16.here hx rfl (hb hby at_150) rfl (teq hc17).2 k) ?_
          show own_G _ _ _ (T16.setTop (mkF m 153 #[.val (.long p0), .second, .val (.long p1), .second, .val (.long v4), .second, .val (.int v6), .val (.int v7), .val (.int v8)] [])) _ _ _ _
          refine own_go (fun t k => XS.iconst X16.here hx rfl (hb hby at_153) k) ?_
          show own_G _ _ _ (T16.setTop (mkF m 154 #[.val (.long p0), .second, .val (.long p1), .second, .val (.long v4), .second, .val (.int v6), .val (.int v7), .val (.int v8)] [(.int (1 : Int32))])) _ _ _ _
          refine own_go (fun t k => XS.goto X16.here hx rfl (pc0 := 154) (pc' := 158) rfl (hb hby at_154) (by decide) (by decide) k) ?_
          show own_G _ _ _ (T16.setTop (mkF m 158 #[.val (.long p0), .second, .val (.long p1), .second, .val (.long v4), .second, .val (.int v6), .val (.int v7), .val (.int v8)] [(.int (1 : Int32))])) _ _ _ _
          exact J158 _ _ X16 e16 N16 v4 v6 v7 v8 (1 : Int32) 
        · refine own_ifI hc17 ?_
          refine own_go (fun t k => XS.icmpYes X16.here hx rfl (pc0 := 150) (pc' := 157) rfl (hb hby at_150) rfl (feq hc17).2 (by decide) (by decide) k) ?_
          show own_G _ _ _ (T16.setTop (mkF m 157 #[.val (.long p0), .second, .val (.long p1), .second, .val (.long v4), .second, .val (.int v6), .val (.int v7), .val (.int v8)] [])) _ _ _ _
          exact J157 _ _ X16 e16 N16 v4 v6 v7 v8 
  have J125 : ∀ (T : State) (Lc : List Loc) (X : Stand p l e room_1 s m #[(.long p0), (.long p1)] below meth c T Lc 0 0) (eT : T.heap = h0) (N : Fr n0 Lc) (v4 : Int64) (v6 : Int32) (v7 : Int32) (v8 : Int32) (w0 : Int32) , own_G p.tables e below (T.setTop (mkF m 125 #[.val (.long p0), .second, .val (.long p1), .second, .val (.long v4), .second, .val (.int v6), .val (.int v7), .val (.int v8)] [(.int w0)])) s room_1.cells room_1.slots (own_P n0 h0 (some (.int (own_law_125 p0 p1 v4 v6 v7 v8 w0)))) := by
    intro T Lc X eT N v4 v6 v7 v8 w0 
    show own_G _ _ _ _ _ _ _ (own_P n0 h0 (some (.int ((own_law_127 p0 p1 v4 v6 w0 v8)))))
    refine own_go (fun t k => XS.istore X.here hx rfl (hb hby at_125) rfl (l' := #[.val (.long p0), .second, .val (.long p1), .second, .val (.long v4), .second, .val (.int v6), .val (.int w0), .val (.int v8)]) rfl k) ?_
    show own_G _ _ _ (T.setTop (mkF m 127 #[.val (.long p0), .second, .val (.long p1), .second, .val (.long v4), .second, .val (.int v6), .val (.int w0), .val (.int v8)] [])) _ _ _ _
    exact J127 _ _ X eT N v4 v6 w0 v8 
  have J124 : ∀ (T : State) (Lc : List Loc) (X : Stand p l e room_1 s m #[(.long p0), (.long p1)] below meth c T Lc 0 0) (eT : T.heap = h0) (N : Fr n0 Lc) (v4 : Int64) (v6 : Int32) (v7 : Int32) (v8 : Int32) , own_G p.tables e below (T.setTop (mkF m 124 #[.val (.long p0), .second, .val (.long p1), .second, .val (.long v4), .second, .val (.int v6), .val (.int v7), .val (.int v8)] [])) s room_1.cells room_1.slots (own_P n0 h0 (some (.int (own_law_124 p0 p1 v4 v6 v7 v8)))) := by
    intro T Lc X eT N v4 v6 v7 v8 
    show own_G _ _ _ _ _ _ _ (own_P n0 h0 (some (.int ((own_law_125 p0 p1 v4 v6 v7 v8 (0 : Int32))))))
    refine own_go (fun t k => XS.iconst X.here hx rfl (hb hby at_124) k) ?_
    show own_G _ _ _ (T.setTop (mkF m 125 #[.val (.long p0), .second, .val (.long p1), .second, .val (.long v4), .second, .val (.int v6), .val (.int v7), .val (.int v8)] [(.int (0 : Int32))])) _ _ _ _
    exact J125 _ _ X eT N v4 v6 v7 v8 (0 : Int32) 
  have J105 : ∀ (T : State) (Lc : List Loc) (X : Stand p l e room_1 s m #[(.long p0), (.long p1)] below meth c T Lc 0 0) (eT : T.heap = h0) (N : Fr n0 Lc) (v4 : Int64) (v6 : Int32) (v7 : Int32) (v8 : Int32) (w0 : Int32) , own_G p.tables e below (T.setTop (mkF m 105 #[.val (.long p0), .second, .val (.long p1), .second, .val (.long v4), .second, .val (.int v6), .val (.int v7), .val (.int v8)] [(.int w0)])) s room_1.cells room_1.slots (own_P n0 h0 (some (.int (own_law_105 p0 p1 v4 v6 v7 v8 w0)))) := by
    intro T Lc X eT N v4 v6 v7 v8 w0 
    show own_G _ _ _ _ _ _ _ (own_P n0 h0 (some (.int ((own_law_127 p0 p1 v4 v6 w0 v8)))))
    refine own_go (fun t k => XS.istore X.here hx rfl (hb hby at_105) rfl (l' := #[.val (.long p0), .second, .val (.long p1), .second, .val (.long v4), .second, .val (.int v6), .val (.int w0), .val (.int v8)]) rfl k) ?_
    show own_G _ _ _ (T.setTop (mkF m 107 #[.val (.long p0), .second, .val (.long p1), .second, .val (.long v4), .second, .val (.int v6), .val (.int w0), .val (.int v8)] [])) _ _ _ _
    refine own_go (fun t k => XS.goto X.here hx rfl (pc0 := 107) (pc' := 127) rfl (hb hby at_107) (by decide) (by decide) k) ?_
    show own_G _ _ _ (T.setTop (mkF m 127 #[.val (.long p0), .second, .val (.long p1), .second, .val (.long v4), .second, .val (.int v6), .val (.int w0), .val (.int v8)] [])) _ _ _ _
    exact J127 _ _ X eT N v4 v6 w0 v8 
  have J104 : ∀ (T : State) (Lc : List Loc) (X : Stand p l e room_1 s m #[(.long p0), (.long p1)] below meth c T Lc 0 0) (eT : T.heap = h0) (N : Fr n0 Lc) (v4 : Int64) (v6 : Int32) (v7 : Int32) (v8 : Int32) , own_G p.tables e below (T.setTop (mkF m 104 #[.val (.long p0), .second, .val (.long p1), .second, .val (.long v4), .second, .val (.int v6), .val (.int v7), .val (.int v8)] [])) s room_1.cells room_1.slots (own_P n0 h0 (some (.int (own_law_104 p0 p1 v4 v6 v7 v8)))) := by
    intro T Lc X eT N v4 v6 v7 v8 
    show own_G _ _ _ _ _ _ _ (own_P n0 h0 (some (.int ((own_law_105 p0 p1 v4 v6 v7 v8 (0 : Int32))))))
    refine own_go (fun t k => XS.iconst X.here hx rfl (hb hby at_104) k) ?_
    show own_G _ _ _ (T.setTop (mkF m 105 #[.val (.long p0), .second, .val (.long p1), .second, .val (.long v4), .second, .val (.int v6), .val (.int v7), .val (.int v8)] [(.int (0 : Int32))])) _ _ _ _
    exact J105 _ _ X eT N v4 v6 v7 v8 (0 : Int32) 
  have J97 : ∀ (T : State) (Lc : List Loc) (X : Stand p l e room_1 s m #[(.long p0), (.long p1)] below meth c T Lc 0 0) (eT : T.heap = h0) (N : Fr n0 Lc) (v4 : Int64) (v6 : Int32) (v7 : Int32) (v8 : Int32) (w0 : Int32) (w1 : Int32) , own_G p.tables e below (T.setTop (mkF m 97 #[.val (.long p0), .second, .val (.long p1), .second, .val (.long v4), .second, .val (.int v6), .val (.int v7), .val (.int v8)] [(.int w0), (.int w1)])) s room_1.cells room_1.slots (own_P n0 h0 (some (.int (own_law_97 p0 p1 v4 v6 v7 v8 w0 w1)))) := by
    intro T Lc X eT N v4 v6 v7 v8 w0 w1 
    show own_G _ _ _ _ _ _ _ (own_P n0 h0 (some (.int ((if w1 = w0 then (own_law_105 p0 p1 v4 v6 v7 v8 (1 : Int32)) else (own_law_104 p0 p1 v4 v6 v7 v8))))))
    by_cases hc18 : w1 = w0
    · refine own_itI hc18 ?_
      refine own_go (fun t k => XS.icmpNo X.here hx rfl (hb hby at_97) rfl (teq hc18).2 k) ?_
      show own_G _ _ _ (T.setTop (mkF m 100 #[.val (.long p0), .second, .val (.long p1), .second, .val (.long v4), .second, .val (.int v6), .val (.int v7), .val (.int v8)] [])) _ _ _ _
      refine own_go (fun t k => XS.iconst X.here hx rfl (hb hby at_100) k) ?_
      show own_G _ _ _ (T.setTop (mkF m 101 #[.val (.long p0), .second, .val (.long p1), .second, .val (.long v4), .second, .val (.int v6), .val (.int v7), .val (.int v8)] [(.int (1 : Int32))])) _ _ _ _
      refine own_go (fun t k => XS.goto X.here hx rfl (pc0 := 101) (pc' := 105) rfl (hb hby at_101) (by decide) (by decide) k) ?_
      show own_G _ _ _ (T.setTop (mkF m 105 #[.val (.long p0), .second, .val (.long p1), .second, .val (.long v4), .second, .val (.int v6), .val (.int v7), .val (.int v8)] [(.int (1 : Int32))])) _ _ _ _
      exact J105 _ _ X eT N v4 v6 v7 v8 (1 : Int32) 
    · refine own_ifI hc18 ?_
      refine own_go (fun t k => XS.icmpYes X.here hx rfl (pc0 := 97) (pc' := 104) rfl (hb hby at_97) rfl (feq hc18).2 (by decide) (by decide) k) ?_
      show own_G _ _ _ (T.setTop (mkF m 104 #[.val (.long p0), .second, .val (.long p1), .second, .val (.long v4), .second, .val (.int v6), .val (.int v7), .val (.int v8)] [])) _ _ _ _
      exact J104 _ _ X eT N v4 v6 v7 v8 
  have J86 : ∀ (T : State) (Lc : List Loc) (X : Stand p l e room_1 s m #[(.long p0), (.long p1)] below meth c T Lc 0 0) (eT : T.heap = h0) (N : Fr n0 Lc) (v4 : Int64) (v6 : Int32) (v7 : Int32) (v8 : Int32) (w0 : Int32) , own_G p.tables e below (T.setTop (mkF m 86 #[.val (.long p0), .second, .val (.long p1), .second, .val (.long v4), .second, .val (.int v6), .val (.int v7), .val (.int v8)] [(.int w0)])) s room_1.cells room_1.slots (own_P n0 h0 (some (.int (own_law_86 p0 p1 v4 v6 v7 v8 w0)))) := by
    intro T Lc X eT N v4 v6 v7 v8 w0 
    show own_G _ _ _ _ _ _ _ (own_P n0 h0 (some (.int ((if (0 : Int64) < p0 then (own_law_97 p0 p1 v4 v6 v7 v8 (1 : Int32) w0) else (own_law_97 p0 p1 v4 v6 v7 v8 (0 : Int32) w0))))))
    refine own_go (fun t k => XS.lloadN X.here hx rfl (hb hby at_86) rfl k) ?_
    show own_G _ _ _ (T.setTop (mkF m 87 #[.val (.long p0), .second, .val (.long p1), .second, .val (.long v4), .second, .val (.int v6), .val (.int v7), .val (.int v8)] [(.long p0), (.int w0)])) _ _ _ _
    refine own_go (fun t k => XS.lconst X.here hx rfl (hb hby at_87) k) ?_
    show own_G _ _ _ (T.setTop (mkF m 88 #[.val (.long p0), .second, .val (.long p1), .second, .val (.long v4), .second, .val (.int v6), .val (.int v7), .val (.int v8)] [(.long (0 : Int64)), (.long p0), (.int w0)])) _ _ _ _
    refine own_go (fun t k => XS.lcmp X.here hx rfl (hb hby at_88) rfl k) ?_
    show own_G _ _ _ (T.setTop (mkF m 89 #[.val (.long p0), .second, .val (.long p1), .second, .val (.long v4), .second, .val (.int v6), .val (.int v7), .val (.int v8)] [(.int (lcmpW p0 (0 : Int64))), (.int w0)])) _ _ _ _
    by_cases hc19 : (0 : Int64) < p0
    · refine own_itI hc19 ?_
      refine own_go (fun t k => XS.ifNo X.here hx rfl (hb hby at_89) rfl ((if0 _ _).trans (tlt ((lw_gt _ _).mpr hc19)).2.2.2) k) ?_
      show own_G _ _ _ (T.setTop (mkF m 92 #[.val (.long p0), .second, .val (.long p1), .second, .val (.long v4), .second, .val (.int v6), .val (.int v7), .val (.int v8)] [(.int w0)])) _ _ _ _
      refine own_go (fun t k => XS.iconst X.here hx rfl (hb hby at_92) k) ?_
      show own_G _ _ _ (T.setTop (mkF m 93 #[.val (.long p0), .second, .val (.long p1), .second, .val (.long v4), .second, .val (.int v6), .val (.int v7), .val (.int v8)] [(.int (1 : Int32)), (.int w0)])) _ _ _ _
      refine own_go (fun t k => XS.goto X.here hx rfl (pc0 := 93) (pc' := 97) rfl (hb hby at_93) (by decide) (by decide) k) ?_
      show own_G _ _ _ (T.setTop (mkF m 97 #[.val (.long p0), .second, .val (.long p1), .second, .val (.long v4), .second, .val (.int v6), .val (.int v7), .val (.int v8)] [(.int (1 : Int32)), (.int w0)])) _ _ _ _
      exact J97 _ _ X eT N v4 v6 v7 v8 (1 : Int32) w0 
    · refine own_ifI hc19 ?_
      refine own_go (fun t k => XS.ifYes X.here hx rfl (pc0 := 89) (pc' := 96) rfl (hb hby at_89) rfl ((if0 _ _).trans (flt (fun q => hc19 ((lw_gt _ _).mp q))).2.2.2) (by decide) (by decide) k) ?_
      show own_G _ _ _ (T.setTop (mkF m 96 #[.val (.long p0), .second, .val (.long p1), .second, .val (.long v4), .second, .val (.int v6), .val (.int v7), .val (.int v8)] [(.int w0)])) _ _ _ _
      refine own_go (fun t k => XS.iconst X.here hx rfl (hb hby at_96) k) ?_
      show own_G _ _ _ (T.setTop (mkF m 97 #[.val (.long p0), .second, .val (.long p1), .second, .val (.long v4), .second, .val (.int v6), .val (.int v7), .val (.int v8)] [(.int (0 : Int32)), (.int w0)])) _ _ _ _
      exact J97 _ _ X eT N v4 v6 v7 v8 (0 : Int32) w0 
  have J59 : ∀ (T : State) (Lc : List Loc) (X : Stand p l e room_1 s m #[(.long p0), (.long p1)] below meth c T Lc 0 0) (eT : T.heap = h0) (N : Fr n0 Lc) (v4 : Int64) (v6 : Int32) (v7 : Int32) (w0 : Int32) , own_G p.tables e below (T.setTop (mkF m 59 #[.val (.long p0), .second, .val (.long p1), .second, .val (.long v4), .second, .val (.int v6), .val (.int v7), .unset] [(.int w0)])) s room_1.cells room_1.slots (own_P n0 h0 (some (.int (own_law_59 p0 p1 v4 v6 v7 w0)))) := by
    intro T Lc X eT N v4 v6 v7 w0 
    show own_G _ _ _ _ _ _ _ (own_P n0 h0 (some (.int ((if w0 = (0 : Int32) then (if v7 = (0 : Int32) then (own_law_124 p0 p1 v4 v6 v7 w0) else (if v6 = (0 : Int32) then (own_law_125 p0 p1 v4 v6 v7 w0 (1 : Int32)) else (own_law_124 p0 p1 v4 v6 v7 w0))) else (if v7 = (0 : Int32) then (own_law_104 p0 p1 v4 v6 v7 w0) else (if v6 = (0 : Int32) then (own_law_104 p0 p1 v4 v6 v7 w0) else (if (0 : Int32) < v6 then (own_law_86 p0 p1 v4 v6 v7 w0 (1 : Int32)) else (own_law_86 p0 p1 v4 v6 v7 w0 (0 : Int32))))))))))
    refine own_go (fun t k => XS.istore X.here hx rfl (hb hby at_59) rfl (l' := #[.val (.long p0), .second, .val (.long p1), .second, .val (.long v4), .second, .val (.int v6), .val (.int v7), .val (.int w0)]) rfl k) ?_
    show own_G _ _ _ (T.setTop (mkF m 61 #[.val (.long p0), .second, .val (.long p1), .second, .val (.long v4), .second, .val (.int v6), .val (.int v7), .val (.int w0)] [])) _ _ _ _
    refine own_go (fun t k => XS.iload X.here hx rfl (hb hby at_61) rfl k) ?_
    show own_G _ _ _ (T.setTop (mkF m 63 #[.val (.long p0), .second, .val (.long p1), .second, .val (.long v4), .second, .val (.int v6), .val (.int v7), .val (.int w0)] [(.int w0)])) _ _ _ _
    by_cases hc20 : w0 = (0 : Int32)
    · refine own_itI hc20 ?_
      refine own_go (fun t k => XS.ifYes X.here hx rfl (pc0 := 63) (pc' := 110) rfl (hb hby at_63) rfl ((if0 _ _).trans (teq hc20).1) (by decide) (by decide) k) ?_
      show own_G _ _ _ (T.setTop (mkF m 110 #[.val (.long p0), .second, .val (.long p1), .second, .val (.long v4), .second, .val (.int v6), .val (.int v7), .val (.int w0)] [])) _ _ _ _
      refine own_go (fun t k => XS.iload X.here hx rfl (hb hby at_110) rfl k) ?_
      show own_G _ _ _ (T.setTop (mkF m 112 #[.val (.long p0), .second, .val (.long p1), .second, .val (.long v4), .second, .val (.int v6), .val (.int v7), .val (.int w0)] [(.int v7)])) _ _ _ _
      by_cases hc21 : v7 = (0 : Int32)
      · refine own_itI hc21 ?_
        refine own_go (fun t k => XS.ifYes X.here hx rfl (pc0 := 112) (pc' := 124) rfl (hb hby at_112) rfl ((if0 _ _).trans (teq hc21).1) (by decide) (by decide) k) ?_
        show own_G _ _ _ (T.setTop (mkF m 124 #[.val (.long p0), .second, .val (.long p1), .second, .val (.long v4), .second, .val (.int v6), .val (.int v7), .val (.int w0)] [])) _ _ _ _
        exact J124 _ _ X eT N v4 v6 v7 w0 
      · refine own_ifI hc21 ?_
        refine own_go (fun t k => XS.ifNo X.here hx rfl (hb hby at_112) rfl ((if0 _ _).trans (feq hc21).1) k) ?_
        show own_G _ _ _ (T.setTop (mkF m 115 #[.val (.long p0), .second, .val (.long p1), .second, .val (.long v4), .second, .val (.int v6), .val (.int v7), .val (.int w0)] [])) _ _ _ _
        refine own_go (fun t k => XS.iload X.here hx rfl (hb hby at_115) rfl k) ?_
        show own_G _ _ _ (T.setTop (mkF m 117 #[.val (.long p0), .second, .val (.long p1), .second, .val (.long v4), .second, .val (.int v6), .val (.int v7), .val (.int w0)] [(.int v6)])) _ _ _ _
        by_cases hc22 : v6 = (0 : Int32)
        · refine own_itI hc22 ?_
          refine own_go (fun t k => XS.ifNo X.here hx rfl (hb hby at_117) rfl ((if0 _ _).trans (teq hc22).2) k) ?_
          show own_G _ _ _ (T.setTop (mkF m 120 #[.val (.long p0), .second, .val (.long p1), .second, .val (.long v4), .second, .val (.int v6), .val (.int v7), .val (.int w0)] [])) _ _ _ _
          refine own_go (fun t k => XS.iconst X.here hx rfl (hb hby at_120) k) ?_
          show own_G _ _ _ (T.setTop (mkF m 121 #[.val (.long p0), .second, .val (.long p1), .second, .val (.long v4), .second, .val (.int v6), .val (.int v7), .val (.int w0)] [(.int (1 : Int32))])) _ _ _ _
          refine own_go (fun t k => XS.goto X.here hx rfl (pc0 := 121) (pc' := 125) rfl (hb hby at_121) (by decide) (by decide) k) ?_
          show own_G _ _ _ (T.setTop (mkF m 125 #[.val (.long p0), .second, .val (.long p1), .second, .val (.long v4), .second, .val (.int v6), .val (.int v7), .val (.int w0)] [(.int (1 : Int32))])) _ _ _ _
          exact J125 _ _ X eT N v4 v6 v7 w0 (1 : Int32) 
        · refine own_ifI hc22 ?_
          refine own_go (fun t k => XS.ifYes X.here hx rfl (pc0 := 117) (pc' := 124) rfl (hb hby at_117) rfl ((if0 _ _).trans (feq hc22).2) (by decide) (by decide) k) ?_
          show own_G _ _ _ (T.setTop (mkF m 124 #[.val (.long p0), .second, .val (.long p1), .second, .val (.long v4), .second, .val (.int v6), .val (.int v7), .val (.int w0)] [])) _ _ _ _
          exact J124 _ _ X eT N v4 v6 v7 w0 
    · refine own_ifI hc20 ?_
      refine own_go (fun t k => XS.ifNo X.here hx rfl (hb hby at_63) rfl ((if0 _ _).trans (feq hc20).1) k) ?_
      show own_G _ _ _ (T.setTop (mkF m 66 #[.val (.long p0), .second, .val (.long p1), .second, .val (.long v4), .second, .val (.int v6), .val (.int v7), .val (.int w0)] [])) _ _ _ _
      refine own_go (fun t k => XS.iload X.here hx rfl (hb hby at_66) rfl k) ?_
      show own_G _ _ _ (T.setTop (mkF m 68 #[.val (.long p0), .second, .val (.long p1), .second, .val (.long v4), .second, .val (.int v6), .val (.int v7), .val (.int w0)] [(.int v7)])) _ _ _ _
      by_cases hc23 : v7 = (0 : Int32)
      · refine own_itI hc23 ?_
        refine own_go (fun t k => XS.ifYes X.here hx rfl (pc0 := 68) (pc' := 104) rfl (hb hby at_68) rfl ((if0 _ _).trans (teq hc23).1) (by decide) (by decide) k) ?_
        show own_G _ _ _ (T.setTop (mkF m 104 #[.val (.long p0), .second, .val (.long p1), .second, .val (.long v4), .second, .val (.int v6), .val (.int v7), .val (.int w0)] [])) _ _ _ _
        exact J104 _ _ X eT N v4 v6 v7 w0 
      · refine own_ifI hc23 ?_
        refine own_go (fun t k => XS.ifNo X.here hx rfl (hb hby at_68) rfl ((if0 _ _).trans (feq hc23).1) k) ?_
        show own_G _ _ _ (T.setTop (mkF m 71 #[.val (.long p0), .second, .val (.long p1), .second, .val (.long v4), .second, .val (.int v6), .val (.int v7), .val (.int w0)] [])) _ _ _ _
        refine own_go (fun t k => XS.iload X.here hx rfl (hb hby at_71) rfl k) ?_
        show own_G _ _ _ (T.setTop (mkF m 73 #[.val (.long p0), .second, .val (.long p1), .second, .val (.long v4), .second, .val (.int v6), .val (.int v7), .val (.int w0)] [(.int v6)])) _ _ _ _
        by_cases hc24 : v6 = (0 : Int32)
        · refine own_itI hc24 ?_
          refine own_go (fun t k => XS.ifYes X.here hx rfl (pc0 := 73) (pc' := 104) rfl (hb hby at_73) rfl ((if0 _ _).trans (teq hc24).1) (by decide) (by decide) k) ?_
          show own_G _ _ _ (T.setTop (mkF m 104 #[.val (.long p0), .second, .val (.long p1), .second, .val (.long v4), .second, .val (.int v6), .val (.int v7), .val (.int w0)] [])) _ _ _ _
          exact J104 _ _ X eT N v4 v6 v7 w0 
        · refine own_ifI hc24 ?_
          refine own_go (fun t k => XS.ifNo X.here hx rfl (hb hby at_73) rfl ((if0 _ _).trans (feq hc24).1) k) ?_
          show own_G _ _ _ (T.setTop (mkF m 76 #[.val (.long p0), .second, .val (.long p1), .second, .val (.long v4), .second, .val (.int v6), .val (.int v7), .val (.int w0)] [])) _ _ _ _
          refine own_go (fun t k => XS.iload X.here hx rfl (hb hby at_76) rfl k) ?_
          show own_G _ _ _ (T.setTop (mkF m 78 #[.val (.long p0), .second, .val (.long p1), .second, .val (.long v4), .second, .val (.int v6), .val (.int v7), .val (.int w0)] [(.int v6)])) _ _ _ _
          by_cases hc25 : (0 : Int32) < v6
          · refine own_itI hc25 ?_
            refine own_go (fun t k => XS.ifNo X.here hx rfl (hb hby at_78) rfl ((if0 _ _).trans (tlt hc25).2.2.2) k) ?_
            show own_G _ _ _ (T.setTop (mkF m 81 #[.val (.long p0), .second, .val (.long p1), .second, .val (.long v4), .second, .val (.int v6), .val (.int v7), .val (.int w0)] [])) _ _ _ _
            refine own_go (fun t k => XS.iconst X.here hx rfl (hb hby at_81) k) ?_
            show own_G _ _ _ (T.setTop (mkF m 82 #[.val (.long p0), .second, .val (.long p1), .second, .val (.long v4), .second, .val (.int v6), .val (.int v7), .val (.int w0)] [(.int (1 : Int32))])) _ _ _ _
            refine own_go (fun t k => XS.goto X.here hx rfl (pc0 := 82) (pc' := 86) rfl (hb hby at_82) (by decide) (by decide) k) ?_
            show own_G _ _ _ (T.setTop (mkF m 86 #[.val (.long p0), .second, .val (.long p1), .second, .val (.long v4), .second, .val (.int v6), .val (.int v7), .val (.int w0)] [(.int (1 : Int32))])) _ _ _ _
            exact J86 _ _ X eT N v4 v6 v7 w0 (1 : Int32) 
          · refine own_ifI hc25 ?_
            refine own_go (fun t k => XS.ifYes X.here hx rfl (pc0 := 78) (pc' := 85) rfl (hb hby at_78) rfl ((if0 _ _).trans (flt hc25).2.2.2) (by decide) (by decide) k) ?_
            show own_G _ _ _ (T.setTop (mkF m 85 #[.val (.long p0), .second, .val (.long p1), .second, .val (.long v4), .second, .val (.int v6), .val (.int v7), .val (.int w0)] [])) _ _ _ _
            refine own_go (fun t k => XS.iconst X.here hx rfl (hb hby at_85) k) ?_
            show own_G _ _ _ (T.setTop (mkF m 86 #[.val (.long p0), .second, .val (.long p1), .second, .val (.long v4), .second, .val (.int v6), .val (.int v7), .val (.int w0)] [(.int (0 : Int32))])) _ _ _ _
            exact J86 _ _ X eT N v4 v6 v7 w0 (0 : Int32) 
  have J54 : ∀ (T : State) (Lc : List Loc) (X : Stand p l e room_1 s m #[(.long p0), (.long p1)] below meth c T Lc 0 0) (eT : T.heap = h0) (N : Fr n0 Lc) (v4 : Int64) (v6 : Int32) (v7 : Int32) , own_G p.tables e below (T.setTop (mkF m 54 #[.val (.long p0), .second, .val (.long p1), .second, .val (.long v4), .second, .val (.int v6), .val (.int v7), .unset] [])) s room_1.cells room_1.slots (own_P n0 h0 (some (.int (own_law_54 p0 p1 v4 v6 v7)))) := by
    intro T Lc X eT N v4 v6 v7 
    show own_G _ _ _ _ _ _ _ (own_P n0 h0 (some (.int ((own_law_59 p0 p1 v4 v6 v7 (1 : Int32))))))
    refine own_go (fun t k => XS.iconst X.here hx rfl (hb hby at_54) k) ?_
    show own_G _ _ _ (T.setTop (mkF m 55 #[.val (.long p0), .second, .val (.long p1), .second, .val (.long v4), .second, .val (.int v6), .val (.int v7), .unset] [(.int (1 : Int32))])) _ _ _ _
    refine own_go (fun t k => XS.goto X.here hx rfl (pc0 := 55) (pc' := 59) rfl (hb hby at_55) (by decide) (by decide) k) ?_
    show own_G _ _ _ (T.setTop (mkF m 59 #[.val (.long p0), .second, .val (.long p1), .second, .val (.long v4), .second, .val (.int v6), .val (.int v7), .unset] [(.int (1 : Int32))])) _ _ _ _
    exact J59 _ _ X eT N v4 v6 v7 (1 : Int32) 
  have J37 : ∀ (T : State) (Lc : List Loc) (X : Stand p l e room_1 s m #[(.long p0), (.long p1)] below meth c T Lc 0 0) (eT : T.heap = h0) (N : Fr n0 Lc) (v4 : Int64) (v6 : Int32) (w0 : Int32) , own_G p.tables e below (T.setTop (mkF m 37 #[.val (.long p0), .second, .val (.long p1), .second, .val (.long v4), .second, .val (.int v6), .unset, .unset] [(.int w0)])) s room_1.cells room_1.slots (own_P n0 h0 (some (.int (own_law_37 p0 p1 v4 v6 w0)))) := by
    intro T Lc X eT N v4 v6 w0 
    show own_G _ _ _ _ _ _ _ (own_P n0 h0 (some (.int ((if v4 < p0 then (own_law_54 p0 p1 v4 v6 w0) else (if p0 < (-v4) then (own_law_54 p0 p1 v4 v6 w0) else (own_law_59 p0 p1 v4 v6 w0 (0 : Int32))))))))
    refine own_go (fun t k => XS.istore X.here hx rfl (hb hby at_37) rfl (l' := #[.val (.long p0), .second, .val (.long p1), .second, .val (.long v4), .second, .val (.int v6), .val (.int w0), .unset]) rfl k) ?_
    show own_G _ _ _ (T.setTop (mkF m 39 #[.val (.long p0), .second, .val (.long p1), .second, .val (.long v4), .second, .val (.int v6), .val (.int w0), .unset] [])) _ _ _ _
    refine own_go (fun t k => XS.lloadN X.here hx rfl (hb hby at_39) rfl k) ?_
    show own_G _ _ _ (T.setTop (mkF m 40 #[.val (.long p0), .second, .val (.long p1), .second, .val (.long v4), .second, .val (.int v6), .val (.int w0), .unset] [(.long p0)])) _ _ _ _
    refine own_go (fun t k => XS.lload X.here hx rfl (hb hby at_40) rfl k) ?_
    show own_G _ _ _ (T.setTop (mkF m 42 #[.val (.long p0), .second, .val (.long p1), .second, .val (.long v4), .second, .val (.int v6), .val (.int w0), .unset] [(.long v4), (.long p0)])) _ _ _ _
    refine own_go (fun t k => XS.lcmp X.here hx rfl (hb hby at_42) rfl k) ?_
    show own_G _ _ _ (T.setTop (mkF m 43 #[.val (.long p0), .second, .val (.long p1), .second, .val (.long v4), .second, .val (.int v6), .val (.int w0), .unset] [(.int (lcmpW p0 v4))])) _ _ _ _
    by_cases hc26 : v4 < p0
    · refine own_itI hc26 ?_
      refine own_go (fun t k => XS.ifYes X.here hx rfl (pc0 := 43) (pc' := 54) rfl (hb hby at_43) rfl ((if0 _ _).trans (tlt ((lw_gt _ _).mpr hc26)).2.2.1) (by decide) (by decide) k) ?_
      show own_G _ _ _ (T.setTop (mkF m 54 #[.val (.long p0), .second, .val (.long p1), .second, .val (.long v4), .second, .val (.int v6), .val (.int w0), .unset] [])) _ _ _ _
      exact J54 _ _ X eT N v4 v6 w0 
    · refine own_ifI hc26 ?_
      refine own_go (fun t k => XS.ifNo X.here hx rfl (hb hby at_43) rfl ((if0 _ _).trans (flt (fun q => hc26 ((lw_gt _ _).mp q))).2.2.1) k) ?_
      show own_G _ _ _ (T.setTop (mkF m 46 #[.val (.long p0), .second, .val (.long p1), .second, .val (.long v4), .second, .val (.int v6), .val (.int w0), .unset] [])) _ _ _ _
      refine own_go (fun t k => XS.lloadN X.here hx rfl (hb hby at_46) rfl k) ?_
      show own_G _ _ _ (T.setTop (mkF m 47 #[.val (.long p0), .second, .val (.long p1), .second, .val (.long v4), .second, .val (.int v6), .val (.int w0), .unset] [(.long p0)])) _ _ _ _
      refine own_go (fun t k => XS.lload X.here hx rfl (hb hby at_47) rfl k) ?_
      show own_G _ _ _ (T.setTop (mkF m 49 #[.val (.long p0), .second, .val (.long p1), .second, .val (.long v4), .second, .val (.int v6), .val (.int w0), .unset] [(.long v4), (.long p0)])) _ _ _ _
      refine own_go (fun t k => XS.lneg X.here hx rfl (hb hby at_49) rfl k) ?_
      show own_G _ _ _ (T.setTop (mkF m 50 #[.val (.long p0), .second, .val (.long p1), .second, .val (.long v4), .second, .val (.int v6), .val (.int w0), .unset] [(.long (-v4)), (.long p0)])) _ _ _ _
      refine own_go (fun t k => XS.lcmp X.here hx rfl (hb hby at_50) rfl k) ?_
      show own_G _ _ _ (T.setTop (mkF m 51 #[.val (.long p0), .second, .val (.long p1), .second, .val (.long v4), .second, .val (.int v6), .val (.int w0), .unset] [(.int (lcmpW p0 (-v4)))])) _ _ _ _
      by_cases hc27 : p0 < (-v4)
      · refine own_itI hc27 ?_
        refine own_go (fun t k => XS.ifNo X.here hx rfl (hb hby at_51) rfl ((if0 _ _).trans (tlt ((lw_lt _ _).mpr hc27)).2.1) k) ?_
        show own_G _ _ _ (T.setTop (mkF m 54 #[.val (.long p0), .second, .val (.long p1), .second, .val (.long v4), .second, .val (.int v6), .val (.int w0), .unset] [])) _ _ _ _
        exact J54 _ _ X eT N v4 v6 w0 
      · refine own_ifI hc27 ?_
        refine own_go (fun t k => XS.ifYes X.here hx rfl (pc0 := 51) (pc' := 58) rfl (hb hby at_51) rfl ((if0 _ _).trans (flt (fun q => hc27 ((lw_lt _ _).mp q))).2.1) (by decide) (by decide) k) ?_
        show own_G _ _ _ (T.setTop (mkF m 58 #[.val (.long p0), .second, .val (.long p1), .second, .val (.long v4), .second, .val (.int v6), .val (.int w0), .unset] [])) _ _ _ _
        refine own_go (fun t k => XS.iconst X.here hx rfl (hb hby at_58) k) ?_
        show own_G _ _ _ (T.setTop (mkF m 59 #[.val (.long p0), .second, .val (.long p1), .second, .val (.long v4), .second, .val (.int v6), .val (.int w0), .unset] [(.int (0 : Int32))])) _ _ _ _
        exact J59 _ _ X eT N v4 v6 w0 (0 : Int32) 
  have J32 : ∀ (T : State) (Lc : List Loc) (X : Stand p l e room_1 s m #[(.long p0), (.long p1)] below meth c T Lc 0 0) (eT : T.heap = h0) (N : Fr n0 Lc) (v4 : Int64) (v6 : Int32) , own_G p.tables e below (T.setTop (mkF m 32 #[.val (.long p0), .second, .val (.long p1), .second, .val (.long v4), .second, .val (.int v6), .unset, .unset] [])) s room_1.cells room_1.slots (own_P n0 h0 (some (.int (own_law_32 p0 p1 v4 v6)))) := by
    intro T Lc X eT N v4 v6 
    show own_G _ _ _ _ _ _ _ (own_P n0 h0 (some (.int ((own_law_37 p0 p1 v4 v6 (1 : Int32))))))
    refine own_go (fun t k => XS.iconst X.here hx rfl (hb hby at_32) k) ?_
    show own_G _ _ _ (T.setTop (mkF m 33 #[.val (.long p0), .second, .val (.long p1), .second, .val (.long v4), .second, .val (.int v6), .unset, .unset] [(.int (1 : Int32))])) _ _ _ _
    refine own_go (fun t k => XS.goto X.here hx rfl (pc0 := 33) (pc' := 37) rfl (hb hby at_33) (by decide) (by decide) k) ?_
    show own_G _ _ _ (T.setTop (mkF m 37 #[.val (.long p0), .second, .val (.long p1), .second, .val (.long v4), .second, .val (.int v6), .unset, .unset] [(.int (1 : Int32))])) _ _ _ _
    exact J37 _ _ X eT N v4 v6 (1 : Int32) 
  show own_G p.tables e below (s₁.setTop (entryFrame m #[(.long p0), (.long p1)] maxLocals)) s room_1.cells room_1.slots (own_P n0 h0 (some (.int ((if (own_sgn p0 (p1 &&& (9223372036854775807 : Int64))) = (-1 : Int32) then (own_law_32 p0 p1 (p1 &&& (9223372036854775807 : Int64)) (own_sgn p0 (p1 &&& (9223372036854775807 : Int64)))) else (if (own_sgn p0 (p1 &&& (9223372036854775807 : Int64))) = (0 : Int32) then (own_law_32 p0 p1 (p1 &&& (9223372036854775807 : Int64)) (own_sgn p0 (p1 &&& (9223372036854775807 : Int64)))) else (if (own_sgn p0 (p1 &&& (9223372036854775807 : Int64))) = (1 : Int32) then (own_law_32 p0 p1 (p1 &&& (9223372036854775807 : Int64)) (own_sgn p0 (p1 &&& (9223372036854775807 : Int64)))) else (own_law_37 p0 p1 (p1 &&& (9223372036854775807 : Int64)) (own_sgn p0 (p1 &&& (9223372036854775807 : Int64))) (0 : Int32)))))))))
  refine own_go (fun t k => castTop (ef_0 m p0 p1) k) ?_
  refine own_go (fun t k => XS.lloadN X0.here hx rfl (hb hby at_0) rfl k) ?_
  show own_G _ _ _ (s₁.setTop (mkF m 1 #[.val (.long p0), .second, .val (.long p1), .second, .unset, .unset, .unset, .unset, .unset] [(.long p1)])) _ _ _ _
  refine own_go (fun t k => X0.ldc2Long hx hown (mvT hZ (hw _ (List.mem_of_getElem? (i := 0) rfl))) (g := (mkF m 1 #[.val (.long p0), .second, .val (.long p1), .second, .unset, .unset, .unset, .unset, .unset] [(.long p1)])) rfl (hb hby at_1) _ k) ?_
  show own_G _ _ _ (s₁.setTop (mkF m 4 #[.val (.long p0), .second, .val (.long p1), .second, .unset, .unset, .unset, .unset, .unset] [(.long (9223372036854775807 : Int64)), (.long p1)])) _ _ _ _
  refine own_go (fun t k => XS.land X0.here hx rfl (hb hby at_4) rfl k) ?_
  show own_G _ _ _ (s₁.setTop (mkF m 5 #[.val (.long p0), .second, .val (.long p1), .second, .unset, .unset, .unset, .unset, .unset] [(.long (p1 &&& (9223372036854775807 : Int64)))])) _ _ _ _
  refine own_go (fun t k => XS.lstore X0.here hx rfl (hb hby at_5) rfl (l' := #[.val (.long p0), .second, .val (.long p1), .second, .val (.long (p1 &&& (9223372036854775807 : Int64))), .second, .unset, .unset, .unset]) rfl k) ?_
  show own_G _ _ _ (s₁.setTop (mkF m 7 #[.val (.long p0), .second, .val (.long p1), .second, .val (.long (p1 &&& (9223372036854775807 : Int64))), .second, .unset, .unset, .unset] [])) _ _ _ _
  refine own_go (fun t k => XS.lloadN X0.here hx rfl (hb hby at_7) rfl k) ?_
  show own_G _ _ _ (s₁.setTop (mkF m 8 #[.val (.long p0), .second, .val (.long p1), .second, .val (.long (p1 &&& (9223372036854775807 : Int64))), .second, .unset, .unset, .unset] [(.long p0)])) _ _ _ _
  refine own_go (fun t k => XS.lload X0.here hx rfl (hb hby at_8) rfl k) ?_
  show own_G _ _ _ (s₁.setTop (mkF m 10 #[.val (.long p0), .second, .val (.long p1), .second, .val (.long (p1 &&& (9223372036854775807 : Int64))), .second, .unset, .unset, .unset] [(.long (p1 &&& (9223372036854775807 : Int64))), (.long p0)])) _ _ _ _
  obtain ⟨_, _, ⟨T28, L28, k28, n28⟩, -, X28, ⟨Lc28, hQ28, l28, y28, z28⟩, st28⟩ := Jvm.LawKit.callS X0 hx (y := (⟨"com/example/slackline/slackline/Factors", "signBeyond", "(JJ)I"⟩ : MethodName)) hown (mvT hZ (hw _ (List.mem_of_getElem? (i := 1) rfl))) (mvT hZ (hw _ (List.mem_of_getElem? (i := 2) rfl))) (mvT hZ (hw _ (List.mem_of_getElem? (i := 3) rfl))) (mvT hZ (hw _ (List.mem_of_getElem? (i := 4) rfl))) (by decide) (backOf (W := 0) (rm1 l Z a0 hw [] p0 (p1 &&& (9223372036854775807 : Int64))  h0 n0 ) hZ (hw _ (List.mem_of_getElem? (i := 4) rfl)) (hw _ (List.mem_of_getElem? (i := 3) rfl)) (by decide) (by decide)) (g := (mkF m 10 #[.val (.long p0), .second, .val (.long p1), .second, .val (.long (p1 &&& (9223372036854775807 : Int64))), .second, .unset, .unset, .unset] [(.long (p1 &&& (9223372036854775807 : Int64))), (.long p0)])) rfl (by rw [hml]; rfl) (argsL := [(.long p0), (.long (p1 &&& (9223372036854775807 : Int64)))]) (rest := []) (lenOf pd_0 rfl) rfl (by show 2 * 0 + _ ≤ _; exact Nat.le_of_eq rfl) (hb hby at_10) (fun _ _ => ⟨rfl, e0, (by decide : 0 + 0 ≤ _), (by decide : 0 + 0 ≤ _)⟩)
  dsimp only [Pt.U, Pt.locs, Pt.cells, Pt.slots] at X28 l28 y28 z28 st28 hQ28
  subst l28 y28 z28
  obtain ⟨rfl, N28q, e28⟩ := hQ28
  have N28 := Fr.app N0 N28q
  refine own_go (fun t k => st28 _ k) ?_
  show own_G _ _ _ (T28.setTop (mkF m 13 #[.val (.long p0), .second, .val (.long p1), .second, .val (.long (p1 &&& (9223372036854775807 : Int64))), .second, .unset, .unset, .unset] [(.int (own_sgn p0 (p1 &&& (9223372036854775807 : Int64))))])) _ _ _ _
  refine own_go (fun t k => XS.istore X28.here hx rfl (hb hby at_13) rfl (l' := #[.val (.long p0), .second, .val (.long p1), .second, .val (.long (p1 &&& (9223372036854775807 : Int64))), .second, .val (.int (own_sgn p0 (p1 &&& (9223372036854775807 : Int64)))), .unset, .unset]) rfl k) ?_
  show own_G _ _ _ (T28.setTop (mkF m 15 #[.val (.long p0), .second, .val (.long p1), .second, .val (.long (p1 &&& (9223372036854775807 : Int64))), .second, .val (.int (own_sgn p0 (p1 &&& (9223372036854775807 : Int64)))), .unset, .unset] [])) _ _ _ _
  refine own_go (fun t k => XS.iload X28.here hx rfl (hb hby at_15) rfl k) ?_
  show own_G _ _ _ (T28.setTop (mkF m 17 #[.val (.long p0), .second, .val (.long p1), .second, .val (.long (p1 &&& (9223372036854775807 : Int64))), .second, .val (.int (own_sgn p0 (p1 &&& (9223372036854775807 : Int64)))), .unset, .unset] [(.int (own_sgn p0 (p1 &&& (9223372036854775807 : Int64))))])) _ _ _ _
  refine own_go (fun t k => XS.iconst X28.here hx rfl (hb hby at_17) k) ?_
  show own_G _ _ _ (T28.setTop (mkF m 18 #[.val (.long p0), .second, .val (.long p1), .second, .val (.long (p1 &&& (9223372036854775807 : Int64))), .second, .val (.int (own_sgn p0 (p1 &&& (9223372036854775807 : Int64)))), .unset, .unset] [(.int (-1 : Int32)), (.int (own_sgn p0 (p1 &&& (9223372036854775807 : Int64))))])) _ _ _ _
  by_cases hc29 : (own_sgn p0 (p1 &&& (9223372036854775807 : Int64))) = (-1 : Int32)
  · refine own_itI hc29 ?_
    refine own_go (fun t k => XS.icmpYes X28.here hx rfl (pc0 := 18) (pc' := 32) rfl (hb hby at_18) rfl (teq hc29).1 (by decide) (by decide) k) ?_
    show own_G _ _ _ (T28.setTop (mkF m 32 #[.val (.long p0), .second, .val (.long p1), .second, .val (.long (p1 &&& (9223372036854775807 : Int64))), .second, .val (.int (own_sgn p0 (p1 &&& (9223372036854775807 : Int64)))), .unset, .unset] [])) _ _ _ _
    exact J32 _ _ X28 e28 N28 (p1 &&& (9223372036854775807 : Int64)) (own_sgn p0 (p1 &&& (9223372036854775807 : Int64))) 
  · refine own_ifI hc29 ?_
    refine own_go (fun t k => XS.icmpNo X28.here hx rfl (hb hby at_18) rfl (feq hc29).1 k) ?_
    show own_G _ _ _ (T28.setTop (mkF m 21 #[.val (.long p0), .second, .val (.long p1), .second, .val (.long (p1 &&& (9223372036854775807 : Int64))), .second, .val (.int (own_sgn p0 (p1 &&& (9223372036854775807 : Int64)))), .unset, .unset] [])) _ _ _ _
    refine own_go (fun t k => XS.iload X28.here hx rfl (hb hby at_21) rfl k) ?_
    show own_G _ _ _ (T28.setTop (mkF m 23 #[.val (.long p0), .second, .val (.long p1), .second, .val (.long (p1 &&& (9223372036854775807 : Int64))), .second, .val (.int (own_sgn p0 (p1 &&& (9223372036854775807 : Int64)))), .unset, .unset] [(.int (own_sgn p0 (p1 &&& (9223372036854775807 : Int64))))])) _ _ _ _
    by_cases hc30 : (own_sgn p0 (p1 &&& (9223372036854775807 : Int64))) = (0 : Int32)
    · refine own_itI hc30 ?_
      refine own_go (fun t k => XS.ifYes X28.here hx rfl (pc0 := 23) (pc' := 32) rfl (hb hby at_23) rfl ((if0 _ _).trans (teq hc30).1) (by decide) (by decide) k) ?_
      show own_G _ _ _ (T28.setTop (mkF m 32 #[.val (.long p0), .second, .val (.long p1), .second, .val (.long (p1 &&& (9223372036854775807 : Int64))), .second, .val (.int (own_sgn p0 (p1 &&& (9223372036854775807 : Int64)))), .unset, .unset] [])) _ _ _ _
      exact J32 _ _ X28 e28 N28 (p1 &&& (9223372036854775807 : Int64)) (own_sgn p0 (p1 &&& (9223372036854775807 : Int64))) 
    · refine own_ifI hc30 ?_
      refine own_go (fun t k => XS.ifNo X28.here hx rfl (hb hby at_23) rfl ((if0 _ _).trans (feq hc30).1) k) ?_
      show own_G _ _ _ (T28.setTop (mkF m 26 #[.val (.long p0), .second, .val (.long p1), .second, .val (.long (p1 &&& (9223372036854775807 : Int64))), .second, .val (.int (own_sgn p0 (p1 &&& (9223372036854775807 : Int64)))), .unset, .unset] [])) _ _ _ _
      refine own_go (fun t k => XS.iload X28.here hx rfl (hb hby at_26) rfl k) ?_
      show own_G _ _ _ (T28.setTop (mkF m 28 #[.val (.long p0), .second, .val (.long p1), .second, .val (.long (p1 &&& (9223372036854775807 : Int64))), .second, .val (.int (own_sgn p0 (p1 &&& (9223372036854775807 : Int64)))), .unset, .unset] [(.int (own_sgn p0 (p1 &&& (9223372036854775807 : Int64))))])) _ _ _ _
      refine own_go (fun t k => XS.iconst X28.here hx rfl (hb hby at_28) k) ?_
      show own_G _ _ _ (T28.setTop (mkF m 29 #[.val (.long p0), .second, .val (.long p1), .second, .val (.long (p1 &&& (9223372036854775807 : Int64))), .second, .val (.int (own_sgn p0 (p1 &&& (9223372036854775807 : Int64)))), .unset, .unset] [(.int (1 : Int32)), (.int (own_sgn p0 (p1 &&& (9223372036854775807 : Int64))))])) _ _ _ _
      by_cases hc31 : (own_sgn p0 (p1 &&& (9223372036854775807 : Int64))) = (1 : Int32)
      · refine own_itI hc31 ?_
        refine own_go (fun t k => XS.icmpNo X28.here hx rfl (hb hby at_29) rfl (teq hc31).2 k) ?_
        show own_G _ _ _ (T28.setTop (mkF m 32 #[.val (.long p0), .second, .val (.long p1), .second, .val (.long (p1 &&& (9223372036854775807 : Int64))), .second, .val (.int (own_sgn p0 (p1 &&& (9223372036854775807 : Int64)))), .unset, .unset] [])) _ _ _ _
        exact J32 _ _ X28 e28 N28 (p1 &&& (9223372036854775807 : Int64)) (own_sgn p0 (p1 &&& (9223372036854775807 : Int64))) 
      · refine own_ifI hc31 ?_
        refine own_go (fun t k => XS.icmpYes X28.here hx rfl (pc0 := 29) (pc' := 36) rfl (hb hby at_29) rfl (feq hc31).2 (by decide) (by decide) k) ?_
        show own_G _ _ _ (T28.setTop (mkF m 36 #[.val (.long p0), .second, .val (.long p1), .second, .val (.long (p1 &&& (9223372036854775807 : Int64))), .second, .val (.int (own_sgn p0 (p1 &&& (9223372036854775807 : Int64)))), .unset, .unset] [])) _ _ _ _
        refine own_go (fun t k => XS.iconst X28.here hx rfl (hb hby at_36) k) ?_
        show own_G _ _ _ (T28.setTop (mkF m 37 #[.val (.long p0), .second, .val (.long p1), .second, .val (.long (p1 &&& (9223372036854775807 : Int64))), .second, .val (.int (own_sgn p0 (p1 &&& (9223372036854775807 : Int64)))), .unset, .unset] [(.int (0 : Int32))])) _ _ _ _
        exact J37 _ _ X28 e28 N28 (p1 &&& (9223372036854775807 : Int64)) (own_sgn p0 (p1 &&& (9223372036854775807 : Int64))) (0 : Int32) 
theorem own_neg (x : Int64) (h : x ≠ -9223372036854775808) : (-x).toInt = -x.toInt := Jvm.Kit.i64_neg (fun q => h (Int64.toInt_inj.mp (by rw [q]; rfl)))
theorem own_neg0 (x : Int64) (h : 0 ≤ x.toInt) : (-x).toInt = -x.toInt := Jvm.Kit.i64_neg (by omega)
theorem own_s1 (v : Int64) (h : 0 ≤ v.toInt) : own_sgn v v = 0 := by
  have e := own_neg0 v h
  simp only [own_sgn, own_sgn_25]
  repeat' split
  all_goals first | rfl | (exfalso; simp only [Int64.lt_iff_toInt_lt, ← Int64.toInt_inj, Int64.reduceToInt] at *; omega)
theorem own_s2 (v : Int64) (h : 0 ≤ v.toInt) : own_sgn (-v) v = 0 := by
  have e := own_neg0 v h
  simp only [own_sgn, own_sgn_25]
  repeat' split
  all_goals first | rfl | (exfalso; simp only [Int64.lt_iff_toInt_lt, ← Int64.toInt_inj, Int64.reduceToInt] at *; omega)
theorem own_s3 (v : Int64) (h : 0 ≤ v.toInt) (h2 : v < 9223372036854775807) : own_sgn (v + 1) v = 1 := by
  have q : v.toInt < 9223372036854775807 := by simpa only [Int64.lt_iff_toInt_lt, Int64.reduceToInt] using h2
  have e : (v + 1).toInt = v.toInt + 1 := Jvm.Kit.i64_add (by have : (1 : Int64).toInt = 1 := by decide
                                                              omega) (by have : (1 : Int64).toInt = 1 := by decide
                                                                         omega)
  simp only [own_sgn, own_sgn_25]
  rw [if_pos (by simp only [Int64.lt_iff_toInt_lt]; omega)]
theorem own_s4 (v : Int64) (h : 0 ≤ v.toInt) (h2 : v < 9223372036854775807) : own_sgn (-v - 1) v = -1 := by
  have q : v.toInt < 9223372036854775807 := by simpa only [Int64.lt_iff_toInt_lt, Int64.reduceToInt] using h2
  have e0 := own_neg0 v h
  have e : (-v - 1).toInt = (-v).toInt - 1 := Jvm.Kit.i64_sub (by have : (1 : Int64).toInt = 1 := by decide
                                                                  omega) (by have : (1 : Int64).toInt = 1 := by decide
                                                                             omega)
  simp only [own_sgn, own_sgn_25]
  rw [if_neg (by simp only [Int64.lt_iff_toInt_lt]; omega), if_pos (by simp only [Int64.lt_iff_toInt_lt]; omega)]
theorem own_s5 (p v : Int64) (h : 0 ≤ v.toInt) (h2 : ¬ p = -9223372036854775808) : own_sgn (-p) v = - own_sgn p v := by
  have e0 := own_neg0 v h
  have e1 := own_neg p h2
  simp only [own_sgn, own_sgn_25]
  repeat' split
  all_goals first | rfl | (exfalso; simp only [Int64.lt_iff_toInt_lt, ← Int64.toInt_inj, Int64.reduceToInt] at *; omega)
theorem own_tail (p0 p1 v4 : Int64) (v6 v8 : Int32) (h : 0 ≤ v4.toInt) : own_law_160 p0 p1 v4 v6 1 v8 = 1 := by
  simp only [own_law_160, own_law_180, own_law_203, own_law_237, own_law_263, own_law_265, own_s1 v4 h, own_s2 v4 h]
  by_cases q : v4 < 9223372036854775807
  · simp only [own_s3 v4 h q, own_s4 v4 h q, if_pos q]; rfl
  · simp only [if_neg q]; rfl
theorem own_mid (p0 p1 v4 : Int64) (v8 : Int32) (h : 0 ≤ v4.toInt) : own_law_127 p0 p1 v4 (own_sgn p0 v4) 1 v8 = 1 := by
  simp only [own_law_127, own_law_158, own_tail p0 p1 v4 _ _ h]
  by_cases q : p0 = -9223372036854775808
  · simp only [if_pos q]
  · simp only [if_neg q, own_s5 p0 v4 h q, if_true]; rfl
theorem own_law_true (a b : Int64) : own_law a b = 1 := by
  have e := Jvm.Kit.i64_mask b 9223372036854775807 (k := 63) (by decide) (by decide)
  have h : 0 ≤ (b &&& 9223372036854775807).toInt := by rw [e]; omega
  generalize hv : b &&& 9223372036854775807 = v at h
  have m := fun w8 => own_mid a b v w8 h
  have e0 := own_neg0 v h
  simp only [own_law, own_law_32, own_law_37, hv, own_law_54, own_law_59, own_law_86, own_law_97, own_law_105, own_law_125]
  by_cases c1 : v < a
  · have s : own_sgn a v = 1 := by simp only [own_sgn, own_sgn_25, if_pos c1]
    rw [s] at m
    have c2 : 0 < a := by simp only [Int64.lt_iff_toInt_lt, Int64.reduceToInt] at *; omega
    simp only [s, if_pos c1, if_pos c2, m]; rfl
  · by_cases c2 : a < -v
    · have s : own_sgn a v = -1 := by simp only [own_sgn, own_sgn_25, if_neg c1, if_pos c2]
      rw [s] at m
      have c3 : ¬ 0 < a := by simp only [Int64.lt_iff_toInt_lt, Int64.reduceToInt] at *; omega
      simp only [s, if_neg c1, if_pos c2, if_neg c3, m]; rfl
    · have s : own_sgn a v = 0 := by simp only [own_sgn, own_sgn_25, if_neg c1, if_neg c2]
      rw [s] at m
      simp only [s, if_neg c1, if_neg c2, m]; rfl

set_option maxRecDepth 65536 in
set_option maxHeartbeats 40000000 in
theorem comes_1 {Post : Tables → Env → Array Value → State → Outcome → State → Prop} (hpost : ∀ tb e args s v u, (limb_1_1.after args s (.returned v) u = true ∧ limb_1_2.after args s (.returned v) u = true ∧ True) → FrameEnd s (.returned v) u (Jvm.fieldLocs frame_1_writes args s ++ Jvm.arrayLocs frame_1_arrays args s ++ Jvm.staticLocs frame_1_statics s) 0 0 → Post tb e args s (.returned v) u) :
    ArmFor flags0 classFile x code maxLocals ret World_1 tables_1 room_1 Calls_1 rest_1 Pre_1 Post := by
  intro l hfl _ _ p e ha hc hk s m args below hf hA hF happ hP
  obtain ⟨hcalls, hrest, hpre⟩ := hP
  obtain ⟨-, -, -, hnamed, -, -, -, hat⟩ := (Spec.applies_iff hf).mp happ
  obtain ⟨hg, hn⟩ := and_e (Cond.before_iff.mp (show (Jvm.Cond.and given_1 narrow_1).before args s = true from hpre))
  obtain ⟨g0, hg1⟩ := and_e hg
  obtain ⟨a0, r0⟩ := and_e hg1
  obtain ⟨w0, w1, rfl⟩ : ∃ w0 w1 : Value, args = #[w0, w1] := by
    have hs : args.size = 2 := by simpa [Cond.value, given_1] using g0
    obtain ⟨L⟩ := args
    match L, hs with
    | [w0, w1], _ => exact ⟨w0, w1, rfl⟩
  have hw := fun d (hd : d ∈ tables_1) => atoms_spec (ws := Jvm.Cond.code x code maxLocals ret :: tables_1) hat d (List.mem_cons_of_mem _ hd)
  have hfit : Fit s := fun {y c} hc i hi => by
    obtain ⟨ha, rfl⟩ := Array.getElem?_eq_some_iff.mp hc
    have q := List.all_eq_true.mp ((Array.all_eq_true_iff_forall_mem.mp hF) _ (Array.getElem_mem ha)) i (List.mem_range.mpr hi)
    simpa [Array.getElem?_eq_getElem hi] using q
  obtain ⟨i0, ei0⟩ := isL_v a0
  obtain rfl : w0 = (.long i0) := Option.some.inj ei0
  obtain ⟨i1, ei1⟩ := isL_v r0
  obtain rfl : w1 = (.long i1) := Option.some.inj ei1
  obtain ⟨n, o, h1, h2, h3, _, L, rfl, ⟨rfl, N, -⟩, hq⟩ := rm0 l s _ hw tables_1 i0 i1  s.heap s.heap.size p e ha hc hk s m _ below hf ((Spec.applies_iff_loose hf).mp happ).1 ⟨rfl, State.Warmed39.refl s, rfl⟩ trivial
  refine ⟨n, _, h1, h2, h3, hpost _ _ _ _ _ _ ⟨Cond.after_iff.mpr rfl, Cond.after_iff.mpr (eq_i res_at (Term.int_eval (1)) (congrArg Value.int (own_law_true i0 i1))), trivial⟩ ⟨hq.1, hq.2.1, (hq.2.2.sift fun y hy => Or.inr (N y hy)).mono (by decide) (by decide)⟩⟩
theorem main_1_1 : Claimed_1_1 := comes_1 fun _ _ _ _ _ _ h hF => ⟨h.1, hF⟩
theorem main_1_2 : Claimed_1_2 := comes_1 fun _ _ _ _ _ _ h hF => ⟨h.2.1, hF⟩
end Jvm.Pilot.@@N@@
namespace Jvm.Pilot.@@N@@
open Jvm Jvm.ClassFile Sem Op Lib Jvm.Free Jvm.Stand Jvm.Pilot.@@N@@.Jvm.D
/-! MADE BY PROGRAM (witnessworld.py) out of the Statement's table words and the real class files: 9 classes; the members and pool entries that the words name. The judged class is class 1, her method 1. -/
namespace start1
open Jvm.ClassFile
def u (s : String) : CpInfo := .utf8 (stringToUtf16 s)
/-- a pool by its gaps: so many unusable entries, then the entry; so many at the end -/
def gap : Nat → List CpInfo → List CpInfo
  | 0, r => r
  | n + 1, r => .unusable :: gap n r
def poolList (es : List (Nat × CpInfo)) (last : Nat) : List CpInfo := es.foldr (fun e r => gap e.1 (e.2 :: r)) (gap last [])
def pool (es : List (Nat × CpInfo)) (last : Nat) : Array CpInfo := ⟨poolList es last⟩
def fileOf (pool : Array CpInfo) (this : Nat) (attrs : Array Attribute := #[]) (ms : Array MethodInfo := #[]) (fl : Nat := 33) (sup : Nat := 0) (ifs : Array Nat := #[]) (fds : Array FieldInfo := #[]) : ClassFile where
  minorVersion := 0
  majorVersion := 65
  constantPool := pool
  accessFlags := fl
  thisClass := this
  superClass := sup
  interfaces := ifs
  fields := fds
  methods := ms
  attributes := attrs
def plain (name : String) (sup : Option ClassId) : Class where
  name := name
  kind := .ordinary
  loader := none
  accessFlags := 33
  super := sup
  interfaces := #[]
  cf := none
  fields := #[]
  methods := #[]
  instanceTypes := #[]
  staticTypes := #[]
  resolved := #[]
  callSites := []
  init := .initialized
  statics := none
  mirror := none

def pool0 : Array CpInfo := pool [(5, u "<init>"), (0, u "()V"), (1, .class_ 10), (1, u "java/lang/Object")] 113

def k0m0 : Method := { name := "<init>", desc := "()V", sig := { parameters := [], returnType := none }, accessFlags := 1, code := none }
/-- java/lang/Object -/
def k0 : Class := { plain "java/lang/Object" none with
  accessFlags := 33
  interfaces := #[]
  cf := some (fileOf pool0 8 #[] #[{ accessFlags := 1, nameIndex := 5, descriptorIndex := 6, attributes := #[] }] 33 0 #[] #[])
  fields := #[]
  methods := #[k0m0]
  instanceTypes := #[]
  staticTypes := #[]
  resolved := Array.replicate 124 none
  statics := none }

def pool1 : Array CpInfo := pool [(2, .class_ 4), (1, u "java/lang/Object"), (0, u "<init>"), (0, u "()V"), (2, .long 9223372036854775807), (1, .methodref 12 13), (0, .class_ 14), (0, .nameAndType 15 16), (0, u "com/example/slackline/slackline/Factors"), (0, u "signBeyond"), (0, u "(JJ)I"), (0, .long 9223372036854775808), (1, .class_ 20), (0, u "com/example/slackline/slackline/FactorsSignBeyondPinLaw"), (2, u "law"), (0, u "(JJ)Z")] 3

def k1m0 : Method := { name := "<init>", desc := "()V", sig := { parameters := [], returnType := none }, accessFlags := 1, code := none }
def k1c1 : Code := { maxStack := 5, maxLocals := 9, code := code, exceptionTable := #[], attributes := #[] }
def k1m1 : Method := { name := "law", desc := "(JJ)Z", sig := { parameters := [.long, .long], returnType := some .boolean }, accessFlags := 9, code := some k1c1 }
/-- com/example/slackline/slackline/FactorsSignBeyondPinLaw -/
def k1 : Class := { plain "com/example/slackline/slackline/FactorsSignBeyondPinLaw" (some 0) with
  accessFlags := 49
  interfaces := #[]
  cf := some (fileOf pool1 19 #[] #[{ accessFlags := 1, nameIndex := 5, descriptorIndex := 6, attributes := #[] }, { accessFlags := 9, nameIndex := 23, descriptorIndex := 24, attributes := #[] }] 49 2 #[] #[])
  fields := #[]
  methods := #[k1m0, k1m1]
  instanceTypes := #[]
  staticTypes := #[]
  resolved := Array.replicate 28 none
  statics := none }

def pool2 : Array CpInfo := pool [(2, .class_ 4), (1, u "java/lang/Object"), (6, .class_ 13), (1, u "com/example/slackline/slackline/Factors"), (0, u "byAccuracy"), (0, u "Ljava/util/Map;"), (2, u "scale"), (0, u "I"), (13, u "[Ljava/math/BigDecimal;"), (2, u "accuracies"), (2, u "shifts"), (0, u "[I"), (2, u "widths"), (7, u "one"), (0, u "Lcom/example/slackline/slackline/Product;"), (64, u "firstFields"), (86, .class_ 205), (0, u "com/example/slackline/slackline/Factors$Level"), (50, u "LOG_DIGITS"), (0, u "Ljava/math/MathContext;"), (20, u "LN_10"), (0, u "D"), (13, u "LOG_LIMIT"), (18, u "signBeyond"), (0, u "(JJ)I")] 42

def k2c0 : Code := { maxStack := 4, maxLocals := 5, code := prog_4_method_7_code, exceptionTable := #[], attributes := #[] }
def k2m0 : Method := { name := "signBeyond", desc := "(JJ)I", sig := { parameters := [.long, .long], returnType := some .int }, accessFlags := 8, code := some k2c0 }
/-- com/example/slackline/slackline/Factors -/
def k2 : Class := { plain "com/example/slackline/slackline/Factors" (some 0) with
  accessFlags := 48
  interfaces := #[]
  cf := some (fileOf pool2 11 #[.nestMembers #[204]] #[{ accessFlags := 8, nameIndex := 312, descriptorIndex := 313, attributes := #[] }] 48 2 #[] #[{ accessFlags := 26, nameIndex := 293, descriptorIndex := 279, attributes := #[] }, { accessFlags := 26, nameIndex := 278, descriptorIndex := 279, attributes := #[] }, { accessFlags := 26, nameIndex := 256, descriptorIndex := 257, attributes := #[] }, { accessFlags := 18, nameIndex := 18, descriptorIndex := 19, attributes := #[] }, { accessFlags := 18, nameIndex := 14, descriptorIndex := 15, attributes := #[] }, { accessFlags := 18, nameIndex := 36, descriptorIndex := 33, attributes := #[] }, { accessFlags := 18, nameIndex := 39, descriptorIndex := 40, attributes := #[] }, { accessFlags := 18, nameIndex := 43, descriptorIndex := 40, attributes := #[] }, { accessFlags := 18, nameIndex := 117, descriptorIndex := 40, attributes := #[] }, { accessFlags := 18, nameIndex := 51, descriptorIndex := 52, attributes := #[] }])
  fields := #[{ name := "LOG_LIMIT", type := .double, accessFlags := 26, slot := 0, constantValue := 0 }, { name := "LN_10", type := .double, accessFlags := 26, slot := 1, constantValue := 0 }, { name := "LOG_DIGITS", type := (.object "java/math/MathContext"), accessFlags := 26, slot := 2, constantValue := 0 }, { name := "scale", type := .int, accessFlags := 18, slot := 0, constantValue := 0 }, { name := "byAccuracy", type := (.object "java/util/Map"), accessFlags := 18, slot := 1, constantValue := 0 }, { name := "accuracies", type := (.array (.object "java/math/BigDecimal")), accessFlags := 18, slot := 2, constantValue := 0 }, { name := "shifts", type := (.array .int), accessFlags := 18, slot := 3, constantValue := 0 }, { name := "widths", type := (.array .int), accessFlags := 18, slot := 4, constantValue := 0 }, { name := "firstFields", type := (.array .int), accessFlags := 18, slot := 5, constantValue := 0 }, { name := "one", type := (.object "com/example/slackline/slackline/Product"), accessFlags := 18, slot := 6, constantValue := 0 }]
  methods := #[k2m0]
  instanceTypes := #[.int, (.object "java/util/Map"), (.array (.object "java/math/BigDecimal")), (.array .int), (.array .int), (.array .int), (.object "com/example/slackline/slackline/Product")]
  staticTypes := #[.double, .double, (.object "java/math/MathContext")]
  resolved := Array.replicate 356 none
  statics := none }

def pool3 : Array CpInfo := pool [(1, u "java/lang/Cloneable"), (0, .class_ 1), (0, u "java/lang/Object"), (0, .class_ 3)] 3

/-- java/lang/Cloneable -/
def k3 : Class := { plain "java/lang/Cloneable" (some 0) with
  accessFlags := 1537
  interfaces := #[]
  cf := some (fileOf pool3 2 #[] #[] 1537 4 #[] #[])
  fields := #[]
  methods := #[]
  instanceTypes := #[]
  staticTypes := #[]
  resolved := Array.replicate 8 none
  statics := none }

def pool4 : Array CpInfo := pool [(1, u "java/io/Serializable"), (0, .class_ 1), (0, u "java/lang/Object"), (0, .class_ 3)] 3

/-- java/io/Serializable -/
def k4 : Class := { plain "java/io/Serializable" (some 0) with
  accessFlags := 1537
  interfaces := #[]
  cf := some (fileOf pool4 2 #[] #[] 1537 4 #[] #[])
  fields := #[]
  methods := #[]
  instanceTypes := #[]
  staticTypes := #[]
  resolved := Array.replicate 8 none
  statics := none }

/-- the primitive byte -/
def k5 : Class := { plain "byte" none with kind := .primitive 'B', accessFlags := 0x411 }
/-- [B -/
def k6 : Class := { plain "[B" (some 0) with kind := .array 5 .byte, interfaces := #[3, 4], accessFlags := 1041 }

/-- the primitive int -/
def k7 : Class := { plain "int" none with kind := .primitive 'I', accessFlags := 0x411 }
/-- [I -/
def k8 : Class := { plain "[I" (some 0) with kind := .array 7 .int, interfaces := #[3, 4], accessFlags := 1041 }

def heap : Heap := #[]
def classes : Array Class := #[k0, k1, k2, k3, k4, k5, k6, k7, k8]
def interned : List (Array UInt16 × Addr) := []
def slotsUsed : Nat := 0
def theMethod : MethodId := ⟨1, 1⟩
def args0 : Array Value := #[.long 5, .long 6]
def aboutOver (below : List Frame) : State where
  vm := { classes := classes, interned := interned.toArray }
  heap := heap
  slotsUsed := slotsUsed
  threads := #[{ frames := .invoking theMethod args0 :: below }]
def below0 : List Frame := [.native { method := ⟨0, 0⟩, args := #[] }]
def about1 : State := aboutOver below0
def p0 : Program := .bare "" "" ""
def e0 : Env := launch0.env 0 0 0
theorem w_frames : about1.frames = Frame.invoking theMethod args0 :: below0 := rfl
set_option maxRecDepth 65536 in
theorem w_args : argsFit about1.vm theMethod args0 = true := by decide +kernel
set_option maxRecDepth 65536 in
theorem w_heap : heapFits about1 = true := by decide +kernel
set_option maxRecDepth 65536 in
theorem w_runnable : about1.curStatus? = some .runnable := by decide +kernel
set_option maxRecDepth 65536 in
theorem w_alone : about1.alone = true := by decide +kernel
set_option maxRecDepth 65536 in
theorem w_named : about1.methodNamed? x = some theMethod := by decide +kernel
set_option maxRecDepth 65536 in
theorem w_hears : about1.hears theMethod below0 = true := by decide +kernel
set_option maxRecDepth 65536 in
theorem w_ripe : about1.ripe theMethod args0 below0 = true := by decide +kernel
theorem w_running : about1.status = .running := rfl
set_option maxRecDepth 65536 in
theorem w_room : about1.hasRoom e0.platform room_1 = true :=
  launch0.hasRoom_least _ room_1 (by decide +kernel) (by decide +kernel) (by decide +kernel) (by decide +kernel) (by decide +kernel) (by decide +kernel)
theorem allAtoms_all (ts : List Jvm.Cond) (a : Array Jvm.Value) (st : Jvm.State) : (allAtoms ts).before a st = ts.all (fun c => c.before a st) := by
  induction ts with
  | nil => rfl
  | cons c t ih =>
    show (Jvm.Cond.and c (allAtoms t)).before a st = _
    rw [Jvm.Cond.before_and, ih, List.all_cons]
def words1 : List Jvm.Cond := Jvm.Cond.code x code maxLocals ret :: tables_1
/-- a 'code' word, met by the world's own term for the bytes: nothing is compared byte by byte -/
theorem code_word {y : MethodName} {bytes : ByteArray} {mx : Nat} {rt : Option FieldType} {a : Array Value} {s : State} {m : MethodId} {meth : Method} {c : Code} (h1 : s.methodNamed? y = some m) (h2 : s.vm.method? m = some meth) (h3 : meth.code = some c) (h4 : c.code = bytes)
    (h5 : (c.maxLocals == mx && c.exceptionTable.isEmpty && decide (c.maxStack ≤ mostOperands) && decide (meth.sig.returnType = rt) && !meth.locks && decide (parseMethodDescriptor y.desc = some meth.sig)) = true) : (Jvm.Cond.code y bytes mx rt).before a s = true := by
  simp only [Bool.and_eq_true, beq_iff_eq, Bool.not_eq_true', decide_eq_true_eq] at h5
  obtain ⟨⟨⟨⟨⟨g1, g2⟩, g3⟩, g4⟩, g5⟩, g6⟩ := h5
  simp [Cond.before, Cond.holds, Cond.value, h1, h2, h3, h4, g1, g2, g3, g4, g5, g6]
def isCode : Jvm.Cond → Bool
  | .code _ _ _ _ => true
  | _ => false
theorem all_split {L : List Jvm.Cond} {P : Jvm.Cond → Bool} (h1 : L.all (fun c => isCode c || P c) = true) (h2 : ∀ c ∈ L.filter isCode, P c = true) : L.all P = true := by
  refine List.all_eq_true.mpr fun c hc => ?_
  have h := List.all_eq_true.mp h1 c hc
  rcases Bool.eq_false_or_eq_true (isCode c) with hi | hi
  · exact h2 c (List.mem_filter.mpr ⟨hc, hi⟩)
  · simpa [hi] using h
set_option maxRecDepth 65536 in
theorem w_c0 : (Jvm.Cond.code x code maxLocals ret).before args0 about1 = true := code_word (m := ⟨1, 1⟩) (meth := k1m1) (c := k1c1) (by decide +kernel) rfl rfl rfl (by decide +kernel)
set_option maxRecDepth 65536 in
theorem w_c1 : (Jvm.Cond.code ({ cls := "com/example/slackline/slackline/Factors", name := "signBeyond", desc := "(JJ)I" } : Jvm.MethodName) prog_4_method_7_code (5 : Nat) (Option.some Jvm.ClassFile.FieldType.int)).before args0 about1 = true := code_word (m := ⟨2, 0⟩) (meth := k2m0) (c := k2c0) (by decide +kernel) rfl rfl rfl (by decide +kernel)
def codes1 : List Jvm.Cond := [Jvm.Cond.code x code maxLocals ret, Jvm.Cond.code ({ cls := "com/example/slackline/slackline/Factors", name := "signBeyond", desc := "(JJ)I" } : Jvm.MethodName) prog_4_method_7_code (5 : Nat) (Option.some Jvm.ClassFile.FieldType.int)]
set_option maxRecDepth 65536 in
theorem codes_eq : words1.filter isCode = codes1 := rfl
theorem w_codes : ∀ c ∈ words1.filter isCode, c.before args0 about1 = true := by
  rw [codes_eq]
  intro c hc
  simp only [codes1, List.mem_cons, List.not_mem_nil, or_false] at hc
  rcases hc with rfl | rfl
  · exact w_c0
  · exact w_c1
set_option maxRecDepth 65536 in
theorem w_t1 : words1.all (fun c => isCode c || c.before args0 about1) = true := by decide +kernel
theorem w_tables : (allAtoms (Jvm.Cond.code x code maxLocals ret :: tables_1)).before args0 about1 = true := by
  rw [allAtoms_all]
  show words1.all (fun c => c.before args0 about1) = true
  refine all_split ?_ w_codes
  rw [w_t1]
set_option maxRecDepth 65536 in
theorem w_case : (Jvm.Cond.and given_1 narrow_1).before args0 about1 = true := by decide +kernel
theorem w_applies : (headSpec (Jvm.Cond.code x code maxLocals ret :: tables_1) room_1).applies x e0.platform about1 = true :=
  (Spec.applies_iff w_frames).mpr ⟨w_running, w_runnable, w_alone, w_named, w_hears, w_ripe, w_room, w_tables⟩
theorem atStart : AtStart classFile x code maxLocals ret World_1 tables_1 room_1 Calls_1 rest_1 Pre_1 launch0 p0 e0 about1 theMethod args0 below0 :=
  ⟨lists_1, trivial, launch0.admits_env _ _ _, launch0.least_env, fairChoices_fair.cas, fairChoices_fair.clock, w_frames, w_args, w_heap, w_applies, trivial, trivial, w_case⟩
end start1
theorem witness_1 : WitnessClaimed_1 := ⟨start1.p0, start1.e0, start1.about1, start1.theMethod, start1.args0, start1.below0, start1.atStart⟩
end Jvm.Pilot.@@N@@
