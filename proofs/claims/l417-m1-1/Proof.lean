import JvmDerived
import JvmDerived.Pilot.@@N@@Statement
import JvmDerived.Pilot.@@N@@Code
set_option linter.unusedVariables false
set_option linter.unusedSimpArgs false
@@BLOCK:NumsL.lean.txt@@
namespace Jvm.Pilot.@@N@@
open Jvm Jvm.ClassFile Sem Op Lib Jvm.Free Jvm.Stand Jvm.LawKit Jvm.RoadKit Bundle Jvm.Pilot.@@N@@.Jvm.D
/-! general: a run that comes to its end with what Q says -/
def own_G (tb : Tables) (e : Env) (below : List Frame) (S : State) (s : State) (C N : Nat) (Q : Option Value → Heap → List Loc → Prop) : Prop :=
  ∃ t o, Steps tb e below S t ∧ t.status = .running ∧ Ended t below o ∧ ∃ v L, o = .returned v ∧ Q v t.heap L ∧ FrameEnd s o t L C N
def own_P (n0 : Nat) (h0 : Heap) (w : Option Value) (v : Option Value) (h : Heap) (L : List Loc) : Prop := v = w ∧ Fr n0 L ∧ h = h0
section Own
variable {tb : Tables} {p : Program} {l : Launch} {e : Env} {R : Room} {s : State} {m : MethodId} {args : Array Value} {below : List Frame} {meth : Method} {c : Code} {T S S' : State} {locs : List Loc} {cells slots C N n0 : Nat} {h0 : Heap} {Q : Option Value → Heap → List Loc → Prop}
theorem own_go (h : ∀ t, Steps tb e below S' t → Steps tb e below S t) (k : own_G tb e below S' s C N Q) : own_G tb e below S s C N Q := by
  obtain ⟨t, o, a, b⟩ := k
  exact ⟨t, o, h t a, b⟩
theorem own_tr (h : Steps tb e below S S') (k : own_G tb e below S' s C N Q) : own_G tb e below S s C N Q := by
  obtain ⟨t, o, a, b⟩ := k
  exact ⟨t, o, h.trans a, b⟩
theorem own_itI {P : Prop} [Decidable P] {A B : Int32} (h : P) (k : own_G tb e below S s C N (own_P n0 h0 (some (.int A)))) : own_G tb e below S s C N (own_P n0 h0 (some (.int (if P then A else B)))) := by rw [if_pos h]; exact k
theorem own_ifI {P : Prop} [Decidable P] {A B : Int32} (h : ¬ P) (k : own_G tb e below S s C N (own_P n0 h0 (some (.int B)))) : own_G tb e below S s C N (own_P n0 h0 (some (.int (if P then A else B)))) := by rw [if_neg h]; exact k
theorem own_itJ {P : Prop} [Decidable P] {A B : Int64} (h : P) (k : own_G tb e below S s C N (own_P n0 h0 (some (.long A)))) : own_G tb e below S s C N (own_P n0 h0 (some (.long (if P then A else B)))) := by rw [if_pos h]; exact k
theorem own_ifJ {P : Prop} [Decidable P] {A B : Int64} (h : ¬ P) (k : own_G tb e below S s C N (own_P n0 h0 (some (.long B)))) : own_G tb e below S s C N (own_P n0 h0 (some (.long (if P then A else B)))) := by rw [if_neg h]; exact k
theorem own_endO {w : Value} {t : FieldType} {i : Instr} (X : Stand p l e R s m args below meth c T locs cells slots) (hx : p.tables.exec = Jvm.exec) (hlk : meth.locks = false) {pc : Nat} {Ls : Array Slot} {rest : List Value} (hret : meth.sig.returnType = some t) (hn : narrow t w = w)
    (hi : (i = .ireturn ∧ (t = .int ∨ t = .boolean ∨ t = .byte ∨ t = .char ∨ t = .short) ∧ ∃ z, w = .int z) ∨ (i = .lreturn ∧ t = .long ∧ ∃ z, w = .long z) ∨ (i = .dreturn ∧ t = .double ∧ ∃ z, w = .double z) ∨ (i = .freturn ∧ t = .float ∧ ∃ z, w = .float z) ∨ (i = .areturn ∧ t.isReference = true ∧ w.isRef = true))
    (hd : decode c.code pc = .ok (i, 1)) (hC : cells ≤ C) (hN : slots ≤ N) (hQ : Q (some w) T.heap locs) : own_G p.tables e below (T.setTop (mkF m pc Ls (w :: rest))) s C N Q := by
  obtain ⟨fs, hr, hrun, hended, hW, hsame⟩ := X.leave (v := some w) (fun h => by rw [hret] at h; cases h) hlk
  exact ⟨_, _, retOut X hx hret hn hi hd hr, hrun, hended, _, _, rfl, hQ, ⟨_, rfl⟩, hW, hsame.mono hC hN⟩
theorem own_endI {z : Int32} (X : Stand p l e R s m args below meth c T locs cells slots) (hx : p.tables.exec = Jvm.exec) (hlk : meth.locks = false) {pc : Nat} {Ls : Array Slot} {rest : List Value} (hret : meth.sig.returnType = some .int)
    (hd : decode c.code pc = .ok (.ireturn, 1)) (hC : cells ≤ C) (hN : slots ≤ N) (hQ : Q (some (.int z)) T.heap locs) : own_G p.tables e below (T.setTop (mkF m pc Ls (.int z :: rest))) s C N Q :=
  own_endO X hx hlk hret rfl (Or.inl ⟨rfl, Or.inl rfl, z, rfl⟩) hd hC hN hQ
theorem own_endJ {z : Int64} (X : Stand p l e R s m args below meth c T locs cells slots) (hx : p.tables.exec = Jvm.exec) (hlk : meth.locks = false) {pc : Nat} {Ls : Array Slot} {rest : List Value} (hret : meth.sig.returnType = some .long)
    (hd : decode c.code pc = .ok (.lreturn, 1)) (hC : cells ≤ C) (hN : slots ≤ N) (hQ : Q (some (.long z)) T.heap locs) : own_G p.tables e below (T.setTop (mkF m pc Ls (.long z :: rest))) s C N Q :=
  own_endO X hx hlk hret rfl (Or.inr (Or.inl ⟨rfl, rfl, z, rfl⟩)) hd hC hN hQ
theorem own_endR {w : Value} {t : FieldType} (X : Stand p l e R s m args below meth c T locs cells slots) (hx : p.tables.exec = Jvm.exec) (hlk : meth.locks = false) {pc : Nat} {Ls : Array Slot} {rest : List Value} (hret : meth.sig.returnType = some t) (hn : narrow t w = w) (ht : t.isReference = true) (hw : w.isRef = true)
    (hd : decode c.code pc = .ok (.areturn, 1)) (hC : cells ≤ C) (hN : slots ≤ N) (hQ : Q (some w) T.heap locs) : own_G p.tables e below (T.setTop (mkF m pc Ls (w :: rest))) s C N Q :=
  own_endO X hx hlk hret hn (Or.inr (Or.inr (Or.inr (Or.inr ⟨rfl, ht, hw⟩)))) hd hC hN hQ
theorem own_endN {z : Int32} {t : FieldType} (X : Stand p l e R s m args below meth c T locs cells slots) (hx : p.tables.exec = Jvm.exec) (hlk : meth.locks = false) {pc : Nat} {Ls : Array Slot} {rest : List Value} (hret : meth.sig.returnType = some t) (ht : t = .boolean ∨ t = .byte ∨ t = .char ∨ t = .short)
    (hd : decode c.code pc = .ok (.ireturn, 1)) (hC : cells ≤ C) (hN : slots ≤ N) (hQ : Q (some (.int (nar t z))) T.heap locs) : own_G p.tables e below (T.setTop (mkF m pc Ls (.int z :: rest))) s C N Q := by
  obtain ⟨fs, hr, hrun, hended, hW, hsame⟩ := X.leave (v := some (.int (nar t z))) (fun h => by rw [hret] at h; cases h) hlk
  exact ⟨_, _, retN X hx hret ht hd hr, hrun, hended, _, _, rfl, hQ, ⟨_, rfl⟩, hW, hsame.mono hC hN⟩
theorem own_endV (X : Stand p l e R s m args below meth c T locs cells slots) (hx : p.tables.exec = Jvm.exec) (hlk : meth.locks = false) {pc : Nat} {Ls : Array Slot} (hret : meth.sig.returnType = none)
    (hd : decode c.code pc = .ok (.return_, 1)) (hC : cells ≤ C) (hN : slots ≤ N) (hQ : Q none T.heap locs) : own_G p.tables e below (T.setTop (mkF m pc Ls [])) s C N Q := by
  obtain ⟨fs, hr, hrun, hended, hW, hsame⟩ := X.leave (v := none) (fun _ => rfl) hlk
  exact ⟨_, _, X.returnOut hx hret hd hr, hrun, hended, _, _, rfl, hQ, ⟨_, rfl⟩, hW, hsame.mono hC hN⟩
end Own
theorem d3_0 : decode jdk_29_method_70_code 0 = .ok (.lload_n 0, 1) := by decide +kernel
theorem d3_1 : decode jdk_29_method_70_code 1 = .ok (.lload_n 2, 1) := by decide +kernel
theorem d3_2 : decode jdk_29_method_70_code 2 = .ok (.lcmp, 1) := by decide +kernel
theorem d3_3 : decode jdk_29_method_70_code 3 = .ok (.ifCond .gt 7, 3) := by decide +kernel
theorem d3_6 : decode jdk_29_method_70_code 6 = .ok (.lload_n 0, 1) := by decide +kernel
theorem d3_7 : decode jdk_29_method_70_code 7 = .ok (.goto 4, 3) := by decide +kernel
theorem d3_10 : decode jdk_29_method_70_code 10 = .ok (.lload_n 2, 1) := by decide +kernel
theorem d3_11 : decode jdk_29_method_70_code 11 = .ok (.lreturn, 1) := by decide +kernel
def own_min_11 (p0 : Int64) (p1 : Int64) (w0 : Int64) : Int64 := w0
def own_min (p0 : Int64) (p1 : Int64) : Int64 := (if p1 < p0 then (own_min_11 p0 p1 p1) else (own_min_11 p0 p1 p0))
theorem ef_3 (m : MethodId) (p0 : Int64) (p1 : Int64) : entryFrame m #[(.long p0), (.long p1)] 4 = mkF m 0 #[.val (.long p0), .second, .val (.long p1), .second] [] := by first | (simp [entryFrame, mkF, argsToLocals, Value.category]; done) | rfl
set_option maxRecDepth 65536 in
set_option maxHeartbeats 40000000 in
theorem rm3 (l : Launch) (Z : State) (a0 : Array Value) (hw : ∀ d ∈ tables_1, d.before a0 Z = true) (ws : List Jvm.Cond) (p0 : Int64) (p1 : Int64) (h0 : Heap) (n0 : Nat) :
    MetFree l (⟨"java/lang/Math", "min", "(JJ)J"⟩ : MethodName) (head1 (Jvm.Cond.code (⟨"java/lang/Math", "min", "(JJ)J"⟩ : MethodName) jdk_29_method_70_code 4 (some .long) :: ws) ({ frames := 0, cells := 0, slots := 0, locals := 0 } : Room)) (fun a U => a = #[(.long p0), (.long p1)] ∧ Z.Warmed39 U.vm ∧ U.heap = h0) (fun _ _ _ _ _ => True) (fun _ U o U' => ∃ v L, o = .returned v ∧ (own_P n0 h0 (some (.long (own_min p0 p1)))) v U'.heap L ∧ FrameEnd U o U' L ({ frames := 0, cells := 0, slots := 0, locals := 0 } : Room).cells ({ frames := 0, cells := 0, slots := 0, locals := 0 } : Room).slots) := by
  refine MetFree.of_bodySF (Jvm.Free.JP.mathPlain rfl (by decide +kernel)) hisR ?_
  intro p e s m args below meth c s₁ Bd hml0 hP hK
  obtain ⟨rfl, hZ, hh⟩ := hP
  have hx := Bd.exec
  have hby := Bd.bytes
  have hml : c.maxLocals = 4 := hml0
  have hown : s.vm.findClass "java/lang/Math" = some m.cls := findClass_of_methodNamed Bd.named
  have hnm := (name_of_methodNamed Bd.named Bd.method).1
  have hlk : meth.locks = false := BodyLoose.notSynchronized Bd
  have X0 : Stand p l e ({ frames := 0, cells := 0, slots := 0, locals := 0 } : Room) s m #[(.long p0), (.long p1)] below meth c s₁ [] 0 0 := Stand.of_body Bd
  have e0 : s₁.heap = h0 := by rw [← hh, Bd.state]; rfl
  have N0 := Fr.nil n0
  have J11 : ∀ (T : State) (Lc : List Loc) (X : Stand p l e ({ frames := 0, cells := 0, slots := 0, locals := 0 } : Room) s m #[(.long p0), (.long p1)] below meth c T Lc 0 0) (eT : T.heap = h0) (N : Fr n0 Lc) (w0 : Int64) , own_G p.tables e below (T.setTop (mkF m 11 #[.val (.long p0), .second, .val (.long p1), .second] [(.long w0)])) s ({ frames := 0, cells := 0, slots := 0, locals := 0 } : Room).cells ({ frames := 0, cells := 0, slots := 0, locals := 0 } : Room).slots (own_P n0 h0 (some (.long (own_min_11 p0 p1 w0)))) := by
    intro T Lc X eT N w0 
    show own_G _ _ _ _ _ _ _ (own_P n0 h0 (some (.long (w0))))
    exact own_endJ X hx hlk Bd.returns (hb hby d3_11) (by decide) (by decide) ⟨rfl, N, eT⟩
  show own_G p.tables e below (s₁.setTop (entryFrame m #[(.long p0), (.long p1)] 4)) s ({ frames := 0, cells := 0, slots := 0, locals := 0 } : Room).cells ({ frames := 0, cells := 0, slots := 0, locals := 0 } : Room).slots (own_P n0 h0 (some (.long ((if p1 < p0 then (own_min_11 p0 p1 p1) else (own_min_11 p0 p1 p0))))))
  refine own_go (fun t k => castTop (ef_3 m p0 p1) k) ?_
  refine own_go (fun t k => XS.lloadN X0.here hx rfl (hb hby d3_0) rfl k) ?_
  show own_G _ _ _ (s₁.setTop (mkF m 1 #[.val (.long p0), .second, .val (.long p1), .second] [(.long p0)])) _ _ _ _
  refine own_go (fun t k => XS.lloadN X0.here hx rfl (hb hby d3_1) rfl k) ?_
  show own_G _ _ _ (s₁.setTop (mkF m 2 #[.val (.long p0), .second, .val (.long p1), .second] [(.long p1), (.long p0)])) _ _ _ _
  refine own_go (fun t k => XS.lcmp X0.here hx rfl (hb hby d3_2) rfl k) ?_
  show own_G _ _ _ (s₁.setTop (mkF m 3 #[.val (.long p0), .second, .val (.long p1), .second] [(.int (lcmpW p0 p1))])) _ _ _ _
  by_cases hc1 : p1 < p0
  · refine own_itJ hc1 ?_
    refine own_go (fun t k => XS.ifYes X0.here hx rfl (pc0 := 3) (pc' := 10) rfl (hb hby d3_3) rfl ((if0 _ _).trans (tlt ((lw_gt _ _).mpr hc1)).2.2.1) (by decide) (by decide) k) ?_
    show own_G _ _ _ (s₁.setTop (mkF m 10 #[.val (.long p0), .second, .val (.long p1), .second] [])) _ _ _ _
    refine own_go (fun t k => XS.lloadN X0.here hx rfl (hb hby d3_10) rfl k) ?_
    show own_G _ _ _ (s₁.setTop (mkF m 11 #[.val (.long p0), .second, .val (.long p1), .second] [(.long p1)])) _ _ _ _
    exact J11 _ _ X0 e0 N0 p1 
  · refine own_ifJ hc1 ?_
    refine own_go (fun t k => XS.ifNo X0.here hx rfl (hb hby d3_3) rfl ((if0 _ _).trans (flt (fun q => hc1 ((lw_gt _ _).mp q))).2.2.1) k) ?_
    show own_G _ _ _ (s₁.setTop (mkF m 6 #[.val (.long p0), .second, .val (.long p1), .second] [])) _ _ _ _
    refine own_go (fun t k => XS.lloadN X0.here hx rfl (hb hby d3_6) rfl k) ?_
    show own_G _ _ _ (s₁.setTop (mkF m 7 #[.val (.long p0), .second, .val (.long p1), .second] [(.long p0)])) _ _ _ _
    refine own_go (fun t k => XS.goto X0.here hx rfl (pc0 := 7) (pc' := 11) rfl (hb hby d3_7) (by decide) (by decide) k) ?_
    show own_G _ _ _ (s₁.setTop (mkF m 11 #[.val (.long p0), .second, .val (.long p1), .second] [(.long p0)])) _ _ _ _
    exact J11 _ _ X0 e0 N0 p0 
theorem d1_0 : decode prog_2_method_3_code 0 = .ok (.lload_n 0, 1) := by decide +kernel
theorem d1_1 : decode prog_2_method_3_code 1 = .ok (.ldc2_w 37, 3) := by decide +kernel
theorem d1_4 : decode prog_2_method_3_code 4 = .ok (.lcmp, 1) := by decide +kernel
theorem d1_5 : decode prog_2_method_3_code 5 = .ok (.ifCond .le 17, 3) := by decide +kernel
theorem d1_8 : decode prog_2_method_3_code 8 = .ok (.ldc2_w 39, 3) := by decide +kernel
theorem d1_11 : decode prog_2_method_3_code 11 = .ok (.lload_n 0, 1) := by decide +kernel
theorem d1_12 : decode prog_2_method_3_code 12 = .ok (.ldc2_w 41, 3) := by decide +kernel
theorem d1_15 : decode prog_2_method_3_code 15 = .ok (.lsub, 1) := by decide +kernel
theorem d1_16 : decode prog_2_method_3_code 16 = .ok (.invokestatic 43, 3) := by decide +kernel
theorem d1_19 : decode prog_2_method_3_code 19 = .ok (.goto 4, 3) := by decide +kernel
theorem d1_22 : decode prog_2_method_3_code 22 = .ok (.lconst 0, 1) := by decide +kernel
theorem d1_23 : decode prog_2_method_3_code 23 = .ok (.lreturn, 1) := by decide +kernel
theorem pd_0 : parseMethodDescriptor "(JJ)J" = some ⟨[.long, .long], some .long⟩ := by decide +kernel
def own_size_23 (p0 : Int64) (w0 : Int64) : Int64 := w0
def own_size (p0 : Int64) : Int64 := (if (135266304 : Int64) < p0 then (own_size_23 p0 (own_min (268435456 : Int64) (p0 - (134217728 : Int64)))) else (own_size_23 p0 (0 : Int64)))
theorem pn_0 : plainName "com/example/hence/hence/cli/CommandThread" = true := by first | (simp [plainName, overriddenIn]; done) | decide +kernel
theorem ef_1 (m : MethodId) (p0 : Int64) : entryFrame m #[(.long p0)] 2 = mkF m 0 #[.val (.long p0), .second] [] := by first | (simp [entryFrame, mkF, argsToLocals, Value.category]; done) | rfl
set_option maxRecDepth 65536 in
set_option maxHeartbeats 40000000 in
theorem rm1 (l : Launch) (Z : State) (a0 : Array Value) (hw : ∀ d ∈ tables_1, d.before a0 Z = true) (ws : List Jvm.Cond) (p0 : Int64) (h0 : Heap) (n0 : Nat) :
    MetFree l (⟨"com/example/hence/hence/cli/CommandThread", "stackSize", "(J)J"⟩ : MethodName) (head1 (Jvm.Cond.code (⟨"com/example/hence/hence/cli/CommandThread", "stackSize", "(J)J"⟩ : MethodName) prog_2_method_3_code 2 (some .long) :: ws) ({ frames := 1, cells := 0, slots := 0, locals := 15 } : Room)) (fun a U => a = #[(.long p0)] ∧ Z.Warmed39 U.vm ∧ U.heap = h0) (fun _ _ _ _ _ => True) (fun _ U o U' => ∃ v L, o = .returned v ∧ (own_P n0 h0 (some (.long (own_size p0)))) v U'.heap L ∧ FrameEnd U o U' L ({ frames := 1, cells := 0, slots := 0, locals := 15 } : Room).cells ({ frames := 1, cells := 0, slots := 0, locals := 15 } : Room).slots) := by
  refine MetFree.of_bodySF (plainFor_of_name pn_0) hisR ?_
  intro p e s m args below meth c s₁ Bd hml0 hP hK
  obtain ⟨rfl, hZ, hh⟩ := hP
  have hx := Bd.exec
  have hby := Bd.bytes
  have hml : c.maxLocals = 2 := hml0
  have hown : s.vm.findClass "com/example/hence/hence/cli/CommandThread" = some m.cls := findClass_of_methodNamed Bd.named
  have hnm := (name_of_methodNamed Bd.named Bd.method).1
  have hlk : meth.locks = false := BodyLoose.notSynchronized Bd
  have X0 : Stand p l e ({ frames := 1, cells := 0, slots := 0, locals := 15 } : Room) s m #[(.long p0)] below meth c s₁ [] 0 0 := Stand.of_body Bd
  have e0 : s₁.heap = h0 := by rw [← hh, Bd.state]; rfl
  have N0 := Fr.nil n0
  have J23 : ∀ (T : State) (Lc : List Loc) (X : Stand p l e ({ frames := 1, cells := 0, slots := 0, locals := 15 } : Room) s m #[(.long p0)] below meth c T Lc 0 0) (eT : T.heap = h0) (N : Fr n0 Lc) (w0 : Int64) , own_G p.tables e below (T.setTop (mkF m 23 #[.val (.long p0), .second] [(.long w0)])) s ({ frames := 1, cells := 0, slots := 0, locals := 15 } : Room).cells ({ frames := 1, cells := 0, slots := 0, locals := 15 } : Room).slots (own_P n0 h0 (some (.long (own_size_23 p0 w0)))) := by
    intro T Lc X eT N w0 
    show own_G _ _ _ _ _ _ _ (own_P n0 h0 (some (.long (w0))))
    exact own_endJ X hx hlk Bd.returns (hb hby d1_23) (by decide) (by decide) ⟨rfl, N, eT⟩
  show own_G p.tables e below (s₁.setTop (entryFrame m #[(.long p0)] 2)) s ({ frames := 1, cells := 0, slots := 0, locals := 15 } : Room).cells ({ frames := 1, cells := 0, slots := 0, locals := 15 } : Room).slots (own_P n0 h0 (some (.long ((if (135266304 : Int64) < p0 then (own_size_23 p0 (own_min (268435456 : Int64) (p0 - (134217728 : Int64)))) else (own_size_23 p0 (0 : Int64)))))))
  refine own_go (fun t k => castTop (ef_1 m p0) k) ?_
  refine own_go (fun t k => XS.lloadN X0.here hx rfl (hb hby d1_0) rfl k) ?_
  show own_G _ _ _ (s₁.setTop (mkF m 1 #[.val (.long p0), .second] [(.long p0)])) _ _ _ _
  refine own_go (fun t k => X0.ldc2Long hx hown (mvT hZ (hw _ (List.mem_of_getElem? (i := 5) rfl))) (g := (mkF m 1 #[.val (.long p0), .second] [(.long p0)])) rfl (hb hby d1_1) _ k) ?_
  show own_G _ _ _ (s₁.setTop (mkF m 4 #[.val (.long p0), .second] [(.long (135266304 : Int64)), (.long p0)])) _ _ _ _
  refine own_go (fun t k => XS.lcmp X0.here hx rfl (hb hby d1_4) rfl k) ?_
  show own_G _ _ _ (s₁.setTop (mkF m 5 #[.val (.long p0), .second] [(.int (lcmpW p0 (135266304 : Int64)))])) _ _ _ _
  by_cases hc1 : (135266304 : Int64) < p0
  · refine own_itJ hc1 ?_
    refine own_go (fun t k => XS.ifNo X0.here hx rfl (hb hby d1_5) rfl ((if0 _ _).trans (tlt ((lw_gt _ _).mpr hc1)).2.2.2) k) ?_
    show own_G _ _ _ (s₁.setTop (mkF m 8 #[.val (.long p0), .second] [])) _ _ _ _
    refine own_go (fun t k => X0.ldc2Long hx hown (mvT hZ (hw _ (List.mem_of_getElem? (i := 10) rfl))) (g := (mkF m 8 #[.val (.long p0), .second] [])) rfl (hb hby d1_8) _ k) ?_
    show own_G _ _ _ (s₁.setTop (mkF m 11 #[.val (.long p0), .second] [(.long (268435456 : Int64))])) _ _ _ _
    refine own_go (fun t k => XS.lloadN X0.here hx rfl (hb hby d1_11) rfl k) ?_
    show own_G _ _ _ (s₁.setTop (mkF m 12 #[.val (.long p0), .second] [(.long p0), (.long (268435456 : Int64))])) _ _ _ _
    refine own_go (fun t k => X0.ldc2Long hx hown (mvT hZ (hw _ (List.mem_of_getElem? (i := 11) rfl))) (g := (mkF m 12 #[.val (.long p0), .second] [(.long p0), (.long (268435456 : Int64))])) rfl (hb hby d1_12) _ k) ?_
    show own_G _ _ _ (s₁.setTop (mkF m 15 #[.val (.long p0), .second] [(.long (134217728 : Int64)), (.long p0), (.long (268435456 : Int64))])) _ _ _ _
    refine own_go (fun t k => XS.lsub X0.here hx rfl (hb hby d1_15) rfl k) ?_
    show own_G _ _ _ (s₁.setTop (mkF m 16 #[.val (.long p0), .second] [(.long (p0 - (134217728 : Int64))), (.long (268435456 : Int64))])) _ _ _ _
    obtain ⟨_, _, ⟨T2, L2, k2, n2⟩, -, X2, ⟨Lc2, hQ2, l2, y2, z2⟩, st2⟩ := Jvm.LawKit.callS X0 hx (y := (⟨"java/lang/Math", "min", "(JJ)J"⟩ : MethodName)) hown (mvT hZ (hw _ (List.mem_of_getElem? (i := 12) rfl))) (mvT hZ (hw _ (List.mem_of_getElem? (i := 13) rfl))) (mvT hZ (hw _ (List.mem_of_getElem? (i := 14) rfl))) (mvT hZ (hw _ (List.mem_of_getElem? (i := 15) rfl))) (by decide) (backOf (W := 0) (rm3 l Z a0 hw [] (268435456 : Int64) (p0 - (134217728 : Int64))  h0 n0 ) hZ (hw _ (List.mem_of_getElem? (i := 15) rfl)) (hw _ (List.mem_of_getElem? (i := 14) rfl)) (by decide) (by decide)) (g := (mkF m 16 #[.val (.long p0), .second] [(.long (p0 - (134217728 : Int64))), (.long (268435456 : Int64))])) rfl (by rw [hml]; rfl) (argsL := [(.long (268435456 : Int64)), (.long (p0 - (134217728 : Int64)))]) (rest := []) (lenOf pd_0 rfl) rfl (by show 2 * 0 + _ ≤ _; exact Nat.le_of_eq rfl) (hb hby d1_16) (fun _ _ => ⟨rfl, e0, (by decide : 0 + 0 ≤ _), (by decide : 0 + 0 ≤ _)⟩)
    dsimp only [Pt.U, Pt.locs, Pt.cells, Pt.slots] at X2 l2 y2 z2 st2 hQ2
    subst l2 y2 z2
    obtain ⟨rfl, N2q, e2⟩ := hQ2
    have N2 := Fr.app N0 N2q
    refine own_go (fun t k => st2 _ k) ?_
    show own_G _ _ _ (T2.setTop (mkF m 19 #[.val (.long p0), .second] [(.long (own_min (268435456 : Int64) (p0 - (134217728 : Int64))))])) _ _ _ _
    refine own_go (fun t k => XS.goto X2.here hx rfl (pc0 := 19) (pc' := 23) rfl (hb hby d1_19) (by decide) (by decide) k) ?_
    show own_G _ _ _ (T2.setTop (mkF m 23 #[.val (.long p0), .second] [(.long (own_min (268435456 : Int64) (p0 - (134217728 : Int64))))])) _ _ _ _
    exact J23 _ _ X2 e2 N2 (own_min (268435456 : Int64) (p0 - (134217728 : Int64))) 
  · refine own_ifJ hc1 ?_
    refine own_go (fun t k => XS.ifYes X0.here hx rfl (pc0 := 5) (pc' := 22) rfl (hb hby d1_5) rfl ((if0 _ _).trans (flt (fun q => hc1 ((lw_gt _ _).mp q))).2.2.2) (by decide) (by decide) k) ?_
    show own_G _ _ _ (s₁.setTop (mkF m 22 #[.val (.long p0), .second] [])) _ _ _ _
    refine own_go (fun t k => XS.lconst X0.here hx rfl (hb hby d1_22) k) ?_
    show own_G _ _ _ (s₁.setTop (mkF m 23 #[.val (.long p0), .second] [(.long (0 : Int64))])) _ _ _ _
    exact J23 _ _ X0 e0 N0 (0 : Int64) 
theorem d2_0 : decode method_2_code 0 = .ok (.lload_n 0, 1) := by decide +kernel
theorem d2_1 : decode method_2_code 1 = .ok (.ldc2_w 9, 3) := by decide +kernel
theorem d2_4 : decode method_2_code 4 = .ok (.lcmp, 1) := by decide +kernel
theorem d2_5 : decode method_2_code 5 = .ok (.ifCond .gt 15, 3) := by decide +kernel
theorem d2_8 : decode method_2_code 8 = .ok (.lload_n 2, 1) := by decide +kernel
theorem d2_9 : decode method_2_code 9 = .ok (.lconst 0, 1) := by decide +kernel
theorem d2_10 : decode method_2_code 10 = .ok (.lcmp, 1) := by decide +kernel
theorem d2_11 : decode method_2_code 11 = .ok (.ifCond .ne 7, 3) := by decide +kernel
theorem d2_14 : decode method_2_code 14 = .ok (.iconst 1, 1) := by decide +kernel
theorem d2_15 : decode method_2_code 15 = .ok (.goto 4, 3) := by decide +kernel
theorem d2_18 : decode method_2_code 18 = .ok (.iconst 0, 1) := by decide +kernel
theorem d2_19 : decode method_2_code 19 = .ok (.ireturn, 1) := by decide +kernel
theorem d2_20 : decode method_2_code 20 = .ok (.lload_n 0, 1) := by decide +kernel
theorem d2_21 : decode method_2_code 21 = .ok (.ldc2_w 11, 3) := by decide +kernel
theorem d2_24 : decode method_2_code 24 = .ok (.lsub, 1) := by decide +kernel
theorem d2_25 : decode method_2_code 25 = .ok (.lstore 4, 2) := by decide +kernel
theorem d2_27 : decode method_2_code 27 = .ok (.lload_n 2, 1) := by decide +kernel
theorem d2_28 : decode method_2_code 28 = .ok (.ldc2_w 13, 3) := by decide +kernel
theorem d2_31 : decode method_2_code 31 = .ok (.lcmp, 1) := by decide +kernel
theorem d2_32 : decode method_2_code 32 = .ok (.ifCond .le 37, 3) := by decide +kernel
theorem d2_35 : decode method_2_code 35 = .ok (.lload_n 2, 1) := by decide +kernel
theorem d2_36 : decode method_2_code 36 = .ok (.ldc2_w 15, 3) := by decide +kernel
theorem d2_39 : decode method_2_code 39 = .ok (.lcmp, 1) := by decide +kernel
theorem d2_40 : decode method_2_code 40 = .ok (.ifCond .gt 29, 3) := by decide +kernel
theorem d2_43 : decode method_2_code 43 = .ok (.lload_n 2, 1) := by decide +kernel
theorem d2_44 : decode method_2_code 44 = .ok (.lload 4, 2) := by decide +kernel
theorem d2_46 : decode method_2_code 46 = .ok (.lcmp, 1) := by decide +kernel
theorem d2_47 : decode method_2_code 47 = .ok (.ifCond .gt 22, 3) := by decide +kernel
theorem d2_50 : decode method_2_code 50 = .ok (.lload_n 2, 1) := by decide +kernel
theorem d2_51 : decode method_2_code 51 = .ok (.ldc2_w 15, 3) := by decide +kernel
theorem d2_54 : decode method_2_code 54 = .ok (.lcmp, 1) := by decide +kernel
theorem d2_55 : decode method_2_code 55 = .ok (.ifCond .eq 10, 3) := by decide +kernel
theorem d2_58 : decode method_2_code 58 = .ok (.lload_n 2, 1) := by decide +kernel
theorem d2_59 : decode method_2_code 59 = .ok (.lload 4, 2) := by decide +kernel
theorem d2_61 : decode method_2_code 61 = .ok (.lcmp, 1) := by decide +kernel
theorem d2_62 : decode method_2_code 62 = .ok (.ifCond .ne 7, 3) := by decide +kernel
theorem d2_65 : decode method_2_code 65 = .ok (.iconst 1, 1) := by decide +kernel
theorem d2_66 : decode method_2_code 66 = .ok (.goto 4, 3) := by decide +kernel
theorem d2_69 : decode method_2_code 69 = .ok (.iconst 0, 1) := by decide +kernel
theorem d2_70 : decode method_2_code 70 = .ok (.ireturn, 1) := by decide +kernel
def own_ok_70 (p0 : Int64) (p1 : Int64) (v4 : Int64) (w0 : Int32) : Int32 := (w0 &&& 1)
def own_ok_69 (p0 : Int64) (p1 : Int64) (v4 : Int64) : Int32 := (own_ok_70 p0 p1 v4 (0 : Int32))
def own_ok_65 (p0 : Int64) (p1 : Int64) (v4 : Int64) : Int32 := (own_ok_70 p0 p1 v4 (1 : Int32))
def own_ok_19 (p0 : Int64) (p1 : Int64) (w0 : Int32) : Int32 := (w0 &&& 1)
def own_ok (p0 : Int64) (p1 : Int64) : Int32 := (if (135266304 : Int64) < p0 then (if (1048576 : Int64) < p1 then (if (268435456 : Int64) < p1 then (own_ok_69 p0 p1 (p0 - (134217728 : Int64))) else (if (p0 - (134217728 : Int64)) < p1 then (own_ok_69 p0 p1 (p0 - (134217728 : Int64))) else (if p1 = (268435456 : Int64) then (own_ok_65 p0 p1 (p0 - (134217728 : Int64))) else (if p1 = (p0 - (134217728 : Int64)) then (own_ok_65 p0 p1 (p0 - (134217728 : Int64))) else (own_ok_69 p0 p1 (p0 - (134217728 : Int64))))))) else (own_ok_69 p0 p1 (p0 - (134217728 : Int64)))) else (if p1 = (0 : Int64) then (own_ok_19 p0 p1 (1 : Int32)) else (own_ok_19 p0 p1 (0 : Int32))))
theorem pn_1 : plainName "com/example/hence/hence/cli/CommandThreadStackSizePinLaw" = true := by first | (simp [plainName, overriddenIn]; done) | decide +kernel
theorem ef_2 (m : MethodId) (p0 : Int64) (p1 : Int64) : entryFrame m #[(.long p0), (.long p1)] 6 = mkF m 0 #[.val (.long p0), .second, .val (.long p1), .second, .unset, .unset] [] := by first | (simp [entryFrame, mkF, argsToLocals, Value.category]; done) | rfl
set_option maxRecDepth 65536 in
set_option maxHeartbeats 40000000 in
theorem rm2 (l : Launch) (Z : State) (a0 : Array Value) (hw : ∀ d ∈ tables_1, d.before a0 Z = true) (ws : List Jvm.Cond) (p0 : Int64) (p1 : Int64) (h0 : Heap) (n0 : Nat) :
    MetFree l (⟨"com/example/hence/hence/cli/CommandThreadStackSizePinLaw", "ok", "(JJ)Z"⟩ : MethodName) (head1 (Jvm.Cond.code (⟨"com/example/hence/hence/cli/CommandThreadStackSizePinLaw", "ok", "(JJ)Z"⟩ : MethodName) method_2_code 6 (some .boolean) :: ws) ({ frames := 0, cells := 0, slots := 0, locals := 0 } : Room)) (fun a U => a = #[(.long p0), (.long p1)] ∧ Z.Warmed39 U.vm ∧ U.heap = h0) (fun _ _ _ _ _ => True) (fun _ U o U' => ∃ v L, o = .returned v ∧ (own_P n0 h0 (some (.int (own_ok p0 p1)))) v U'.heap L ∧ FrameEnd U o U' L ({ frames := 0, cells := 0, slots := 0, locals := 0 } : Room).cells ({ frames := 0, cells := 0, slots := 0, locals := 0 } : Room).slots) := by
  refine MetFree.of_bodySF (plainFor_of_name pn_1) hisR ?_
  intro p e s m args below meth c s₁ Bd hml0 hP hK
  obtain ⟨rfl, hZ, hh⟩ := hP
  have hx := Bd.exec
  have hby := Bd.bytes
  have hml : c.maxLocals = 6 := hml0
  have hown : s.vm.findClass "com/example/hence/hence/cli/CommandThreadStackSizePinLaw" = some m.cls := findClass_of_methodNamed Bd.named
  have hnm := (name_of_methodNamed Bd.named Bd.method).1
  have hlk : meth.locks = false := BodyLoose.notSynchronized Bd
  have X0 : Stand p l e ({ frames := 0, cells := 0, slots := 0, locals := 0 } : Room) s m #[(.long p0), (.long p1)] below meth c s₁ [] 0 0 := Stand.of_body Bd
  have e0 : s₁.heap = h0 := by rw [← hh, Bd.state]; rfl
  have N0 := Fr.nil n0
  have J70 : ∀ (T : State) (Lc : List Loc) (X : Stand p l e ({ frames := 0, cells := 0, slots := 0, locals := 0 } : Room) s m #[(.long p0), (.long p1)] below meth c T Lc 0 0) (eT : T.heap = h0) (N : Fr n0 Lc) (v4 : Int64) (w0 : Int32) , own_G p.tables e below (T.setTop (mkF m 70 #[.val (.long p0), .second, .val (.long p1), .second, .val (.long v4), .second] [(.int w0)])) s ({ frames := 0, cells := 0, slots := 0, locals := 0 } : Room).cells ({ frames := 0, cells := 0, slots := 0, locals := 0 } : Room).slots (own_P n0 h0 (some (.int (own_ok_70 p0 p1 v4 w0)))) := by
    intro T Lc X eT N v4 w0 
    show own_G _ _ _ _ _ _ _ (own_P n0 h0 (some (.int ((w0 &&& 1)))))
    exact own_endN X hx hlk (t := .boolean) Bd.returns (by simp) (hb hby d2_70) (by decide) (by decide) ⟨rfl, N, eT⟩
  have J69 : ∀ (T : State) (Lc : List Loc) (X : Stand p l e ({ frames := 0, cells := 0, slots := 0, locals := 0 } : Room) s m #[(.long p0), (.long p1)] below meth c T Lc 0 0) (eT : T.heap = h0) (N : Fr n0 Lc) (v4 : Int64) , own_G p.tables e below (T.setTop (mkF m 69 #[.val (.long p0), .second, .val (.long p1), .second, .val (.long v4), .second] [])) s ({ frames := 0, cells := 0, slots := 0, locals := 0 } : Room).cells ({ frames := 0, cells := 0, slots := 0, locals := 0 } : Room).slots (own_P n0 h0 (some (.int (own_ok_69 p0 p1 v4)))) := by
    intro T Lc X eT N v4 
    show own_G _ _ _ _ _ _ _ (own_P n0 h0 (some (.int ((own_ok_70 p0 p1 v4 (0 : Int32))))))
    refine own_go (fun t k => XS.iconst X.here hx rfl (hb hby d2_69) k) ?_
    show own_G _ _ _ (T.setTop (mkF m 70 #[.val (.long p0), .second, .val (.long p1), .second, .val (.long v4), .second] [(.int (0 : Int32))])) _ _ _ _
    exact J70 _ _ X eT N v4 (0 : Int32) 
  have J65 : ∀ (T : State) (Lc : List Loc) (X : Stand p l e ({ frames := 0, cells := 0, slots := 0, locals := 0 } : Room) s m #[(.long p0), (.long p1)] below meth c T Lc 0 0) (eT : T.heap = h0) (N : Fr n0 Lc) (v4 : Int64) , own_G p.tables e below (T.setTop (mkF m 65 #[.val (.long p0), .second, .val (.long p1), .second, .val (.long v4), .second] [])) s ({ frames := 0, cells := 0, slots := 0, locals := 0 } : Room).cells ({ frames := 0, cells := 0, slots := 0, locals := 0 } : Room).slots (own_P n0 h0 (some (.int (own_ok_65 p0 p1 v4)))) := by
    intro T Lc X eT N v4 
    show own_G _ _ _ _ _ _ _ (own_P n0 h0 (some (.int ((own_ok_70 p0 p1 v4 (1 : Int32))))))
    refine own_go (fun t k => XS.iconst X.here hx rfl (hb hby d2_65) k) ?_
    show own_G _ _ _ (T.setTop (mkF m 66 #[.val (.long p0), .second, .val (.long p1), .second, .val (.long v4), .second] [(.int (1 : Int32))])) _ _ _ _
    refine own_go (fun t k => XS.goto X.here hx rfl (pc0 := 66) (pc' := 70) rfl (hb hby d2_66) (by decide) (by decide) k) ?_
    show own_G _ _ _ (T.setTop (mkF m 70 #[.val (.long p0), .second, .val (.long p1), .second, .val (.long v4), .second] [(.int (1 : Int32))])) _ _ _ _
    exact J70 _ _ X eT N v4 (1 : Int32) 
  have J19 : ∀ (T : State) (Lc : List Loc) (X : Stand p l e ({ frames := 0, cells := 0, slots := 0, locals := 0 } : Room) s m #[(.long p0), (.long p1)] below meth c T Lc 0 0) (eT : T.heap = h0) (N : Fr n0 Lc) (w0 : Int32) , own_G p.tables e below (T.setTop (mkF m 19 #[.val (.long p0), .second, .val (.long p1), .second, .unset, .unset] [(.int w0)])) s ({ frames := 0, cells := 0, slots := 0, locals := 0 } : Room).cells ({ frames := 0, cells := 0, slots := 0, locals := 0 } : Room).slots (own_P n0 h0 (some (.int (own_ok_19 p0 p1 w0)))) := by
    intro T Lc X eT N w0 
    show own_G _ _ _ _ _ _ _ (own_P n0 h0 (some (.int ((w0 &&& 1)))))
    exact own_endN X hx hlk (t := .boolean) Bd.returns (by simp) (hb hby d2_19) (by decide) (by decide) ⟨rfl, N, eT⟩
  show own_G p.tables e below (s₁.setTop (entryFrame m #[(.long p0), (.long p1)] 6)) s ({ frames := 0, cells := 0, slots := 0, locals := 0 } : Room).cells ({ frames := 0, cells := 0, slots := 0, locals := 0 } : Room).slots (own_P n0 h0 (some (.int ((if (135266304 : Int64) < p0 then (if (1048576 : Int64) < p1 then (if (268435456 : Int64) < p1 then (own_ok_69 p0 p1 (p0 - (134217728 : Int64))) else (if (p0 - (134217728 : Int64)) < p1 then (own_ok_69 p0 p1 (p0 - (134217728 : Int64))) else (if p1 = (268435456 : Int64) then (own_ok_65 p0 p1 (p0 - (134217728 : Int64))) else (if p1 = (p0 - (134217728 : Int64)) then (own_ok_65 p0 p1 (p0 - (134217728 : Int64))) else (own_ok_69 p0 p1 (p0 - (134217728 : Int64))))))) else (own_ok_69 p0 p1 (p0 - (134217728 : Int64)))) else (if p1 = (0 : Int64) then (own_ok_19 p0 p1 (1 : Int32)) else (own_ok_19 p0 p1 (0 : Int32))))))))
  refine own_go (fun t k => castTop (ef_2 m p0 p1) k) ?_
  refine own_go (fun t k => XS.lloadN X0.here hx rfl (hb hby d2_0) rfl k) ?_
  show own_G _ _ _ (s₁.setTop (mkF m 1 #[.val (.long p0), .second, .val (.long p1), .second, .unset, .unset] [(.long p0)])) _ _ _ _
  refine own_go (fun t k => X0.ldc2Long hx hown (mvT hZ (hw _ (List.mem_of_getElem? (i := 0) rfl))) (g := (mkF m 1 #[.val (.long p0), .second, .val (.long p1), .second, .unset, .unset] [(.long p0)])) rfl (hb hby d2_1) _ k) ?_
  show own_G _ _ _ (s₁.setTop (mkF m 4 #[.val (.long p0), .second, .val (.long p1), .second, .unset, .unset] [(.long (135266304 : Int64)), (.long p0)])) _ _ _ _
  refine own_go (fun t k => XS.lcmp X0.here hx rfl (hb hby d2_4) rfl k) ?_
  show own_G _ _ _ (s₁.setTop (mkF m 5 #[.val (.long p0), .second, .val (.long p1), .second, .unset, .unset] [(.int (lcmpW p0 (135266304 : Int64)))])) _ _ _ _
  by_cases hc1 : (135266304 : Int64) < p0
  · refine own_itI hc1 ?_
    refine own_go (fun t k => XS.ifYes X0.here hx rfl (pc0 := 5) (pc' := 20) rfl (hb hby d2_5) rfl ((if0 _ _).trans (tlt ((lw_gt _ _).mpr hc1)).2.2.1) (by decide) (by decide) k) ?_
    show own_G _ _ _ (s₁.setTop (mkF m 20 #[.val (.long p0), .second, .val (.long p1), .second, .unset, .unset] [])) _ _ _ _
    refine own_go (fun t k => XS.lloadN X0.here hx rfl (hb hby d2_20) rfl k) ?_
    show own_G _ _ _ (s₁.setTop (mkF m 21 #[.val (.long p0), .second, .val (.long p1), .second, .unset, .unset] [(.long p0)])) _ _ _ _
    refine own_go (fun t k => X0.ldc2Long hx hown (mvT hZ (hw _ (List.mem_of_getElem? (i := 16) rfl))) (g := (mkF m 21 #[.val (.long p0), .second, .val (.long p1), .second, .unset, .unset] [(.long p0)])) rfl (hb hby d2_21) _ k) ?_
    show own_G _ _ _ (s₁.setTop (mkF m 24 #[.val (.long p0), .second, .val (.long p1), .second, .unset, .unset] [(.long (134217728 : Int64)), (.long p0)])) _ _ _ _
    refine own_go (fun t k => XS.lsub X0.here hx rfl (hb hby d2_24) rfl k) ?_
    show own_G _ _ _ (s₁.setTop (mkF m 25 #[.val (.long p0), .second, .val (.long p1), .second, .unset, .unset] [(.long (p0 - (134217728 : Int64)))])) _ _ _ _
    refine own_go (fun t k => XS.lstore X0.here hx rfl (hb hby d2_25) rfl (l' := #[.val (.long p0), .second, .val (.long p1), .second, .val (.long (p0 - (134217728 : Int64))), .second]) rfl k) ?_
    show own_G _ _ _ (s₁.setTop (mkF m 27 #[.val (.long p0), .second, .val (.long p1), .second, .val (.long (p0 - (134217728 : Int64))), .second] [])) _ _ _ _
    refine own_go (fun t k => XS.lloadN X0.here hx rfl (hb hby d2_27) rfl k) ?_
    show own_G _ _ _ (s₁.setTop (mkF m 28 #[.val (.long p0), .second, .val (.long p1), .second, .val (.long (p0 - (134217728 : Int64))), .second] [(.long p1)])) _ _ _ _
    refine own_go (fun t k => X0.ldc2Long hx hown (mvT hZ (hw _ (List.mem_of_getElem? (i := 17) rfl))) (g := (mkF m 28 #[.val (.long p0), .second, .val (.long p1), .second, .val (.long (p0 - (134217728 : Int64))), .second] [(.long p1)])) rfl (hb hby d2_28) _ k) ?_
    show own_G _ _ _ (s₁.setTop (mkF m 31 #[.val (.long p0), .second, .val (.long p1), .second, .val (.long (p0 - (134217728 : Int64))), .second] [(.long (1048576 : Int64)), (.long p1)])) _ _ _ _
    refine own_go (fun t k => XS.lcmp X0.here hx rfl (hb hby d2_31) rfl k) ?_
    show own_G _ _ _ (s₁.setTop (mkF m 32 #[.val (.long p0), .second, .val (.long p1), .second, .val (.long (p0 - (134217728 : Int64))), .second] [(.int (lcmpW p1 (1048576 : Int64)))])) _ _ _ _
    by_cases hc2 : (1048576 : Int64) < p1
    · refine own_itI hc2 ?_
      refine own_go (fun t k => XS.ifNo X0.here hx rfl (hb hby d2_32) rfl ((if0 _ _).trans (tlt ((lw_gt _ _).mpr hc2)).2.2.2) k) ?_
      show own_G _ _ _ (s₁.setTop (mkF m 35 #[.val (.long p0), .second, .val (.long p1), .second, .val (.long (p0 - (134217728 : Int64))), .second] [])) _ _ _ _
      refine own_go (fun t k => XS.lloadN X0.here hx rfl (hb hby d2_35) rfl k) ?_
      show own_G _ _ _ (s₁.setTop (mkF m 36 #[.val (.long p0), .second, .val (.long p1), .second, .val (.long (p0 - (134217728 : Int64))), .second] [(.long p1)])) _ _ _ _
      refine own_go (fun t k => X0.ldc2Long hx hown (mvT hZ (hw _ (List.mem_of_getElem? (i := 18) rfl))) (g := (mkF m 36 #[.val (.long p0), .second, .val (.long p1), .second, .val (.long (p0 - (134217728 : Int64))), .second] [(.long p1)])) rfl (hb hby d2_36) _ k) ?_
      show own_G _ _ _ (s₁.setTop (mkF m 39 #[.val (.long p0), .second, .val (.long p1), .second, .val (.long (p0 - (134217728 : Int64))), .second] [(.long (268435456 : Int64)), (.long p1)])) _ _ _ _
      refine own_go (fun t k => XS.lcmp X0.here hx rfl (hb hby d2_39) rfl k) ?_
      show own_G _ _ _ (s₁.setTop (mkF m 40 #[.val (.long p0), .second, .val (.long p1), .second, .val (.long (p0 - (134217728 : Int64))), .second] [(.int (lcmpW p1 (268435456 : Int64)))])) _ _ _ _
      by_cases hc3 : (268435456 : Int64) < p1
      · refine own_itI hc3 ?_
        refine own_go (fun t k => XS.ifYes X0.here hx rfl (pc0 := 40) (pc' := 69) rfl (hb hby d2_40) rfl ((if0 _ _).trans (tlt ((lw_gt _ _).mpr hc3)).2.2.1) (by decide) (by decide) k) ?_
        show own_G _ _ _ (s₁.setTop (mkF m 69 #[.val (.long p0), .second, .val (.long p1), .second, .val (.long (p0 - (134217728 : Int64))), .second] [])) _ _ _ _
        exact J69 _ _ X0 e0 N0 (p0 - (134217728 : Int64)) 
      · refine own_ifI hc3 ?_
        refine own_go (fun t k => XS.ifNo X0.here hx rfl (hb hby d2_40) rfl ((if0 _ _).trans (flt (fun q => hc3 ((lw_gt _ _).mp q))).2.2.1) k) ?_
        show own_G _ _ _ (s₁.setTop (mkF m 43 #[.val (.long p0), .second, .val (.long p1), .second, .val (.long (p0 - (134217728 : Int64))), .second] [])) _ _ _ _
        refine own_go (fun t k => XS.lloadN X0.here hx rfl (hb hby d2_43) rfl k) ?_
        show own_G _ _ _ (s₁.setTop (mkF m 44 #[.val (.long p0), .second, .val (.long p1), .second, .val (.long (p0 - (134217728 : Int64))), .second] [(.long p1)])) _ _ _ _
        refine own_go (fun t k => XS.lload X0.here hx rfl (hb hby d2_44) rfl k) ?_
        show own_G _ _ _ (s₁.setTop (mkF m 46 #[.val (.long p0), .second, .val (.long p1), .second, .val (.long (p0 - (134217728 : Int64))), .second] [(.long (p0 - (134217728 : Int64))), (.long p1)])) _ _ _ _
        refine own_go (fun t k => XS.lcmp X0.here hx rfl (hb hby d2_46) rfl k) ?_
        show own_G _ _ _ (s₁.setTop (mkF m 47 #[.val (.long p0), .second, .val (.long p1), .second, .val (.long (p0 - (134217728 : Int64))), .second] [(.int (lcmpW p1 (p0 - (134217728 : Int64))))])) _ _ _ _
        by_cases hc4 : (p0 - (134217728 : Int64)) < p1
        · refine own_itI hc4 ?_
          refine own_go (fun t k => XS.ifYes X0.here hx rfl (pc0 := 47) (pc' := 69) rfl (hb hby d2_47) rfl ((if0 _ _).trans (tlt ((lw_gt _ _).mpr hc4)).2.2.1) (by decide) (by decide) k) ?_
          show own_G _ _ _ (s₁.setTop (mkF m 69 #[.val (.long p0), .second, .val (.long p1), .second, .val (.long (p0 - (134217728 : Int64))), .second] [])) _ _ _ _
          exact J69 _ _ X0 e0 N0 (p0 - (134217728 : Int64)) 
        · refine own_ifI hc4 ?_
          refine own_go (fun t k => XS.ifNo X0.here hx rfl (hb hby d2_47) rfl ((if0 _ _).trans (flt (fun q => hc4 ((lw_gt _ _).mp q))).2.2.1) k) ?_
          show own_G _ _ _ (s₁.setTop (mkF m 50 #[.val (.long p0), .second, .val (.long p1), .second, .val (.long (p0 - (134217728 : Int64))), .second] [])) _ _ _ _
          refine own_go (fun t k => XS.lloadN X0.here hx rfl (hb hby d2_50) rfl k) ?_
          show own_G _ _ _ (s₁.setTop (mkF m 51 #[.val (.long p0), .second, .val (.long p1), .second, .val (.long (p0 - (134217728 : Int64))), .second] [(.long p1)])) _ _ _ _
          refine own_go (fun t k => X0.ldc2Long hx hown (mvT hZ (hw _ (List.mem_of_getElem? (i := 18) rfl))) (g := (mkF m 51 #[.val (.long p0), .second, .val (.long p1), .second, .val (.long (p0 - (134217728 : Int64))), .second] [(.long p1)])) rfl (hb hby d2_51) _ k) ?_
          show own_G _ _ _ (s₁.setTop (mkF m 54 #[.val (.long p0), .second, .val (.long p1), .second, .val (.long (p0 - (134217728 : Int64))), .second] [(.long (268435456 : Int64)), (.long p1)])) _ _ _ _
          refine own_go (fun t k => XS.lcmp X0.here hx rfl (hb hby d2_54) rfl k) ?_
          show own_G _ _ _ (s₁.setTop (mkF m 55 #[.val (.long p0), .second, .val (.long p1), .second, .val (.long (p0 - (134217728 : Int64))), .second] [(.int (lcmpW p1 (268435456 : Int64)))])) _ _ _ _
          by_cases hc5 : p1 = (268435456 : Int64)
          · refine own_itI hc5 ?_
            refine own_go (fun t k => XS.ifYes X0.here hx rfl (pc0 := 55) (pc' := 65) rfl (hb hby d2_55) rfl ((if0 _ _).trans (teq ((lw_eq _ _).mpr hc5)).1) (by decide) (by decide) k) ?_
            show own_G _ _ _ (s₁.setTop (mkF m 65 #[.val (.long p0), .second, .val (.long p1), .second, .val (.long (p0 - (134217728 : Int64))), .second] [])) _ _ _ _
            exact J65 _ _ X0 e0 N0 (p0 - (134217728 : Int64)) 
          · refine own_ifI hc5 ?_
            refine own_go (fun t k => XS.ifNo X0.here hx rfl (hb hby d2_55) rfl ((if0 _ _).trans (feq (fun q => hc5 ((lw_eq _ _).mp q))).1) k) ?_
            show own_G _ _ _ (s₁.setTop (mkF m 58 #[.val (.long p0), .second, .val (.long p1), .second, .val (.long (p0 - (134217728 : Int64))), .second] [])) _ _ _ _
            refine own_go (fun t k => XS.lloadN X0.here hx rfl (hb hby d2_58) rfl k) ?_
            show own_G _ _ _ (s₁.setTop (mkF m 59 #[.val (.long p0), .second, .val (.long p1), .second, .val (.long (p0 - (134217728 : Int64))), .second] [(.long p1)])) _ _ _ _
            refine own_go (fun t k => XS.lload X0.here hx rfl (hb hby d2_59) rfl k) ?_
            show own_G _ _ _ (s₁.setTop (mkF m 61 #[.val (.long p0), .second, .val (.long p1), .second, .val (.long (p0 - (134217728 : Int64))), .second] [(.long (p0 - (134217728 : Int64))), (.long p1)])) _ _ _ _
            refine own_go (fun t k => XS.lcmp X0.here hx rfl (hb hby d2_61) rfl k) ?_
            show own_G _ _ _ (s₁.setTop (mkF m 62 #[.val (.long p0), .second, .val (.long p1), .second, .val (.long (p0 - (134217728 : Int64))), .second] [(.int (lcmpW p1 (p0 - (134217728 : Int64))))])) _ _ _ _
            by_cases hc6 : p1 = (p0 - (134217728 : Int64))
            · refine own_itI hc6 ?_
              refine own_go (fun t k => XS.ifNo X0.here hx rfl (hb hby d2_62) rfl ((if0 _ _).trans (teq ((lw_eq _ _).mpr hc6)).2) k) ?_
              show own_G _ _ _ (s₁.setTop (mkF m 65 #[.val (.long p0), .second, .val (.long p1), .second, .val (.long (p0 - (134217728 : Int64))), .second] [])) _ _ _ _
              exact J65 _ _ X0 e0 N0 (p0 - (134217728 : Int64)) 
            · refine own_ifI hc6 ?_
              refine own_go (fun t k => XS.ifYes X0.here hx rfl (pc0 := 62) (pc' := 69) rfl (hb hby d2_62) rfl ((if0 _ _).trans (feq (fun q => hc6 ((lw_eq _ _).mp q))).2) (by decide) (by decide) k) ?_
              show own_G _ _ _ (s₁.setTop (mkF m 69 #[.val (.long p0), .second, .val (.long p1), .second, .val (.long (p0 - (134217728 : Int64))), .second] [])) _ _ _ _
              exact J69 _ _ X0 e0 N0 (p0 - (134217728 : Int64)) 
    · refine own_ifI hc2 ?_
      refine own_go (fun t k => XS.ifYes X0.here hx rfl (pc0 := 32) (pc' := 69) rfl (hb hby d2_32) rfl ((if0 _ _).trans (flt (fun q => hc2 ((lw_gt _ _).mp q))).2.2.2) (by decide) (by decide) k) ?_
      show own_G _ _ _ (s₁.setTop (mkF m 69 #[.val (.long p0), .second, .val (.long p1), .second, .val (.long (p0 - (134217728 : Int64))), .second] [])) _ _ _ _
      exact J69 _ _ X0 e0 N0 (p0 - (134217728 : Int64)) 
  · refine own_ifI hc1 ?_
    refine own_go (fun t k => XS.ifNo X0.here hx rfl (hb hby d2_5) rfl ((if0 _ _).trans (flt (fun q => hc1 ((lw_gt _ _).mp q))).2.2.1) k) ?_
    show own_G _ _ _ (s₁.setTop (mkF m 8 #[.val (.long p0), .second, .val (.long p1), .second, .unset, .unset] [])) _ _ _ _
    refine own_go (fun t k => XS.lloadN X0.here hx rfl (hb hby d2_8) rfl k) ?_
    show own_G _ _ _ (s₁.setTop (mkF m 9 #[.val (.long p0), .second, .val (.long p1), .second, .unset, .unset] [(.long p1)])) _ _ _ _
    refine own_go (fun t k => XS.lconst X0.here hx rfl (hb hby d2_9) k) ?_
    show own_G _ _ _ (s₁.setTop (mkF m 10 #[.val (.long p0), .second, .val (.long p1), .second, .unset, .unset] [(.long (0 : Int64)), (.long p1)])) _ _ _ _
    refine own_go (fun t k => XS.lcmp X0.here hx rfl (hb hby d2_10) rfl k) ?_
    show own_G _ _ _ (s₁.setTop (mkF m 11 #[.val (.long p0), .second, .val (.long p1), .second, .unset, .unset] [(.int (lcmpW p1 (0 : Int64)))])) _ _ _ _
    by_cases hc7 : p1 = (0 : Int64)
    · refine own_itI hc7 ?_
      refine own_go (fun t k => XS.ifNo X0.here hx rfl (hb hby d2_11) rfl ((if0 _ _).trans (teq ((lw_eq _ _).mpr hc7)).2) k) ?_
      show own_G _ _ _ (s₁.setTop (mkF m 14 #[.val (.long p0), .second, .val (.long p1), .second, .unset, .unset] [])) _ _ _ _
      refine own_go (fun t k => XS.iconst X0.here hx rfl (hb hby d2_14) k) ?_
      show own_G _ _ _ (s₁.setTop (mkF m 15 #[.val (.long p0), .second, .val (.long p1), .second, .unset, .unset] [(.int (1 : Int32))])) _ _ _ _
      refine own_go (fun t k => XS.goto X0.here hx rfl (pc0 := 15) (pc' := 19) rfl (hb hby d2_15) (by decide) (by decide) k) ?_
      show own_G _ _ _ (s₁.setTop (mkF m 19 #[.val (.long p0), .second, .val (.long p1), .second, .unset, .unset] [(.int (1 : Int32))])) _ _ _ _
      exact J19 _ _ X0 e0 N0 (1 : Int32) 
    · refine own_ifI hc7 ?_
      refine own_go (fun t k => XS.ifYes X0.here hx rfl (pc0 := 11) (pc' := 18) rfl (hb hby d2_11) rfl ((if0 _ _).trans (feq (fun q => hc7 ((lw_eq _ _).mp q))).2) (by decide) (by decide) k) ?_
      show own_G _ _ _ (s₁.setTop (mkF m 18 #[.val (.long p0), .second, .val (.long p1), .second, .unset, .unset] [])) _ _ _ _
      refine own_go (fun t k => XS.iconst X0.here hx rfl (hb hby d2_18) k) ?_
      show own_G _ _ _ (s₁.setTop (mkF m 19 #[.val (.long p0), .second, .val (.long p1), .second, .unset, .unset] [(.int (0 : Int32))])) _ _ _ _
      exact J19 _ _ X0 e0 N0 (0 : Int32) 
theorem pd_1 : parseMethodDescriptor "(JJ)Z" = some ⟨[.long, .long], some .boolean⟩ := by decide +kernel
theorem pd_2 : parseMethodDescriptor "(J)J" = some ⟨[.long], some .long⟩ := by decide +kernel
def own_law_103 (p0 : Int64) (p1 : Int64) (p2 : Int32) (v5 : Int64) (v7 : Int64) (v9 : Int64) (v11 : Int64) (v13 : Int32) (w0 : Int32) : Int32 := (w0 &&& 1)
def own_law_102 (p0 : Int64) (p1 : Int64) (p2 : Int32) (v5 : Int64) (v7 : Int64) (v9 : Int64) (v11 : Int64) (v13 : Int32) : Int32 := (own_law_103 p0 p1 p2 v5 v7 v9 v11 v13 (0 : Int32))
def own_law_63 (p0 : Int64) (p1 : Int64) (p2 : Int32) (v5 : Int64) (v7 : Int64) (v9 : Int64) (v11 : Int64) (w0 : Int32) : Int32 := (if (own_ok p0 v7) = (0 : Int32) then (own_law_102 p0 p1 p2 v5 v7 v9 v11 w0) else (if (own_ok p1 v9) = (0 : Int32) then (own_law_102 p0 p1 p2 v5 v7 v9 v11 w0) else (if (own_ok v5 v11) = (0 : Int32) then (own_law_102 p0 p1 p2 v5 v7 v9 v11 w0) else (if w0 = (0 : Int32) then (own_law_102 p0 p1 p2 v5 v7 v9 v11 w0) else (own_law_103 p0 p1 p2 v5 v7 v9 v11 w0 (1 : Int32))))))
def own_law (p0 : Int64) (p1 : Int64) (p2 : Int32) : Int32 := (if p1 < p0 then (if (own_size p0) < (own_size p1) then (own_law_63 p0 p1 p2 ((135266304 : Int64) + p2.toInt64) (own_size p0) (own_size p1) (own_size ((135266304 : Int64) + p2.toInt64)) (0 : Int32)) else (own_law_63 p0 p1 p2 ((135266304 : Int64) + p2.toInt64) (own_size p0) (own_size p1) (own_size ((135266304 : Int64) + p2.toInt64)) (1 : Int32))) else (if (own_size p1) < (own_size p0) then (own_law_63 p0 p1 p2 ((135266304 : Int64) + p2.toInt64) (own_size p0) (own_size p1) (own_size ((135266304 : Int64) + p2.toInt64)) (0 : Int32)) else (own_law_63 p0 p1 p2 ((135266304 : Int64) + p2.toInt64) (own_size p0) (own_size p1) (own_size ((135266304 : Int64) + p2.toInt64)) (1 : Int32))))
theorem ef_0 (m : MethodId) (p0 : Int64) (p1 : Int64) (p2 : Int32) : entryFrame m #[(.long p0), (.long p1), (.int p2)] maxLocals = mkF m 0 #[.val (.long p0), .second, .val (.long p1), .second, .val (.int p2), .unset, .unset, .unset, .unset, .unset, .unset, .unset, .unset, .unset] [] := by first | (simp [entryFrame, mkF, argsToLocals, Value.category, maxLocals]; done) | rfl
set_option maxRecDepth 65536 in
set_option maxHeartbeats 40000000 in
theorem rm0 (l : Launch) (Z : State) (a0 : Array Value) (hw : ∀ d ∈ tables_1, d.before a0 Z = true) (ws : List Jvm.Cond) (p0 : Int64) (p1 : Int64) (p2 : Int32) (h0 : Heap) (n0 : Nat) :
    MetFree l x (head1 (Jvm.Cond.code x code maxLocals ret :: ws) room_1) (fun a U => a = #[(.long p0), (.long p1), (.int p2)] ∧ Z.Warmed39 U.vm ∧ U.heap = h0) (fun _ _ _ _ _ => True) (fun _ U o U' => ∃ v L, o = .returned v ∧ (own_P n0 h0 (some (.int (own_law p0 p1 p2)))) v U'.heap L ∧ FrameEnd U o U' L room_1.cells room_1.slots) := by
  refine MetFree.of_bodySF (plainFor_of_name pn_1) hisR ?_
  intro p e s m args below meth c s₁ Bd hml0 hP hK
  obtain ⟨rfl, hZ, hh⟩ := hP
  have hx := Bd.exec
  have hby := Bd.bytes
  have hml : c.maxLocals = 14 := hml0
  have hown : s.vm.findClass "com/example/hence/hence/cli/CommandThreadStackSizePinLaw" = some m.cls := findClass_of_methodNamed Bd.named
  have hnm := (name_of_methodNamed Bd.named Bd.method).1
  have hlk : meth.locks = false := BodyLoose.notSynchronized Bd
  have X0 : Stand p l e room_1 s m #[(.long p0), (.long p1), (.int p2)] below meth c s₁ [] 0 0 := Stand.of_body Bd
  have e0 : s₁.heap = h0 := by rw [← hh, Bd.state]; rfl
  have N0 := Fr.nil n0
  have J103 : ∀ (T : State) (Lc : List Loc) (X : Stand p l e room_1 s m #[(.long p0), (.long p1), (.int p2)] below meth c T Lc 0 0) (eT : T.heap = h0) (N : Fr n0 Lc) (v5 : Int64) (v7 : Int64) (v9 : Int64) (v11 : Int64) (v13 : Int32) (w0 : Int32) , own_G p.tables e below (T.setTop (mkF m 103 #[.val (.long p0), .second, .val (.long p1), .second, .val (.int p2), .val (.long v5), .second, .val (.long v7), .second, .val (.long v9), .second, .val (.long v11), .second, .val (.int v13)] [(.int w0)])) s room_1.cells room_1.slots (own_P n0 h0 (some (.int (own_law_103 p0 p1 p2 v5 v7 v9 v11 v13 w0)))) := by
    intro T Lc X eT N v5 v7 v9 v11 v13 w0 
    show own_G _ _ _ _ _ _ _ (own_P n0 h0 (some (.int ((w0 &&& 1)))))
    exact own_endN X hx hlk (t := .boolean) Bd.returns (by simp) (hb hby at_103) (by decide) (by decide) ⟨rfl, N, eT⟩
  have J102 : ∀ (T : State) (Lc : List Loc) (X : Stand p l e room_1 s m #[(.long p0), (.long p1), (.int p2)] below meth c T Lc 0 0) (eT : T.heap = h0) (N : Fr n0 Lc) (v5 : Int64) (v7 : Int64) (v9 : Int64) (v11 : Int64) (v13 : Int32) , own_G p.tables e below (T.setTop (mkF m 102 #[.val (.long p0), .second, .val (.long p1), .second, .val (.int p2), .val (.long v5), .second, .val (.long v7), .second, .val (.long v9), .second, .val (.long v11), .second, .val (.int v13)] [])) s room_1.cells room_1.slots (own_P n0 h0 (some (.int (own_law_102 p0 p1 p2 v5 v7 v9 v11 v13)))) := by
    intro T Lc X eT N v5 v7 v9 v11 v13 
    show own_G _ _ _ _ _ _ _ (own_P n0 h0 (some (.int ((own_law_103 p0 p1 p2 v5 v7 v9 v11 v13 (0 : Int32))))))
    refine own_go (fun t k => XS.iconst X.here hx rfl (hb hby at_102) k) ?_
    show own_G _ _ _ (T.setTop (mkF m 103 #[.val (.long p0), .second, .val (.long p1), .second, .val (.int p2), .val (.long v5), .second, .val (.long v7), .second, .val (.long v9), .second, .val (.long v11), .second, .val (.int v13)] [(.int (0 : Int32))])) _ _ _ _
    exact J103 _ _ X eT N v5 v7 v9 v11 v13 (0 : Int32) 
  have J63 : ∀ (T : State) (Lc : List Loc) (X : Stand p l e room_1 s m #[(.long p0), (.long p1), (.int p2)] below meth c T Lc 0 0) (eT : T.heap = h0) (N : Fr n0 Lc) (v5 : Int64) (v7 : Int64) (v9 : Int64) (v11 : Int64) (w0 : Int32) , own_G p.tables e below (T.setTop (mkF m 63 #[.val (.long p0), .second, .val (.long p1), .second, .val (.int p2), .val (.long v5), .second, .val (.long v7), .second, .val (.long v9), .second, .val (.long v11), .second, .unset] [(.int w0)])) s room_1.cells room_1.slots (own_P n0 h0 (some (.int (own_law_63 p0 p1 p2 v5 v7 v9 v11 w0)))) := by
    intro T Lc X eT N v5 v7 v9 v11 w0 
    show own_G _ _ _ _ _ _ _ (own_P n0 h0 (some (.int ((if (own_ok p0 v7) = (0 : Int32) then (own_law_102 p0 p1 p2 v5 v7 v9 v11 w0) else (if (own_ok p1 v9) = (0 : Int32) then (own_law_102 p0 p1 p2 v5 v7 v9 v11 w0) else (if (own_ok v5 v11) = (0 : Int32) then (own_law_102 p0 p1 p2 v5 v7 v9 v11 w0) else (if w0 = (0 : Int32) then (own_law_102 p0 p1 p2 v5 v7 v9 v11 w0) else (own_law_103 p0 p1 p2 v5 v7 v9 v11 w0 (1 : Int32))))))))))
    refine own_go (fun t k => XS.istore X.here hx rfl (hb hby at_63) rfl (l' := #[.val (.long p0), .second, .val (.long p1), .second, .val (.int p2), .val (.long v5), .second, .val (.long v7), .second, .val (.long v9), .second, .val (.long v11), .second, .val (.int w0)]) rfl k) ?_
    show own_G _ _ _ (T.setTop (mkF m 65 #[.val (.long p0), .second, .val (.long p1), .second, .val (.int p2), .val (.long v5), .second, .val (.long v7), .second, .val (.long v9), .second, .val (.long v11), .second, .val (.int w0)] [])) _ _ _ _
    refine own_go (fun t k => XS.lloadN X.here hx rfl (hb hby at_65) rfl k) ?_
    show own_G _ _ _ (T.setTop (mkF m 66 #[.val (.long p0), .second, .val (.long p1), .second, .val (.int p2), .val (.long v5), .second, .val (.long v7), .second, .val (.long v9), .second, .val (.long v11), .second, .val (.int w0)] [(.long p0)])) _ _ _ _
    refine own_go (fun t k => XS.lload X.here hx rfl (hb hby at_66) rfl k) ?_
    show own_G _ _ _ (T.setTop (mkF m 68 #[.val (.long p0), .second, .val (.long p1), .second, .val (.int p2), .val (.long v5), .second, .val (.long v7), .second, .val (.long v9), .second, .val (.long v11), .second, .val (.int w0)] [(.long v7), (.long p0)])) _ _ _ _
    obtain ⟨_, _, ⟨T1, L1, k1, n1⟩, -, X1, ⟨Lc1, hQ1, l1, y1, z1⟩, st1⟩ := Jvm.LawKit.callS X hx (y := (⟨"com/example/hence/hence/cli/CommandThreadStackSizePinLaw", "ok", "(JJ)Z"⟩ : MethodName)) hown (mvT hZ (hw _ (List.mem_of_getElem? (i := 6) rfl))) (mvT hZ (hw _ (List.mem_of_getElem? (i := 7) rfl))) (mvT hZ (hw _ (List.mem_of_getElem? (i := 8) rfl))) (mvT hZ (hw _ (List.mem_of_getElem? (i := 9) rfl))) (by decide) (backOf (W := 0) (rm2 l Z a0 hw [] p0 v7  h0 n0 ) hZ (hw _ (List.mem_of_getElem? (i := 9) rfl)) (hw _ (List.mem_of_getElem? (i := 8) rfl)) (by decide) (by decide)) (g := (mkF m 68 #[.val (.long p0), .second, .val (.long p1), .second, .val (.int p2), .val (.long v5), .second, .val (.long v7), .second, .val (.long v9), .second, .val (.long v11), .second, .val (.int w0)] [(.long v7), (.long p0)])) rfl (by rw [hml]; rfl) (argsL := [(.long p0), (.long v7)]) (rest := []) (lenOf pd_1 rfl) rfl (by show 2 * 0 + _ ≤ _; exact Nat.le_of_eq rfl) (hb hby at_68) (fun _ _ => ⟨rfl, eT, (by decide : 0 + 0 ≤ _), (by decide : 0 + 0 ≤ _)⟩)
    dsimp only [Pt.U, Pt.locs, Pt.cells, Pt.slots] at X1 l1 y1 z1 st1 hQ1
    subst l1 y1 z1
    obtain ⟨rfl, N1q, e1⟩ := hQ1
    have N1 := Fr.app N N1q
    refine own_go (fun t k => st1 _ k) ?_
    show own_G _ _ _ (T1.setTop (mkF m 71 #[.val (.long p0), .second, .val (.long p1), .second, .val (.int p2), .val (.long v5), .second, .val (.long v7), .second, .val (.long v9), .second, .val (.long v11), .second, .val (.int w0)] [(.int (own_ok p0 v7))])) _ _ _ _
    by_cases hc2 : (own_ok p0 v7) = (0 : Int32)
    · refine own_itI hc2 ?_
      refine own_go (fun t k => XS.ifYes X1.here hx rfl (pc0 := 71) (pc' := 102) rfl (hb hby at_71) rfl ((if0 _ _).trans (teq hc2).1) (by decide) (by decide) k) ?_
      show own_G _ _ _ (T1.setTop (mkF m 102 #[.val (.long p0), .second, .val (.long p1), .second, .val (.int p2), .val (.long v5), .second, .val (.long v7), .second, .val (.long v9), .second, .val (.long v11), .second, .val (.int w0)] [])) _ _ _ _
      exact J102 _ _ X1 e1 N1 v5 v7 v9 v11 w0 
    · refine own_ifI hc2 ?_
      refine own_go (fun t k => XS.ifNo X1.here hx rfl (hb hby at_71) rfl ((if0 _ _).trans (feq hc2).1) k) ?_
      show own_G _ _ _ (T1.setTop (mkF m 74 #[.val (.long p0), .second, .val (.long p1), .second, .val (.int p2), .val (.long v5), .second, .val (.long v7), .second, .val (.long v9), .second, .val (.long v11), .second, .val (.int w0)] [])) _ _ _ _
      refine own_go (fun t k => XS.lloadN X1.here hx rfl (hb hby at_74) rfl k) ?_
      show own_G _ _ _ (T1.setTop (mkF m 75 #[.val (.long p0), .second, .val (.long p1), .second, .val (.int p2), .val (.long v5), .second, .val (.long v7), .second, .val (.long v9), .second, .val (.long v11), .second, .val (.int w0)] [(.long p1)])) _ _ _ _
      refine own_go (fun t k => XS.lload X1.here hx rfl (hb hby at_75) rfl k) ?_
      show own_G _ _ _ (T1.setTop (mkF m 77 #[.val (.long p0), .second, .val (.long p1), .second, .val (.int p2), .val (.long v5), .second, .val (.long v7), .second, .val (.long v9), .second, .val (.long v11), .second, .val (.int w0)] [(.long v9), (.long p1)])) _ _ _ _
      obtain ⟨_, _, ⟨T3, L3, k3, n3⟩, -, X3, ⟨Lc3, hQ3, l3, y3, z3⟩, st3⟩ := Jvm.LawKit.callS X1 hx (y := (⟨"com/example/hence/hence/cli/CommandThreadStackSizePinLaw", "ok", "(JJ)Z"⟩ : MethodName)) hown (mvT hZ (hw _ (List.mem_of_getElem? (i := 6) rfl))) (mvT hZ (hw _ (List.mem_of_getElem? (i := 7) rfl))) (mvT hZ (hw _ (List.mem_of_getElem? (i := 8) rfl))) (mvT hZ (hw _ (List.mem_of_getElem? (i := 9) rfl))) (by decide) (backOf (W := 0) (rm2 l Z a0 hw [] p1 v9  h0 n0 ) hZ (hw _ (List.mem_of_getElem? (i := 9) rfl)) (hw _ (List.mem_of_getElem? (i := 8) rfl)) (by decide) (by decide)) (g := (mkF m 77 #[.val (.long p0), .second, .val (.long p1), .second, .val (.int p2), .val (.long v5), .second, .val (.long v7), .second, .val (.long v9), .second, .val (.long v11), .second, .val (.int w0)] [(.long v9), (.long p1)])) rfl (by rw [hml]; rfl) (argsL := [(.long p1), (.long v9)]) (rest := []) (lenOf pd_1 rfl) rfl (by show 2 * 0 + _ ≤ _; exact Nat.le_of_eq rfl) (hb hby at_77) (fun _ _ => ⟨rfl, e1, (by decide : 0 + 0 ≤ _), (by decide : 0 + 0 ≤ _)⟩)
      dsimp only [Pt.U, Pt.locs, Pt.cells, Pt.slots] at X3 l3 y3 z3 st3 hQ3
      subst l3 y3 z3
      obtain ⟨rfl, N3q, e3⟩ := hQ3
      have N3 := Fr.app N1 N3q
      refine own_go (fun t k => st3 _ k) ?_
      show own_G _ _ _ (T3.setTop (mkF m 80 #[.val (.long p0), .second, .val (.long p1), .second, .val (.int p2), .val (.long v5), .second, .val (.long v7), .second, .val (.long v9), .second, .val (.long v11), .second, .val (.int w0)] [(.int (own_ok p1 v9))])) _ _ _ _
      by_cases hc4 : (own_ok p1 v9) = (0 : Int32)
      · refine own_itI hc4 ?_
        refine own_go (fun t k => XS.ifYes X3.here hx rfl (pc0 := 80) (pc' := 102) rfl (hb hby at_80) rfl ((if0 _ _).trans (teq hc4).1) (by decide) (by decide) k) ?_
        show own_G _ _ _ (T3.setTop (mkF m 102 #[.val (.long p0), .second, .val (.long p1), .second, .val (.int p2), .val (.long v5), .second, .val (.long v7), .second, .val (.long v9), .second, .val (.long v11), .second, .val (.int w0)] [])) _ _ _ _
        exact J102 _ _ X3 e3 N3 v5 v7 v9 v11 w0 
      · refine own_ifI hc4 ?_
        refine own_go (fun t k => XS.ifNo X3.here hx rfl (hb hby at_80) rfl ((if0 _ _).trans (feq hc4).1) k) ?_
        show own_G _ _ _ (T3.setTop (mkF m 83 #[.val (.long p0), .second, .val (.long p1), .second, .val (.int p2), .val (.long v5), .second, .val (.long v7), .second, .val (.long v9), .second, .val (.long v11), .second, .val (.int w0)] [])) _ _ _ _
        refine own_go (fun t k => XS.lload X3.here hx rfl (hb hby at_83) rfl k) ?_
        show own_G _ _ _ (T3.setTop (mkF m 85 #[.val (.long p0), .second, .val (.long p1), .second, .val (.int p2), .val (.long v5), .second, .val (.long v7), .second, .val (.long v9), .second, .val (.long v11), .second, .val (.int w0)] [(.long v5)])) _ _ _ _
        refine own_go (fun t k => XS.lload X3.here hx rfl (hb hby at_85) rfl k) ?_
        show own_G _ _ _ (T3.setTop (mkF m 87 #[.val (.long p0), .second, .val (.long p1), .second, .val (.int p2), .val (.long v5), .second, .val (.long v7), .second, .val (.long v9), .second, .val (.long v11), .second, .val (.int w0)] [(.long v11), (.long v5)])) _ _ _ _
        obtain ⟨_, _, ⟨T5, L5, k5, n5⟩, -, X5, ⟨Lc5, hQ5, l5, y5, z5⟩, st5⟩ := Jvm.LawKit.callS X3 hx (y := (⟨"com/example/hence/hence/cli/CommandThreadStackSizePinLaw", "ok", "(JJ)Z"⟩ : MethodName)) hown (mvT hZ (hw _ (List.mem_of_getElem? (i := 6) rfl))) (mvT hZ (hw _ (List.mem_of_getElem? (i := 7) rfl))) (mvT hZ (hw _ (List.mem_of_getElem? (i := 8) rfl))) (mvT hZ (hw _ (List.mem_of_getElem? (i := 9) rfl))) (by decide) (backOf (W := 0) (rm2 l Z a0 hw [] v5 v11  h0 n0 ) hZ (hw _ (List.mem_of_getElem? (i := 9) rfl)) (hw _ (List.mem_of_getElem? (i := 8) rfl)) (by decide) (by decide)) (g := (mkF m 87 #[.val (.long p0), .second, .val (.long p1), .second, .val (.int p2), .val (.long v5), .second, .val (.long v7), .second, .val (.long v9), .second, .val (.long v11), .second, .val (.int w0)] [(.long v11), (.long v5)])) rfl (by rw [hml]; rfl) (argsL := [(.long v5), (.long v11)]) (rest := []) (lenOf pd_1 rfl) rfl (by show 2 * 0 + _ ≤ _; exact Nat.le_of_eq rfl) (hb hby at_87) (fun _ _ => ⟨rfl, e3, (by decide : 0 + 0 ≤ _), (by decide : 0 + 0 ≤ _)⟩)
        dsimp only [Pt.U, Pt.locs, Pt.cells, Pt.slots] at X5 l5 y5 z5 st5 hQ5
        subst l5 y5 z5
        obtain ⟨rfl, N5q, e5⟩ := hQ5
        have N5 := Fr.app N3 N5q
        refine own_go (fun t k => st5 _ k) ?_
        show own_G _ _ _ (T5.setTop (mkF m 90 #[.val (.long p0), .second, .val (.long p1), .second, .val (.int p2), .val (.long v5), .second, .val (.long v7), .second, .val (.long v9), .second, .val (.long v11), .second, .val (.int w0)] [(.int (own_ok v5 v11))])) _ _ _ _
        by_cases hc6 : (own_ok v5 v11) = (0 : Int32)
        · refine own_itI hc6 ?_
          refine own_go (fun t k => XS.ifYes X5.here hx rfl (pc0 := 90) (pc' := 102) rfl (hb hby at_90) rfl ((if0 _ _).trans (teq hc6).1) (by decide) (by decide) k) ?_
          show own_G _ _ _ (T5.setTop (mkF m 102 #[.val (.long p0), .second, .val (.long p1), .second, .val (.int p2), .val (.long v5), .second, .val (.long v7), .second, .val (.long v9), .second, .val (.long v11), .second, .val (.int w0)] [])) _ _ _ _
          exact J102 _ _ X5 e5 N5 v5 v7 v9 v11 w0 
        · refine own_ifI hc6 ?_
          refine own_go (fun t k => XS.ifNo X5.here hx rfl (hb hby at_90) rfl ((if0 _ _).trans (feq hc6).1) k) ?_
          show own_G _ _ _ (T5.setTop (mkF m 93 #[.val (.long p0), .second, .val (.long p1), .second, .val (.int p2), .val (.long v5), .second, .val (.long v7), .second, .val (.long v9), .second, .val (.long v11), .second, .val (.int w0)] [])) _ _ _ _
          refine own_go (fun t k => XS.iload X5.here hx rfl (hb hby at_93) rfl k) ?_
          show own_G _ _ _ (T5.setTop (mkF m 95 #[.val (.long p0), .second, .val (.long p1), .second, .val (.int p2), .val (.long v5), .second, .val (.long v7), .second, .val (.long v9), .second, .val (.long v11), .second, .val (.int w0)] [(.int w0)])) _ _ _ _
          by_cases hc7 : w0 = (0 : Int32)
          · refine own_itI hc7 ?_
            refine own_go (fun t k => XS.ifYes X5.here hx rfl (pc0 := 95) (pc' := 102) rfl (hb hby at_95) rfl ((if0 _ _).trans (teq hc7).1) (by decide) (by decide) k) ?_
            show own_G _ _ _ (T5.setTop (mkF m 102 #[.val (.long p0), .second, .val (.long p1), .second, .val (.int p2), .val (.long v5), .second, .val (.long v7), .second, .val (.long v9), .second, .val (.long v11), .second, .val (.int w0)] [])) _ _ _ _
            exact J102 _ _ X5 e5 N5 v5 v7 v9 v11 w0 
          · refine own_ifI hc7 ?_
            refine own_go (fun t k => XS.ifNo X5.here hx rfl (hb hby at_95) rfl ((if0 _ _).trans (feq hc7).1) k) ?_
            show own_G _ _ _ (T5.setTop (mkF m 98 #[.val (.long p0), .second, .val (.long p1), .second, .val (.int p2), .val (.long v5), .second, .val (.long v7), .second, .val (.long v9), .second, .val (.long v11), .second, .val (.int w0)] [])) _ _ _ _
            refine own_go (fun t k => XS.iconst X5.here hx rfl (hb hby at_98) k) ?_
            show own_G _ _ _ (T5.setTop (mkF m 99 #[.val (.long p0), .second, .val (.long p1), .second, .val (.int p2), .val (.long v5), .second, .val (.long v7), .second, .val (.long v9), .second, .val (.long v11), .second, .val (.int w0)] [(.int (1 : Int32))])) _ _ _ _
            refine own_go (fun t k => XS.goto X5.here hx rfl (pc0 := 99) (pc' := 103) rfl (hb hby at_99) (by decide) (by decide) k) ?_
            show own_G _ _ _ (T5.setTop (mkF m 103 #[.val (.long p0), .second, .val (.long p1), .second, .val (.int p2), .val (.long v5), .second, .val (.long v7), .second, .val (.long v9), .second, .val (.long v11), .second, .val (.int w0)] [(.int (1 : Int32))])) _ _ _ _
            exact J103 _ _ X5 e5 N5 v5 v7 v9 v11 w0 (1 : Int32) 
  show own_G p.tables e below (s₁.setTop (entryFrame m #[(.long p0), (.long p1), (.int p2)] maxLocals)) s room_1.cells room_1.slots (own_P n0 h0 (some (.int ((if p1 < p0 then (if (own_size p0) < (own_size p1) then (own_law_63 p0 p1 p2 ((135266304 : Int64) + p2.toInt64) (own_size p0) (own_size p1) (own_size ((135266304 : Int64) + p2.toInt64)) (0 : Int32)) else (own_law_63 p0 p1 p2 ((135266304 : Int64) + p2.toInt64) (own_size p0) (own_size p1) (own_size ((135266304 : Int64) + p2.toInt64)) (1 : Int32))) else (if (own_size p1) < (own_size p0) then (own_law_63 p0 p1 p2 ((135266304 : Int64) + p2.toInt64) (own_size p0) (own_size p1) (own_size ((135266304 : Int64) + p2.toInt64)) (0 : Int32)) else (own_law_63 p0 p1 p2 ((135266304 : Int64) + p2.toInt64) (own_size p0) (own_size p1) (own_size ((135266304 : Int64) + p2.toInt64)) (1 : Int32))))))))
  refine own_go (fun t k => castTop (ef_0 m p0 p1 p2) k) ?_
  refine own_go (fun t k => X0.ldc2Long hx hown (mvT hZ (hw _ (List.mem_of_getElem? (i := 0) rfl))) (g := (mkF m 0 #[.val (.long p0), .second, .val (.long p1), .second, .val (.int p2), .unset, .unset, .unset, .unset, .unset, .unset, .unset, .unset, .unset] [])) rfl (hb hby at_0) _ k) ?_
  show own_G _ _ _ (s₁.setTop (mkF m 3 #[.val (.long p0), .second, .val (.long p1), .second, .val (.int p2), .unset, .unset, .unset, .unset, .unset, .unset, .unset, .unset, .unset] [(.long (135266304 : Int64))])) _ _ _ _
  refine own_go (fun t k => XS.iload X0.here hx rfl (hb hby at_3) rfl k) ?_
  show own_G _ _ _ (s₁.setTop (mkF m 5 #[.val (.long p0), .second, .val (.long p1), .second, .val (.int p2), .unset, .unset, .unset, .unset, .unset, .unset, .unset, .unset, .unset] [(.int p2), (.long (135266304 : Int64))])) _ _ _ _
  refine own_go (fun t k => XS.i2l X0.here hx rfl (hb hby at_5) rfl k) ?_
  show own_G _ _ _ (s₁.setTop (mkF m 6 #[.val (.long p0), .second, .val (.long p1), .second, .val (.int p2), .unset, .unset, .unset, .unset, .unset, .unset, .unset, .unset, .unset] [(.long p2.toInt64), (.long (135266304 : Int64))])) _ _ _ _
  refine own_go (fun t k => XS.ladd X0.here hx rfl (hb hby at_6) rfl k) ?_
  show own_G _ _ _ (s₁.setTop (mkF m 7 #[.val (.long p0), .second, .val (.long p1), .second, .val (.int p2), .unset, .unset, .unset, .unset, .unset, .unset, .unset, .unset, .unset] [(.long ((135266304 : Int64) + p2.toInt64))])) _ _ _ _
  refine own_go (fun t k => XS.lstore X0.here hx rfl (hb hby at_7) rfl (l' := #[.val (.long p0), .second, .val (.long p1), .second, .val (.int p2), .val (.long ((135266304 : Int64) + p2.toInt64)), .second, .unset, .unset, .unset, .unset, .unset, .unset, .unset]) rfl k) ?_
  show own_G _ _ _ (s₁.setTop (mkF m 9 #[.val (.long p0), .second, .val (.long p1), .second, .val (.int p2), .val (.long ((135266304 : Int64) + p2.toInt64)), .second, .unset, .unset, .unset, .unset, .unset, .unset, .unset] [])) _ _ _ _
  refine own_go (fun t k => XS.lloadN X0.here hx rfl (hb hby at_9) rfl k) ?_
  show own_G _ _ _ (s₁.setTop (mkF m 10 #[.val (.long p0), .second, .val (.long p1), .second, .val (.int p2), .val (.long ((135266304 : Int64) + p2.toInt64)), .second, .unset, .unset, .unset, .unset, .unset, .unset, .unset] [(.long p0)])) _ _ _ _
  obtain ⟨_, _, ⟨T8, L8, k8, n8⟩, -, X8, ⟨Lc8, hQ8, l8, y8, z8⟩, st8⟩ := Jvm.LawKit.callS X0 hx (y := (⟨"com/example/hence/hence/cli/CommandThread", "stackSize", "(J)J"⟩ : MethodName)) hown (mvT hZ (hw _ (List.mem_of_getElem? (i := 1) rfl))) (mvT hZ (hw _ (List.mem_of_getElem? (i := 2) rfl))) (mvT hZ (hw _ (List.mem_of_getElem? (i := 3) rfl))) (mvT hZ (hw _ (List.mem_of_getElem? (i := 4) rfl))) (by decide) (backOf (W := 0) (rm1 l Z a0 hw [] p0  h0 n0 ) hZ (hw _ (List.mem_of_getElem? (i := 4) rfl)) (hw _ (List.mem_of_getElem? (i := 3) rfl)) (by decide) (by decide)) (g := (mkF m 10 #[.val (.long p0), .second, .val (.long p1), .second, .val (.int p2), .val (.long ((135266304 : Int64) + p2.toInt64)), .second, .unset, .unset, .unset, .unset, .unset, .unset, .unset] [(.long p0)])) rfl (by rw [hml]; rfl) (argsL := [(.long p0)]) (rest := []) (lenOf pd_2 rfl) rfl (by show 2 * 0 + _ ≤ _; exact Nat.le_of_eq rfl) (hb hby at_10) (fun _ _ => ⟨rfl, e0, (by decide : 0 + 0 ≤ _), (by decide : 0 + 0 ≤ _)⟩)
  dsimp only [Pt.U, Pt.locs, Pt.cells, Pt.slots] at X8 l8 y8 z8 st8 hQ8
  subst l8 y8 z8
  obtain ⟨rfl, N8q, e8⟩ := hQ8
  have N8 := Fr.app N0 N8q
  refine own_go (fun t k => st8 _ k) ?_
  show own_G _ _ _ (T8.setTop (mkF m 13 #[.val (.long p0), .second, .val (.long p1), .second, .val (.int p2), .val (.long ((135266304 : Int64) + p2.toInt64)), .second, .unset, .unset, .unset, .unset, .unset, .unset, .unset] [(.long (own_size p0))])) _ _ _ _
  refine own_go (fun t k => XS.lstore X8.here hx rfl (hb hby at_13) rfl (l' := #[.val (.long p0), .second, .val (.long p1), .second, .val (.int p2), .val (.long ((135266304 : Int64) + p2.toInt64)), .second, .val (.long (own_size p0)), .second, .unset, .unset, .unset, .unset, .unset]) rfl k) ?_
  show own_G _ _ _ (T8.setTop (mkF m 15 #[.val (.long p0), .second, .val (.long p1), .second, .val (.int p2), .val (.long ((135266304 : Int64) + p2.toInt64)), .second, .val (.long (own_size p0)), .second, .unset, .unset, .unset, .unset, .unset] [])) _ _ _ _
  refine own_go (fun t k => XS.lloadN X8.here hx rfl (hb hby at_15) rfl k) ?_
  show own_G _ _ _ (T8.setTop (mkF m 16 #[.val (.long p0), .second, .val (.long p1), .second, .val (.int p2), .val (.long ((135266304 : Int64) + p2.toInt64)), .second, .val (.long (own_size p0)), .second, .unset, .unset, .unset, .unset, .unset] [(.long p1)])) _ _ _ _
  obtain ⟨_, _, ⟨T9, L9, k9, n9⟩, -, X9, ⟨Lc9, hQ9, l9, y9, z9⟩, st9⟩ := Jvm.LawKit.callS X8 hx (y := (⟨"com/example/hence/hence/cli/CommandThread", "stackSize", "(J)J"⟩ : MethodName)) hown (mvT hZ (hw _ (List.mem_of_getElem? (i := 1) rfl))) (mvT hZ (hw _ (List.mem_of_getElem? (i := 2) rfl))) (mvT hZ (hw _ (List.mem_of_getElem? (i := 3) rfl))) (mvT hZ (hw _ (List.mem_of_getElem? (i := 4) rfl))) (by decide) (backOf (W := 0) (rm1 l Z a0 hw [] p1  h0 n0 ) hZ (hw _ (List.mem_of_getElem? (i := 4) rfl)) (hw _ (List.mem_of_getElem? (i := 3) rfl)) (by decide) (by decide)) (g := (mkF m 16 #[.val (.long p0), .second, .val (.long p1), .second, .val (.int p2), .val (.long ((135266304 : Int64) + p2.toInt64)), .second, .val (.long (own_size p0)), .second, .unset, .unset, .unset, .unset, .unset] [(.long p1)])) rfl (by rw [hml]; rfl) (argsL := [(.long p1)]) (rest := []) (lenOf pd_2 rfl) rfl (by show 2 * 0 + _ ≤ _; exact Nat.le_of_eq rfl) (hb hby at_16) (fun _ _ => ⟨rfl, e8, (by decide : 0 + 0 ≤ _), (by decide : 0 + 0 ≤ _)⟩)
  dsimp only [Pt.U, Pt.locs, Pt.cells, Pt.slots] at X9 l9 y9 z9 st9 hQ9
  subst l9 y9 z9
  obtain ⟨rfl, N9q, e9⟩ := hQ9
  have N9 := Fr.app N8 N9q
  refine own_go (fun t k => st9 _ k) ?_
  show own_G _ _ _ (T9.setTop (mkF m 19 #[.val (.long p0), .second, .val (.long p1), .second, .val (.int p2), .val (.long ((135266304 : Int64) + p2.toInt64)), .second, .val (.long (own_size p0)), .second, .unset, .unset, .unset, .unset, .unset] [(.long (own_size p1))])) _ _ _ _
  refine own_go (fun t k => XS.lstore X9.here hx rfl (hb hby at_19) rfl (l' := #[.val (.long p0), .second, .val (.long p1), .second, .val (.int p2), .val (.long ((135266304 : Int64) + p2.toInt64)), .second, .val (.long (own_size p0)), .second, .val (.long (own_size p1)), .second, .unset, .unset, .unset]) rfl k) ?_
  show own_G _ _ _ (T9.setTop (mkF m 21 #[.val (.long p0), .second, .val (.long p1), .second, .val (.int p2), .val (.long ((135266304 : Int64) + p2.toInt64)), .second, .val (.long (own_size p0)), .second, .val (.long (own_size p1)), .second, .unset, .unset, .unset] [])) _ _ _ _
  refine own_go (fun t k => XS.lload X9.here hx rfl (hb hby at_21) rfl k) ?_
  show own_G _ _ _ (T9.setTop (mkF m 23 #[.val (.long p0), .second, .val (.long p1), .second, .val (.int p2), .val (.long ((135266304 : Int64) + p2.toInt64)), .second, .val (.long (own_size p0)), .second, .val (.long (own_size p1)), .second, .unset, .unset, .unset] [(.long ((135266304 : Int64) + p2.toInt64))])) _ _ _ _
  obtain ⟨_, _, ⟨T10, L10, k10, n10⟩, -, X10, ⟨Lc10, hQ10, l10, y10, z10⟩, st10⟩ := Jvm.LawKit.callS X9 hx (y := (⟨"com/example/hence/hence/cli/CommandThread", "stackSize", "(J)J"⟩ : MethodName)) hown (mvT hZ (hw _ (List.mem_of_getElem? (i := 1) rfl))) (mvT hZ (hw _ (List.mem_of_getElem? (i := 2) rfl))) (mvT hZ (hw _ (List.mem_of_getElem? (i := 3) rfl))) (mvT hZ (hw _ (List.mem_of_getElem? (i := 4) rfl))) (by decide) (backOf (W := 0) (rm1 l Z a0 hw [] ((135266304 : Int64) + p2.toInt64)  h0 n0 ) hZ (hw _ (List.mem_of_getElem? (i := 4) rfl)) (hw _ (List.mem_of_getElem? (i := 3) rfl)) (by decide) (by decide)) (g := (mkF m 23 #[.val (.long p0), .second, .val (.long p1), .second, .val (.int p2), .val (.long ((135266304 : Int64) + p2.toInt64)), .second, .val (.long (own_size p0)), .second, .val (.long (own_size p1)), .second, .unset, .unset, .unset] [(.long ((135266304 : Int64) + p2.toInt64))])) rfl (by rw [hml]; rfl) (argsL := [(.long ((135266304 : Int64) + p2.toInt64))]) (rest := []) (lenOf pd_2 rfl) rfl (by show 2 * 0 + _ ≤ _; exact Nat.le_of_eq rfl) (hb hby at_23) (fun _ _ => ⟨rfl, e9, (by decide : 0 + 0 ≤ _), (by decide : 0 + 0 ≤ _)⟩)
  dsimp only [Pt.U, Pt.locs, Pt.cells, Pt.slots] at X10 l10 y10 z10 st10 hQ10
  subst l10 y10 z10
  obtain ⟨rfl, N10q, e10⟩ := hQ10
  have N10 := Fr.app N9 N10q
  refine own_go (fun t k => st10 _ k) ?_
  show own_G _ _ _ (T10.setTop (mkF m 26 #[.val (.long p0), .second, .val (.long p1), .second, .val (.int p2), .val (.long ((135266304 : Int64) + p2.toInt64)), .second, .val (.long (own_size p0)), .second, .val (.long (own_size p1)), .second, .unset, .unset, .unset] [(.long (own_size ((135266304 : Int64) + p2.toInt64)))])) _ _ _ _
  refine own_go (fun t k => XS.lstore X10.here hx rfl (hb hby at_26) rfl (l' := #[.val (.long p0), .second, .val (.long p1), .second, .val (.int p2), .val (.long ((135266304 : Int64) + p2.toInt64)), .second, .val (.long (own_size p0)), .second, .val (.long (own_size p1)), .second, .val (.long (own_size ((135266304 : Int64) + p2.toInt64))), .second, .unset]) rfl k) ?_
  show own_G _ _ _ (T10.setTop (mkF m 28 #[.val (.long p0), .second, .val (.long p1), .second, .val (.int p2), .val (.long ((135266304 : Int64) + p2.toInt64)), .second, .val (.long (own_size p0)), .second, .val (.long (own_size p1)), .second, .val (.long (own_size ((135266304 : Int64) + p2.toInt64))), .second, .unset] [])) _ _ _ _
  refine own_go (fun t k => XS.lloadN X10.here hx rfl (hb hby at_28) rfl k) ?_
  show own_G _ _ _ (T10.setTop (mkF m 29 #[.val (.long p0), .second, .val (.long p1), .second, .val (.int p2), .val (.long ((135266304 : Int64) + p2.toInt64)), .second, .val (.long (own_size p0)), .second, .val (.long (own_size p1)), .second, .val (.long (own_size ((135266304 : Int64) + p2.toInt64))), .second, .unset] [(.long p0)])) _ _ _ _
  refine own_go (fun t k => XS.lloadN X10.here hx rfl (hb hby at_29) rfl k) ?_
  show own_G _ _ _ (T10.setTop (mkF m 30 #[.val (.long p0), .second, .val (.long p1), .second, .val (.int p2), .val (.long ((135266304 : Int64) + p2.toInt64)), .second, .val (.long (own_size p0)), .second, .val (.long (own_size p1)), .second, .val (.long (own_size ((135266304 : Int64) + p2.toInt64))), .second, .unset] [(.long p1), (.long p0)])) _ _ _ _
  refine own_go (fun t k => XS.lcmp X10.here hx rfl (hb hby at_30) rfl k) ?_
  show own_G _ _ _ (T10.setTop (mkF m 31 #[.val (.long p0), .second, .val (.long p1), .second, .val (.int p2), .val (.long ((135266304 : Int64) + p2.toInt64)), .second, .val (.long (own_size p0)), .second, .val (.long (own_size p1)), .second, .val (.long (own_size ((135266304 : Int64) + p2.toInt64))), .second, .unset] [(.int (lcmpW p0 p1))])) _ _ _ _
  by_cases hc11 : p1 < p0
  · refine own_itI hc11 ?_
    refine own_go (fun t k => XS.ifYes X10.here hx rfl (pc0 := 31) (pc' := 50) rfl (hb hby at_31) rfl ((if0 _ _).trans (tlt ((lw_gt _ _).mpr hc11)).2.2.1) (by decide) (by decide) k) ?_
    show own_G _ _ _ (T10.setTop (mkF m 50 #[.val (.long p0), .second, .val (.long p1), .second, .val (.int p2), .val (.long ((135266304 : Int64) + p2.toInt64)), .second, .val (.long (own_size p0)), .second, .val (.long (own_size p1)), .second, .val (.long (own_size ((135266304 : Int64) + p2.toInt64))), .second, .unset] [])) _ _ _ _
    refine own_go (fun t k => XS.lload X10.here hx rfl (hb hby at_50) rfl k) ?_
    show own_G _ _ _ (T10.setTop (mkF m 52 #[.val (.long p0), .second, .val (.long p1), .second, .val (.int p2), .val (.long ((135266304 : Int64) + p2.toInt64)), .second, .val (.long (own_size p0)), .second, .val (.long (own_size p1)), .second, .val (.long (own_size ((135266304 : Int64) + p2.toInt64))), .second, .unset] [(.long (own_size p1))])) _ _ _ _
    refine own_go (fun t k => XS.lload X10.here hx rfl (hb hby at_52) rfl k) ?_
    show own_G _ _ _ (T10.setTop (mkF m 54 #[.val (.long p0), .second, .val (.long p1), .second, .val (.int p2), .val (.long ((135266304 : Int64) + p2.toInt64)), .second, .val (.long (own_size p0)), .second, .val (.long (own_size p1)), .second, .val (.long (own_size ((135266304 : Int64) + p2.toInt64))), .second, .unset] [(.long (own_size p0)), (.long (own_size p1))])) _ _ _ _
    refine own_go (fun t k => XS.lcmp X10.here hx rfl (hb hby at_54) rfl k) ?_
    show own_G _ _ _ (T10.setTop (mkF m 55 #[.val (.long p0), .second, .val (.long p1), .second, .val (.int p2), .val (.long ((135266304 : Int64) + p2.toInt64)), .second, .val (.long (own_size p0)), .second, .val (.long (own_size p1)), .second, .val (.long (own_size ((135266304 : Int64) + p2.toInt64))), .second, .unset] [(.int (lcmpW (own_size p1) (own_size p0)))])) _ _ _ _
    by_cases hc12 : (own_size p0) < (own_size p1)
    · refine own_itI hc12 ?_
      refine own_go (fun t k => XS.ifYes X10.here hx rfl (pc0 := 55) (pc' := 62) rfl (hb hby at_55) rfl ((if0 _ _).trans (tlt ((lw_gt _ _).mpr hc12)).2.2.1) (by decide) (by decide) k) ?_
      show own_G _ _ _ (T10.setTop (mkF m 62 #[.val (.long p0), .second, .val (.long p1), .second, .val (.int p2), .val (.long ((135266304 : Int64) + p2.toInt64)), .second, .val (.long (own_size p0)), .second, .val (.long (own_size p1)), .second, .val (.long (own_size ((135266304 : Int64) + p2.toInt64))), .second, .unset] [])) _ _ _ _
      refine own_go (fun t k => XS.iconst X10.here hx rfl (hb hby at_62) k) ?_
      show own_G _ _ _ (T10.setTop (mkF m 63 #[.val (.long p0), .second, .val (.long p1), .second, .val (.int p2), .val (.long ((135266304 : Int64) + p2.toInt64)), .second, .val (.long (own_size p0)), .second, .val (.long (own_size p1)), .second, .val (.long (own_size ((135266304 : Int64) + p2.toInt64))), .second, .unset] [(.int (0 : Int32))])) _ _ _ _
      exact J63 _ _ X10 e10 N10 ((135266304 : Int64) + p2.toInt64) (own_size p0) (own_size p1) (own_size ((135266304 : Int64) + p2.toInt64)) (0 : Int32) 
    · refine own_ifI hc12 ?_
      refine own_go (fun t k => XS.ifNo X10.here hx rfl (hb hby at_55) rfl ((if0 _ _).trans (flt (fun q => hc12 ((lw_gt _ _).mp q))).2.2.1) k) ?_
      show own_G _ _ _ (T10.setTop (mkF m 58 #[.val (.long p0), .second, .val (.long p1), .second, .val (.int p2), .val (.long ((135266304 : Int64) + p2.toInt64)), .second, .val (.long (own_size p0)), .second, .val (.long (own_size p1)), .second, .val (.long (own_size ((135266304 : Int64) + p2.toInt64))), .second, .unset] [])) _ _ _ _
      refine own_go (fun t k => XS.iconst X10.here hx rfl (hb hby at_58) k) ?_
      show own_G _ _ _ (T10.setTop (mkF m 59 #[.val (.long p0), .second, .val (.long p1), .second, .val (.int p2), .val (.long ((135266304 : Int64) + p2.toInt64)), .second, .val (.long (own_size p0)), .second, .val (.long (own_size p1)), .second, .val (.long (own_size ((135266304 : Int64) + p2.toInt64))), .second, .unset] [(.int (1 : Int32))])) _ _ _ _
      refine own_go (fun t k => XS.goto X10.here hx rfl (pc0 := 59) (pc' := 63) rfl (hb hby at_59) (by decide) (by decide) k) ?_
      show own_G _ _ _ (T10.setTop (mkF m 63 #[.val (.long p0), .second, .val (.long p1), .second, .val (.int p2), .val (.long ((135266304 : Int64) + p2.toInt64)), .second, .val (.long (own_size p0)), .second, .val (.long (own_size p1)), .second, .val (.long (own_size ((135266304 : Int64) + p2.toInt64))), .second, .unset] [(.int (1 : Int32))])) _ _ _ _
      exact J63 _ _ X10 e10 N10 ((135266304 : Int64) + p2.toInt64) (own_size p0) (own_size p1) (own_size ((135266304 : Int64) + p2.toInt64)) (1 : Int32) 
  · refine own_ifI hc11 ?_
    refine own_go (fun t k => XS.ifNo X10.here hx rfl (hb hby at_31) rfl ((if0 _ _).trans (flt (fun q => hc11 ((lw_gt _ _).mp q))).2.2.1) k) ?_
    show own_G _ _ _ (T10.setTop (mkF m 34 #[.val (.long p0), .second, .val (.long p1), .second, .val (.int p2), .val (.long ((135266304 : Int64) + p2.toInt64)), .second, .val (.long (own_size p0)), .second, .val (.long (own_size p1)), .second, .val (.long (own_size ((135266304 : Int64) + p2.toInt64))), .second, .unset] [])) _ _ _ _
    refine own_go (fun t k => XS.lload X10.here hx rfl (hb hby at_34) rfl k) ?_
    show own_G _ _ _ (T10.setTop (mkF m 36 #[.val (.long p0), .second, .val (.long p1), .second, .val (.int p2), .val (.long ((135266304 : Int64) + p2.toInt64)), .second, .val (.long (own_size p0)), .second, .val (.long (own_size p1)), .second, .val (.long (own_size ((135266304 : Int64) + p2.toInt64))), .second, .unset] [(.long (own_size p0))])) _ _ _ _
    refine own_go (fun t k => XS.lload X10.here hx rfl (hb hby at_36) rfl k) ?_
    show own_G _ _ _ (T10.setTop (mkF m 38 #[.val (.long p0), .second, .val (.long p1), .second, .val (.int p2), .val (.long ((135266304 : Int64) + p2.toInt64)), .second, .val (.long (own_size p0)), .second, .val (.long (own_size p1)), .second, .val (.long (own_size ((135266304 : Int64) + p2.toInt64))), .second, .unset] [(.long (own_size p1)), (.long (own_size p0))])) _ _ _ _
    refine own_go (fun t k => XS.lcmp X10.here hx rfl (hb hby at_38) rfl k) ?_
    show own_G _ _ _ (T10.setTop (mkF m 39 #[.val (.long p0), .second, .val (.long p1), .second, .val (.int p2), .val (.long ((135266304 : Int64) + p2.toInt64)), .second, .val (.long (own_size p0)), .second, .val (.long (own_size p1)), .second, .val (.long (own_size ((135266304 : Int64) + p2.toInt64))), .second, .unset] [(.int (lcmpW (own_size p0) (own_size p1)))])) _ _ _ _
    by_cases hc13 : (own_size p1) < (own_size p0)
    · refine own_itI hc13 ?_
      refine own_go (fun t k => XS.ifYes X10.here hx rfl (pc0 := 39) (pc' := 46) rfl (hb hby at_39) rfl ((if0 _ _).trans (tlt ((lw_gt _ _).mpr hc13)).2.2.1) (by decide) (by decide) k) ?_
      show own_G _ _ _ (T10.setTop (mkF m 46 #[.val (.long p0), .second, .val (.long p1), .second, .val (.int p2), .val (.long ((135266304 : Int64) + p2.toInt64)), .second, .val (.long (own_size p0)), .second, .val (.long (own_size p1)), .second, .val (.long (own_size ((135266304 : Int64) + p2.toInt64))), .second, .unset] [])) _ _ _ _
      refine own_go (fun t k => XS.iconst X10.here hx rfl (hb hby at_46) k) ?_
      show own_G _ _ _ (T10.setTop (mkF m 47 #[.val (.long p0), .second, .val (.long p1), .second, .val (.int p2), .val (.long ((135266304 : Int64) + p2.toInt64)), .second, .val (.long (own_size p0)), .second, .val (.long (own_size p1)), .second, .val (.long (own_size ((135266304 : Int64) + p2.toInt64))), .second, .unset] [(.int (0 : Int32))])) _ _ _ _
      refine own_go (fun t k => XS.goto X10.here hx rfl (pc0 := 47) (pc' := 63) rfl (hb hby at_47) (by decide) (by decide) k) ?_
      show own_G _ _ _ (T10.setTop (mkF m 63 #[.val (.long p0), .second, .val (.long p1), .second, .val (.int p2), .val (.long ((135266304 : Int64) + p2.toInt64)), .second, .val (.long (own_size p0)), .second, .val (.long (own_size p1)), .second, .val (.long (own_size ((135266304 : Int64) + p2.toInt64))), .second, .unset] [(.int (0 : Int32))])) _ _ _ _
      exact J63 _ _ X10 e10 N10 ((135266304 : Int64) + p2.toInt64) (own_size p0) (own_size p1) (own_size ((135266304 : Int64) + p2.toInt64)) (0 : Int32) 
    · refine own_ifI hc13 ?_
      refine own_go (fun t k => XS.ifNo X10.here hx rfl (hb hby at_39) rfl ((if0 _ _).trans (flt (fun q => hc13 ((lw_gt _ _).mp q))).2.2.1) k) ?_
      show own_G _ _ _ (T10.setTop (mkF m 42 #[.val (.long p0), .second, .val (.long p1), .second, .val (.int p2), .val (.long ((135266304 : Int64) + p2.toInt64)), .second, .val (.long (own_size p0)), .second, .val (.long (own_size p1)), .second, .val (.long (own_size ((135266304 : Int64) + p2.toInt64))), .second, .unset] [])) _ _ _ _
      refine own_go (fun t k => XS.iconst X10.here hx rfl (hb hby at_42) k) ?_
      show own_G _ _ _ (T10.setTop (mkF m 43 #[.val (.long p0), .second, .val (.long p1), .second, .val (.int p2), .val (.long ((135266304 : Int64) + p2.toInt64)), .second, .val (.long (own_size p0)), .second, .val (.long (own_size p1)), .second, .val (.long (own_size ((135266304 : Int64) + p2.toInt64))), .second, .unset] [(.int (1 : Int32))])) _ _ _ _
      refine own_go (fun t k => XS.goto X10.here hx rfl (pc0 := 43) (pc' := 63) rfl (hb hby at_43) (by decide) (by decide) k) ?_
      show own_G _ _ _ (T10.setTop (mkF m 63 #[.val (.long p0), .second, .val (.long p1), .second, .val (.int p2), .val (.long ((135266304 : Int64) + p2.toInt64)), .second, .val (.long (own_size p0)), .second, .val (.long (own_size p1)), .second, .val (.long (own_size ((135266304 : Int64) + p2.toInt64))), .second, .unset] [(.int (1 : Int32))])) _ _ _ _
      exact J63 _ _ X10 e10 N10 ((135266304 : Int64) + p2.toInt64) (own_size p0) (own_size p1) (own_size ((135266304 : Int64) + p2.toInt64)) (1 : Int32) 
theorem own_sub (a b : Int64) : ∃ k : Int, (a - b).toInt = a.toInt - b.toInt + 18446744073709551616 * k ∧ -9223372036854775808 ≤ (a - b).toInt ∧ (a-b).toInt < 9223372036854775808 := by
  refine ⟨-((a.toInt - b.toInt - (a-b).toInt) / 18446744073709551616), ?_, Int64.le_toInt _, Int64.toInt_lt _⟩
  have h := Int64.toInt_sub a b
  rw [Int.bmod_def] at h
  split at h <;> omega
theorem own_okT (r : Int64) : own_ok r (own_size r) = 1 := by
  obtain ⟨k, e, h1, h2⟩ := own_sub r 134217728
  have q1 := r.toInt_lt
  have q2 := r.le_toInt
  simp only [own_ok, own_ok_70, own_ok_69, own_ok_65, own_ok_19, own_size, own_size_23, own_min, own_min_11]
  repeat' split
  all_goals first | rfl | (exfalso; contradiction) | (exfalso; simp only [Int64.lt_iff_toInt_lt, ← Int64.toInt_inj, Int64.reduceToInt] at *; omega)
theorem own_mono (a b : Int64) (h : ¬ b < a) : ¬ own_size b < own_size a := by
  obtain ⟨k, e, h1, h2⟩ := own_sub a 134217728
  obtain ⟨k', e', h1', h2'⟩ := own_sub b 134217728
  have q1 := a.toInt_lt
  have q2 := a.le_toInt
  have q3 := b.toInt_lt
  have q4 := b.le_toInt
  simp only [own_size, own_size_23, own_min, own_min_11]
  repeat' split
  all_goals (simp only [Int64.lt_iff_toInt_lt, ← Int64.toInt_inj, Int64.reduceToInt] at *; omega)
theorem own_law_true (a b : Int64) (c : Int32) : own_law a b c = 1 := by
  have h : own_law_63 a b c ((135266304 : Int64) + c.toInt64) (own_size a) (own_size b) (own_size ((135266304 : Int64) + c.toInt64)) (1 : Int32) = 1 := by
    simp only [own_law_63, own_okT, own_law_103]
    rfl
  simp only [own_law]
  split
  · rename_i q
    rw [if_neg (own_mono b a (fun q' => by simp only [Int64.lt_iff_toInt_lt] at *; omega))]
    exact h
  · rename_i q
    rw [if_neg (own_mono a b q)]
    exact h

set_option maxRecDepth 65536 in
set_option maxHeartbeats 40000000 in
theorem comes_1 {Post : Tables → Env → Array Value → State → Outcome → State → Prop} (hpost : ∀ tb e args s v u, (limb_1_1.after args s (.returned v) u = true ∧ limb_1_2.after args s (.returned v) u = true ∧ True) → FrameEnd s (.returned v) u (Jvm.fieldLocs frame_1_writes args s ++ Jvm.arrayLocs frame_1_arrays args s ++ Jvm.staticLocs frame_1_statics s) 0 0 → Post tb e args s (.returned v) u) :
    ArmFor flags0 classFile x code maxLocals ret World_1 tables_1 room_1 Calls_1 rest_1 Pre_1 Post := by
  intro l hfl _ _ p e ha hc hk s m args below hf hA hF happ hP
  obtain ⟨hcalls, hrest, hpre⟩ := hP
  obtain ⟨-, -, -, hnamed, -, -, -, hat⟩ := (Spec.applies_iff hf).mp happ
  obtain ⟨hg, hn⟩ := and_e (Cond.before_iff.mp (show (Jvm.Cond.and given_1 narrow_1).before args s = true from hpre))
  obtain ⟨g0, hg1⟩ := and_e hg
  obtain ⟨a0, r0⟩ := and_e hg1
  obtain ⟨a1, r1⟩ := and_e r0
  obtain ⟨w0, w1, w2, rfl⟩ : ∃ w0 w1 w2 : Value, args = #[w0, w1, w2] := by
    have hs : args.size = 3 := by simpa [Cond.value, given_1] using g0
    obtain ⟨L⟩ := args
    match L, hs with
    | [w0, w1, w2], _ => exact ⟨w0, w1, w2, rfl⟩
  have hw := fun d (hd : d ∈ tables_1) => atoms_spec (ws := Jvm.Cond.code x code maxLocals ret :: tables_1) hat d (List.mem_cons_of_mem _ hd)
  have hfit : Fit s := fun {y c} hc i hi => by
    obtain ⟨ha, rfl⟩ := Array.getElem?_eq_some_iff.mp hc
    have q := List.all_eq_true.mp ((Array.all_eq_true_iff_forall_mem.mp hF) _ (Array.getElem_mem ha)) i (List.mem_range.mpr hi)
    simpa [Array.getElem?_eq_getElem hi] using q
  obtain ⟨i0, ei0⟩ := isL_v a0
  obtain rfl : w0 = (.long i0) := Option.some.inj ei0
  obtain ⟨i1, ei1⟩ := isL_v a1
  obtain rfl : w1 = (.long i1) := Option.some.inj ei1
  obtain ⟨i2, ei2⟩ := is_v r1
  obtain rfl : w2 = (.int i2) := Option.some.inj ei2
  obtain ⟨n, o, h1, h2, h3, _, L, rfl, ⟨rfl, N, -⟩, hq⟩ := rm0 l s _ hw tables_1 i0 i1 i2  s.heap s.heap.size p e ha hc hk s m _ below hf ((Spec.applies_iff_loose hf).mp happ).1 ⟨rfl, State.Warmed39.refl s, rfl⟩ trivial
  refine ⟨n, _, h1, h2, h3, hpost _ _ _ _ _ _ ⟨Cond.after_iff.mpr rfl, Cond.after_iff.mpr (eq_i res_at (Term.int_eval (1)) (congrArg Value.int (own_law_true i0 i1 i2))), trivial⟩ ⟨hq.1, hq.2.1, (hq.2.2.sift fun y hy => Or.inr (N y hy)).mono (by decide) (by decide)⟩⟩
theorem main_1_1 : Claimed_1_1 := comes_1 fun _ _ _ _ _ _ h hF => ⟨h.1, hF⟩
theorem main_1_2 : Claimed_1_2 := comes_1 fun _ _ _ _ _ _ h hF => ⟨h.2.1, hF⟩
end Jvm.Pilot.@@N@@
namespace Jvm.Pilot.@@N@@
open Jvm Jvm.ClassFile Sem Op Lib Jvm.Free Jvm.Stand Jvm.Pilot.@@N@@.Jvm.D
/-! MADE BY PROGRAM (witnessworld.py) out of the Statement's table words and the real class files: 10 classes; the members and pool entries that the words name. The judged class is class 1, her method 2. -/
namespace start1
open Jvm.ClassFile
def u (s : String) : CpInfo := .utf8 (stringToUtf16 s)
/-- a pool by its gaps: so many unusable entries, then the entry; so many at the end -/
def gap : Nat → List CpInfo → List CpInfo
  | 0, r => r
  | n + 1, r => .unusable :: gap n r
def poolList (es : List (Nat × CpInfo)) (last : Nat) : List CpInfo := es.foldr (fun e r => gap e.1 (e.2 :: r)) (gap last [])
def pool (es : List (Nat × CpInfo)) (last : Nat) : Array CpInfo := ⟨poolList es last⟩
def fileOf (pool : Array CpInfo) (this : Nat) (attrs : Array Attribute := #[]) (ms : Array MethodInfo := #[]) (fl : Nat := 33) (sup : Nat := 0) (ifs : Array Nat := #[]) (fds : Array FieldInfo := #[]) : ClassFile where
  minorVersion := 0
  majorVersion := 65
  constantPool := pool
  accessFlags := fl
  thisClass := this
  superClass := sup
  interfaces := ifs
  fields := fds
  methods := ms
  attributes := attrs
def plain (name : String) (sup : Option ClassId) : Class where
  name := name
  kind := .ordinary
  loader := none
  accessFlags := 33
  super := sup
  interfaces := #[]
  cf := none
  fields := #[]
  methods := #[]
  instanceTypes := #[]
  staticTypes := #[]
  resolved := #[]
  callSites := []
  init := .initialized
  statics := none
  mirror := none

def pool0 : Array CpInfo := pool [(5, u "<init>"), (0, u "()V"), (1, .class_ 10), (1, u "java/lang/Object")] 113

def k0m0 : Method := { name := "<init>", desc := "()V", sig := { parameters := [], returnType := none }, accessFlags := 1, code := none }
/-- java/lang/Object -/
def k0 : Class := { plain "java/lang/Object" none with
  accessFlags := 33
  interfaces := #[]
  cf := some (fileOf pool0 8 #[] #[{ accessFlags := 1, nameIndex := 5, descriptorIndex := 6, attributes := #[] }] 33 0 #[] #[])
  fields := #[]
  methods := #[k0m0]
  instanceTypes := #[]
  staticTypes := #[]
  resolved := Array.replicate 124 none
  statics := none }

def pool1 : Array CpInfo := pool [(2, .class_ 4), (1, u "java/lang/Object"), (0, u "<init>"), (0, u "()V"), (0, .class_ 8), (0, u "com/example/hence/hence/cli/CommandThreadStackSizePinLaw"), (0, .long 135266304), (1, .long 134217728), (1, .long 1048576), (1, .long 268435456), (1, .methodref 18 19), (0, .class_ 20), (0, .nameAndType 21 22), (0, u "com/example/hence/hence/cli/CommandThread"), (0, u "stackSize"), (0, u "(J)J"), (0, .methodref 7 24), (0, .nameAndType 25 26), (0, u "ok"), (0, u "(JJ)Z"), (0, u "RES"), (0, u "J"), (1, u "DEF"), (0, u "BIG"), (3, u "law"), (0, u "(JJI)Z")] 2

def k1m0 : Method := { name := "<init>", desc := "()V", sig := { parameters := [], returnType := none }, accessFlags := 1, code := none }
def k1c1 : Code := { maxStack := 4, maxLocals := 6, code := method_2_code, exceptionTable := #[], attributes := #[] }
def k1m1 : Method := { name := "ok", desc := "(JJ)Z", sig := { parameters := [.long, .long], returnType := some .boolean }, accessFlags := 10, code := some k1c1 }
def k1c2 : Code := { maxStack := 4, maxLocals := 14, code := code, exceptionTable := #[], attributes := #[] }
def k1m2 : Method := { name := "law", desc := "(JJI)Z", sig := { parameters := [.long, .long, .int], returnType := some .boolean }, accessFlags := 9, code := some k1c2 }
/-- com/example/hence/hence/cli/CommandThreadStackSizePinLaw -/
def k1 : Class := { plain "com/example/hence/hence/cli/CommandThreadStackSizePinLaw" (some 0) with
  accessFlags := 49
  interfaces := #[]
  cf := some (fileOf pool1 7 #[] #[{ accessFlags := 1, nameIndex := 5, descriptorIndex := 6, attributes := #[] }, { accessFlags := 10, nameIndex := 25, descriptorIndex := 26, attributes := #[] }, { accessFlags := 9, nameIndex := 35, descriptorIndex := 36, attributes := #[] }] 49 2 #[] #[{ accessFlags := 26, nameIndex := 27, descriptorIndex := 28, attributes := #[] }, { accessFlags := 26, nameIndex := 30, descriptorIndex := 28, attributes := #[] }, { accessFlags := 26, nameIndex := 31, descriptorIndex := 28, attributes := #[] }])
  fields := #[{ name := "RES", type := .long, accessFlags := 26, slot := 0, constantValue := 0 }, { name := "DEF", type := .long, accessFlags := 26, slot := 1, constantValue := 0 }, { name := "BIG", type := .long, accessFlags := 26, slot := 2, constantValue := 0 }]
  methods := #[k1m0, k1m1, k1m2]
  instanceTypes := #[]
  staticTypes := #[.long, .long, .long]
  resolved := Array.replicate 39 none
  statics := none }

def pool2 : Array CpInfo := pool [(2, .class_ 4), (1, u "java/lang/Object"), (0, u "<init>"), (0, u "()V"), (1, .class_ 10), (1, u "com/example/hence/hence/cli/CommandThread"), (4, u "stackSize"), (0, u "(J)J"), (20, .long 135266304), (1, .long 268435456), (1, .long 134217728), (1, .methodref 44 45), (0, .class_ 46), (0, .nameAndType 47 48), (0, u "java/lang/Math"), (0, u "min"), (0, u "(JJ)J"), (117, u "LARGEST_STACK"), (0, u "J"), (1, u "RESERVE"), (0, u "DEFAULT_STACK")] 17

def k2m0 : Method := { name := "<init>", desc := "()V", sig := { parameters := [], returnType := none }, accessFlags := 2, code := none }
def k2c1 : Code := { maxStack := 6, maxLocals := 2, code := prog_2_method_3_code, exceptionTable := #[], attributes := #[] }
def k2m1 : Method := { name := "stackSize", desc := "(J)J", sig := { parameters := [.long], returnType := some .long }, accessFlags := 8, code := some k2c1 }
/-- com/example/hence/hence/cli/CommandThread -/
def k2 : Class := { plain "com/example/hence/hence/cli/CommandThread" (some 0) with
  accessFlags := 49
  interfaces := #[]
  cf := some (fileOf pool2 8 #[] #[{ accessFlags := 2, nameIndex := 5, descriptorIndex := 6, attributes := #[] }, { accessFlags := 8, nameIndex := 15, descriptorIndex := 16, attributes := #[] }] 49 2 #[] #[{ accessFlags := 24, nameIndex := 166, descriptorIndex := 167, attributes := #[] }, { accessFlags := 24, nameIndex := 169, descriptorIndex := 167, attributes := #[] }, { accessFlags := 24, nameIndex := 170, descriptorIndex := 167, attributes := #[] }])
  fields := #[{ name := "LARGEST_STACK", type := .long, accessFlags := 24, slot := 0, constantValue := 0 }, { name := "RESERVE", type := .long, accessFlags := 24, slot := 1, constantValue := 0 }, { name := "DEFAULT_STACK", type := .long, accessFlags := 24, slot := 2, constantValue := 0 }]
  methods := #[k2m0, k2m1]
  instanceTypes := #[]
  staticTypes := #[.long, .long, .long]
  resolved := Array.replicate 188 none
  statics := none }

def pool3 : Array CpInfo := pool [(1, .class_ 2), (0, u "java/lang/Math"), (1, .class_ 6), (1, u "java/lang/Object"), (0, u "<init>"), (0, u "()V"), (89, .class_ 100), (1, u "java/lang/Math$RandomNumberGeneratorHolder"), (20, u "(JJ)J"), (50, u "negativeZeroFloatBits"), (0, u "J"), (2, u "negativeZeroDoubleBits"), (24, u "min"), (43, u "$assertionsDisabled"), (0, u "Z"), (91, u "twoToTheDoubleScaleDown"), (0, u "D"), (4, u "twoToTheDoubleScaleUp"), (9, u "E"), (3, u "PI"), (2, u "TAU"), (2, u "DEGREES_TO_RADIANS"), (0, u "RADIANS_TO_DEGREES")] 94

def k3m0 : Method := { name := "<init>", desc := "()V", sig := { parameters := [], returnType := none }, accessFlags := 2, code := none }
def k3c1 : Code := { maxStack := 4, maxLocals := 4, code := jdk_29_method_70_code, exceptionTable := #[], attributes := #[] }
def k3m1 : Method := { name := "min", desc := "(JJ)J", sig := { parameters := [.long, .long], returnType := some .long }, accessFlags := 9, code := some k3c1 }
/-- java/lang/Math -/
def k3 : Class := { plain "java/lang/Math" (some 0) with
  accessFlags := 49
  interfaces := #[]
  cf := some (fileOf pool3 1 #[.nestMembers #[98]] #[{ accessFlags := 2, nameIndex := 7, descriptorIndex := 8, attributes := #[] }, { accessFlags := 9, nameIndex := 201, descriptorIndex := 121, attributes := #[] }] 49 4 #[] #[{ accessFlags := 25, nameIndex := 354, descriptorIndex := 339, attributes := #[] }, { accessFlags := 25, nameIndex := 358, descriptorIndex := 339, attributes := #[] }, { accessFlags := 25, nameIndex := 361, descriptorIndex := 339, attributes := #[] }, { accessFlags := 26, nameIndex := 364, descriptorIndex := 339, attributes := #[] }, { accessFlags := 26, nameIndex := 365, descriptorIndex := 339, attributes := #[] }, { accessFlags := 26, nameIndex := 172, descriptorIndex := 173, attributes := #[] }, { accessFlags := 26, nameIndex := 176, descriptorIndex := 173, attributes := #[] }, { accessFlags := 8, nameIndex := 344, descriptorIndex := 339, attributes := #[] }, { accessFlags := 8, nameIndex := 338, descriptorIndex := 339, attributes := #[] }, { accessFlags := 4120, nameIndex := 245, descriptorIndex := 246, attributes := #[] }])
  fields := #[{ name := "E", type := .double, accessFlags := 25, slot := 0, constantValue := 0 }, { name := "PI", type := .double, accessFlags := 25, slot := 1, constantValue := 0 }, { name := "TAU", type := .double, accessFlags := 25, slot := 2, constantValue := 0 }, { name := "DEGREES_TO_RADIANS", type := .double, accessFlags := 26, slot := 3, constantValue := 0 }, { name := "RADIANS_TO_DEGREES", type := .double, accessFlags := 26, slot := 4, constantValue := 0 }, { name := "negativeZeroFloatBits", type := .long, accessFlags := 26, slot := 5, constantValue := 0 }, { name := "negativeZeroDoubleBits", type := .long, accessFlags := 26, slot := 6, constantValue := 0 }, { name := "twoToTheDoubleScaleUp", type := .double, accessFlags := 8, slot := 7, constantValue := 0 }, { name := "twoToTheDoubleScaleDown", type := .double, accessFlags := 8, slot := 8, constantValue := 0 }, { name := "$assertionsDisabled", type := .boolean, accessFlags := 4120, slot := 9, constantValue := 0 }]
  methods := #[k3m0, k3m1]
  instanceTypes := #[]
  staticTypes := #[.double, .double, .double, .double, .double, .long, .long, .double, .double, .boolean]
  resolved := Array.replicate 460 none
  statics := none }

def pool4 : Array CpInfo := pool [(1, u "java/lang/Cloneable"), (0, .class_ 1), (0, u "java/lang/Object"), (0, .class_ 3)] 3

/-- java/lang/Cloneable -/
def k4 : Class := { plain "java/lang/Cloneable" (some 0) with
  accessFlags := 1537
  interfaces := #[]
  cf := some (fileOf pool4 2 #[] #[] 1537 4 #[] #[])
  fields := #[]
  methods := #[]
  instanceTypes := #[]
  staticTypes := #[]
  resolved := Array.replicate 8 none
  statics := none }

def pool5 : Array CpInfo := pool [(1, u "java/io/Serializable"), (0, .class_ 1), (0, u "java/lang/Object"), (0, .class_ 3)] 3

/-- java/io/Serializable -/
def k5 : Class := { plain "java/io/Serializable" (some 0) with
  accessFlags := 1537
  interfaces := #[]
  cf := some (fileOf pool5 2 #[] #[] 1537 4 #[] #[])
  fields := #[]
  methods := #[]
  instanceTypes := #[]
  staticTypes := #[]
  resolved := Array.replicate 8 none
  statics := none }

/-- the primitive byte -/
def k6 : Class := { plain "byte" none with kind := .primitive 'B', accessFlags := 0x411 }
/-- [B -/
def k7 : Class := { plain "[B" (some 0) with kind := .array 6 .byte, interfaces := #[4, 5], accessFlags := 1041 }

/-- the primitive int -/
def k8 : Class := { plain "int" none with kind := .primitive 'I', accessFlags := 0x411 }
/-- [I -/
def k9 : Class := { plain "[I" (some 0) with kind := .array 8 .int, interfaces := #[4, 5], accessFlags := 1041 }

def heap : Heap := #[]
def classes : Array Class := #[k0, k1, k2, k3, k4, k5, k6, k7, k8, k9]
def interned : List (Array UInt16 × Addr) := []
def slotsUsed : Nat := 0
def theMethod : MethodId := ⟨1, 2⟩
def args0 : Array Value := #[.long 5, .long 6, .int 7]
def aboutOver (below : List Frame) : State where
  vm := { classes := classes, interned := interned.toArray }
  heap := heap
  slotsUsed := slotsUsed
  threads := #[{ frames := .invoking theMethod args0 :: below }]
def below0 : List Frame := [.native { method := ⟨0, 0⟩, args := #[] }]
def about1 : State := aboutOver below0
def p0 : Program := .bare "" "" ""
def e0 : Env := launch0.env 0 0 0
theorem w_frames : about1.frames = Frame.invoking theMethod args0 :: below0 := rfl
set_option maxRecDepth 65536 in
theorem w_args : argsFit about1.vm theMethod args0 = true := by decide +kernel
set_option maxRecDepth 65536 in
theorem w_heap : heapFits about1 = true := by decide +kernel
set_option maxRecDepth 65536 in
theorem w_runnable : about1.curStatus? = some .runnable := by decide +kernel
set_option maxRecDepth 65536 in
theorem w_alone : about1.alone = true := by decide +kernel
set_option maxRecDepth 65536 in
theorem w_named : about1.methodNamed? x = some theMethod := by decide +kernel
set_option maxRecDepth 65536 in
theorem w_hears : about1.hears theMethod below0 = true := by decide +kernel
set_option maxRecDepth 65536 in
theorem w_ripe : about1.ripe theMethod args0 below0 = true := by decide +kernel
theorem w_running : about1.status = .running := rfl
set_option maxRecDepth 65536 in
theorem w_room : about1.hasRoom e0.platform room_1 = true :=
  launch0.hasRoom_least _ room_1 (by decide +kernel) (by decide +kernel) (by decide +kernel) (by decide +kernel) (by decide +kernel) (by decide +kernel)
theorem allAtoms_all (ts : List Jvm.Cond) (a : Array Jvm.Value) (st : Jvm.State) : (allAtoms ts).before a st = ts.all (fun c => c.before a st) := by
  induction ts with
  | nil => rfl
  | cons c t ih =>
    show (Jvm.Cond.and c (allAtoms t)).before a st = _
    rw [Jvm.Cond.before_and, ih, List.all_cons]
def words1 : List Jvm.Cond := Jvm.Cond.code x code maxLocals ret :: tables_1
/-- a 'code' word, met by the world's own term for the bytes: nothing is compared byte by byte -/
theorem code_word {y : MethodName} {bytes : ByteArray} {mx : Nat} {rt : Option FieldType} {a : Array Value} {s : State} {m : MethodId} {meth : Method} {c : Code} (h1 : s.methodNamed? y = some m) (h2 : s.vm.method? m = some meth) (h3 : meth.code = some c) (h4 : c.code = bytes)
    (h5 : (c.maxLocals == mx && c.exceptionTable.isEmpty && decide (c.maxStack ≤ mostOperands) && decide (meth.sig.returnType = rt) && !meth.locks && decide (parseMethodDescriptor y.desc = some meth.sig)) = true) : (Jvm.Cond.code y bytes mx rt).before a s = true := by
  simp only [Bool.and_eq_true, beq_iff_eq, Bool.not_eq_true', decide_eq_true_eq] at h5
  obtain ⟨⟨⟨⟨⟨g1, g2⟩, g3⟩, g4⟩, g5⟩, g6⟩ := h5
  simp [Cond.before, Cond.holds, Cond.value, h1, h2, h3, h4, g1, g2, g3, g4, g5, g6]
def isCode : Jvm.Cond → Bool
  | .code _ _ _ _ => true
  | _ => false
theorem all_split {L : List Jvm.Cond} {P : Jvm.Cond → Bool} (h1 : L.all (fun c => isCode c || P c) = true) (h2 : ∀ c ∈ L.filter isCode, P c = true) : L.all P = true := by
  refine List.all_eq_true.mpr fun c hc => ?_
  have h := List.all_eq_true.mp h1 c hc
  rcases Bool.eq_false_or_eq_true (isCode c) with hi | hi
  · exact h2 c (List.mem_filter.mpr ⟨hc, hi⟩)
  · simpa [hi] using h
set_option maxRecDepth 65536 in
theorem w_c0 : (Jvm.Cond.code x code maxLocals ret).before args0 about1 = true := code_word (m := ⟨1, 2⟩) (meth := k1m2) (c := k1c2) (by decide +kernel) rfl rfl rfl (by decide +kernel)
set_option maxRecDepth 65536 in
theorem w_c1 : (Jvm.Cond.code ({ cls := "com/example/hence/hence/cli/CommandThread", name := "stackSize", desc := "(J)J" } : Jvm.MethodName) prog_2_method_3_code (2 : Nat) (Option.some Jvm.ClassFile.FieldType.long)).before args0 about1 = true := code_word (m := ⟨2, 1⟩) (meth := k2m1) (c := k2c1) (by decide +kernel) rfl rfl rfl (by decide +kernel)
set_option maxRecDepth 65536 in
theorem w_c2 : (Jvm.Cond.code ({ cls := "com/example/hence/hence/cli/CommandThreadStackSizePinLaw", name := "ok", desc := "(JJ)Z" } : Jvm.MethodName) method_2_code (6 : Nat) (Option.some Jvm.ClassFile.FieldType.boolean)).before args0 about1 = true := code_word (m := ⟨1, 1⟩) (meth := k1m1) (c := k1c1) (by decide +kernel) rfl rfl rfl (by decide +kernel)
set_option maxRecDepth 65536 in
theorem w_c3 : (Jvm.Cond.code ({ cls := "java/lang/Math", name := "min", desc := "(JJ)J" } : Jvm.MethodName) jdk_29_method_70_code (4 : Nat) (Option.some Jvm.ClassFile.FieldType.long)).before args0 about1 = true := code_word (m := ⟨3, 1⟩) (meth := k3m1) (c := k3c1) (by decide +kernel) rfl rfl rfl (by decide +kernel)
def codes1 : List Jvm.Cond := [Jvm.Cond.code x code maxLocals ret, Jvm.Cond.code ({ cls := "com/example/hence/hence/cli/CommandThread", name := "stackSize", desc := "(J)J" } : Jvm.MethodName) prog_2_method_3_code (2 : Nat) (Option.some Jvm.ClassFile.FieldType.long), Jvm.Cond.code ({ cls := "com/example/hence/hence/cli/CommandThreadStackSizePinLaw", name := "ok", desc := "(JJ)Z" } : Jvm.MethodName) method_2_code (6 : Nat) (Option.some Jvm.ClassFile.FieldType.boolean), Jvm.Cond.code ({ cls := "java/lang/Math", name := "min", desc := "(JJ)J" } : Jvm.MethodName) jdk_29_method_70_code (4 : Nat) (Option.some Jvm.ClassFile.FieldType.long)]
set_option maxRecDepth 65536 in
theorem codes_eq : words1.filter isCode = codes1 := rfl
theorem w_codes : ∀ c ∈ words1.filter isCode, c.before args0 about1 = true := by
  rw [codes_eq]
  intro c hc
  simp only [codes1, List.mem_cons, List.not_mem_nil, or_false] at hc
  rcases hc with rfl | rfl | rfl | rfl
  · exact w_c0
  · exact w_c1
  · exact w_c2
  · exact w_c3
set_option maxRecDepth 65536 in
theorem w_t1 : words1.all (fun c => isCode c || c.before args0 about1) = true := by decide +kernel
theorem w_tables : (allAtoms (Jvm.Cond.code x code maxLocals ret :: tables_1)).before args0 about1 = true := by
  rw [allAtoms_all]
  show words1.all (fun c => c.before args0 about1) = true
  refine all_split ?_ w_codes
  rw [w_t1]
set_option maxRecDepth 65536 in
theorem w_case : (Jvm.Cond.and given_1 narrow_1).before args0 about1 = true := by decide +kernel
theorem w_applies : (headSpec (Jvm.Cond.code x code maxLocals ret :: tables_1) room_1).applies x e0.platform about1 = true :=
  (Spec.applies_iff w_frames).mpr ⟨w_running, w_runnable, w_alone, w_named, w_hears, w_ripe, w_room, w_tables⟩
theorem atStart : AtStart classFile x code maxLocals ret World_1 tables_1 room_1 Calls_1 rest_1 Pre_1 launch0 p0 e0 about1 theMethod args0 below0 :=
  ⟨lists_1, trivial, launch0.admits_env _ _ _, launch0.least_env, fairChoices_fair.cas, fairChoices_fair.clock, w_frames, w_args, w_heap, w_applies, trivial, trivial, w_case⟩
end start1
theorem witness_1 : WitnessClaimed_1 := ⟨start1.p0, start1.e0, start1.about1, start1.theMethod, start1.args0, start1.below0, start1.atStart⟩
end Jvm.Pilot.@@N@@
