import JvmDerived
import JvmDerived.Pilot.@@N@@Statement
import JvmDerived.Pilot.@@N@@Code
set_option linter.unusedVariables false
set_option linter.unusedSimpArgs false
@@BLOCK:NumsL.lean.txt@@
namespace Jvm.Pilot.@@N@@
open Jvm Jvm.ClassFile Sem Op Lib Jvm.Free Jvm.Stand Jvm.LawKit Jvm.RoadKit Bundle Jvm.Pilot.@@N@@.Jvm.D
/-! general: a run that comes to its end with what Q says -/
def own_G (tb : Tables) (e : Env) (below : List Frame) (S : State) (s : State) (C N : Nat) (Q : Option Value → Heap → List Loc → Prop) : Prop :=
  ∃ t o, Steps tb e below S t ∧ t.status = .running ∧ Ended t below o ∧ ∃ v L, o = .returned v ∧ Q v t.heap L ∧ FrameEnd s o t L C N
def own_P (n0 : Nat) (h0 : Heap) (w : Option Value) (v : Option Value) (h : Heap) (L : List Loc) : Prop := v = w ∧ Fr n0 L ∧ h = h0
section Own
variable {tb : Tables} {p : Program} {l : Launch} {e : Env} {R : Room} {s : State} {m : MethodId} {args : Array Value} {below : List Frame} {meth : Method} {c : Code} {T S S' : State} {locs : List Loc} {cells slots C N n0 : Nat} {h0 : Heap} {Q : Option Value → Heap → List Loc → Prop}
theorem own_go (h : ∀ t, Steps tb e below S' t → Steps tb e below S t) (k : own_G tb e below S' s C N Q) : own_G tb e below S s C N Q := by
  obtain ⟨t, o, a, b⟩ := k
  exact ⟨t, o, h t a, b⟩
theorem own_tr (h : Steps tb e below S S') (k : own_G tb e below S' s C N Q) : own_G tb e below S s C N Q := by
  obtain ⟨t, o, a, b⟩ := k
  exact ⟨t, o, h.trans a, b⟩
theorem own_itI {P : Prop} [Decidable P] {A B : Int32} (h : P) (k : own_G tb e below S s C N (own_P n0 h0 (some (.int A)))) : own_G tb e below S s C N (own_P n0 h0 (some (.int (if P then A else B)))) := by rw [if_pos h]; exact k
theorem own_ifI {P : Prop} [Decidable P] {A B : Int32} (h : ¬ P) (k : own_G tb e below S s C N (own_P n0 h0 (some (.int B)))) : own_G tb e below S s C N (own_P n0 h0 (some (.int (if P then A else B)))) := by rw [if_neg h]; exact k
theorem own_itJ {P : Prop} [Decidable P] {A B : Int64} (h : P) (k : own_G tb e below S s C N (own_P n0 h0 (some (.long A)))) : own_G tb e below S s C N (own_P n0 h0 (some (.long (if P then A else B)))) := by rw [if_pos h]; exact k
theorem own_ifJ {P : Prop} [Decidable P] {A B : Int64} (h : ¬ P) (k : own_G tb e below S s C N (own_P n0 h0 (some (.long B)))) : own_G tb e below S s C N (own_P n0 h0 (some (.long (if P then A else B)))) := by rw [if_neg h]; exact k
theorem own_endO {w : Value} {t : FieldType} {i : Instr} (X : Stand p l e R s m args below meth c T locs cells slots) (hx : p.tables.exec = Jvm.exec) (hlk : meth.locks = false) {pc : Nat} {Ls : Array Slot} {rest : List Value} (hret : meth.sig.returnType = some t) (hn : narrow t w = w)
    (hi : (i = .ireturn ∧ (t = .int ∨ t = .boolean ∨ t = .byte ∨ t = .char ∨ t = .short) ∧ ∃ z, w = .int z) ∨ (i = .lreturn ∧ t = .long ∧ ∃ z, w = .long z) ∨ (i = .dreturn ∧ t = .double ∧ ∃ z, w = .double z) ∨ (i = .freturn ∧ t = .float ∧ ∃ z, w = .float z) ∨ (i = .areturn ∧ t.isReference = true ∧ w.isRef = true))
    (hd : decode c.code pc = .ok (i, 1)) (hC : cells ≤ C) (hN : slots ≤ N) (hQ : Q (some w) T.heap locs) : own_G p.tables e below (T.setTop (mkF m pc Ls (w :: rest))) s C N Q := by
  obtain ⟨fs, hr, hrun, hended, hW, hsame⟩ := X.leave (v := some w) (fun h => by rw [hret] at h; cases h) hlk
  exact ⟨_, _, retOut X hx hret hn hi hd hr, hrun, hended, _, _, rfl, hQ, ⟨_, rfl⟩, hW, hsame.mono hC hN⟩
theorem own_endI {z : Int32} (X : Stand p l e R s m args below meth c T locs cells slots) (hx : p.tables.exec = Jvm.exec) (hlk : meth.locks = false) {pc : Nat} {Ls : Array Slot} {rest : List Value} (hret : meth.sig.returnType = some .int)
    (hd : decode c.code pc = .ok (.ireturn, 1)) (hC : cells ≤ C) (hN : slots ≤ N) (hQ : Q (some (.int z)) T.heap locs) : own_G p.tables e below (T.setTop (mkF m pc Ls (.int z :: rest))) s C N Q :=
  own_endO X hx hlk hret rfl (Or.inl ⟨rfl, Or.inl rfl, z, rfl⟩) hd hC hN hQ
theorem own_endJ {z : Int64} (X : Stand p l e R s m args below meth c T locs cells slots) (hx : p.tables.exec = Jvm.exec) (hlk : meth.locks = false) {pc : Nat} {Ls : Array Slot} {rest : List Value} (hret : meth.sig.returnType = some .long)
    (hd : decode c.code pc = .ok (.lreturn, 1)) (hC : cells ≤ C) (hN : slots ≤ N) (hQ : Q (some (.long z)) T.heap locs) : own_G p.tables e below (T.setTop (mkF m pc Ls (.long z :: rest))) s C N Q :=
  own_endO X hx hlk hret rfl (Or.inr (Or.inl ⟨rfl, rfl, z, rfl⟩)) hd hC hN hQ
theorem own_endR {w : Value} {t : FieldType} (X : Stand p l e R s m args below meth c T locs cells slots) (hx : p.tables.exec = Jvm.exec) (hlk : meth.locks = false) {pc : Nat} {Ls : Array Slot} {rest : List Value} (hret : meth.sig.returnType = some t) (hn : narrow t w = w) (ht : t.isReference = true) (hw : w.isRef = true)
    (hd : decode c.code pc = .ok (.areturn, 1)) (hC : cells ≤ C) (hN : slots ≤ N) (hQ : Q (some w) T.heap locs) : own_G p.tables e below (T.setTop (mkF m pc Ls (w :: rest))) s C N Q :=
  own_endO X hx hlk hret hn (Or.inr (Or.inr (Or.inr (Or.inr ⟨rfl, ht, hw⟩)))) hd hC hN hQ
theorem own_endN {z : Int32} {t : FieldType} (X : Stand p l e R s m args below meth c T locs cells slots) (hx : p.tables.exec = Jvm.exec) (hlk : meth.locks = false) {pc : Nat} {Ls : Array Slot} {rest : List Value} (hret : meth.sig.returnType = some t) (ht : t = .boolean ∨ t = .byte ∨ t = .char ∨ t = .short)
    (hd : decode c.code pc = .ok (.ireturn, 1)) (hC : cells ≤ C) (hN : slots ≤ N) (hQ : Q (some (.int (nar t z))) T.heap locs) : own_G p.tables e below (T.setTop (mkF m pc Ls (.int z :: rest))) s C N Q := by
  obtain ⟨fs, hr, hrun, hended, hW, hsame⟩ := X.leave (v := some (.int (nar t z))) (fun h => by rw [hret] at h; cases h) hlk
  exact ⟨_, _, retN X hx hret ht hd hr, hrun, hended, _, _, rfl, hQ, ⟨_, rfl⟩, hW, hsame.mono hC hN⟩
theorem own_endV (X : Stand p l e R s m args below meth c T locs cells slots) (hx : p.tables.exec = Jvm.exec) (hlk : meth.locks = false) {pc : Nat} {Ls : Array Slot} (hret : meth.sig.returnType = none)
    (hd : decode c.code pc = .ok (.return_, 1)) (hC : cells ≤ C) (hN : slots ≤ N) (hQ : Q none T.heap locs) : own_G p.tables e below (T.setTop (mkF m pc Ls [])) s C N Q := by
  obtain ⟨fs, hr, hrun, hended, hW, hsame⟩ := X.leave (v := none) (fun _ => rfl) hlk
  exact ⟨_, _, X.returnOut hx hret hd hr, hrun, hended, _, _, rfl, hQ, ⟨_, rfl⟩, hW, hsame.mono hC hN⟩
end Own
theorem own_k4 (x : Int32) : (x &&& 3) = 0 ∨ (x &&& 3) = 1 ∨ (x &&& 3) = 2 ∨ (x &&& 3) = 3 := by
  have e := Jvm.Kit.i32_mask x 3 (k := 2) (by decide) (by decide)
  have h : ∀ k : Int, (x &&& 3).toInt = k → (x &&& 3) = Int32.ofInt k := fun k q => by rw [← q, Int32.ofInt_toInt]
  have : x.toInt % 2 ^ 2 = 0 ∨ x.toInt % 2 ^ 2 = 1 ∨ x.toInt % 2 ^ 2 = 2 ∨ x.toInt % 2 ^ 2 = 3 := by omega
  rcases this with q | q | q | q
  · exact Or.inl (h 0 (by rw [e, q]))
  · exact Or.inr (Or.inl (h 1 (by rw [e, q])))
  · exact Or.inr (Or.inr (Or.inl (h 2 (by rw [e, q]))))
  · exact Or.inr (Or.inr (Or.inr (h 3 (by rw [e, q]))))

theorem d4_0 : decode jdk_71_method_1_code 0 = .ok (.aload_n 0, 1) := by decide +kernel
theorem d4_1 : decode jdk_71_method_1_code 1 = .ok (.invokespecial 1, 3) := by decide +kernel
theorem d4_4 : decode jdk_71_method_1_code 4 = .ok (.return_, 1) := by decide +kernel
theorem pn_0 : plainName "java/util/AbstractMap" = true := by first | (simp [plainName, overriddenIn]; done) | decide +kernel
theorem ef_4 (m : MethodId) (p0 : Addr) : entryFrame m #[(.ref p0)] 1 = mkF m 0 #[.val (.ref p0)] [] := by first | (simp [entryFrame, mkF, argsToLocals, Value.category]; done) | rfl
def Q4 (Z : State) (p0 : Addr) (h0 : Heap) (n0 : Nat) (v : Option Value) (h : Heap) (L : List Loc) : Prop := v = none ∧ Fr n0 L ∧ h = h0
set_option maxRecDepth 65536 in
set_option maxHeartbeats 40000000 in
theorem rm4 (l : Launch) (Z : State) (a0 : Array Value) (hw : ∀ d ∈ tables_1, d.before a0 Z = true) (ws : List Jvm.Cond) (p0 : Addr) (h0 : Heap) (n0 : Nat) :
    MetFree l (⟨"java/util/AbstractMap", "<init>", "()V"⟩ : MethodName) (head1 (Jvm.Cond.code (⟨"java/util/AbstractMap", "<init>", "()V"⟩ : MethodName) jdk_71_method_1_code 1 none :: ws) ({ frames := 1, cells := 0, slots := 0, locals := 12 } : Room)) (fun a U => a = #[(.ref p0)] ∧ Z.Warmed39 U.vm ∧ U.heap = h0) (fun _ _ _ _ _ => True) (fun _ U o U' => ∃ v L, o = .returned v ∧ (Q4 Z p0 h0 n0) v U'.heap L ∧ FrameEnd U o U' L ({ frames := 1, cells := 0, slots := 0, locals := 12 } : Room).cells ({ frames := 1, cells := 0, slots := 0, locals := 12 } : Room).slots) := by
  refine MetFree.of_bodySF (plainFor_of_name pn_0) hisR ?_
  intro p e s m args below meth c s₁ Bd hml0 hP hK
  obtain ⟨rfl, hZ, hh⟩ := hP
  have hx := Bd.exec
  have hby := Bd.bytes
  have hml : c.maxLocals = 1 := hml0
  have hown : s.vm.findClass "java/util/AbstractMap" = some m.cls := findClass_of_methodNamed Bd.named
  have hnm := (name_of_methodNamed Bd.named Bd.method).1
  have hlk : meth.locks = false := BodyLoose.notSynchronized Bd
  have X0 : Stand p l e ({ frames := 1, cells := 0, slots := 0, locals := 12 } : Room) s m #[(.ref p0)] below meth c s₁ [] 0 0 := Stand.of_body Bd
  have e0 : s₁.heap = h0 := by rw [← hh, Bd.state]; rfl
  have N0 := Fr.nil n0
  show own_G p.tables e below (s₁.setTop (entryFrame m #[(.ref p0)] 1)) s ({ frames := 1, cells := 0, slots := 0, locals := 12 } : Room).cells ({ frames := 1, cells := 0, slots := 0, locals := 12 } : Room).slots (Q4 Z p0 h0 n0)
  refine own_go (fun t k => castTop (ef_4 m p0) k) ?_
  show own_G _ _ _ (s₁.setTop (mkF m 0 #[.val (.ref p0)] [])) _ _ _ _
  refine own_go (fun t k => XS.aloadN X0.here hx rfl (hb hby d4_0) rfl rfl k) ?_
  show own_G _ _ _ (s₁.setTop (mkF m 1 #[.val (.ref p0)] [(.ref p0)])) _ _ _ _
  obtain ⟨T1, X1, e1, st1⟩ := initO X0 hx hZ hown (hw _ (List.mem_of_getElem? (i := 21) rfl)) (hw _ (List.mem_of_getElem? (i := 7) rfl)) (hw _ (List.mem_of_getElem? (i := 8) rfl)) e0 (g := (mkF m 1 #[.val (.ref p0)] [(.ref p0)])) rfl (by rw [hml]; rfl) rfl (hb hby d4_1) (by decide) (W := 0) (by show 2 * 0 + _ ≤ _; exact Nat.le_of_eq rfl) (by decide)
  refine own_go (fun t k => st1 _ k) ?_
  show own_G _ _ _ (T1.setTop (mkF m 4 #[.val (.ref p0)] [])) _ _ _ _
  exact own_endV X1 hx hlk Bd.returns (hb hby d4_4) (by decide) (by decide) (Q := (Q4 Z p0 h0 n0)) (by rw [e1]; exact ⟨rfl, N0, rfl⟩)
theorem d3_0 : decode jdk_69_method_7_code 0 = .ok (.aload_n 0, 1) := by decide +kernel
theorem d3_1 : decode jdk_69_method_7_code 1 = .ok (.invokespecial 43, 3) := by decide +kernel
theorem d3_4 : decode jdk_69_method_7_code 4 = .ok (.aload_n 0, 1) := by decide +kernel
theorem d3_5 : decode jdk_69_method_7_code 5 = .ok (.ldc 92, 2) := by decide +kernel
theorem d3_7 : decode jdk_69_method_7_code 7 = .ok (.putfield 81, 3) := by decide +kernel
theorem d3_10 : decode jdk_69_method_7_code 10 = .ok (.return_, 1) := by decide +kernel
theorem pd_0 : parseMethodDescriptor "()V" = some ⟨[], none⟩ := by decide +kernel
theorem pn_1 : plainName "java/util/HashMap" = true := by first | (simp [plainName, overriddenIn]; done) | decide +kernel
theorem ef_3 (m : MethodId) (p0 : Addr) : entryFrame m #[(.ref p0)] 1 = mkF m 0 #[.val (.ref p0)] [] := by first | (simp [entryFrame, mkF, argsToLocals, Value.category]; done) | rfl
def Q3 (Z : State) (p0 : Addr) (h0 : Heap) (n0 : Nat) (v : Option Value) (h : Heap) (L : List Loc) : Prop := v = none ∧ Fr n0 L ∧ Keep h0 h [p0] ∧ Exa Z h p0 "java/util/HashMap" ∧ Fld Z h p0 "java/util/HashMap" "size" "I" (.int (0 : Int32))
set_option maxRecDepth 65536 in
set_option maxHeartbeats 40000000 in
theorem rm3 (l : Launch) (Z : State) (a0 : Array Value) (hw : ∀ d ∈ tables_1, d.before a0 Z = true) (ws : List Jvm.Cond) (p0 : Addr) (h0 : Heap) (n0 : Nat) (Z0 : n0 ≤ h0.size) (P_E_p0 : Exa Z h0 p0 "java/util/HashMap") (P_F_p0_loadFactor : Fld Z h0 p0 "java/util/HashMap" "loadFactor" "F" (.float 0)) (P_F_p0_size : Fld Z h0 p0 "java/util/HashMap" "size" "I" (.int (0 : Int32))) (g_p0 : n0 ≤ p0) :
    MetFree l (⟨"java/util/HashMap", "<init>", "()V"⟩ : MethodName) (head1 (Jvm.Cond.code (⟨"java/util/HashMap", "<init>", "()V"⟩ : MethodName) jdk_69_method_7_code 1 none :: ws) ({ frames := 2, cells := 0, slots := 0, locals := 24 } : Room)) (fun a U => a = #[(.ref p0)] ∧ Z.Warmed39 U.vm ∧ U.heap = h0) (fun _ _ _ _ _ => True) (fun _ U o U' => ∃ v L, o = .returned v ∧ (Q3 Z p0 h0 n0) v U'.heap L ∧ FrameEnd U o U' L ({ frames := 2, cells := 0, slots := 0, locals := 24 } : Room).cells ({ frames := 2, cells := 0, slots := 0, locals := 24 } : Room).slots) := by
  refine MetFree.of_bodySF (plainFor_of_name pn_1) hisR ?_
  intro p e s m args below meth c s₁ Bd hml0 hP hK
  obtain ⟨rfl, hZ, hh⟩ := hP
  have hx := Bd.exec
  have hby := Bd.bytes
  have hml : c.maxLocals = 1 := hml0
  have hown : s.vm.findClass "java/util/HashMap" = some m.cls := findClass_of_methodNamed Bd.named
  have hnm := (name_of_methodNamed Bd.named Bd.method).1
  have hlk : meth.locks = false := BodyLoose.notSynchronized Bd
  have X0 : Stand p l e ({ frames := 2, cells := 0, slots := 0, locals := 24 } : Room) s m #[(.ref p0)] below meth c s₁ [] 0 0 := Stand.of_body Bd
  have e0 : s₁.heap = h0 := by rw [← hh, Bd.state]; rfl
  have N0 := Fr.nil n0
  have K0 : Keep h0 h0 [p0] := Keep.refl h0 [p0]
  show own_G p.tables e below (s₁.setTop (entryFrame m #[(.ref p0)] 1)) s ({ frames := 2, cells := 0, slots := 0, locals := 24 } : Room).cells ({ frames := 2, cells := 0, slots := 0, locals := 24 } : Room).slots (Q3 Z p0 h0 n0)
  refine own_go (fun t k => castTop (ef_3 m p0) k) ?_
  show own_G _ _ _ (s₁.setTop (mkF m 0 #[.val (.ref p0)] [])) _ _ _ _
  refine own_go (fun t k => XS.aloadN X0.here hx rfl (hb hby d3_0) rfl rfl k) ?_
  show own_G _ _ _ (s₁.setTop (mkF m 1 #[.val (.ref p0)] [(.ref p0)])) _ _ _ _
  obtain ⟨_, _, ⟨T1, L1, k1, n1⟩, -, X1, ⟨Lc1, hQ1, l1, y1, z1⟩, st1⟩ := X0.specialBack hx (y := (⟨"java/util/AbstractMap", "<init>", "()V"⟩ : MethodName)) rfl hown (mvT hZ (hw _ (List.mem_of_getElem? (i := 15) rfl))) (mvT hZ (hw _ (List.mem_of_getElem? (i := 16) rfl))) (mvT hZ (hw _ (List.mem_of_getElem? (i := 20) rfl))) (by decide) (backOf (W := 0) (rm4 l Z a0 hw [] p0 h0 n0) hZ (hw _ (List.mem_of_getElem? (i := 20) rfl)) (hw _ (List.mem_of_getElem? (i := 19) rfl)) (by decide) (by decide)) (g := (mkF m 1 #[.val (.ref p0)] [(.ref p0)])) rfl (by rw [hml]; rfl) (Steps.refl _) (a := p0) (argsL := []) (rest := []) (lenOf pd_0 rfl) rfl (by show 2 * 0 + _ ≤ _; exact Nat.le_of_eq rfl) (hb hby d3_1) (fun _ _ => ⟨rfl, e0, (by decide : 0 + 0 ≤ _), (by decide : 0 + 0 ≤ _)⟩)
  dsimp only [Pt.U, Pt.locs, Pt.cells, Pt.slots] at X1 l1 y1 z1 st1 hQ1
  subst l1 y1 z1
  obtain ⟨rfl, Nq1, eh1⟩ := hQ1
  have N1 := Fr.app N0 Nq1
  refine own_tr st1 ?_
  show own_G _ _ _ (T1.setTop (mkF m 4 #[.val (.ref p0)] [])) _ _ _ _
  refine own_go (fun t k => XS.aloadN X1.here hx rfl (hb hby d3_4) rfl rfl k) ?_
  show own_G _ _ _ (T1.setTop (mkF m 5 #[.val (.ref p0)] [(.ref p0)])) _ _ _ _
  refine own_go (fun t k => X1.ldcFloatC hx hown (mvT hZ (hw _ (List.mem_of_getElem? (i := 22) rfl))) (g := (mkF m 5 #[.val (.ref p0)] [(.ref p0)])) rfl (hb hby d3_5) _ k) ?_
  show own_G _ _ _ (T1.setTop (mkF m 7 #[.val (.ref p0)] [(.float (1061158912 : UInt32)), (.ref p0)])) _ _ _ _
  obtain ⟨T2, h2, X2, e2, W2, st2⟩ := putF X1 hx hZ hown (host := "") (Or.inl (hw _ (List.mem_of_getElem? (i := 23) rfl))) Via.refl eh1 P_F_p0_loadFactor P_E_p0 (Or.inr ⟨(hw _ (List.mem_of_getElem? (i := 24) rfl)), rfl, hnm⟩) (hw _ (List.mem_of_getElem? (i := 10) rfl)) (ty := .float) (by decide) rfl rfl (g := (mkF m 7 #[.val (.ref p0)] [(.float (1061158912 : UInt32)), (.ref p0)])) rfl rfl (hb hby d3_7)
  have N2 := Fr.snoc X2 N1 g_p0
  have Zs2 : n0 ≤ h2.size := Nat.le_trans Z0 (Keep.of_wr W2).1
  have K2_0 : Keep h0 h2 [p0] := K0.wr W2 (Or.inl (List.mem_of_getElem? (i := 0) rfl))
  have f3 : Exa Z h2 p0 "java/util/HashMap" := P_E_p0.wr W2
  have f4 : Fld Z h2 p0 "java/util/HashMap" "loadFactor" "F" (.float (1061158912 : UInt32)) := P_F_p0_loadFactor.same W2
  have f5 : Fld Z h2 p0 "java/util/HashMap" "size" "I" (.int (0 : Int32)) := P_F_p0_size.other W2 (Or.inr (slot_ne (Or.inl (hw _ (List.mem_of_getElem? (i := 73) rfl))) (Or.inr (hw _ (List.mem_of_getElem? (i := 24) rfl))) (by decide) (t := .int) (t' := .float) (by decide) (by decide)))
  refine own_go (fun t k => st2 _ k) ?_
  show own_G _ _ _ (T2.setTop (mkF m 10 #[.val (.ref p0)] [])) _ _ _ _
  exact own_endV X2 hx hlk Bd.returns (hb hby d3_10) (by decide) (by decide) (Q := (Q3 Z p0 h0 n0)) (by rw [e2]; exact ⟨rfl, N2, K2_0, f3, f5⟩)
theorem d1_0 : decode prog_9_method_1_code 0 = .ok (.aload_n 0, 1) := by decide +kernel
theorem d1_1 : decode prog_9_method_1_code 1 = .ok (.invokespecial 1, 3) := by decide +kernel
theorem d1_4 : decode prog_9_method_1_code 4 = .ok (.aload_n 0, 1) := by decide +kernel
theorem d1_5 : decode prog_9_method_1_code 5 = .ok (.new 7, 3) := by decide +kernel
theorem d1_8 : decode prog_9_method_1_code 8 = .ok (.dup, 1) := by decide +kernel
theorem d1_9 : decode prog_9_method_1_code 9 = .ok (.invokespecial 9, 3) := by decide +kernel
theorem d1_12 : decode prog_9_method_1_code 12 = .ok (.putfield 10, 3) := by decide +kernel
theorem d1_15 : decode prog_9_method_1_code 15 = .ok (.aload_n 0, 1) := by decide +kernel
theorem d1_16 : decode prog_9_method_1_code 16 = .ok (.iconst (-1), 1) := by decide +kernel
theorem d1_17 : decode prog_9_method_1_code 17 = .ok (.putfield 16, 3) := by decide +kernel
theorem d1_20 : decode prog_9_method_1_code 20 = .ok (.aload_n 0, 1) := by decide +kernel
theorem d1_21 : decode prog_9_method_1_code 21 = .ok (.bipush 16, 2) := by decide +kernel
theorem d1_23 : decode prog_9_method_1_code 23 = .ok (.newarray .int, 2) := by decide +kernel
theorem d1_25 : decode prog_9_method_1_code 25 = .ok (.putfield 20, 3) := by decide +kernel
theorem d1_28 : decode prog_9_method_1_code 28 = .ok (.aload_n 0, 1) := by decide +kernel
theorem d1_29 : decode prog_9_method_1_code 29 = .ok (.bipush 16, 2) := by decide +kernel
theorem d1_31 : decode prog_9_method_1_code 31 = .ok (.newarray .int, 2) := by decide +kernel
theorem d1_33 : decode prog_9_method_1_code 33 = .ok (.putfield 24, 3) := by decide +kernel
theorem d1_36 : decode prog_9_method_1_code 36 = .ok (.aload_n 0, 1) := by decide +kernel
theorem d1_37 : decode prog_9_method_1_code 37 = .ok (.bipush 16, 2) := by decide +kernel
theorem d1_39 : decode prog_9_method_1_code 39 = .ok (.anewarray 27, 3) := by decide +kernel
theorem d1_42 : decode prog_9_method_1_code 42 = .ok (.putfield 29, 3) := by decide +kernel
theorem d1_45 : decode prog_9_method_1_code 45 = .ok (.aload_n 0, 1) := by decide +kernel
theorem d1_46 : decode prog_9_method_1_code 46 = .ok (.bipush 16, 2) := by decide +kernel
theorem d1_48 : decode prog_9_method_1_code 48 = .ok (.newarray .int, 2) := by decide +kernel
theorem d1_50 : decode prog_9_method_1_code 50 = .ok (.putfield 33, 3) := by decide +kernel
theorem d1_53 : decode prog_9_method_1_code 53 = .ok (.aload_n 0, 1) := by decide +kernel
theorem d1_54 : decode prog_9_method_1_code 54 = .ok (.iconst 1, 1) := by decide +kernel
theorem d1_55 : decode prog_9_method_1_code 55 = .ok (.newarray .int, 2) := by decide +kernel
theorem d1_57 : decode prog_9_method_1_code 57 = .ok (.dup, 1) := by decide +kernel
theorem d1_58 : decode prog_9_method_1_code 58 = .ok (.iconst 0, 1) := by decide +kernel
theorem d1_59 : decode prog_9_method_1_code 59 = .ok (.iconst 0, 1) := by decide +kernel
theorem d1_60 : decode prog_9_method_1_code 60 = .ok (.iastore, 1) := by decide +kernel
theorem d1_61 : decode prog_9_method_1_code 61 = .ok (.putfield 36, 3) := by decide +kernel
theorem d1_64 : decode prog_9_method_1_code 64 = .ok (.return_, 1) := by decide +kernel
theorem pn_2 : plainName "com/example/pacelint/pacelint/analysis/DifferenceBounds" = true := by first | (simp [plainName, overriddenIn]; done) | decide +kernel
theorem ef_1 (m : MethodId) (p0 : Addr) : entryFrame m #[(.ref p0)] 1 = mkF m 0 #[.val (.ref p0)] [] := by first | (simp [entryFrame, mkF, argsToLocals, Value.category]; done) | rfl
def Q1 (Z : State) (p0 : Addr) (h0 : Heap) (n0 : Nat) (v : Option Value) (h : Heap) (L : List Loc) : Prop := ∃ (mp : Addr), v = none ∧ Fr n0 L ∧ Keep h0 h [p0] ∧ h0.size ≤ mp ∧ Exa Z h p0 "com/example/pacelint/pacelint/analysis/DifferenceBounds" ∧ Fld Z h p0 "com/example/pacelint/pacelint/analysis/DifferenceBounds" "events" "Ljava/util/Map;" (.ref mp) ∧ Fld Z h p0 "com/example/pacelint/pacelint/analysis/DifferenceBounds" "pointCount" "I" (.int (0 : Int32)) ∧ Fld Z h p0 "com/example/pacelint/pacelint/analysis/DifferenceBounds" "boundCount" "I" (.int (0 : Int32)) ∧ Exa Z h mp "java/util/HashMap" ∧ Fld Z h mp "java/util/HashMap" "size" "I" (.int (0 : Int32))
set_option maxRecDepth 65536 in
set_option maxHeartbeats 40000000 in
theorem rm1 (l : Launch) (Z : State) (a0 : Array Value) (hw : ∀ d ∈ tables_1, d.before a0 Z = true) (ws : List Jvm.Cond) (p0 : Addr) (h0 : Heap) (n0 : Nat) (Z0 : n0 ≤ h0.size) (P_E_p0 : Exa Z h0 p0 "com/example/pacelint/pacelint/analysis/DifferenceBounds") (P_F_p0_events : Fld Z h0 p0 "com/example/pacelint/pacelint/analysis/DifferenceBounds" "events" "Ljava/util/Map;" .null) (P_F_p0_stating : Fld Z h0 p0 "com/example/pacelint/pacelint/analysis/DifferenceBounds" "stating" "I" (.int (0 : Int32))) (P_F_p0_from : Fld Z h0 p0 "com/example/pacelint/pacelint/analysis/DifferenceBounds" "from" "[I" .null) (P_F_p0_to : Fld Z h0 p0 "com/example/pacelint/pacelint/analysis/DifferenceBounds" "to" "[I" .null) (P_F_p0_limit : Fld Z h0 p0 "com/example/pacelint/pacelint/analysis/DifferenceBounds" "limit" "[Lcom/example/pacelint/pacelint/model/Duration;" .null) (P_F_p0_requirement : Fld Z h0 p0 "com/example/pacelint/pacelint/analysis/DifferenceBounds" "requirement" "[I" .null) (P_F_p0_firstBound : Fld Z h0 p0 "com/example/pacelint/pacelint/analysis/DifferenceBounds" "firstBound" "[I" .null) (P_F_p0_pointCount : Fld Z h0 p0 "com/example/pacelint/pacelint/analysis/DifferenceBounds" "pointCount" "I" (.int (0 : Int32))) (P_F_p0_boundCount : Fld Z h0 p0 "com/example/pacelint/pacelint/analysis/DifferenceBounds" "boundCount" "I" (.int (0 : Int32))) (g_p0 : n0 ≤ p0) :
    MetFree l (⟨"com/example/pacelint/pacelint/analysis/DifferenceBounds", "<init>", "()V"⟩ : MethodName) (head1 (Jvm.Cond.code (⟨"com/example/pacelint/pacelint/analysis/DifferenceBounds", "<init>", "()V"⟩ : MethodName) prog_9_method_1_code 1 none :: ws) ({ frames := 3, cells := 6, slots := 73, locals := 38 } : Room)) (fun a U => a = #[(.ref p0)] ∧ Z.Warmed39 U.vm ∧ U.heap = h0) (fun _ _ _ _ _ => True) (fun _ U o U' => ∃ v L, o = .returned v ∧ (Q1 Z p0 h0 n0) v U'.heap L ∧ FrameEnd U o U' L ({ frames := 3, cells := 6, slots := 73, locals := 38 } : Room).cells ({ frames := 3, cells := 6, slots := 73, locals := 38 } : Room).slots) := by
  refine MetFree.of_bodySF (plainFor_of_name pn_2) hisR ?_
  intro p e s m args below meth c s₁ Bd hml0 hP hK
  obtain ⟨rfl, hZ, hh⟩ := hP
  have hx := Bd.exec
  have hby := Bd.bytes
  have hml : c.maxLocals = 1 := hml0
  have hown : s.vm.findClass "com/example/pacelint/pacelint/analysis/DifferenceBounds" = some m.cls := findClass_of_methodNamed Bd.named
  have hnm := (name_of_methodNamed Bd.named Bd.method).1
  have hlk : meth.locks = false := BodyLoose.notSynchronized Bd
  have X0 : Stand p l e ({ frames := 3, cells := 6, slots := 73, locals := 38 } : Room) s m #[(.ref p0)] below meth c s₁ [] 0 0 := Stand.of_body Bd
  have e0 : s₁.heap = h0 := by rw [← hh, Bd.state]; rfl
  have N0 := Fr.nil n0
  have K0 : Keep h0 h0 [p0] := Keep.refl h0 [p0]
  show own_G p.tables e below (s₁.setTop (entryFrame m #[(.ref p0)] 1)) s ({ frames := 3, cells := 6, slots := 73, locals := 38 } : Room).cells ({ frames := 3, cells := 6, slots := 73, locals := 38 } : Room).slots (Q1 Z p0 h0 n0)
  refine own_go (fun t k => castTop (ef_1 m p0) k) ?_
  show own_G _ _ _ (s₁.setTop (mkF m 0 #[.val (.ref p0)] [])) _ _ _ _
  refine own_go (fun t k => XS.aloadN X0.here hx rfl (hb hby d1_0) rfl rfl k) ?_
  show own_G _ _ _ (s₁.setTop (mkF m 1 #[.val (.ref p0)] [(.ref p0)])) _ _ _ _
  obtain ⟨T1, X1, e1, st1⟩ := initO X0 hx hZ hown (hw _ (List.mem_of_getElem? (i := 6) rfl)) (hw _ (List.mem_of_getElem? (i := 7) rfl)) (hw _ (List.mem_of_getElem? (i := 8) rfl)) e0 (g := (mkF m 1 #[.val (.ref p0)] [(.ref p0)])) rfl (by rw [hml]; rfl) rfl (hb hby d1_1) (by decide) (W := 0) (by show 2 * 0 + _ ≤ _; exact Nat.le_of_eq rfl) (by decide)
  refine own_go (fun t k => st1 _ k) ?_
  show own_G _ _ _ (T1.setTop (mkF m 4 #[.val (.ref p0)] [])) _ _ _ _
  refine own_go (fun t k => XS.aloadN X1.here hx rfl (hb hby d1_4) rfl rfl k) ?_
  show own_G _ _ _ (T1.setTop (mkF m 5 #[.val (.ref p0)] [(.ref p0)])) _ _ _ _
  obtain ⟨T2, h2, X2, e2, E2, A2, D2, -, st2⟩ := newO X1 hx hZ hown (hw _ (List.mem_of_getElem? (i := 9) rfl)) (hw _ (List.mem_of_getElem? (i := 10) rfl)) (hw _ (List.mem_of_getElem? (i := 11) rfl)) e1 (g := (mkF m 5 #[.val (.ref p0)] [(.ref p0)])) rfl (hb hby d1_5) (by decide) (by decide)
  obtain ⟨b2, g2⟩ : ∃ z, z = h0.size := ⟨_, rfl⟩
  rw [← g2] at A2 D2 st2
  have ne3 : p0 ≠ b2 := Nat.ne_of_lt (Nat.lt_of_lt_of_le P_E_p0.lt (Nat.le_of_eq g2.symm))
  have gg2 : n0 ≤ b2 := Nat.le_trans Z0 (Nat.le_of_eq g2.symm)
  have sz2_0 : h0.size ≤ b2 := Nat.le_trans K0.1 (Nat.le_of_eq g2.symm)
  have Zs2 : n0 ≤ h2.size := Nat.le_trans Z0 E2.1
  have K2_0 : Keep h0 h2 [p0] := K0.ext E2
  have f4 : Exa Z h2 p0 "com/example/pacelint/pacelint/analysis/DifferenceBounds" := P_E_p0.ext E2
  have f5 : Fld Z h2 p0 "com/example/pacelint/pacelint/analysis/DifferenceBounds" "events" "Ljava/util/Map;" .null := P_F_p0_events.ext E2
  have f6 : Fld Z h2 p0 "com/example/pacelint/pacelint/analysis/DifferenceBounds" "stating" "I" (.int (0 : Int32)) := P_F_p0_stating.ext E2
  have f7 : Fld Z h2 p0 "com/example/pacelint/pacelint/analysis/DifferenceBounds" "from" "[I" .null := P_F_p0_from.ext E2
  have f8 : Fld Z h2 p0 "com/example/pacelint/pacelint/analysis/DifferenceBounds" "to" "[I" .null := P_F_p0_to.ext E2
  have f9 : Fld Z h2 p0 "com/example/pacelint/pacelint/analysis/DifferenceBounds" "limit" "[Lcom/example/pacelint/pacelint/model/Duration;" .null := P_F_p0_limit.ext E2
  have f10 : Fld Z h2 p0 "com/example/pacelint/pacelint/analysis/DifferenceBounds" "requirement" "[I" .null := P_F_p0_requirement.ext E2
  have f11 : Fld Z h2 p0 "com/example/pacelint/pacelint/analysis/DifferenceBounds" "firstBound" "[I" .null := P_F_p0_firstBound.ext E2
  have f12 : Fld Z h2 p0 "com/example/pacelint/pacelint/analysis/DifferenceBounds" "pointCount" "I" (.int (0 : Int32)) := P_F_p0_pointCount.ext E2
  have f13 : Fld Z h2 p0 "com/example/pacelint/pacelint/analysis/DifferenceBounds" "boundCount" "I" (.int (0 : Int32)) := P_F_p0_boundCount.ext E2
  have f14 : Exa Z h2 b2 "java/util/HashMap" := A2
  have f15 : Fld Z h2 b2 "java/util/HashMap" "loadFactor" "F" (.float 0) := D2 (Or.inr (hw _ (List.mem_of_getElem? (i := 24) rfl))) (ty := .float) (by decide)
  have f16 : Fld Z h2 b2 "java/util/HashMap" "size" "I" (.int (0 : Int32)) := D2 (Or.inl (hw _ (List.mem_of_getElem? (i := 73) rfl))) (ty := .int) (by decide)
  refine own_go (fun t k => st2 _ k) ?_
  show own_G _ _ _ (T2.setTop (mkF m 8 #[.val (.ref p0)] [(.ref b2), (.ref p0)])) _ _ _ _
  refine own_go (fun t k => XS.dup X2.here hx rfl (hb hby d1_8) rfl rfl k) ?_
  show own_G _ _ _ (T2.setTop (mkF m 9 #[.val (.ref p0)] [(.ref b2), (.ref b2), (.ref p0)])) _ _ _ _
  obtain ⟨_, _, ⟨T17, L17, k17, n17⟩, -, X17, ⟨Lc17, hQ17, l17, y17, z17⟩, st17⟩ := X2.specialBack hx (y := (⟨"java/util/HashMap", "<init>", "()V"⟩ : MethodName)) rfl hown (mvT hZ (hw _ (List.mem_of_getElem? (i := 12) rfl))) (mvT hZ (hw _ (List.mem_of_getElem? (i := 13) rfl))) (mvT hZ (hw _ (List.mem_of_getElem? (i := 14) rfl))) (by decide) (backOf (W := 2) (rm3 l Z a0 hw [] b2  h2 n0 Zs2 f14 f15 f16 gg2) hZ (hw _ (List.mem_of_getElem? (i := 14) rfl)) (hw _ (List.mem_of_getElem? (i := 11) rfl)) (by decide) (by decide)) (g := (mkF m 9 #[.val (.ref p0)] [(.ref b2), (.ref b2), (.ref p0)])) rfl (by rw [hml]; rfl) (Steps.refl _) (a := b2) (argsL := []) (rest := [(.ref b2), (.ref p0)]) (lenOf pd_0 rfl) rfl (by show 2 * 0 + _ ≤ _; exact Nat.le_of_eq rfl) (hb hby d1_9) (fun _ _ => ⟨rfl, e2, (by decide : 1 + 0 ≤ _), (by decide : 8 + 0 ≤ _)⟩)
  dsimp only [Pt.U, Pt.locs, Pt.cells, Pt.slots] at X17 l17 y17 z17 st17 hQ17
  subst l17 y17 z17
  obtain ⟨rfl, Nq17, Kq17, r17_0, r17_1⟩ := hQ17
  have N17 := Fr.app N0 Nq17
  have f18 : Exa Z T17.heap p0 "com/example/pacelint/pacelint/analysis/DifferenceBounds" := f4.keep Kq17
  have f19 : Fld Z T17.heap p0 "com/example/pacelint/pacelint/analysis/DifferenceBounds" "events" "Ljava/util/Map;" .null := f5.keep Kq17 (ninS ne3 nin0)
  have f20 : Fld Z T17.heap p0 "com/example/pacelint/pacelint/analysis/DifferenceBounds" "stating" "I" (.int (0 : Int32)) := f6.keep Kq17 (ninS ne3 nin0)
  have f21 : Fld Z T17.heap p0 "com/example/pacelint/pacelint/analysis/DifferenceBounds" "from" "[I" .null := f7.keep Kq17 (ninS ne3 nin0)
  have f22 : Fld Z T17.heap p0 "com/example/pacelint/pacelint/analysis/DifferenceBounds" "to" "[I" .null := f8.keep Kq17 (ninS ne3 nin0)
  have f23 : Fld Z T17.heap p0 "com/example/pacelint/pacelint/analysis/DifferenceBounds" "limit" "[Lcom/example/pacelint/pacelint/model/Duration;" .null := f9.keep Kq17 (ninS ne3 nin0)
  have f24 : Fld Z T17.heap p0 "com/example/pacelint/pacelint/analysis/DifferenceBounds" "requirement" "[I" .null := f10.keep Kq17 (ninS ne3 nin0)
  have f25 : Fld Z T17.heap p0 "com/example/pacelint/pacelint/analysis/DifferenceBounds" "firstBound" "[I" .null := f11.keep Kq17 (ninS ne3 nin0)
  have f26 : Fld Z T17.heap p0 "com/example/pacelint/pacelint/analysis/DifferenceBounds" "pointCount" "I" (.int (0 : Int32)) := f12.keep Kq17 (ninS ne3 nin0)
  have f27 : Fld Z T17.heap p0 "com/example/pacelint/pacelint/analysis/DifferenceBounds" "boundCount" "I" (.int (0 : Int32)) := f13.keep Kq17 (ninS ne3 nin0)
  have f28 : Exa Z T17.heap b2 "java/util/HashMap" := f14.keep Kq17
  have Zs17 : n0 ≤ T17.heap.size := Nat.le_trans Zs2 Kq17.1
  have K17_0 : Keep h0 T17.heap [p0] := K2_0.trans Kq17 (allS (Or.inr sz2_0) all0)
  refine own_tr st17 ?_
  show own_G _ _ _ (T17.setTop (mkF m 12 #[.val (.ref p0)] [(.ref b2), (.ref p0)])) _ _ _ _
  obtain ⟨T29, h29, X29, e29, W29, st29⟩ := putF X17 hx hZ hown (host := "") (Or.inl (hw _ (List.mem_of_getElem? (i := 25) rfl))) Via.refl rfl f19 f18 (Or.inr ⟨(hw _ (List.mem_of_getElem? (i := 26) rfl)), rfl, hnm⟩) (hw _ (List.mem_of_getElem? (i := 1) rfl)) (ty := (.object "java/util/Map")) (by decide) rfl rfl (g := (mkF m 12 #[.val (.ref p0)] [(.ref b2), (.ref p0)])) rfl rfl (hb hby d1_12)
  have N29 := Fr.snoc X29 N17 g_p0
  have Zs29 : n0 ≤ h29.size := Nat.le_trans Zs17 (Keep.of_wr W29).1
  have K29_0 : Keep h0 h29 [p0] := K17_0.wr W29 (Or.inl (List.mem_of_getElem? (i := 0) rfl))
  have f30 : Exa Z h29 p0 "com/example/pacelint/pacelint/analysis/DifferenceBounds" := f18.wr W29
  have f31 : Fld Z h29 p0 "com/example/pacelint/pacelint/analysis/DifferenceBounds" "events" "Ljava/util/Map;" (.ref b2) := f19.same W29
  have f32 : Fld Z h29 p0 "com/example/pacelint/pacelint/analysis/DifferenceBounds" "stating" "I" (.int (0 : Int32)) := f20.other W29 (Or.inr (slot_ne (Or.inl (hw _ (List.mem_of_getElem? (i := 28) rfl))) (Or.inr (hw _ (List.mem_of_getElem? (i := 26) rfl))) (by decide) (t := .int) (t' := (.object "java/util/Map")) (by decide) (by decide)))
  have f33 : Fld Z h29 p0 "com/example/pacelint/pacelint/analysis/DifferenceBounds" "from" "[I" .null := f21.other W29 (Or.inr (slot_ne (Or.inl (hw _ (List.mem_of_getElem? (i := 31) rfl))) (Or.inr (hw _ (List.mem_of_getElem? (i := 26) rfl))) (by decide) (t := (.array .int)) (t' := (.object "java/util/Map")) (by decide) (by decide)))
  have f34 : Fld Z h29 p0 "com/example/pacelint/pacelint/analysis/DifferenceBounds" "to" "[I" .null := f22.other W29 (Or.inr (slot_ne (Or.inl (hw _ (List.mem_of_getElem? (i := 33) rfl))) (Or.inr (hw _ (List.mem_of_getElem? (i := 26) rfl))) (by decide) (t := (.array .int)) (t' := (.object "java/util/Map")) (by decide) (by decide)))
  have f35 : Fld Z h29 p0 "com/example/pacelint/pacelint/analysis/DifferenceBounds" "limit" "[Lcom/example/pacelint/pacelint/model/Duration;" .null := f23.other W29 (Or.inr (slot_ne (Or.inl (hw _ (List.mem_of_getElem? (i := 37) rfl))) (Or.inr (hw _ (List.mem_of_getElem? (i := 26) rfl))) (by decide) (t := (.array (.object "com/example/pacelint/pacelint/model/Duration"))) (t' := (.object "java/util/Map")) (by decide) (by decide)))
  have f36 : Fld Z h29 p0 "com/example/pacelint/pacelint/analysis/DifferenceBounds" "requirement" "[I" .null := f24.other W29 (Or.inr (slot_ne (Or.inl (hw _ (List.mem_of_getElem? (i := 39) rfl))) (Or.inr (hw _ (List.mem_of_getElem? (i := 26) rfl))) (by decide) (t := (.array .int)) (t' := (.object "java/util/Map")) (by decide) (by decide)))
  have f37 : Fld Z h29 p0 "com/example/pacelint/pacelint/analysis/DifferenceBounds" "firstBound" "[I" .null := f25.other W29 (Or.inr (slot_ne (Or.inl (hw _ (List.mem_of_getElem? (i := 41) rfl))) (Or.inr (hw _ (List.mem_of_getElem? (i := 26) rfl))) (by decide) (t := (.array .int)) (t' := (.object "java/util/Map")) (by decide) (by decide)))
  have f38 : Fld Z h29 p0 "com/example/pacelint/pacelint/analysis/DifferenceBounds" "pointCount" "I" (.int (0 : Int32)) := f26.other W29 (Or.inr (slot_ne (Or.inl (hw _ (List.mem_of_getElem? (i := 48) rfl))) (Or.inr (hw _ (List.mem_of_getElem? (i := 26) rfl))) (by decide) (t := .int) (t' := (.object "java/util/Map")) (by decide) (by decide)))
  have f39 : Fld Z h29 p0 "com/example/pacelint/pacelint/analysis/DifferenceBounds" "boundCount" "I" (.int (0 : Int32)) := f27.other W29 (Or.inr (slot_ne (Or.inl (hw _ (List.mem_of_getElem? (i := 80) rfl))) (Or.inr (hw _ (List.mem_of_getElem? (i := 26) rfl))) (by decide) (t := .int) (t' := (.object "java/util/Map")) (by decide) (by decide)))
  have f40 : Exa Z h29 b2 "java/util/HashMap" := r17_0.wr W29
  have f41 : Fld Z h29 b2 "java/util/HashMap" "size" "I" (.int (0 : Int32)) := r17_1.other W29 (Or.inl (Ne.symm ne3))
  refine own_go (fun t k => st29 _ k) ?_
  show own_G _ _ _ (T29.setTop (mkF m 15 #[.val (.ref p0)] [])) _ _ _ _
  refine own_go (fun t k => XS.aloadN X29.here hx rfl (hb hby d1_15) rfl rfl k) ?_
  show own_G _ _ _ (T29.setTop (mkF m 16 #[.val (.ref p0)] [(.ref p0)])) _ _ _ _
  refine own_go (fun t k => XS.iconst X29.here hx rfl (hb hby d1_16) k) ?_
  show own_G _ _ _ (T29.setTop (mkF m 17 #[.val (.ref p0)] [(.int (-1 : Int32)), (.ref p0)])) _ _ _ _
  obtain ⟨T42, h42, X42, e42, W42, st42⟩ := putF X29 hx hZ hown (host := "") (Or.inl (hw _ (List.mem_of_getElem? (i := 27) rfl))) Via.refl e29 f32 f30 (Or.inl (hw _ (List.mem_of_getElem? (i := 28) rfl))) (hw _ (List.mem_of_getElem? (i := 1) rfl)) (ty := .int) (by decide) rfl rfl (g := (mkF m 17 #[.val (.ref p0)] [(.int (-1 : Int32)), (.ref p0)])) rfl rfl (hb hby d1_17)
  have N42 := Fr.snoc X42 N29 g_p0
  have Zs42 : n0 ≤ h42.size := Nat.le_trans Zs29 (Keep.of_wr W42).1
  have K42_0 : Keep h0 h42 [p0] := K29_0.wr W42 (Or.inl (List.mem_of_getElem? (i := 0) rfl))
  have f43 : Exa Z h42 p0 "com/example/pacelint/pacelint/analysis/DifferenceBounds" := f30.wr W42
  have f44 : Fld Z h42 p0 "com/example/pacelint/pacelint/analysis/DifferenceBounds" "events" "Ljava/util/Map;" (.ref b2) := f31.other W42 (Or.inr (slot_ne (Or.inr (hw _ (List.mem_of_getElem? (i := 26) rfl))) (Or.inl (hw _ (List.mem_of_getElem? (i := 28) rfl))) (by decide) (t := (.object "java/util/Map")) (t' := .int) (by decide) (by decide)))
  have f45 : Fld Z h42 p0 "com/example/pacelint/pacelint/analysis/DifferenceBounds" "stating" "I" (.int (-1 : Int32)) := f32.same W42
  have f46 : Fld Z h42 p0 "com/example/pacelint/pacelint/analysis/DifferenceBounds" "from" "[I" .null := f33.other W42 (Or.inr (slot_ne (Or.inl (hw _ (List.mem_of_getElem? (i := 31) rfl))) (Or.inl (hw _ (List.mem_of_getElem? (i := 28) rfl))) (by decide) (t := (.array .int)) (t' := .int) (by decide) (by decide)))
  have f47 : Fld Z h42 p0 "com/example/pacelint/pacelint/analysis/DifferenceBounds" "to" "[I" .null := f34.other W42 (Or.inr (slot_ne (Or.inl (hw _ (List.mem_of_getElem? (i := 33) rfl))) (Or.inl (hw _ (List.mem_of_getElem? (i := 28) rfl))) (by decide) (t := (.array .int)) (t' := .int) (by decide) (by decide)))
  have f48 : Fld Z h42 p0 "com/example/pacelint/pacelint/analysis/DifferenceBounds" "limit" "[Lcom/example/pacelint/pacelint/model/Duration;" .null := f35.other W42 (Or.inr (slot_ne (Or.inl (hw _ (List.mem_of_getElem? (i := 37) rfl))) (Or.inl (hw _ (List.mem_of_getElem? (i := 28) rfl))) (by decide) (t := (.array (.object "com/example/pacelint/pacelint/model/Duration"))) (t' := .int) (by decide) (by decide)))
  have f49 : Fld Z h42 p0 "com/example/pacelint/pacelint/analysis/DifferenceBounds" "requirement" "[I" .null := f36.other W42 (Or.inr (slot_ne (Or.inl (hw _ (List.mem_of_getElem? (i := 39) rfl))) (Or.inl (hw _ (List.mem_of_getElem? (i := 28) rfl))) (by decide) (t := (.array .int)) (t' := .int) (by decide) (by decide)))
  have f50 : Fld Z h42 p0 "com/example/pacelint/pacelint/analysis/DifferenceBounds" "firstBound" "[I" .null := f37.other W42 (Or.inr (slot_ne (Or.inl (hw _ (List.mem_of_getElem? (i := 41) rfl))) (Or.inl (hw _ (List.mem_of_getElem? (i := 28) rfl))) (by decide) (t := (.array .int)) (t' := .int) (by decide) (by decide)))
  have f51 : Fld Z h42 p0 "com/example/pacelint/pacelint/analysis/DifferenceBounds" "pointCount" "I" (.int (0 : Int32)) := f38.other W42 (Or.inr (slot_ne (Or.inl (hw _ (List.mem_of_getElem? (i := 48) rfl))) (Or.inl (hw _ (List.mem_of_getElem? (i := 28) rfl))) (by decide) (t := .int) (t' := .int) (by decide) (by decide)))
  have f52 : Fld Z h42 p0 "com/example/pacelint/pacelint/analysis/DifferenceBounds" "boundCount" "I" (.int (0 : Int32)) := f39.other W42 (Or.inr (slot_ne (Or.inl (hw _ (List.mem_of_getElem? (i := 80) rfl))) (Or.inl (hw _ (List.mem_of_getElem? (i := 28) rfl))) (by decide) (t := .int) (t' := .int) (by decide) (by decide)))
  have f53 : Exa Z h42 b2 "java/util/HashMap" := f40.wr W42
  have f54 : Fld Z h42 b2 "java/util/HashMap" "size" "I" (.int (0 : Int32)) := f41.other W42 (Or.inl (Ne.symm ne3))
  refine own_go (fun t k => st42 _ k) ?_
  show own_G _ _ _ (T42.setTop (mkF m 20 #[.val (.ref p0)] [])) _ _ _ _
  refine own_go (fun t k => XS.aloadN X42.here hx rfl (hb hby d1_20) rfl rfl k) ?_
  show own_G _ _ _ (T42.setTop (mkF m 21 #[.val (.ref p0)] [(.ref p0)])) _ _ _ _
  refine own_go (fun t k => XS.bipush X42.here hx rfl (hb hby d1_21) k) ?_
  show own_G _ _ _ (T42.setTop (mkF m 23 #[.val (.ref p0)] [(.int (16 : Int32)), (.ref p0)])) _ _ _ _
  obtain ⟨T55, h55, k55, X55, e55, E55, A55, st55⟩ := newP X42 hx hZ (hw _ (List.mem_of_getElem? (i := 29) rfl)) e42 (g := (mkF m 23 #[.val (.ref p0)] [(.int (16 : Int32)), (.ref p0)])) rfl (hb hby d1_23) rfl (by decide) (cap := 16) (by decide) (by decide) (by decide) (by decide)
  obtain ⟨b55, g55⟩ : ∃ z, z = h42.size := ⟨_, rfl⟩
  rw [← g55] at A55 st55
  have ne56 : p0 ≠ b55 := Nat.ne_of_lt (Nat.lt_of_lt_of_le f43.lt (Nat.le_of_eq g55.symm))
  have ne57 : b2 ≠ b55 := Nat.ne_of_lt (Nat.lt_of_lt_of_le f53.lt (Nat.le_of_eq g55.symm))
  have gg55 : n0 ≤ b55 := Nat.le_trans Zs42 (Nat.le_of_eq g55.symm)
  have sz55_0 : h0.size ≤ b55 := Nat.le_trans K42_0.1 (Nat.le_of_eq g55.symm)
  have Zs55 : n0 ≤ h55.size := Nat.le_trans Zs42 E55.1
  have K55_0 : Keep h0 h55 [p0] := K42_0.ext E55
  have f58 : Exa Z h55 p0 "com/example/pacelint/pacelint/analysis/DifferenceBounds" := f43.ext E55
  have f59 : Fld Z h55 p0 "com/example/pacelint/pacelint/analysis/DifferenceBounds" "events" "Ljava/util/Map;" (.ref b2) := f44.ext E55
  have f60 : Fld Z h55 p0 "com/example/pacelint/pacelint/analysis/DifferenceBounds" "stating" "I" (.int (-1 : Int32)) := f45.ext E55
  have f61 : Fld Z h55 p0 "com/example/pacelint/pacelint/analysis/DifferenceBounds" "from" "[I" .null := f46.ext E55
  have f62 : Fld Z h55 p0 "com/example/pacelint/pacelint/analysis/DifferenceBounds" "to" "[I" .null := f47.ext E55
  have f63 : Fld Z h55 p0 "com/example/pacelint/pacelint/analysis/DifferenceBounds" "limit" "[Lcom/example/pacelint/pacelint/model/Duration;" .null := f48.ext E55
  have f64 : Fld Z h55 p0 "com/example/pacelint/pacelint/analysis/DifferenceBounds" "requirement" "[I" .null := f49.ext E55
  have f65 : Fld Z h55 p0 "com/example/pacelint/pacelint/analysis/DifferenceBounds" "firstBound" "[I" .null := f50.ext E55
  have f66 : Fld Z h55 p0 "com/example/pacelint/pacelint/analysis/DifferenceBounds" "pointCount" "I" (.int (0 : Int32)) := f51.ext E55
  have f67 : Fld Z h55 p0 "com/example/pacelint/pacelint/analysis/DifferenceBounds" "boundCount" "I" (.int (0 : Int32)) := f52.ext E55
  have f68 : Exa Z h55 b2 "java/util/HashMap" := f53.ext E55
  have f69 : Fld Z h55 b2 "java/util/HashMap" "size" "I" (.int (0 : Int32)) := f54.ext E55
  have f70 : Arv Z h55 b55 k55 .int (16 : Int32) [(.int (0 : Int32)), (.int (0 : Int32)), (.int (0 : Int32)), (.int (0 : Int32)), (.int (0 : Int32)), (.int (0 : Int32)), (.int (0 : Int32)), (.int (0 : Int32)), (.int (0 : Int32)), (.int (0 : Int32)), (.int (0 : Int32)), (.int (0 : Int32)), (.int (0 : Int32)), (.int (0 : Int32)), (.int (0 : Int32)), (.int (0 : Int32))] (.int (0 : Int32)) := (Arv.new A55 (by decide)).pad (pad_rep [] (.int (0 : Int32)) 16)
  refine own_go (fun t k => st55 _ k) ?_
  show own_G _ _ _ (T55.setTop (mkF m 25 #[.val (.ref p0)] [(.ref b55), (.ref p0)])) _ _ _ _
  obtain ⟨T71, h71, X71, e71, W71, st71⟩ := putF X55 hx hZ hown (host := "") (Or.inl (hw _ (List.mem_of_getElem? (i := 30) rfl))) Via.refl e55 f61 f58 (Or.inl (hw _ (List.mem_of_getElem? (i := 31) rfl))) (hw _ (List.mem_of_getElem? (i := 1) rfl)) (ty := (.array .int)) (by decide) rfl rfl (g := (mkF m 25 #[.val (.ref p0)] [(.ref b55), (.ref p0)])) rfl rfl (hb hby d1_25)
  have N71 := Fr.snoc X71 N42 g_p0
  have Zs71 : n0 ≤ h71.size := Nat.le_trans Zs55 (Keep.of_wr W71).1
  have K71_0 : Keep h0 h71 [p0] := K55_0.wr W71 (Or.inl (List.mem_of_getElem? (i := 0) rfl))
  have f72 : Exa Z h71 p0 "com/example/pacelint/pacelint/analysis/DifferenceBounds" := f58.wr W71
  have f73 : Fld Z h71 p0 "com/example/pacelint/pacelint/analysis/DifferenceBounds" "events" "Ljava/util/Map;" (.ref b2) := f59.other W71 (Or.inr (slot_ne (Or.inr (hw _ (List.mem_of_getElem? (i := 26) rfl))) (Or.inl (hw _ (List.mem_of_getElem? (i := 31) rfl))) (by decide) (t := (.object "java/util/Map")) (t' := (.array .int)) (by decide) (by decide)))
  have f74 : Fld Z h71 p0 "com/example/pacelint/pacelint/analysis/DifferenceBounds" "stating" "I" (.int (-1 : Int32)) := f60.other W71 (Or.inr (slot_ne (Or.inl (hw _ (List.mem_of_getElem? (i := 28) rfl))) (Or.inl (hw _ (List.mem_of_getElem? (i := 31) rfl))) (by decide) (t := .int) (t' := (.array .int)) (by decide) (by decide)))
  have f75 : Fld Z h71 p0 "com/example/pacelint/pacelint/analysis/DifferenceBounds" "from" "[I" (.ref b55) := f61.same W71
  have f76 : Fld Z h71 p0 "com/example/pacelint/pacelint/analysis/DifferenceBounds" "to" "[I" .null := f62.other W71 (Or.inr (slot_ne (Or.inl (hw _ (List.mem_of_getElem? (i := 33) rfl))) (Or.inl (hw _ (List.mem_of_getElem? (i := 31) rfl))) (by decide) (t := (.array .int)) (t' := (.array .int)) (by decide) (by decide)))
  have f77 : Fld Z h71 p0 "com/example/pacelint/pacelint/analysis/DifferenceBounds" "limit" "[Lcom/example/pacelint/pacelint/model/Duration;" .null := f63.other W71 (Or.inr (slot_ne (Or.inl (hw _ (List.mem_of_getElem? (i := 37) rfl))) (Or.inl (hw _ (List.mem_of_getElem? (i := 31) rfl))) (by decide) (t := (.array (.object "com/example/pacelint/pacelint/model/Duration"))) (t' := (.array .int)) (by decide) (by decide)))
  have f78 : Fld Z h71 p0 "com/example/pacelint/pacelint/analysis/DifferenceBounds" "requirement" "[I" .null := f64.other W71 (Or.inr (slot_ne (Or.inl (hw _ (List.mem_of_getElem? (i := 39) rfl))) (Or.inl (hw _ (List.mem_of_getElem? (i := 31) rfl))) (by decide) (t := (.array .int)) (t' := (.array .int)) (by decide) (by decide)))
  have f79 : Fld Z h71 p0 "com/example/pacelint/pacelint/analysis/DifferenceBounds" "firstBound" "[I" .null := f65.other W71 (Or.inr (slot_ne (Or.inl (hw _ (List.mem_of_getElem? (i := 41) rfl))) (Or.inl (hw _ (List.mem_of_getElem? (i := 31) rfl))) (by decide) (t := (.array .int)) (t' := (.array .int)) (by decide) (by decide)))
  have f80 : Fld Z h71 p0 "com/example/pacelint/pacelint/analysis/DifferenceBounds" "pointCount" "I" (.int (0 : Int32)) := f66.other W71 (Or.inr (slot_ne (Or.inl (hw _ (List.mem_of_getElem? (i := 48) rfl))) (Or.inl (hw _ (List.mem_of_getElem? (i := 31) rfl))) (by decide) (t := .int) (t' := (.array .int)) (by decide) (by decide)))
  have f81 : Fld Z h71 p0 "com/example/pacelint/pacelint/analysis/DifferenceBounds" "boundCount" "I" (.int (0 : Int32)) := f67.other W71 (Or.inr (slot_ne (Or.inl (hw _ (List.mem_of_getElem? (i := 80) rfl))) (Or.inl (hw _ (List.mem_of_getElem? (i := 31) rfl))) (by decide) (t := .int) (t' := (.array .int)) (by decide) (by decide)))
  have f82 : Exa Z h71 b2 "java/util/HashMap" := f68.wr W71
  have f83 : Fld Z h71 b2 "java/util/HashMap" "size" "I" (.int (0 : Int32)) := f69.other W71 (Or.inl (Ne.symm ne3))
  have f84 : Arv Z h71 b55 k55 .int (16 : Int32) [(.int (0 : Int32)), (.int (0 : Int32)), (.int (0 : Int32)), (.int (0 : Int32)), (.int (0 : Int32)), (.int (0 : Int32)), (.int (0 : Int32)), (.int (0 : Int32)), (.int (0 : Int32)), (.int (0 : Int32)), (.int (0 : Int32)), (.int (0 : Int32)), (.int (0 : Int32)), (.int (0 : Int32)), (.int (0 : Int32)), (.int (0 : Int32))] (.int (0 : Int32)) := f70.other W71 (Ne.symm ne56)
  refine own_go (fun t k => st71 _ k) ?_
  show own_G _ _ _ (T71.setTop (mkF m 28 #[.val (.ref p0)] [])) _ _ _ _
  refine own_go (fun t k => XS.aloadN X71.here hx rfl (hb hby d1_28) rfl rfl k) ?_
  show own_G _ _ _ (T71.setTop (mkF m 29 #[.val (.ref p0)] [(.ref p0)])) _ _ _ _
  refine own_go (fun t k => XS.bipush X71.here hx rfl (hb hby d1_29) k) ?_
  show own_G _ _ _ (T71.setTop (mkF m 31 #[.val (.ref p0)] [(.int (16 : Int32)), (.ref p0)])) _ _ _ _
  obtain ⟨T85, h85, k85, X85, e85, E85, A85, st85⟩ := newP X71 hx hZ (hw _ (List.mem_of_getElem? (i := 29) rfl)) e71 (g := (mkF m 31 #[.val (.ref p0)] [(.int (16 : Int32)), (.ref p0)])) rfl (hb hby d1_31) rfl (by decide) (cap := 16) (by decide) (by decide) (by decide) (by decide)
  obtain ⟨b85, g85⟩ : ∃ z, z = h71.size := ⟨_, rfl⟩
  rw [← g85] at A85 st85
  have ne86 : p0 ≠ b85 := Nat.ne_of_lt (Nat.lt_of_lt_of_le f72.lt (Nat.le_of_eq g85.symm))
  have ne87 : b2 ≠ b85 := Nat.ne_of_lt (Nat.lt_of_lt_of_le f82.lt (Nat.le_of_eq g85.symm))
  have ne88 : b55 ≠ b85 := Nat.ne_of_lt (Nat.lt_of_lt_of_le f84.lt (Nat.le_of_eq g85.symm))
  have gg85 : n0 ≤ b85 := Nat.le_trans Zs71 (Nat.le_of_eq g85.symm)
  have sz85_0 : h0.size ≤ b85 := Nat.le_trans K71_0.1 (Nat.le_of_eq g85.symm)
  have Zs85 : n0 ≤ h85.size := Nat.le_trans Zs71 E85.1
  have K85_0 : Keep h0 h85 [p0] := K71_0.ext E85
  have f89 : Exa Z h85 p0 "com/example/pacelint/pacelint/analysis/DifferenceBounds" := f72.ext E85
  have f90 : Fld Z h85 p0 "com/example/pacelint/pacelint/analysis/DifferenceBounds" "events" "Ljava/util/Map;" (.ref b2) := f73.ext E85
  have f91 : Fld Z h85 p0 "com/example/pacelint/pacelint/analysis/DifferenceBounds" "stating" "I" (.int (-1 : Int32)) := f74.ext E85
  have f92 : Fld Z h85 p0 "com/example/pacelint/pacelint/analysis/DifferenceBounds" "from" "[I" (.ref b55) := f75.ext E85
  have f93 : Fld Z h85 p0 "com/example/pacelint/pacelint/analysis/DifferenceBounds" "to" "[I" .null := f76.ext E85
  have f94 : Fld Z h85 p0 "com/example/pacelint/pacelint/analysis/DifferenceBounds" "limit" "[Lcom/example/pacelint/pacelint/model/Duration;" .null := f77.ext E85
  have f95 : Fld Z h85 p0 "com/example/pacelint/pacelint/analysis/DifferenceBounds" "requirement" "[I" .null := f78.ext E85
  have f96 : Fld Z h85 p0 "com/example/pacelint/pacelint/analysis/DifferenceBounds" "firstBound" "[I" .null := f79.ext E85
  have f97 : Fld Z h85 p0 "com/example/pacelint/pacelint/analysis/DifferenceBounds" "pointCount" "I" (.int (0 : Int32)) := f80.ext E85
  have f98 : Fld Z h85 p0 "com/example/pacelint/pacelint/analysis/DifferenceBounds" "boundCount" "I" (.int (0 : Int32)) := f81.ext E85
  have f99 : Exa Z h85 b2 "java/util/HashMap" := f82.ext E85
  have f100 : Fld Z h85 b2 "java/util/HashMap" "size" "I" (.int (0 : Int32)) := f83.ext E85
  have f101 : Arv Z h85 b55 k55 .int (16 : Int32) [(.int (0 : Int32)), (.int (0 : Int32)), (.int (0 : Int32)), (.int (0 : Int32)), (.int (0 : Int32)), (.int (0 : Int32)), (.int (0 : Int32)), (.int (0 : Int32)), (.int (0 : Int32)), (.int (0 : Int32)), (.int (0 : Int32)), (.int (0 : Int32)), (.int (0 : Int32)), (.int (0 : Int32)), (.int (0 : Int32)), (.int (0 : Int32))] (.int (0 : Int32)) := f84.ext E85
  have f102 : Arv Z h85 b85 k85 .int (16 : Int32) [(.int (0 : Int32)), (.int (0 : Int32)), (.int (0 : Int32)), (.int (0 : Int32)), (.int (0 : Int32)), (.int (0 : Int32)), (.int (0 : Int32)), (.int (0 : Int32)), (.int (0 : Int32)), (.int (0 : Int32)), (.int (0 : Int32)), (.int (0 : Int32)), (.int (0 : Int32)), (.int (0 : Int32)), (.int (0 : Int32)), (.int (0 : Int32))] (.int (0 : Int32)) := (Arv.new A85 (by decide)).pad (pad_rep [] (.int (0 : Int32)) 16)
  refine own_go (fun t k => st85 _ k) ?_
  show own_G _ _ _ (T85.setTop (mkF m 33 #[.val (.ref p0)] [(.ref b85), (.ref p0)])) _ _ _ _
  obtain ⟨T103, h103, X103, e103, W103, st103⟩ := putF X85 hx hZ hown (host := "") (Or.inl (hw _ (List.mem_of_getElem? (i := 32) rfl))) Via.refl e85 f93 f89 (Or.inl (hw _ (List.mem_of_getElem? (i := 33) rfl))) (hw _ (List.mem_of_getElem? (i := 1) rfl)) (ty := (.array .int)) (by decide) rfl rfl (g := (mkF m 33 #[.val (.ref p0)] [(.ref b85), (.ref p0)])) rfl rfl (hb hby d1_33)
  have N103 := Fr.snoc X103 N71 g_p0
  have Zs103 : n0 ≤ h103.size := Nat.le_trans Zs85 (Keep.of_wr W103).1
  have K103_0 : Keep h0 h103 [p0] := K85_0.wr W103 (Or.inl (List.mem_of_getElem? (i := 0) rfl))
  have f104 : Exa Z h103 p0 "com/example/pacelint/pacelint/analysis/DifferenceBounds" := f89.wr W103
  have f105 : Fld Z h103 p0 "com/example/pacelint/pacelint/analysis/DifferenceBounds" "events" "Ljava/util/Map;" (.ref b2) := f90.other W103 (Or.inr (slot_ne (Or.inr (hw _ (List.mem_of_getElem? (i := 26) rfl))) (Or.inl (hw _ (List.mem_of_getElem? (i := 33) rfl))) (by decide) (t := (.object "java/util/Map")) (t' := (.array .int)) (by decide) (by decide)))
  have f106 : Fld Z h103 p0 "com/example/pacelint/pacelint/analysis/DifferenceBounds" "stating" "I" (.int (-1 : Int32)) := f91.other W103 (Or.inr (slot_ne (Or.inl (hw _ (List.mem_of_getElem? (i := 28) rfl))) (Or.inl (hw _ (List.mem_of_getElem? (i := 33) rfl))) (by decide) (t := .int) (t' := (.array .int)) (by decide) (by decide)))
  have f107 : Fld Z h103 p0 "com/example/pacelint/pacelint/analysis/DifferenceBounds" "from" "[I" (.ref b55) := f92.other W103 (Or.inr (slot_ne (Or.inl (hw _ (List.mem_of_getElem? (i := 31) rfl))) (Or.inl (hw _ (List.mem_of_getElem? (i := 33) rfl))) (by decide) (t := (.array .int)) (t' := (.array .int)) (by decide) (by decide)))
  have f108 : Fld Z h103 p0 "com/example/pacelint/pacelint/analysis/DifferenceBounds" "to" "[I" (.ref b85) := f93.same W103
  have f109 : Fld Z h103 p0 "com/example/pacelint/pacelint/analysis/DifferenceBounds" "limit" "[Lcom/example/pacelint/pacelint/model/Duration;" .null := f94.other W103 (Or.inr (slot_ne (Or.inl (hw _ (List.mem_of_getElem? (i := 37) rfl))) (Or.inl (hw _ (List.mem_of_getElem? (i := 33) rfl))) (by decide) (t := (.array (.object "com/example/pacelint/pacelint/model/Duration"))) (t' := (.array .int)) (by decide) (by decide)))
  have f110 : Fld Z h103 p0 "com/example/pacelint/pacelint/analysis/DifferenceBounds" "requirement" "[I" .null := f95.other W103 (Or.inr (slot_ne (Or.inl (hw _ (List.mem_of_getElem? (i := 39) rfl))) (Or.inl (hw _ (List.mem_of_getElem? (i := 33) rfl))) (by decide) (t := (.array .int)) (t' := (.array .int)) (by decide) (by decide)))
  have f111 : Fld Z h103 p0 "com/example/pacelint/pacelint/analysis/DifferenceBounds" "firstBound" "[I" .null := f96.other W103 (Or.inr (slot_ne (Or.inl (hw _ (List.mem_of_getElem? (i := 41) rfl))) (Or.inl (hw _ (List.mem_of_getElem? (i := 33) rfl))) (by decide) (t := (.array .int)) (t' := (.array .int)) (by decide) (by decide)))
  have f112 : Fld Z h103 p0 "com/example/pacelint/pacelint/analysis/DifferenceBounds" "pointCount" "I" (.int (0 : Int32)) := f97.other W103 (Or.inr (slot_ne (Or.inl (hw _ (List.mem_of_getElem? (i := 48) rfl))) (Or.inl (hw _ (List.mem_of_getElem? (i := 33) rfl))) (by decide) (t := .int) (t' := (.array .int)) (by decide) (by decide)))
  have f113 : Fld Z h103 p0 "com/example/pacelint/pacelint/analysis/DifferenceBounds" "boundCount" "I" (.int (0 : Int32)) := f98.other W103 (Or.inr (slot_ne (Or.inl (hw _ (List.mem_of_getElem? (i := 80) rfl))) (Or.inl (hw _ (List.mem_of_getElem? (i := 33) rfl))) (by decide) (t := .int) (t' := (.array .int)) (by decide) (by decide)))
  have f114 : Exa Z h103 b2 "java/util/HashMap" := f99.wr W103
  have f115 : Fld Z h103 b2 "java/util/HashMap" "size" "I" (.int (0 : Int32)) := f100.other W103 (Or.inl (Ne.symm ne3))
  have f116 : Arv Z h103 b55 k55 .int (16 : Int32) [(.int (0 : Int32)), (.int (0 : Int32)), (.int (0 : Int32)), (.int (0 : Int32)), (.int (0 : Int32)), (.int (0 : Int32)), (.int (0 : Int32)), (.int (0 : Int32)), (.int (0 : Int32)), (.int (0 : Int32)), (.int (0 : Int32)), (.int (0 : Int32)), (.int (0 : Int32)), (.int (0 : Int32)), (.int (0 : Int32)), (.int (0 : Int32))] (.int (0 : Int32)) := f101.other W103 (Ne.symm ne56)
  have f117 : Arv Z h103 b85 k85 .int (16 : Int32) [(.int (0 : Int32)), (.int (0 : Int32)), (.int (0 : Int32)), (.int (0 : Int32)), (.int (0 : Int32)), (.int (0 : Int32)), (.int (0 : Int32)), (.int (0 : Int32)), (.int (0 : Int32)), (.int (0 : Int32)), (.int (0 : Int32)), (.int (0 : Int32)), (.int (0 : Int32)), (.int (0 : Int32)), (.int (0 : Int32)), (.int (0 : Int32))] (.int (0 : Int32)) := f102.other W103 (Ne.symm ne86)
  refine own_go (fun t k => st103 _ k) ?_
  show own_G _ _ _ (T103.setTop (mkF m 36 #[.val (.ref p0)] [])) _ _ _ _
  refine own_go (fun t k => XS.aloadN X103.here hx rfl (hb hby d1_36) rfl rfl k) ?_
  show own_G _ _ _ (T103.setTop (mkF m 37 #[.val (.ref p0)] [(.ref p0)])) _ _ _ _
  refine own_go (fun t k => XS.bipush X103.here hx rfl (hb hby d1_37) k) ?_
  show own_G _ _ _ (T103.setTop (mkF m 39 #[.val (.ref p0)] [(.int (16 : Int32)), (.ref p0)])) _ _ _ _
  obtain ⟨T118, h118, k118, X118, e118, E118, A118, O118, st118⟩ := newR X103 hx hZ hown (hw _ (List.mem_of_getElem? (i := 34) rfl)) (hw _ (List.mem_of_getElem? (i := 35) rfl)) e103 (g := (mkF m 39 #[.val (.ref p0)] [(.int (16 : Int32)), (.ref p0)])) rfl (hb hby d1_39) rfl (by decide) (cap := 16) (by decide) (by decide) (by decide) (by decide)
  obtain ⟨b118, g118⟩ : ∃ z, z = h103.size := ⟨_, rfl⟩
  rw [← g118] at A118 st118
  have ne119 : p0 ≠ b118 := Nat.ne_of_lt (Nat.lt_of_lt_of_le f104.lt (Nat.le_of_eq g118.symm))
  have ne120 : b2 ≠ b118 := Nat.ne_of_lt (Nat.lt_of_lt_of_le f114.lt (Nat.le_of_eq g118.symm))
  have ne121 : b55 ≠ b118 := Nat.ne_of_lt (Nat.lt_of_lt_of_le f116.lt (Nat.le_of_eq g118.symm))
  have ne122 : b85 ≠ b118 := Nat.ne_of_lt (Nat.lt_of_lt_of_le f117.lt (Nat.le_of_eq g118.symm))
  have gg118 : n0 ≤ b118 := Nat.le_trans Zs103 (Nat.le_of_eq g118.symm)
  have sz118_0 : h0.size ≤ b118 := Nat.le_trans K103_0.1 (Nat.le_of_eq g118.symm)
  have Zs118 : n0 ≤ h118.size := Nat.le_trans Zs103 E118.1
  have K118_0 : Keep h0 h118 [p0] := K103_0.ext E118
  have f123 : Exa Z h118 p0 "com/example/pacelint/pacelint/analysis/DifferenceBounds" := f104.ext E118
  have f124 : Fld Z h118 p0 "com/example/pacelint/pacelint/analysis/DifferenceBounds" "events" "Ljava/util/Map;" (.ref b2) := f105.ext E118
  have f125 : Fld Z h118 p0 "com/example/pacelint/pacelint/analysis/DifferenceBounds" "stating" "I" (.int (-1 : Int32)) := f106.ext E118
  have f126 : Fld Z h118 p0 "com/example/pacelint/pacelint/analysis/DifferenceBounds" "from" "[I" (.ref b55) := f107.ext E118
  have f127 : Fld Z h118 p0 "com/example/pacelint/pacelint/analysis/DifferenceBounds" "to" "[I" (.ref b85) := f108.ext E118
  have f128 : Fld Z h118 p0 "com/example/pacelint/pacelint/analysis/DifferenceBounds" "limit" "[Lcom/example/pacelint/pacelint/model/Duration;" .null := f109.ext E118
  have f129 : Fld Z h118 p0 "com/example/pacelint/pacelint/analysis/DifferenceBounds" "requirement" "[I" .null := f110.ext E118
  have f130 : Fld Z h118 p0 "com/example/pacelint/pacelint/analysis/DifferenceBounds" "firstBound" "[I" .null := f111.ext E118
  have f131 : Fld Z h118 p0 "com/example/pacelint/pacelint/analysis/DifferenceBounds" "pointCount" "I" (.int (0 : Int32)) := f112.ext E118
  have f132 : Fld Z h118 p0 "com/example/pacelint/pacelint/analysis/DifferenceBounds" "boundCount" "I" (.int (0 : Int32)) := f113.ext E118
  have f133 : Exa Z h118 b2 "java/util/HashMap" := f114.ext E118
  have f134 : Fld Z h118 b2 "java/util/HashMap" "size" "I" (.int (0 : Int32)) := f115.ext E118
  have f135 : Arv Z h118 b55 k55 .int (16 : Int32) [(.int (0 : Int32)), (.int (0 : Int32)), (.int (0 : Int32)), (.int (0 : Int32)), (.int (0 : Int32)), (.int (0 : Int32)), (.int (0 : Int32)), (.int (0 : Int32)), (.int (0 : Int32)), (.int (0 : Int32)), (.int (0 : Int32)), (.int (0 : Int32)), (.int (0 : Int32)), (.int (0 : Int32)), (.int (0 : Int32)), (.int (0 : Int32))] (.int (0 : Int32)) := f116.ext E118
  have f136 : Arv Z h118 b85 k85 .int (16 : Int32) [(.int (0 : Int32)), (.int (0 : Int32)), (.int (0 : Int32)), (.int (0 : Int32)), (.int (0 : Int32)), (.int (0 : Int32)), (.int (0 : Int32)), (.int (0 : Int32)), (.int (0 : Int32)), (.int (0 : Int32)), (.int (0 : Int32)), (.int (0 : Int32)), (.int (0 : Int32)), (.int (0 : Int32)), (.int (0 : Int32)), (.int (0 : Int32))] (.int (0 : Int32)) := f117.ext E118
  have f137 : Ovr Z k118 "com/example/pacelint/pacelint/model/Duration" := O118
  have f138 : Arv Z h118 b118 k118 (.object "com/example/pacelint/pacelint/model/Duration") (16 : Int32) [.null, .null, .null, .null, .null, .null, .null, .null, .null, .null, .null, .null, .null, .null, .null, .null] .null := (Arv.new A118 (by decide)).pad (pad_rep [] .null 16)
  refine own_go (fun t k => st118 _ k) ?_
  show own_G _ _ _ (T118.setTop (mkF m 42 #[.val (.ref p0)] [(.ref b118), (.ref p0)])) _ _ _ _
  obtain ⟨T139, h139, X139, e139, W139, st139⟩ := putF X118 hx hZ hown (host := "") (Or.inl (hw _ (List.mem_of_getElem? (i := 36) rfl))) Via.refl e118 f128 f123 (Or.inl (hw _ (List.mem_of_getElem? (i := 37) rfl))) (hw _ (List.mem_of_getElem? (i := 1) rfl)) (ty := (.array (.object "com/example/pacelint/pacelint/model/Duration"))) (by decide) rfl rfl (g := (mkF m 42 #[.val (.ref p0)] [(.ref b118), (.ref p0)])) rfl rfl (hb hby d1_42)
  have N139 := Fr.snoc X139 N103 g_p0
  have Zs139 : n0 ≤ h139.size := Nat.le_trans Zs118 (Keep.of_wr W139).1
  have K139_0 : Keep h0 h139 [p0] := K118_0.wr W139 (Or.inl (List.mem_of_getElem? (i := 0) rfl))
  have f140 : Exa Z h139 p0 "com/example/pacelint/pacelint/analysis/DifferenceBounds" := f123.wr W139
  have f141 : Fld Z h139 p0 "com/example/pacelint/pacelint/analysis/DifferenceBounds" "events" "Ljava/util/Map;" (.ref b2) := f124.other W139 (Or.inr (slot_ne (Or.inr (hw _ (List.mem_of_getElem? (i := 26) rfl))) (Or.inl (hw _ (List.mem_of_getElem? (i := 37) rfl))) (by decide) (t := (.object "java/util/Map")) (t' := (.array (.object "com/example/pacelint/pacelint/model/Duration"))) (by decide) (by decide)))
  have f142 : Fld Z h139 p0 "com/example/pacelint/pacelint/analysis/DifferenceBounds" "stating" "I" (.int (-1 : Int32)) := f125.other W139 (Or.inr (slot_ne (Or.inl (hw _ (List.mem_of_getElem? (i := 28) rfl))) (Or.inl (hw _ (List.mem_of_getElem? (i := 37) rfl))) (by decide) (t := .int) (t' := (.array (.object "com/example/pacelint/pacelint/model/Duration"))) (by decide) (by decide)))
  have f143 : Fld Z h139 p0 "com/example/pacelint/pacelint/analysis/DifferenceBounds" "from" "[I" (.ref b55) := f126.other W139 (Or.inr (slot_ne (Or.inl (hw _ (List.mem_of_getElem? (i := 31) rfl))) (Or.inl (hw _ (List.mem_of_getElem? (i := 37) rfl))) (by decide) (t := (.array .int)) (t' := (.array (.object "com/example/pacelint/pacelint/model/Duration"))) (by decide) (by decide)))
  have f144 : Fld Z h139 p0 "com/example/pacelint/pacelint/analysis/DifferenceBounds" "to" "[I" (.ref b85) := f127.other W139 (Or.inr (slot_ne (Or.inl (hw _ (List.mem_of_getElem? (i := 33) rfl))) (Or.inl (hw _ (List.mem_of_getElem? (i := 37) rfl))) (by decide) (t := (.array .int)) (t' := (.array (.object "com/example/pacelint/pacelint/model/Duration"))) (by decide) (by decide)))
  have f145 : Fld Z h139 p0 "com/example/pacelint/pacelint/analysis/DifferenceBounds" "limit" "[Lcom/example/pacelint/pacelint/model/Duration;" (.ref b118) := f128.same W139
  have f146 : Fld Z h139 p0 "com/example/pacelint/pacelint/analysis/DifferenceBounds" "requirement" "[I" .null := f129.other W139 (Or.inr (slot_ne (Or.inl (hw _ (List.mem_of_getElem? (i := 39) rfl))) (Or.inl (hw _ (List.mem_of_getElem? (i := 37) rfl))) (by decide) (t := (.array .int)) (t' := (.array (.object "com/example/pacelint/pacelint/model/Duration"))) (by decide) (by decide)))
  have f147 : Fld Z h139 p0 "com/example/pacelint/pacelint/analysis/DifferenceBounds" "firstBound" "[I" .null := f130.other W139 (Or.inr (slot_ne (Or.inl (hw _ (List.mem_of_getElem? (i := 41) rfl))) (Or.inl (hw _ (List.mem_of_getElem? (i := 37) rfl))) (by decide) (t := (.array .int)) (t' := (.array (.object "com/example/pacelint/pacelint/model/Duration"))) (by decide) (by decide)))
  have f148 : Fld Z h139 p0 "com/example/pacelint/pacelint/analysis/DifferenceBounds" "pointCount" "I" (.int (0 : Int32)) := f131.other W139 (Or.inr (slot_ne (Or.inl (hw _ (List.mem_of_getElem? (i := 48) rfl))) (Or.inl (hw _ (List.mem_of_getElem? (i := 37) rfl))) (by decide) (t := .int) (t' := (.array (.object "com/example/pacelint/pacelint/model/Duration"))) (by decide) (by decide)))
  have f149 : Fld Z h139 p0 "com/example/pacelint/pacelint/analysis/DifferenceBounds" "boundCount" "I" (.int (0 : Int32)) := f132.other W139 (Or.inr (slot_ne (Or.inl (hw _ (List.mem_of_getElem? (i := 80) rfl))) (Or.inl (hw _ (List.mem_of_getElem? (i := 37) rfl))) (by decide) (t := .int) (t' := (.array (.object "com/example/pacelint/pacelint/model/Duration"))) (by decide) (by decide)))
  have f150 : Exa Z h139 b2 "java/util/HashMap" := f133.wr W139
  have f151 : Fld Z h139 b2 "java/util/HashMap" "size" "I" (.int (0 : Int32)) := f134.other W139 (Or.inl (Ne.symm ne3))
  have f152 : Arv Z h139 b55 k55 .int (16 : Int32) [(.int (0 : Int32)), (.int (0 : Int32)), (.int (0 : Int32)), (.int (0 : Int32)), (.int (0 : Int32)), (.int (0 : Int32)), (.int (0 : Int32)), (.int (0 : Int32)), (.int (0 : Int32)), (.int (0 : Int32)), (.int (0 : Int32)), (.int (0 : Int32)), (.int (0 : Int32)), (.int (0 : Int32)), (.int (0 : Int32)), (.int (0 : Int32))] (.int (0 : Int32)) := f135.other W139 (Ne.symm ne56)
  have f153 : Arv Z h139 b85 k85 .int (16 : Int32) [(.int (0 : Int32)), (.int (0 : Int32)), (.int (0 : Int32)), (.int (0 : Int32)), (.int (0 : Int32)), (.int (0 : Int32)), (.int (0 : Int32)), (.int (0 : Int32)), (.int (0 : Int32)), (.int (0 : Int32)), (.int (0 : Int32)), (.int (0 : Int32)), (.int (0 : Int32)), (.int (0 : Int32)), (.int (0 : Int32)), (.int (0 : Int32))] (.int (0 : Int32)) := f136.other W139 (Ne.symm ne86)
  have f154 : Arv Z h139 b118 k118 (.object "com/example/pacelint/pacelint/model/Duration") (16 : Int32) [.null, .null, .null, .null, .null, .null, .null, .null, .null, .null, .null, .null, .null, .null, .null, .null] .null := f138.other W139 (Ne.symm ne119)
  refine own_go (fun t k => st139 _ k) ?_
  show own_G _ _ _ (T139.setTop (mkF m 45 #[.val (.ref p0)] [])) _ _ _ _
  refine own_go (fun t k => XS.aloadN X139.here hx rfl (hb hby d1_45) rfl rfl k) ?_
  show own_G _ _ _ (T139.setTop (mkF m 46 #[.val (.ref p0)] [(.ref p0)])) _ _ _ _
  refine own_go (fun t k => XS.bipush X139.here hx rfl (hb hby d1_46) k) ?_
  show own_G _ _ _ (T139.setTop (mkF m 48 #[.val (.ref p0)] [(.int (16 : Int32)), (.ref p0)])) _ _ _ _
  obtain ⟨T155, h155, k155, X155, e155, E155, A155, st155⟩ := newP X139 hx hZ (hw _ (List.mem_of_getElem? (i := 29) rfl)) e139 (g := (mkF m 48 #[.val (.ref p0)] [(.int (16 : Int32)), (.ref p0)])) rfl (hb hby d1_48) rfl (by decide) (cap := 16) (by decide) (by decide) (by decide) (by decide)
  obtain ⟨b155, g155⟩ : ∃ z, z = h139.size := ⟨_, rfl⟩
  rw [← g155] at A155 st155
  have ne156 : p0 ≠ b155 := Nat.ne_of_lt (Nat.lt_of_lt_of_le f140.lt (Nat.le_of_eq g155.symm))
  have ne157 : b2 ≠ b155 := Nat.ne_of_lt (Nat.lt_of_lt_of_le f150.lt (Nat.le_of_eq g155.symm))
  have ne158 : b55 ≠ b155 := Nat.ne_of_lt (Nat.lt_of_lt_of_le f152.lt (Nat.le_of_eq g155.symm))
  have ne159 : b85 ≠ b155 := Nat.ne_of_lt (Nat.lt_of_lt_of_le f153.lt (Nat.le_of_eq g155.symm))
  have ne160 : b118 ≠ b155 := Nat.ne_of_lt (Nat.lt_of_lt_of_le f154.lt (Nat.le_of_eq g155.symm))
  have gg155 : n0 ≤ b155 := Nat.le_trans Zs139 (Nat.le_of_eq g155.symm)
  have sz155_0 : h0.size ≤ b155 := Nat.le_trans K139_0.1 (Nat.le_of_eq g155.symm)
  have Zs155 : n0 ≤ h155.size := Nat.le_trans Zs139 E155.1
  have K155_0 : Keep h0 h155 [p0] := K139_0.ext E155
  have f161 : Exa Z h155 p0 "com/example/pacelint/pacelint/analysis/DifferenceBounds" := f140.ext E155
  have f162 : Fld Z h155 p0 "com/example/pacelint/pacelint/analysis/DifferenceBounds" "events" "Ljava/util/Map;" (.ref b2) := f141.ext E155
  have f163 : Fld Z h155 p0 "com/example/pacelint/pacelint/analysis/DifferenceBounds" "stating" "I" (.int (-1 : Int32)) := f142.ext E155
  have f164 : Fld Z h155 p0 "com/example/pacelint/pacelint/analysis/DifferenceBounds" "from" "[I" (.ref b55) := f143.ext E155
  have f165 : Fld Z h155 p0 "com/example/pacelint/pacelint/analysis/DifferenceBounds" "to" "[I" (.ref b85) := f144.ext E155
  have f166 : Fld Z h155 p0 "com/example/pacelint/pacelint/analysis/DifferenceBounds" "limit" "[Lcom/example/pacelint/pacelint/model/Duration;" (.ref b118) := f145.ext E155
  have f167 : Fld Z h155 p0 "com/example/pacelint/pacelint/analysis/DifferenceBounds" "requirement" "[I" .null := f146.ext E155
  have f168 : Fld Z h155 p0 "com/example/pacelint/pacelint/analysis/DifferenceBounds" "firstBound" "[I" .null := f147.ext E155
  have f169 : Fld Z h155 p0 "com/example/pacelint/pacelint/analysis/DifferenceBounds" "pointCount" "I" (.int (0 : Int32)) := f148.ext E155
  have f170 : Fld Z h155 p0 "com/example/pacelint/pacelint/analysis/DifferenceBounds" "boundCount" "I" (.int (0 : Int32)) := f149.ext E155
  have f171 : Exa Z h155 b2 "java/util/HashMap" := f150.ext E155
  have f172 : Fld Z h155 b2 "java/util/HashMap" "size" "I" (.int (0 : Int32)) := f151.ext E155
  have f173 : Arv Z h155 b55 k55 .int (16 : Int32) [(.int (0 : Int32)), (.int (0 : Int32)), (.int (0 : Int32)), (.int (0 : Int32)), (.int (0 : Int32)), (.int (0 : Int32)), (.int (0 : Int32)), (.int (0 : Int32)), (.int (0 : Int32)), (.int (0 : Int32)), (.int (0 : Int32)), (.int (0 : Int32)), (.int (0 : Int32)), (.int (0 : Int32)), (.int (0 : Int32)), (.int (0 : Int32))] (.int (0 : Int32)) := f152.ext E155
  have f174 : Arv Z h155 b85 k85 .int (16 : Int32) [(.int (0 : Int32)), (.int (0 : Int32)), (.int (0 : Int32)), (.int (0 : Int32)), (.int (0 : Int32)), (.int (0 : Int32)), (.int (0 : Int32)), (.int (0 : Int32)), (.int (0 : Int32)), (.int (0 : Int32)), (.int (0 : Int32)), (.int (0 : Int32)), (.int (0 : Int32)), (.int (0 : Int32)), (.int (0 : Int32)), (.int (0 : Int32))] (.int (0 : Int32)) := f153.ext E155
  have f175 : Arv Z h155 b118 k118 (.object "com/example/pacelint/pacelint/model/Duration") (16 : Int32) [.null, .null, .null, .null, .null, .null, .null, .null, .null, .null, .null, .null, .null, .null, .null, .null] .null := f154.ext E155
  have f176 : Arv Z h155 b155 k155 .int (16 : Int32) [(.int (0 : Int32)), (.int (0 : Int32)), (.int (0 : Int32)), (.int (0 : Int32)), (.int (0 : Int32)), (.int (0 : Int32)), (.int (0 : Int32)), (.int (0 : Int32)), (.int (0 : Int32)), (.int (0 : Int32)), (.int (0 : Int32)), (.int (0 : Int32)), (.int (0 : Int32)), (.int (0 : Int32)), (.int (0 : Int32)), (.int (0 : Int32))] (.int (0 : Int32)) := (Arv.new A155 (by decide)).pad (pad_rep [] (.int (0 : Int32)) 16)
  refine own_go (fun t k => st155 _ k) ?_
  show own_G _ _ _ (T155.setTop (mkF m 50 #[.val (.ref p0)] [(.ref b155), (.ref p0)])) _ _ _ _
  obtain ⟨T177, h177, X177, e177, W177, st177⟩ := putF X155 hx hZ hown (host := "") (Or.inl (hw _ (List.mem_of_getElem? (i := 38) rfl))) Via.refl e155 f167 f161 (Or.inl (hw _ (List.mem_of_getElem? (i := 39) rfl))) (hw _ (List.mem_of_getElem? (i := 1) rfl)) (ty := (.array .int)) (by decide) rfl rfl (g := (mkF m 50 #[.val (.ref p0)] [(.ref b155), (.ref p0)])) rfl rfl (hb hby d1_50)
  have N177 := Fr.snoc X177 N139 g_p0
  have Zs177 : n0 ≤ h177.size := Nat.le_trans Zs155 (Keep.of_wr W177).1
  have K177_0 : Keep h0 h177 [p0] := K155_0.wr W177 (Or.inl (List.mem_of_getElem? (i := 0) rfl))
  have f178 : Exa Z h177 p0 "com/example/pacelint/pacelint/analysis/DifferenceBounds" := f161.wr W177
  have f179 : Fld Z h177 p0 "com/example/pacelint/pacelint/analysis/DifferenceBounds" "events" "Ljava/util/Map;" (.ref b2) := f162.other W177 (Or.inr (slot_ne (Or.inr (hw _ (List.mem_of_getElem? (i := 26) rfl))) (Or.inl (hw _ (List.mem_of_getElem? (i := 39) rfl))) (by decide) (t := (.object "java/util/Map")) (t' := (.array .int)) (by decide) (by decide)))
  have f180 : Fld Z h177 p0 "com/example/pacelint/pacelint/analysis/DifferenceBounds" "stating" "I" (.int (-1 : Int32)) := f163.other W177 (Or.inr (slot_ne (Or.inl (hw _ (List.mem_of_getElem? (i := 28) rfl))) (Or.inl (hw _ (List.mem_of_getElem? (i := 39) rfl))) (by decide) (t := .int) (t' := (.array .int)) (by decide) (by decide)))
  have f181 : Fld Z h177 p0 "com/example/pacelint/pacelint/analysis/DifferenceBounds" "from" "[I" (.ref b55) := f164.other W177 (Or.inr (slot_ne (Or.inl (hw _ (List.mem_of_getElem? (i := 31) rfl))) (Or.inl (hw _ (List.mem_of_getElem? (i := 39) rfl))) (by decide) (t := (.array .int)) (t' := (.array .int)) (by decide) (by decide)))
  have f182 : Fld Z h177 p0 "com/example/pacelint/pacelint/analysis/DifferenceBounds" "to" "[I" (.ref b85) := f165.other W177 (Or.inr (slot_ne (Or.inl (hw _ (List.mem_of_getElem? (i := 33) rfl))) (Or.inl (hw _ (List.mem_of_getElem? (i := 39) rfl))) (by decide) (t := (.array .int)) (t' := (.array .int)) (by decide) (by decide)))
  have f183 : Fld Z h177 p0 "com/example/pacelint/pacelint/analysis/DifferenceBounds" "limit" "[Lcom/example/pacelint/pacelint/model/Duration;" (.ref b118) := f166.other W177 (Or.inr (slot_ne (Or.inl (hw _ (List.mem_of_getElem? (i := 37) rfl))) (Or.inl (hw _ (List.mem_of_getElem? (i := 39) rfl))) (by decide) (t := (.array (.object "com/example/pacelint/pacelint/model/Duration"))) (t' := (.array .int)) (by decide) (by decide)))
  have f184 : Fld Z h177 p0 "com/example/pacelint/pacelint/analysis/DifferenceBounds" "requirement" "[I" (.ref b155) := f167.same W177
  have f185 : Fld Z h177 p0 "com/example/pacelint/pacelint/analysis/DifferenceBounds" "firstBound" "[I" .null := f168.other W177 (Or.inr (slot_ne (Or.inl (hw _ (List.mem_of_getElem? (i := 41) rfl))) (Or.inl (hw _ (List.mem_of_getElem? (i := 39) rfl))) (by decide) (t := (.array .int)) (t' := (.array .int)) (by decide) (by decide)))
  have f186 : Fld Z h177 p0 "com/example/pacelint/pacelint/analysis/DifferenceBounds" "pointCount" "I" (.int (0 : Int32)) := f169.other W177 (Or.inr (slot_ne (Or.inl (hw _ (List.mem_of_getElem? (i := 48) rfl))) (Or.inl (hw _ (List.mem_of_getElem? (i := 39) rfl))) (by decide) (t := .int) (t' := (.array .int)) (by decide) (by decide)))
  have f187 : Fld Z h177 p0 "com/example/pacelint/pacelint/analysis/DifferenceBounds" "boundCount" "I" (.int (0 : Int32)) := f170.other W177 (Or.inr (slot_ne (Or.inl (hw _ (List.mem_of_getElem? (i := 80) rfl))) (Or.inl (hw _ (List.mem_of_getElem? (i := 39) rfl))) (by decide) (t := .int) (t' := (.array .int)) (by decide) (by decide)))
  have f188 : Exa Z h177 b2 "java/util/HashMap" := f171.wr W177
  have f189 : Fld Z h177 b2 "java/util/HashMap" "size" "I" (.int (0 : Int32)) := f172.other W177 (Or.inl (Ne.symm ne3))
  have f190 : Arv Z h177 b55 k55 .int (16 : Int32) [(.int (0 : Int32)), (.int (0 : Int32)), (.int (0 : Int32)), (.int (0 : Int32)), (.int (0 : Int32)), (.int (0 : Int32)), (.int (0 : Int32)), (.int (0 : Int32)), (.int (0 : Int32)), (.int (0 : Int32)), (.int (0 : Int32)), (.int (0 : Int32)), (.int (0 : Int32)), (.int (0 : Int32)), (.int (0 : Int32)), (.int (0 : Int32))] (.int (0 : Int32)) := f173.other W177 (Ne.symm ne56)
  have f191 : Arv Z h177 b85 k85 .int (16 : Int32) [(.int (0 : Int32)), (.int (0 : Int32)), (.int (0 : Int32)), (.int (0 : Int32)), (.int (0 : Int32)), (.int (0 : Int32)), (.int (0 : Int32)), (.int (0 : Int32)), (.int (0 : Int32)), (.int (0 : Int32)), (.int (0 : Int32)), (.int (0 : Int32)), (.int (0 : Int32)), (.int (0 : Int32)), (.int (0 : Int32)), (.int (0 : Int32))] (.int (0 : Int32)) := f174.other W177 (Ne.symm ne86)
  have f192 : Arv Z h177 b118 k118 (.object "com/example/pacelint/pacelint/model/Duration") (16 : Int32) [.null, .null, .null, .null, .null, .null, .null, .null, .null, .null, .null, .null, .null, .null, .null, .null] .null := f175.other W177 (Ne.symm ne119)
  have f193 : Arv Z h177 b155 k155 .int (16 : Int32) [(.int (0 : Int32)), (.int (0 : Int32)), (.int (0 : Int32)), (.int (0 : Int32)), (.int (0 : Int32)), (.int (0 : Int32)), (.int (0 : Int32)), (.int (0 : Int32)), (.int (0 : Int32)), (.int (0 : Int32)), (.int (0 : Int32)), (.int (0 : Int32)), (.int (0 : Int32)), (.int (0 : Int32)), (.int (0 : Int32)), (.int (0 : Int32))] (.int (0 : Int32)) := f176.other W177 (Ne.symm ne156)
  refine own_go (fun t k => st177 _ k) ?_
  show own_G _ _ _ (T177.setTop (mkF m 53 #[.val (.ref p0)] [])) _ _ _ _
  refine own_go (fun t k => XS.aloadN X177.here hx rfl (hb hby d1_53) rfl rfl k) ?_
  show own_G _ _ _ (T177.setTop (mkF m 54 #[.val (.ref p0)] [(.ref p0)])) _ _ _ _
  refine own_go (fun t k => XS.iconst X177.here hx rfl (hb hby d1_54) k) ?_
  show own_G _ _ _ (T177.setTop (mkF m 55 #[.val (.ref p0)] [(.int (1 : Int32)), (.ref p0)])) _ _ _ _
  obtain ⟨T194, h194, k194, X194, e194, E194, A194, st194⟩ := newP X177 hx hZ (hw _ (List.mem_of_getElem? (i := 29) rfl)) e177 (g := (mkF m 55 #[.val (.ref p0)] [(.int (1 : Int32)), (.ref p0)])) rfl (hb hby d1_55) rfl (by decide) (cap := 1) (by decide) (by decide) (by decide) (by decide)
  obtain ⟨b194, g194⟩ : ∃ z, z = h177.size := ⟨_, rfl⟩
  rw [← g194] at A194 st194
  have ne195 : p0 ≠ b194 := Nat.ne_of_lt (Nat.lt_of_lt_of_le f178.lt (Nat.le_of_eq g194.symm))
  have ne196 : b2 ≠ b194 := Nat.ne_of_lt (Nat.lt_of_lt_of_le f188.lt (Nat.le_of_eq g194.symm))
  have ne197 : b55 ≠ b194 := Nat.ne_of_lt (Nat.lt_of_lt_of_le f190.lt (Nat.le_of_eq g194.symm))
  have ne198 : b85 ≠ b194 := Nat.ne_of_lt (Nat.lt_of_lt_of_le f191.lt (Nat.le_of_eq g194.symm))
  have ne199 : b118 ≠ b194 := Nat.ne_of_lt (Nat.lt_of_lt_of_le f192.lt (Nat.le_of_eq g194.symm))
  have ne200 : b155 ≠ b194 := Nat.ne_of_lt (Nat.lt_of_lt_of_le f193.lt (Nat.le_of_eq g194.symm))
  have gg194 : n0 ≤ b194 := Nat.le_trans Zs177 (Nat.le_of_eq g194.symm)
  have sz194_0 : h0.size ≤ b194 := Nat.le_trans K177_0.1 (Nat.le_of_eq g194.symm)
  have Zs194 : n0 ≤ h194.size := Nat.le_trans Zs177 E194.1
  have K194_0 : Keep h0 h194 [p0] := K177_0.ext E194
  have f201 : Exa Z h194 p0 "com/example/pacelint/pacelint/analysis/DifferenceBounds" := f178.ext E194
  have f202 : Fld Z h194 p0 "com/example/pacelint/pacelint/analysis/DifferenceBounds" "events" "Ljava/util/Map;" (.ref b2) := f179.ext E194
  have f203 : Fld Z h194 p0 "com/example/pacelint/pacelint/analysis/DifferenceBounds" "stating" "I" (.int (-1 : Int32)) := f180.ext E194
  have f204 : Fld Z h194 p0 "com/example/pacelint/pacelint/analysis/DifferenceBounds" "from" "[I" (.ref b55) := f181.ext E194
  have f205 : Fld Z h194 p0 "com/example/pacelint/pacelint/analysis/DifferenceBounds" "to" "[I" (.ref b85) := f182.ext E194
  have f206 : Fld Z h194 p0 "com/example/pacelint/pacelint/analysis/DifferenceBounds" "limit" "[Lcom/example/pacelint/pacelint/model/Duration;" (.ref b118) := f183.ext E194
  have f207 : Fld Z h194 p0 "com/example/pacelint/pacelint/analysis/DifferenceBounds" "requirement" "[I" (.ref b155) := f184.ext E194
  have f208 : Fld Z h194 p0 "com/example/pacelint/pacelint/analysis/DifferenceBounds" "firstBound" "[I" .null := f185.ext E194
  have f209 : Fld Z h194 p0 "com/example/pacelint/pacelint/analysis/DifferenceBounds" "pointCount" "I" (.int (0 : Int32)) := f186.ext E194
  have f210 : Fld Z h194 p0 "com/example/pacelint/pacelint/analysis/DifferenceBounds" "boundCount" "I" (.int (0 : Int32)) := f187.ext E194
  have f211 : Exa Z h194 b2 "java/util/HashMap" := f188.ext E194
  have f212 : Fld Z h194 b2 "java/util/HashMap" "size" "I" (.int (0 : Int32)) := f189.ext E194
  have f213 : Arv Z h194 b55 k55 .int (16 : Int32) [(.int (0 : Int32)), (.int (0 : Int32)), (.int (0 : Int32)), (.int (0 : Int32)), (.int (0 : Int32)), (.int (0 : Int32)), (.int (0 : Int32)), (.int (0 : Int32)), (.int (0 : Int32)), (.int (0 : Int32)), (.int (0 : Int32)), (.int (0 : Int32)), (.int (0 : Int32)), (.int (0 : Int32)), (.int (0 : Int32)), (.int (0 : Int32))] (.int (0 : Int32)) := f190.ext E194
  have f214 : Arv Z h194 b85 k85 .int (16 : Int32) [(.int (0 : Int32)), (.int (0 : Int32)), (.int (0 : Int32)), (.int (0 : Int32)), (.int (0 : Int32)), (.int (0 : Int32)), (.int (0 : Int32)), (.int (0 : Int32)), (.int (0 : Int32)), (.int (0 : Int32)), (.int (0 : Int32)), (.int (0 : Int32)), (.int (0 : Int32)), (.int (0 : Int32)), (.int (0 : Int32)), (.int (0 : Int32))] (.int (0 : Int32)) := f191.ext E194
  have f215 : Arv Z h194 b118 k118 (.object "com/example/pacelint/pacelint/model/Duration") (16 : Int32) [.null, .null, .null, .null, .null, .null, .null, .null, .null, .null, .null, .null, .null, .null, .null, .null] .null := f192.ext E194
  have f216 : Arv Z h194 b155 k155 .int (16 : Int32) [(.int (0 : Int32)), (.int (0 : Int32)), (.int (0 : Int32)), (.int (0 : Int32)), (.int (0 : Int32)), (.int (0 : Int32)), (.int (0 : Int32)), (.int (0 : Int32)), (.int (0 : Int32)), (.int (0 : Int32)), (.int (0 : Int32)), (.int (0 : Int32)), (.int (0 : Int32)), (.int (0 : Int32)), (.int (0 : Int32)), (.int (0 : Int32))] (.int (0 : Int32)) := f193.ext E194
  have f217 : Arv Z h194 b194 k194 .int (1 : Int32) [(.int (0 : Int32))] (.int (0 : Int32)) := (Arv.new A194 (by decide)).pad (pad_rep [] (.int (0 : Int32)) 1)
  refine own_go (fun t k => st194 _ k) ?_
  show own_G _ _ _ (T194.setTop (mkF m 57 #[.val (.ref p0)] [(.ref b194), (.ref p0)])) _ _ _ _
  refine own_go (fun t k => XS.dup X194.here hx rfl (hb hby d1_57) rfl rfl k) ?_
  show own_G _ _ _ (T194.setTop (mkF m 58 #[.val (.ref p0)] [(.ref b194), (.ref b194), (.ref p0)])) _ _ _ _
  refine own_go (fun t k => XS.iconst X194.here hx rfl (hb hby d1_58) k) ?_
  show own_G _ _ _ (T194.setTop (mkF m 59 #[.val (.ref p0)] [(.int (0 : Int32)), (.ref b194), (.ref b194), (.ref p0)])) _ _ _ _
  refine own_go (fun t k => XS.iconst X194.here hx rfl (hb hby d1_59) k) ?_
  show own_G _ _ _ (T194.setTop (mkF m 60 #[.val (.ref p0)] [(.int (0 : Int32)), (.int (0 : Int32)), (.ref b194), (.ref b194), (.ref p0)])) _ _ _ _
  obtain ⟨cl218, Ar218, q218, S218, Ng218, H218, G218⟩ := f217
  have in218 : ¬ ((0 : Int32) < 0 ∨ cl218.slots.size ≤ ((0 : Int32)).toNatClampNeg) := inb_of S218 ⟨by decide, by decide⟩
  obtain ⟨T218, h218, X218, e218, W218, st218⟩ := stI X194 hx hZ e194 Ar218 (j := (0 : Int32)) in218 (g := (mkF m 60 #[.val (.ref p0)] [(.int (0 : Int32)), (.int (0 : Int32)), (.ref b194), (.ref b194), (.ref p0)])) rfl rfl (hb hby d1_60)
  have N218 := Fr.snoc X218 N177 gg194
  have Zs218 : n0 ≤ h218.size := Nat.le_trans Zs194 (Keep.of_wr W218).1
  have K218_0 : Keep h0 h218 [p0] := K194_0.wr W218 (Or.inr sz194_0)
  have f219 : Exa Z h218 p0 "com/example/pacelint/pacelint/analysis/DifferenceBounds" := f201.wr W218
  have f220 : Fld Z h218 p0 "com/example/pacelint/pacelint/analysis/DifferenceBounds" "events" "Ljava/util/Map;" (.ref b2) := f202.other W218 (Or.inl ne195)
  have f221 : Fld Z h218 p0 "com/example/pacelint/pacelint/analysis/DifferenceBounds" "stating" "I" (.int (-1 : Int32)) := f203.other W218 (Or.inl ne195)
  have f222 : Fld Z h218 p0 "com/example/pacelint/pacelint/analysis/DifferenceBounds" "from" "[I" (.ref b55) := f204.other W218 (Or.inl ne195)
  have f223 : Fld Z h218 p0 "com/example/pacelint/pacelint/analysis/DifferenceBounds" "to" "[I" (.ref b85) := f205.other W218 (Or.inl ne195)
  have f224 : Fld Z h218 p0 "com/example/pacelint/pacelint/analysis/DifferenceBounds" "limit" "[Lcom/example/pacelint/pacelint/model/Duration;" (.ref b118) := f206.other W218 (Or.inl ne195)
  have f225 : Fld Z h218 p0 "com/example/pacelint/pacelint/analysis/DifferenceBounds" "requirement" "[I" (.ref b155) := f207.other W218 (Or.inl ne195)
  have f226 : Fld Z h218 p0 "com/example/pacelint/pacelint/analysis/DifferenceBounds" "firstBound" "[I" .null := f208.other W218 (Or.inl ne195)
  have f227 : Fld Z h218 p0 "com/example/pacelint/pacelint/analysis/DifferenceBounds" "pointCount" "I" (.int (0 : Int32)) := f209.other W218 (Or.inl ne195)
  have f228 : Fld Z h218 p0 "com/example/pacelint/pacelint/analysis/DifferenceBounds" "boundCount" "I" (.int (0 : Int32)) := f210.other W218 (Or.inl ne195)
  have f229 : Exa Z h218 b2 "java/util/HashMap" := f211.wr W218
  have f230 : Fld Z h218 b2 "java/util/HashMap" "size" "I" (.int (0 : Int32)) := f212.other W218 (Or.inl ne196)
  have f231 : Arv Z h218 b55 k55 .int (16 : Int32) [(.int (0 : Int32)), (.int (0 : Int32)), (.int (0 : Int32)), (.int (0 : Int32)), (.int (0 : Int32)), (.int (0 : Int32)), (.int (0 : Int32)), (.int (0 : Int32)), (.int (0 : Int32)), (.int (0 : Int32)), (.int (0 : Int32)), (.int (0 : Int32)), (.int (0 : Int32)), (.int (0 : Int32)), (.int (0 : Int32)), (.int (0 : Int32))] (.int (0 : Int32)) := f213.other W218 ne197
  have f232 : Arv Z h218 b85 k85 .int (16 : Int32) [(.int (0 : Int32)), (.int (0 : Int32)), (.int (0 : Int32)), (.int (0 : Int32)), (.int (0 : Int32)), (.int (0 : Int32)), (.int (0 : Int32)), (.int (0 : Int32)), (.int (0 : Int32)), (.int (0 : Int32)), (.int (0 : Int32)), (.int (0 : Int32)), (.int (0 : Int32)), (.int (0 : Int32)), (.int (0 : Int32)), (.int (0 : Int32))] (.int (0 : Int32)) := f214.other W218 ne198
  have f233 : Arv Z h218 b118 k118 (.object "com/example/pacelint/pacelint/model/Duration") (16 : Int32) [.null, .null, .null, .null, .null, .null, .null, .null, .null, .null, .null, .null, .null, .null, .null, .null] .null := f215.other W218 ne199
  have f234 : Arv Z h218 b155 k155 .int (16 : Int32) [(.int (0 : Int32)), (.int (0 : Int32)), (.int (0 : Int32)), (.int (0 : Int32)), (.int (0 : Int32)), (.int (0 : Int32)), (.int (0 : Int32)), (.int (0 : Int32)), (.int (0 : Int32)), (.int (0 : Int32)), (.int (0 : Int32)), (.int (0 : Int32)), (.int (0 : Int32)), (.int (0 : Int32)), (.int (0 : Int32)), (.int (0 : Int32))] (.int (0 : Int32)) := f216.other W218 ne200
  have f235 : Arv Z h218 b194 k194 .int (1 : Int32) [(.int (0 : Int32))] (.int (0 : Int32)) := Arv.set Ar218 q218 S218 Ng218 H218 G218 rfl W218 0 rfl (Nat.le_of_ble_eq_true rfl)
  refine own_go (fun t k => st218 _ k) ?_
  show own_G _ _ _ (T218.setTop (mkF m 61 #[.val (.ref p0)] [(.ref b194), (.ref p0)])) _ _ _ _
  obtain ⟨T236, h236, X236, e236, W236, st236⟩ := putF X218 hx hZ hown (host := "") (Or.inl (hw _ (List.mem_of_getElem? (i := 40) rfl))) Via.refl e218 f226 f219 (Or.inl (hw _ (List.mem_of_getElem? (i := 41) rfl))) (hw _ (List.mem_of_getElem? (i := 1) rfl)) (ty := (.array .int)) (by decide) rfl rfl (g := (mkF m 61 #[.val (.ref p0)] [(.ref b194), (.ref p0)])) rfl rfl (hb hby d1_61)
  have N236 := Fr.snoc X236 N218 g_p0
  have Zs236 : n0 ≤ h236.size := Nat.le_trans Zs218 (Keep.of_wr W236).1
  have K236_0 : Keep h0 h236 [p0] := K218_0.wr W236 (Or.inl (List.mem_of_getElem? (i := 0) rfl))
  have f237 : Exa Z h236 p0 "com/example/pacelint/pacelint/analysis/DifferenceBounds" := f219.wr W236
  have f238 : Fld Z h236 p0 "com/example/pacelint/pacelint/analysis/DifferenceBounds" "events" "Ljava/util/Map;" (.ref b2) := f220.other W236 (Or.inr (slot_ne (Or.inr (hw _ (List.mem_of_getElem? (i := 26) rfl))) (Or.inl (hw _ (List.mem_of_getElem? (i := 41) rfl))) (by decide) (t := (.object "java/util/Map")) (t' := (.array .int)) (by decide) (by decide)))
  have f239 : Fld Z h236 p0 "com/example/pacelint/pacelint/analysis/DifferenceBounds" "stating" "I" (.int (-1 : Int32)) := f221.other W236 (Or.inr (slot_ne (Or.inl (hw _ (List.mem_of_getElem? (i := 28) rfl))) (Or.inl (hw _ (List.mem_of_getElem? (i := 41) rfl))) (by decide) (t := .int) (t' := (.array .int)) (by decide) (by decide)))
  have f240 : Fld Z h236 p0 "com/example/pacelint/pacelint/analysis/DifferenceBounds" "from" "[I" (.ref b55) := f222.other W236 (Or.inr (slot_ne (Or.inl (hw _ (List.mem_of_getElem? (i := 31) rfl))) (Or.inl (hw _ (List.mem_of_getElem? (i := 41) rfl))) (by decide) (t := (.array .int)) (t' := (.array .int)) (by decide) (by decide)))
  have f241 : Fld Z h236 p0 "com/example/pacelint/pacelint/analysis/DifferenceBounds" "to" "[I" (.ref b85) := f223.other W236 (Or.inr (slot_ne (Or.inl (hw _ (List.mem_of_getElem? (i := 33) rfl))) (Or.inl (hw _ (List.mem_of_getElem? (i := 41) rfl))) (by decide) (t := (.array .int)) (t' := (.array .int)) (by decide) (by decide)))
  have f242 : Fld Z h236 p0 "com/example/pacelint/pacelint/analysis/DifferenceBounds" "limit" "[Lcom/example/pacelint/pacelint/model/Duration;" (.ref b118) := f224.other W236 (Or.inr (slot_ne (Or.inl (hw _ (List.mem_of_getElem? (i := 37) rfl))) (Or.inl (hw _ (List.mem_of_getElem? (i := 41) rfl))) (by decide) (t := (.array (.object "com/example/pacelint/pacelint/model/Duration"))) (t' := (.array .int)) (by decide) (by decide)))
  have f243 : Fld Z h236 p0 "com/example/pacelint/pacelint/analysis/DifferenceBounds" "requirement" "[I" (.ref b155) := f225.other W236 (Or.inr (slot_ne (Or.inl (hw _ (List.mem_of_getElem? (i := 39) rfl))) (Or.inl (hw _ (List.mem_of_getElem? (i := 41) rfl))) (by decide) (t := (.array .int)) (t' := (.array .int)) (by decide) (by decide)))
  have f244 : Fld Z h236 p0 "com/example/pacelint/pacelint/analysis/DifferenceBounds" "firstBound" "[I" (.ref b194) := f226.same W236
  have f245 : Fld Z h236 p0 "com/example/pacelint/pacelint/analysis/DifferenceBounds" "pointCount" "I" (.int (0 : Int32)) := f227.other W236 (Or.inr (slot_ne (Or.inl (hw _ (List.mem_of_getElem? (i := 48) rfl))) (Or.inl (hw _ (List.mem_of_getElem? (i := 41) rfl))) (by decide) (t := .int) (t' := (.array .int)) (by decide) (by decide)))
  have f246 : Fld Z h236 p0 "com/example/pacelint/pacelint/analysis/DifferenceBounds" "boundCount" "I" (.int (0 : Int32)) := f228.other W236 (Or.inr (slot_ne (Or.inl (hw _ (List.mem_of_getElem? (i := 80) rfl))) (Or.inl (hw _ (List.mem_of_getElem? (i := 41) rfl))) (by decide) (t := .int) (t' := (.array .int)) (by decide) (by decide)))
  have f247 : Exa Z h236 b2 "java/util/HashMap" := f229.wr W236
  have f248 : Fld Z h236 b2 "java/util/HashMap" "size" "I" (.int (0 : Int32)) := f230.other W236 (Or.inl (Ne.symm ne3))
  have f249 : Arv Z h236 b55 k55 .int (16 : Int32) [(.int (0 : Int32)), (.int (0 : Int32)), (.int (0 : Int32)), (.int (0 : Int32)), (.int (0 : Int32)), (.int (0 : Int32)), (.int (0 : Int32)), (.int (0 : Int32)), (.int (0 : Int32)), (.int (0 : Int32)), (.int (0 : Int32)), (.int (0 : Int32)), (.int (0 : Int32)), (.int (0 : Int32)), (.int (0 : Int32)), (.int (0 : Int32))] (.int (0 : Int32)) := f231.other W236 (Ne.symm ne56)
  have f250 : Arv Z h236 b85 k85 .int (16 : Int32) [(.int (0 : Int32)), (.int (0 : Int32)), (.int (0 : Int32)), (.int (0 : Int32)), (.int (0 : Int32)), (.int (0 : Int32)), (.int (0 : Int32)), (.int (0 : Int32)), (.int (0 : Int32)), (.int (0 : Int32)), (.int (0 : Int32)), (.int (0 : Int32)), (.int (0 : Int32)), (.int (0 : Int32)), (.int (0 : Int32)), (.int (0 : Int32))] (.int (0 : Int32)) := f232.other W236 (Ne.symm ne86)
  have f251 : Arv Z h236 b118 k118 (.object "com/example/pacelint/pacelint/model/Duration") (16 : Int32) [.null, .null, .null, .null, .null, .null, .null, .null, .null, .null, .null, .null, .null, .null, .null, .null] .null := f233.other W236 (Ne.symm ne119)
  have f252 : Arv Z h236 b155 k155 .int (16 : Int32) [(.int (0 : Int32)), (.int (0 : Int32)), (.int (0 : Int32)), (.int (0 : Int32)), (.int (0 : Int32)), (.int (0 : Int32)), (.int (0 : Int32)), (.int (0 : Int32)), (.int (0 : Int32)), (.int (0 : Int32)), (.int (0 : Int32)), (.int (0 : Int32)), (.int (0 : Int32)), (.int (0 : Int32)), (.int (0 : Int32)), (.int (0 : Int32))] (.int (0 : Int32)) := f234.other W236 (Ne.symm ne156)
  have f253 : Arv Z h236 b194 k194 .int (1 : Int32) [(.int (0 : Int32))] (.int (0 : Int32)) := f235.other W236 (Ne.symm ne195)
  refine own_go (fun t k => st236 _ k) ?_
  show own_G _ _ _ (T236.setTop (mkF m 64 #[.val (.ref p0)] [])) _ _ _ _
  exact own_endV X236 hx hlk Bd.returns (hb hby d1_64) (by decide) (by decide) (Q := (Q1 Z p0 h0 n0)) (by rw [e236]; exact ⟨b2, rfl, N236, K236_0, sz2_0, f237, f238, f245, f246, f247, f248⟩)
theorem d5_0 : decode prog_9_method_8_code 0 = .ok (.aload_n 0, 1) := by decide +kernel
theorem d5_1 : decode prog_9_method_8_code 1 = .ok (.getfield 82, 3) := by decide +kernel
theorem d5_4 : decode prog_9_method_8_code 4 = .ok (.ireturn, 1) := by decide +kernel
theorem ef_5 (m : MethodId) (p0 : Addr) : entryFrame m #[(.ref p0)] 1 = mkF m 0 #[.val (.ref p0)] [] := by first | (simp [entryFrame, mkF, argsToLocals, Value.category]; done) | rfl
def Q5 (Z : State) (p0 : Addr) (q : Int32) (h0 : Heap) (n0 : Nat) (v : Option Value) (h : Heap) (L : List Loc) : Prop := v = some (.int q) ∧ Fr n0 L ∧ h = h0
set_option maxRecDepth 65536 in
set_option maxHeartbeats 40000000 in
theorem rm5 (l : Launch) (Z : State) (a0 : Array Value) (hw : ∀ d ∈ tables_1, d.before a0 Z = true) (ws : List Jvm.Cond) (p0 : Addr) (q : Int32) (h0 : Heap) (n0 : Nat) (Z0 : n0 ≤ h0.size) (P_F_p0_pointCount : Fld Z h0 p0 "com/example/pacelint/pacelint/analysis/DifferenceBounds" "pointCount" "I" (.int q)) :
    MetFree l (⟨"com/example/pacelint/pacelint/analysis/DifferenceBounds", "pointCount", "()I"⟩ : MethodName) (head1 (Jvm.Cond.code (⟨"com/example/pacelint/pacelint/analysis/DifferenceBounds", "pointCount", "()I"⟩ : MethodName) prog_9_method_8_code 1 (some .int) :: ws) ({ frames := 0, cells := 0, slots := 0, locals := 0 } : Room)) (fun a U => a = #[(.ref p0)] ∧ Z.Warmed39 U.vm ∧ U.heap = h0) (fun _ _ _ _ _ => True) (fun _ U o U' => ∃ v L, o = .returned v ∧ (Q5 Z p0 q h0 n0) v U'.heap L ∧ FrameEnd U o U' L ({ frames := 0, cells := 0, slots := 0, locals := 0 } : Room).cells ({ frames := 0, cells := 0, slots := 0, locals := 0 } : Room).slots) := by
  refine MetFree.of_bodySF (plainFor_of_name pn_2) hisR ?_
  intro p e s m args below meth c s₁ Bd hml0 hP hK
  obtain ⟨rfl, hZ, hh⟩ := hP
  have hx := Bd.exec
  have hby := Bd.bytes
  have hml : c.maxLocals = 1 := hml0
  have hown : s.vm.findClass "com/example/pacelint/pacelint/analysis/DifferenceBounds" = some m.cls := findClass_of_methodNamed Bd.named
  have hnm := (name_of_methodNamed Bd.named Bd.method).1
  have hlk : meth.locks = false := BodyLoose.notSynchronized Bd
  have X0 : Stand p l e ({ frames := 0, cells := 0, slots := 0, locals := 0 } : Room) s m #[(.ref p0)] below meth c s₁ [] 0 0 := Stand.of_body Bd
  have e0 : s₁.heap = h0 := by rw [← hh, Bd.state]; rfl
  have N0 := Fr.nil n0
  show own_G p.tables e below (s₁.setTop (entryFrame m #[(.ref p0)] 1)) s ({ frames := 0, cells := 0, slots := 0, locals := 0 } : Room).cells ({ frames := 0, cells := 0, slots := 0, locals := 0 } : Room).slots (Q5 Z p0 q h0 n0)
  refine own_go (fun t k => castTop (ef_5 m p0) k) ?_
  show own_G _ _ _ (s₁.setTop (mkF m 0 #[.val (.ref p0)] [])) _ _ _ _
  refine own_go (fun t k => XS.aloadN X0.here hx rfl (hb hby d5_0) rfl rfl k) ?_
  show own_G _ _ _ (s₁.setTop (mkF m 1 #[.val (.ref p0)] [(.ref p0)])) _ _ _ _
  obtain ⟨T1, X1, e1, st1⟩ := getF X0 hx hZ hown (host := "") (Or.inl (hw _ (List.mem_of_getElem? (i := 47) rfl))) Via.refl e0 P_F_p0_pointCount (g := (mkF m 1 #[.val (.ref p0)] [(.ref p0)])) rfl rfl (hb hby d5_1)
  refine own_go (fun t k => st1 _ k) ?_
  show own_G _ _ _ (T1.setTop (mkF m 4 #[.val (.ref p0)] [(.int q)])) _ _ _ _
  exact own_endI X1 hx hlk Bd.returns (hb hby d5_4) (by decide) (by decide) (Q := (Q5 Z p0 q h0 n0)) (by rw [e1]; exact ⟨rfl, N0, rfl⟩)
theorem d7_0 : decode prog_9_method_4_code 0 = .ok (.aload_n 0, 1) := by decide +kernel
theorem d7_1 : decode prog_9_method_4_code 1 = .ok (.dup, 1) := by decide +kernel
theorem d7_2 : decode prog_9_method_4_code 2 = .ok (.getfield 82, 3) := by decide +kernel
theorem d7_5 : decode prog_9_method_4_code 5 = .ok (.dup_x1, 1) := by decide +kernel
theorem d7_6 : decode prog_9_method_4_code 6 = .ok (.iconst 1, 1) := by decide +kernel
theorem d7_7 : decode prog_9_method_4_code 7 = .ok (.iadd, 1) := by decide +kernel
theorem d7_8 : decode prog_9_method_4_code 8 = .ok (.putfield 82, 3) := by decide +kernel
theorem d7_11 : decode prog_9_method_4_code 11 = .ok (.ireturn, 1) := by decide +kernel
theorem ef_7 (m : MethodId) (p0 : Addr) : entryFrame m #[(.ref p0)] 1 = mkF m 0 #[.val (.ref p0)] [] := by first | (simp [entryFrame, mkF, argsToLocals, Value.category]; done) | rfl
def Q7 (Z : State) (p0 : Addr) (q : Int32) (mp : Addr) (h0 : Heap) (n0 : Nat) (v : Option Value) (h : Heap) (L : List Loc) : Prop := v = some (.int q) ∧ Fr n0 L ∧ Keep h0 h [p0] ∧ Exa Z h p0 "com/example/pacelint/pacelint/analysis/DifferenceBounds" ∧ Fld Z h p0 "com/example/pacelint/pacelint/analysis/DifferenceBounds" "pointCount" "I" (.int (q + (1 : Int32))) ∧ Fld Z h p0 "com/example/pacelint/pacelint/analysis/DifferenceBounds" "events" "Ljava/util/Map;" (.ref mp) ∧ Fld Z h p0 "com/example/pacelint/pacelint/analysis/DifferenceBounds" "boundCount" "I" (.int (0 : Int32))
set_option maxRecDepth 65536 in
set_option maxHeartbeats 40000000 in
theorem rm7 (l : Launch) (Z : State) (a0 : Array Value) (hw : ∀ d ∈ tables_1, d.before a0 Z = true) (ws : List Jvm.Cond) (p0 : Addr) (q : Int32) (mp : Addr) (h0 : Heap) (n0 : Nat) (Z0 : n0 ≤ h0.size) (P_E_p0 : Exa Z h0 p0 "com/example/pacelint/pacelint/analysis/DifferenceBounds") (P_F_p0_pointCount : Fld Z h0 p0 "com/example/pacelint/pacelint/analysis/DifferenceBounds" "pointCount" "I" (.int q)) (P_F_p0_events : Fld Z h0 p0 "com/example/pacelint/pacelint/analysis/DifferenceBounds" "events" "Ljava/util/Map;" (.ref mp)) (P_F_p0_boundCount : Fld Z h0 p0 "com/example/pacelint/pacelint/analysis/DifferenceBounds" "boundCount" "I" (.int (0 : Int32))) (g_p0 : n0 ≤ p0) :
    MetFree l (⟨"com/example/pacelint/pacelint/analysis/DifferenceBounds", "newPoint", "()I"⟩ : MethodName) (head1 (Jvm.Cond.code (⟨"com/example/pacelint/pacelint/analysis/DifferenceBounds", "newPoint", "()I"⟩ : MethodName) prog_9_method_4_code 1 (some .int) :: ws) ({ frames := 0, cells := 0, slots := 0, locals := 0 } : Room)) (fun a U => a = #[(.ref p0)] ∧ Z.Warmed39 U.vm ∧ U.heap = h0) (fun _ _ _ _ _ => True) (fun _ U o U' => ∃ v L, o = .returned v ∧ (Q7 Z p0 q mp h0 n0) v U'.heap L ∧ FrameEnd U o U' L ({ frames := 0, cells := 0, slots := 0, locals := 0 } : Room).cells ({ frames := 0, cells := 0, slots := 0, locals := 0 } : Room).slots) := by
  refine MetFree.of_bodySF (plainFor_of_name pn_2) hisR ?_
  intro p e s m args below meth c s₁ Bd hml0 hP hK
  obtain ⟨rfl, hZ, hh⟩ := hP
  have hx := Bd.exec
  have hby := Bd.bytes
  have hml : c.maxLocals = 1 := hml0
  have hown : s.vm.findClass "com/example/pacelint/pacelint/analysis/DifferenceBounds" = some m.cls := findClass_of_methodNamed Bd.named
  have hnm := (name_of_methodNamed Bd.named Bd.method).1
  have hlk : meth.locks = false := BodyLoose.notSynchronized Bd
  have X0 : Stand p l e ({ frames := 0, cells := 0, slots := 0, locals := 0 } : Room) s m #[(.ref p0)] below meth c s₁ [] 0 0 := Stand.of_body Bd
  have e0 : s₁.heap = h0 := by rw [← hh, Bd.state]; rfl
  have N0 := Fr.nil n0
  have K0 : Keep h0 h0 [p0] := Keep.refl h0 [p0]
  show own_G p.tables e below (s₁.setTop (entryFrame m #[(.ref p0)] 1)) s ({ frames := 0, cells := 0, slots := 0, locals := 0 } : Room).cells ({ frames := 0, cells := 0, slots := 0, locals := 0 } : Room).slots (Q7 Z p0 q mp h0 n0)
  refine own_go (fun t k => castTop (ef_7 m p0) k) ?_
  show own_G _ _ _ (s₁.setTop (mkF m 0 #[.val (.ref p0)] [])) _ _ _ _
  refine own_go (fun t k => XS.aloadN X0.here hx rfl (hb hby d7_0) rfl rfl k) ?_
  show own_G _ _ _ (s₁.setTop (mkF m 1 #[.val (.ref p0)] [(.ref p0)])) _ _ _ _
  refine own_go (fun t k => XS.dup X0.here hx rfl (hb hby d7_1) rfl rfl k) ?_
  show own_G _ _ _ (s₁.setTop (mkF m 2 #[.val (.ref p0)] [(.ref p0), (.ref p0)])) _ _ _ _
  obtain ⟨T1, X1, e1, st1⟩ := getF X0 hx hZ hown (host := "") (Or.inl (hw _ (List.mem_of_getElem? (i := 47) rfl))) Via.refl e0 P_F_p0_pointCount (g := (mkF m 2 #[.val (.ref p0)] [(.ref p0), (.ref p0)])) rfl rfl (hb hby d7_2)
  refine own_go (fun t k => st1 _ k) ?_
  show own_G _ _ _ (T1.setTop (mkF m 5 #[.val (.ref p0)] [(.int q), (.ref p0)])) _ _ _ _
  refine own_go (fun t k => XS.dupX1 X1.here hx rfl (hb hby d7_5) rfl rfl rfl k) ?_
  show own_G _ _ _ (T1.setTop (mkF m 6 #[.val (.ref p0)] [(.int q), (.ref p0), (.int q)])) _ _ _ _
  refine own_go (fun t k => XS.iconst X1.here hx rfl (hb hby d7_6) k) ?_
  show own_G _ _ _ (T1.setTop (mkF m 7 #[.val (.ref p0)] [(.int (1 : Int32)), (.int q), (.ref p0), (.int q)])) _ _ _ _
  refine own_go (fun t k => XS.iadd X1.here hx rfl (hb hby d7_7) rfl k) ?_
  show own_G _ _ _ (T1.setTop (mkF m 8 #[.val (.ref p0)] [(.int (q + (1 : Int32))), (.ref p0), (.int q)])) _ _ _ _
  obtain ⟨T2, h2, X2, e2, W2, st2⟩ := putF X1 hx hZ hown (host := "") (Or.inl (hw _ (List.mem_of_getElem? (i := 47) rfl))) Via.refl e1 P_F_p0_pointCount P_E_p0 (Or.inl (hw _ (List.mem_of_getElem? (i := 48) rfl))) (hw _ (List.mem_of_getElem? (i := 1) rfl)) (ty := .int) (by decide) rfl rfl (g := (mkF m 8 #[.val (.ref p0)] [(.int (q + (1 : Int32))), (.ref p0), (.int q)])) rfl rfl (hb hby d7_8)
  have N2 := Fr.snoc X2 N0 g_p0
  have Zs2 : n0 ≤ h2.size := Nat.le_trans Z0 (Keep.of_wr W2).1
  have K2_0 : Keep h0 h2 [p0] := K0.wr W2 (Or.inl (List.mem_of_getElem? (i := 0) rfl))
  have f3 : Exa Z h2 p0 "com/example/pacelint/pacelint/analysis/DifferenceBounds" := P_E_p0.wr W2
  have f4 : Fld Z h2 p0 "com/example/pacelint/pacelint/analysis/DifferenceBounds" "pointCount" "I" (.int (q + (1 : Int32))) := P_F_p0_pointCount.same W2
  have f5 : Fld Z h2 p0 "com/example/pacelint/pacelint/analysis/DifferenceBounds" "events" "Ljava/util/Map;" (.ref mp) := P_F_p0_events.other W2 (Or.inr (slot_ne (Or.inr (hw _ (List.mem_of_getElem? (i := 26) rfl))) (Or.inl (hw _ (List.mem_of_getElem? (i := 48) rfl))) (by decide) (t := (.object "java/util/Map")) (t' := .int) (by decide) (by decide)))
  have f6 : Fld Z h2 p0 "com/example/pacelint/pacelint/analysis/DifferenceBounds" "boundCount" "I" (.int (0 : Int32)) := P_F_p0_boundCount.other W2 (Or.inr (slot_ne (Or.inl (hw _ (List.mem_of_getElem? (i := 80) rfl))) (Or.inl (hw _ (List.mem_of_getElem? (i := 48) rfl))) (by decide) (t := .int) (t' := .int) (by decide) (by decide)))
  refine own_go (fun t k => st2 _ k) ?_
  show own_G _ _ _ (T2.setTop (mkF m 11 #[.val (.ref p0)] [(.int q)])) _ _ _ _
  exact own_endI X2 hx hlk Bd.returns (hb hby d7_11) (by decide) (by decide) (Q := (Q7 Z p0 q mp h0 n0)) (by rw [e2]; exact ⟨rfl, N2, K2_0, f3, f4, f5, f6⟩)
theorem d6_0 : decode method_2_code 0 = .ok (.aload_n 0, 1) := by decide +kernel
theorem d6_1 : decode method_2_code 1 = .ok (.invokevirtual 7, 3) := by decide +kernel
theorem d6_4 : decode method_2_code 4 = .ok (.istore_n 2, 1) := by decide +kernel
theorem d6_5 : decode method_2_code 5 = .ok (.aload_n 0, 1) := by decide +kernel
theorem d6_6 : decode method_2_code 6 = .ok (.invokevirtual 13, 3) := by decide +kernel
theorem d6_9 : decode method_2_code 9 = .ok (.istore_n 3, 1) := by decide +kernel
theorem d6_10 : decode method_2_code 10 = .ok (.aload_n 0, 1) := by decide +kernel
theorem d6_11 : decode method_2_code 11 = .ok (.invokevirtual 7, 3) := by decide +kernel
theorem d6_14 : decode method_2_code 14 = .ok (.istore 4, 2) := by decide +kernel
theorem d6_16 : decode method_2_code 16 = .ok (.iload_n 2, 1) := by decide +kernel
theorem d6_17 : decode method_2_code 17 = .ok (.iload_n 1, 1) := by decide +kernel
theorem d6_18 : decode method_2_code 18 = .ok (.if_icmp .ne 20, 3) := by decide +kernel
theorem d6_21 : decode method_2_code 21 = .ok (.iload_n 3, 1) := by decide +kernel
theorem d6_22 : decode method_2_code 22 = .ok (.iload_n 1, 1) := by decide +kernel
theorem d6_23 : decode method_2_code 23 = .ok (.if_icmp .ne 15, 3) := by decide +kernel
theorem d6_26 : decode method_2_code 26 = .ok (.iload 4, 2) := by decide +kernel
theorem d6_28 : decode method_2_code 28 = .ok (.iload_n 1, 1) := by decide +kernel
theorem d6_29 : decode method_2_code 29 = .ok (.iconst 1, 1) := by decide +kernel
theorem d6_30 : decode method_2_code 30 = .ok (.iadd, 1) := by decide +kernel
theorem d6_31 : decode method_2_code 31 = .ok (.if_icmp .ne 7, 3) := by decide +kernel
theorem d6_34 : decode method_2_code 34 = .ok (.iconst 1, 1) := by decide +kernel
theorem d6_35 : decode method_2_code 35 = .ok (.goto 4, 3) := by decide +kernel
theorem d6_38 : decode method_2_code 38 = .ok (.iconst 0, 1) := by decide +kernel
theorem d6_39 : decode method_2_code 39 = .ok (.ireturn, 1) := by decide +kernel
theorem pd_1 : parseMethodDescriptor "()I" = some ⟨[], some .int⟩ := by decide +kernel
theorem pn_3 : plainName "com/example/pacelint/pacelint/analysis/DifferenceBoundsNewPointPinLaw" = true := by first | (simp [plainName, overriddenIn]; done) | decide +kernel
theorem ef_6 (m : MethodId) (p0 : Addr) (p1 : Int32) : entryFrame m #[(.ref p0), (.int p1)] 5 = mkF m 0 #[.val (.ref p0), .val (.int p1), .unset, .unset, .unset] [] := by first | (simp [entryFrame, mkF, argsToLocals, Value.category]; done) | rfl
def Q6 (Z : State) (p0 : Addr) (p1 : Int32) (mp : Addr) (h0 : Heap) (n0 : Nat) (v : Option Value) (h : Heap) (L : List Loc) : Prop := v = some (.int (1 : Int32)) ∧ Fr n0 L ∧ Keep h0 h [p0] ∧ Exa Z h p0 "com/example/pacelint/pacelint/analysis/DifferenceBounds" ∧ Fld Z h p0 "com/example/pacelint/pacelint/analysis/DifferenceBounds" "pointCount" "I" (.int (p1 + (1 : Int32))) ∧ Fld Z h p0 "com/example/pacelint/pacelint/analysis/DifferenceBounds" "events" "Ljava/util/Map;" (.ref mp) ∧ Fld Z h p0 "com/example/pacelint/pacelint/analysis/DifferenceBounds" "boundCount" "I" (.int (0 : Int32))
set_option maxRecDepth 65536 in
set_option maxHeartbeats 40000000 in
theorem rm6 (l : Launch) (Z : State) (a0 : Array Value) (hw : ∀ d ∈ tables_1, d.before a0 Z = true) (ws : List Jvm.Cond) (p0 : Addr) (p1 : Int32) (mp : Addr) (h0 : Heap) (n0 : Nat) (Z0 : n0 ≤ h0.size) (P_E_p0 : Exa Z h0 p0 "com/example/pacelint/pacelint/analysis/DifferenceBounds") (P_F_p0_pointCount : Fld Z h0 p0 "com/example/pacelint/pacelint/analysis/DifferenceBounds" "pointCount" "I" (.int p1)) (P_F_p0_events : Fld Z h0 p0 "com/example/pacelint/pacelint/analysis/DifferenceBounds" "events" "Ljava/util/Map;" (.ref mp)) (P_F_p0_boundCount : Fld Z h0 p0 "com/example/pacelint/pacelint/analysis/DifferenceBounds" "boundCount" "I" (.int (0 : Int32))) (g_p0 : n0 ≤ p0) :
    MetFree l (⟨"com/example/pacelint/pacelint/analysis/DifferenceBoundsNewPointPinLaw", "step", "(Lcom/example/pacelint/pacelint/analysis/DifferenceBounds;I)Z"⟩ : MethodName) (head1 (Jvm.Cond.code (⟨"com/example/pacelint/pacelint/analysis/DifferenceBoundsNewPointPinLaw", "step", "(Lcom/example/pacelint/pacelint/analysis/DifferenceBounds;I)Z"⟩ : MethodName) method_2_code 5 (some .boolean) :: ws) ({ frames := 1, cells := 0, slots := 0, locals := 12 } : Room)) (fun a U => a = #[(.ref p0), (.int p1)] ∧ Z.Warmed39 U.vm ∧ U.heap = h0) (fun _ _ _ _ _ => True) (fun _ U o U' => ∃ v L, o = .returned v ∧ (Q6 Z p0 p1 mp h0 n0) v U'.heap L ∧ FrameEnd U o U' L ({ frames := 1, cells := 0, slots := 0, locals := 12 } : Room).cells ({ frames := 1, cells := 0, slots := 0, locals := 12 } : Room).slots) := by
  refine MetFree.of_bodySF (plainFor_of_name pn_3) hisR ?_
  intro p e s m args below meth c s₁ Bd hml0 hP hK
  obtain ⟨rfl, hZ, hh⟩ := hP
  have hx := Bd.exec
  have hby := Bd.bytes
  have hml : c.maxLocals = 5 := hml0
  have hown : s.vm.findClass "com/example/pacelint/pacelint/analysis/DifferenceBoundsNewPointPinLaw" = some m.cls := findClass_of_methodNamed Bd.named
  have hnm := (name_of_methodNamed Bd.named Bd.method).1
  have hlk : meth.locks = false := BodyLoose.notSynchronized Bd
  have X0 : Stand p l e ({ frames := 1, cells := 0, slots := 0, locals := 12 } : Room) s m #[(.ref p0), (.int p1)] below meth c s₁ [] 0 0 := Stand.of_body Bd
  have e0 : s₁.heap = h0 := by rw [← hh, Bd.state]; rfl
  have N0 := Fr.nil n0
  have K0 : Keep h0 h0 [p0] := Keep.refl h0 [p0]
  show own_G p.tables e below (s₁.setTop (entryFrame m #[(.ref p0), (.int p1)] 5)) s ({ frames := 1, cells := 0, slots := 0, locals := 12 } : Room).cells ({ frames := 1, cells := 0, slots := 0, locals := 12 } : Room).slots (Q6 Z p0 p1 mp h0 n0)
  refine own_go (fun t k => castTop (ef_6 m p0 p1) k) ?_
  show own_G _ _ _ (s₁.setTop (mkF m 0 #[.val (.ref p0), .val (.int p1), .unset, .unset, .unset] [])) _ _ _ _
  refine own_go (fun t k => XS.aloadN X0.here hx rfl (hb hby d6_0) rfl rfl k) ?_
  show own_G _ _ _ (s₁.setTop (mkF m 1 #[.val (.ref p0), .val (.int p1), .unset, .unset, .unset] [(.ref p0)])) _ _ _ _
  obtain ⟨cq1, kq1, q1a, q1b, q1c⟩ := isOf hZ e0 P_E_p0
  obtain ⟨_, _, ⟨T1, L1, k1, n1⟩, -, X1, ⟨Lc1, hQ1, l1, y1, z1⟩, st1⟩ := X0.virtualBack hx (y := (⟨"com/example/pacelint/pacelint/analysis/DifferenceBounds", "pointCount", "()I"⟩ : MethodName)) (z := (⟨"com/example/pacelint/pacelint/analysis/DifferenceBounds", "pointCount", "()I"⟩ : MethodName)) hown (mvT hZ (hw _ (List.mem_of_getElem? (i := 42) rfl))) (mvT hZ (hw _ (List.mem_of_getElem? (i := 43) rfl))) (notFace_of_selects (args := #[]) (mvT hZ (hw _ (List.mem_of_getElem? (i := 45) rfl)))) (mvT hZ (hw _ (List.mem_of_getElem? (i := 45) rfl))) (mvT hZ (hw _ (List.mem_of_getElem? (i := 44) rfl))) (by decide) (backOf (W := 0) (rm5 l Z a0 hw [] p0 p1 h0 n0 Z0 P_F_p0_pointCount) hZ (hw _ (List.mem_of_getElem? (i := 46) rfl)) (hw _ (List.mem_of_getElem? (i := 2) rfl)) (by decide) (by decide)) q1a q1c (g := (mkF m 1 #[.val (.ref p0), .val (.int p1), .unset, .unset, .unset] [(.ref p0)])) rfl (by rw [hml]; rfl) (Steps.refl _) (argsL := []) (rest := []) (lenOf pd_1 rfl) rfl (by show 2 * 0 + _ ≤ _; exact Nat.le_of_eq rfl) (hb hby d6_1) (fun _ _ => ⟨rfl, e0, (by decide : 0 + 0 ≤ _), (by decide : 0 + 0 ≤ _)⟩)
  dsimp only [Pt.U, Pt.locs, Pt.cells, Pt.slots] at X1 l1 y1 z1 st1 hQ1
  subst l1 y1 z1
  obtain ⟨rfl, Nq1, eh1⟩ := hQ1
  have N1 := Fr.app N0 Nq1
  refine own_tr st1 ?_
  show own_G _ _ _ (T1.setTop (mkF m 4 #[.val (.ref p0), .val (.int p1), .unset, .unset, .unset] [(.int p1)])) _ _ _ _
  refine own_go (fun t k => XS.istoreN X1.here hx rfl (hb hby d6_4) rfl (l' := #[.val (.ref p0), .val (.int p1), .val (.int p1), .unset, .unset]) rfl k) ?_
  show own_G _ _ _ (T1.setTop (mkF m 5 #[.val (.ref p0), .val (.int p1), .val (.int p1), .unset, .unset] [])) _ _ _ _
  refine own_go (fun t k => XS.aloadN X1.here hx rfl (hb hby d6_5) rfl rfl k) ?_
  show own_G _ _ _ (T1.setTop (mkF m 6 #[.val (.ref p0), .val (.int p1), .val (.int p1), .unset, .unset] [(.ref p0)])) _ _ _ _
  obtain ⟨cq2, kq2, q2a, q2b, q2c⟩ := isOf hZ eh1 P_E_p0
  obtain ⟨_, _, ⟨T2, L2, k2, n2⟩, -, X2, ⟨Lc2, hQ2, l2, y2, z2⟩, st2⟩ := X1.virtualBack hx (y := (⟨"com/example/pacelint/pacelint/analysis/DifferenceBounds", "newPoint", "()I"⟩ : MethodName)) (z := (⟨"com/example/pacelint/pacelint/analysis/DifferenceBounds", "newPoint", "()I"⟩ : MethodName)) hown (mvT hZ (hw _ (List.mem_of_getElem? (i := 53) rfl))) (mvT hZ (hw _ (List.mem_of_getElem? (i := 54) rfl))) (notFace_of_selects (args := #[]) (mvT hZ (hw _ (List.mem_of_getElem? (i := 56) rfl)))) (mvT hZ (hw _ (List.mem_of_getElem? (i := 56) rfl))) (mvT hZ (hw _ (List.mem_of_getElem? (i := 55) rfl))) (by decide) (backOf (W := 0) (rm7 l Z a0 hw [] p0 p1 mp h0 n0 Z0 P_E_p0 P_F_p0_pointCount P_F_p0_events P_F_p0_boundCount g_p0) hZ (hw _ (List.mem_of_getElem? (i := 57) rfl)) (hw _ (List.mem_of_getElem? (i := 2) rfl)) (by decide) (by decide)) q2a q2c (g := (mkF m 6 #[.val (.ref p0), .val (.int p1), .val (.int p1), .unset, .unset] [(.ref p0)])) rfl (by rw [hml]; rfl) (Steps.refl _) (argsL := []) (rest := []) (lenOf pd_1 rfl) rfl (by show 2 * 0 + _ ≤ _; exact Nat.le_of_eq rfl) (hb hby d6_6) (fun _ _ => ⟨rfl, eh1, (by decide : 0 + 0 ≤ _), (by decide : 0 + 0 ≤ _)⟩)
  dsimp only [Pt.U, Pt.locs, Pt.cells, Pt.slots] at X2 l2 y2 z2 st2 hQ2
  subst l2 y2 z2
  obtain ⟨rfl, Nq2, Kq2, r2_0, r2_1, r2_2, r2_3⟩ := hQ2
  have N2 := Fr.app N1 Nq2
  have f3 : Exa Z T2.heap p0 "com/example/pacelint/pacelint/analysis/DifferenceBounds" := P_E_p0.keep Kq2
  have Zs2 : n0 ≤ T2.heap.size := Nat.le_trans Z0 Kq2.1
  have K2_0 : Keep h0 T2.heap [p0] := K0.trans Kq2 (allS (Or.inl (List.mem_of_getElem? (i := 0) rfl)) all0)
  refine own_tr st2 ?_
  show own_G _ _ _ (T2.setTop (mkF m 9 #[.val (.ref p0), .val (.int p1), .val (.int p1), .unset, .unset] [(.int p1)])) _ _ _ _
  refine own_go (fun t k => XS.istoreN X2.here hx rfl (hb hby d6_9) rfl (l' := #[.val (.ref p0), .val (.int p1), .val (.int p1), .val (.int p1), .unset]) rfl k) ?_
  show own_G _ _ _ (T2.setTop (mkF m 10 #[.val (.ref p0), .val (.int p1), .val (.int p1), .val (.int p1), .unset] [])) _ _ _ _
  refine own_go (fun t k => XS.aloadN X2.here hx rfl (hb hby d6_10) rfl rfl k) ?_
  show own_G _ _ _ (T2.setTop (mkF m 11 #[.val (.ref p0), .val (.int p1), .val (.int p1), .val (.int p1), .unset] [(.ref p0)])) _ _ _ _
  obtain ⟨cq4, kq4, q4a, q4b, q4c⟩ := isOf hZ rfl r2_0
  obtain ⟨_, _, ⟨T4, L4, k4, n4⟩, -, X4, ⟨Lc4, hQ4, l4, y4, z4⟩, st4⟩ := X2.virtualBack hx (y := (⟨"com/example/pacelint/pacelint/analysis/DifferenceBounds", "pointCount", "()I"⟩ : MethodName)) (z := (⟨"com/example/pacelint/pacelint/analysis/DifferenceBounds", "pointCount", "()I"⟩ : MethodName)) hown (mvT hZ (hw _ (List.mem_of_getElem? (i := 42) rfl))) (mvT hZ (hw _ (List.mem_of_getElem? (i := 43) rfl))) (notFace_of_selects (args := #[]) (mvT hZ (hw _ (List.mem_of_getElem? (i := 45) rfl)))) (mvT hZ (hw _ (List.mem_of_getElem? (i := 45) rfl))) (mvT hZ (hw _ (List.mem_of_getElem? (i := 44) rfl))) (by decide) (backOf (W := 0) (rm5 l Z a0 hw [] p0 (p1 + (1 : Int32)) T2.heap n0 Zs2 r2_1) hZ (hw _ (List.mem_of_getElem? (i := 46) rfl)) (hw _ (List.mem_of_getElem? (i := 2) rfl)) (by decide) (by decide)) q4a q4c (g := (mkF m 11 #[.val (.ref p0), .val (.int p1), .val (.int p1), .val (.int p1), .unset] [(.ref p0)])) rfl (by rw [hml]; rfl) (Steps.refl _) (argsL := []) (rest := []) (lenOf pd_1 rfl) rfl (by show 2 * 0 + _ ≤ _; exact Nat.le_of_eq rfl) (hb hby d6_11) (fun _ _ => ⟨rfl, rfl, (by decide : 0 + 0 ≤ _), (by decide : 0 + 0 ≤ _)⟩)
  dsimp only [Pt.U, Pt.locs, Pt.cells, Pt.slots] at X4 l4 y4 z4 st4 hQ4
  subst l4 y4 z4
  obtain ⟨rfl, Nq4, eh4⟩ := hQ4
  have N4 := Fr.app N2 Nq4
  refine own_tr st4 ?_
  show own_G _ _ _ (T4.setTop (mkF m 14 #[.val (.ref p0), .val (.int p1), .val (.int p1), .val (.int p1), .unset] [(.int (p1 + (1 : Int32)))])) _ _ _ _
  refine own_go (fun t k => XS.istore X4.here hx rfl (hb hby d6_14) rfl (l' := #[.val (.ref p0), .val (.int p1), .val (.int p1), .val (.int p1), .val (.int (p1 + (1 : Int32)))]) rfl k) ?_
  show own_G _ _ _ (T4.setTop (mkF m 16 #[.val (.ref p0), .val (.int p1), .val (.int p1), .val (.int p1), .val (.int (p1 + (1 : Int32)))] [])) _ _ _ _
  refine own_go (fun t k => XS.iloadN X4.here hx rfl (hb hby d6_16) rfl k) ?_
  show own_G _ _ _ (T4.setTop (mkF m 17 #[.val (.ref p0), .val (.int p1), .val (.int p1), .val (.int p1), .val (.int (p1 + (1 : Int32)))] [(.int p1)])) _ _ _ _
  refine own_go (fun t k => XS.iloadN X4.here hx rfl (hb hby d6_17) rfl k) ?_
  show own_G _ _ _ (T4.setTop (mkF m 18 #[.val (.ref p0), .val (.int p1), .val (.int p1), .val (.int p1), .val (.int (p1 + (1 : Int32)))] [(.int p1), (.int p1)])) _ _ _ _
  have hc5 : p1 = p1 := rfl
  refine own_go (fun t k => XS.icmpNo X4.here hx rfl (hb hby d6_18) rfl (teq hc5).2 k) ?_
  show own_G _ _ _ (T4.setTop (mkF m 21 #[.val (.ref p0), .val (.int p1), .val (.int p1), .val (.int p1), .val (.int (p1 + (1 : Int32)))] [])) _ _ _ _
  refine own_go (fun t k => XS.iloadN X4.here hx rfl (hb hby d6_21) rfl k) ?_
  show own_G _ _ _ (T4.setTop (mkF m 22 #[.val (.ref p0), .val (.int p1), .val (.int p1), .val (.int p1), .val (.int (p1 + (1 : Int32)))] [(.int p1)])) _ _ _ _
  refine own_go (fun t k => XS.iloadN X4.here hx rfl (hb hby d6_22) rfl k) ?_
  show own_G _ _ _ (T4.setTop (mkF m 23 #[.val (.ref p0), .val (.int p1), .val (.int p1), .val (.int p1), .val (.int (p1 + (1 : Int32)))] [(.int p1), (.int p1)])) _ _ _ _
  have hc6 : p1 = p1 := rfl
  refine own_go (fun t k => XS.icmpNo X4.here hx rfl (hb hby d6_23) rfl (teq hc6).2 k) ?_
  show own_G _ _ _ (T4.setTop (mkF m 26 #[.val (.ref p0), .val (.int p1), .val (.int p1), .val (.int p1), .val (.int (p1 + (1 : Int32)))] [])) _ _ _ _
  refine own_go (fun t k => XS.iload X4.here hx rfl (hb hby d6_26) rfl k) ?_
  show own_G _ _ _ (T4.setTop (mkF m 28 #[.val (.ref p0), .val (.int p1), .val (.int p1), .val (.int p1), .val (.int (p1 + (1 : Int32)))] [(.int (p1 + (1 : Int32)))])) _ _ _ _
  refine own_go (fun t k => XS.iloadN X4.here hx rfl (hb hby d6_28) rfl k) ?_
  show own_G _ _ _ (T4.setTop (mkF m 29 #[.val (.ref p0), .val (.int p1), .val (.int p1), .val (.int p1), .val (.int (p1 + (1 : Int32)))] [(.int p1), (.int (p1 + (1 : Int32)))])) _ _ _ _
  refine own_go (fun t k => XS.iconst X4.here hx rfl (hb hby d6_29) k) ?_
  show own_G _ _ _ (T4.setTop (mkF m 30 #[.val (.ref p0), .val (.int p1), .val (.int p1), .val (.int p1), .val (.int (p1 + (1 : Int32)))] [(.int (1 : Int32)), (.int p1), (.int (p1 + (1 : Int32)))])) _ _ _ _
  refine own_go (fun t k => XS.iadd X4.here hx rfl (hb hby d6_30) rfl k) ?_
  show own_G _ _ _ (T4.setTop (mkF m 31 #[.val (.ref p0), .val (.int p1), .val (.int p1), .val (.int p1), .val (.int (p1 + (1 : Int32)))] [(.int (p1 + (1 : Int32))), (.int (p1 + (1 : Int32)))])) _ _ _ _
  have hc7 : (p1 + (1 : Int32)) = (p1 + (1 : Int32)) := rfl
  refine own_go (fun t k => XS.icmpNo X4.here hx rfl (hb hby d6_31) rfl (teq hc7).2 k) ?_
  show own_G _ _ _ (T4.setTop (mkF m 34 #[.val (.ref p0), .val (.int p1), .val (.int p1), .val (.int p1), .val (.int (p1 + (1 : Int32)))] [])) _ _ _ _
  refine own_go (fun t k => XS.iconst X4.here hx rfl (hb hby d6_34) k) ?_
  show own_G _ _ _ (T4.setTop (mkF m 35 #[.val (.ref p0), .val (.int p1), .val (.int p1), .val (.int p1), .val (.int (p1 + (1 : Int32)))] [(.int (1 : Int32))])) _ _ _ _
  refine own_go (fun t k => XS.goto X4.here hx rfl (pc0 := 35) (pc' := 39) rfl (hb hby d6_35) (by decide) (by decide) k) ?_
  show own_G _ _ _ (T4.setTop (mkF m 39 #[.val (.ref p0), .val (.int p1), .val (.int p1), .val (.int p1), .val (.int (p1 + (1 : Int32)))] [(.int (1 : Int32))])) _ _ _ _
  exact own_endN X4 hx hlk (t := .boolean) Bd.returns (by simp) (hb hby d6_39) (by decide) (by decide) (Q := (Q6 Z p0 p1 mp h0 n0)) (by rw [eh4]; exact ⟨rfl, N4, K2_0, r2_0, r2_1, r2_2, r2_3⟩)
theorem d9_0 : decode jdk_69_method_10_code 0 = .ok (.aload_n 0, 1) := by decide +kernel
theorem d9_1 : decode jdk_69_method_10_code 1 = .ok (.getfield 156, 3) := by decide +kernel
theorem d9_4 : decode jdk_69_method_10_code 4 = .ok (.ireturn, 1) := by decide +kernel
theorem ef_9 (m : MethodId) (p0 : Addr) : entryFrame m #[(.ref p0)] 1 = mkF m 0 #[.val (.ref p0)] [] := by first | (simp [entryFrame, mkF, argsToLocals, Value.category]; done) | rfl
def Q9 (Z : State) (p0 : Addr) (q : Int32) (h0 : Heap) (n0 : Nat) (v : Option Value) (h : Heap) (L : List Loc) : Prop := v = some (.int q) ∧ Fr n0 L ∧ h = h0
set_option maxRecDepth 65536 in
set_option maxHeartbeats 40000000 in
theorem rm9 (l : Launch) (Z : State) (a0 : Array Value) (hw : ∀ d ∈ tables_1, d.before a0 Z = true) (ws : List Jvm.Cond) (p0 : Addr) (q : Int32) (h0 : Heap) (n0 : Nat) (Z0 : n0 ≤ h0.size) (P_F_p0_size : Fld Z h0 p0 "java/util/HashMap" "size" "I" (.int q)) :
    MetFree l (⟨"java/util/HashMap", "size", "()I"⟩ : MethodName) (head1 (Jvm.Cond.code (⟨"java/util/HashMap", "size", "()I"⟩ : MethodName) jdk_69_method_10_code 1 (some .int) :: ws) ({ frames := 0, cells := 0, slots := 0, locals := 0 } : Room)) (fun a U => a = #[(.ref p0)] ∧ Z.Warmed39 U.vm ∧ U.heap = h0) (fun _ _ _ _ _ => True) (fun _ U o U' => ∃ v L, o = .returned v ∧ (Q9 Z p0 q h0 n0) v U'.heap L ∧ FrameEnd U o U' L ({ frames := 0, cells := 0, slots := 0, locals := 0 } : Room).cells ({ frames := 0, cells := 0, slots := 0, locals := 0 } : Room).slots) := by
  refine MetFree.of_bodySF (plainFor_of_name pn_1) hisR ?_
  intro p e s m args below meth c s₁ Bd hml0 hP hK
  obtain ⟨rfl, hZ, hh⟩ := hP
  have hx := Bd.exec
  have hby := Bd.bytes
  have hml : c.maxLocals = 1 := hml0
  have hown : s.vm.findClass "java/util/HashMap" = some m.cls := findClass_of_methodNamed Bd.named
  have hnm := (name_of_methodNamed Bd.named Bd.method).1
  have hlk : meth.locks = false := BodyLoose.notSynchronized Bd
  have X0 : Stand p l e ({ frames := 0, cells := 0, slots := 0, locals := 0 } : Room) s m #[(.ref p0)] below meth c s₁ [] 0 0 := Stand.of_body Bd
  have e0 : s₁.heap = h0 := by rw [← hh, Bd.state]; rfl
  have N0 := Fr.nil n0
  show own_G p.tables e below (s₁.setTop (entryFrame m #[(.ref p0)] 1)) s ({ frames := 0, cells := 0, slots := 0, locals := 0 } : Room).cells ({ frames := 0, cells := 0, slots := 0, locals := 0 } : Room).slots (Q9 Z p0 q h0 n0)
  refine own_go (fun t k => castTop (ef_9 m p0) k) ?_
  show own_G _ _ _ (s₁.setTop (mkF m 0 #[.val (.ref p0)] [])) _ _ _ _
  refine own_go (fun t k => XS.aloadN X0.here hx rfl (hb hby d9_0) rfl rfl k) ?_
  show own_G _ _ _ (s₁.setTop (mkF m 1 #[.val (.ref p0)] [(.ref p0)])) _ _ _ _
  obtain ⟨T1, X1, e1, st1⟩ := getF X0 hx hZ hown (host := "") (Or.inl (hw _ (List.mem_of_getElem? (i := 72) rfl))) Via.refl e0 P_F_p0_size (g := (mkF m 1 #[.val (.ref p0)] [(.ref p0)])) rfl rfl (hb hby d9_1)
  refine own_go (fun t k => st1 _ k) ?_
  show own_G _ _ _ (T1.setTop (mkF m 4 #[.val (.ref p0)] [(.int q)])) _ _ _ _
  exact own_endI X1 hx hlk Bd.returns (hb hby d9_4) (by decide) (by decide) (Q := (Q9 Z p0 q h0 n0)) (by rw [e1]; exact ⟨rfl, N0, rfl⟩)
theorem d8_0 : decode prog_9_method_6_code 0 = .ok (.aload_n 0, 1) := by decide +kernel
theorem d8_1 : decode prog_9_method_6_code 1 = .ok (.getfield 10, 3) := by decide +kernel
theorem d8_4 : decode prog_9_method_6_code 4 = .ok (.invokeinterface 100 1, 5) := by decide +kernel
theorem d8_9 : decode prog_9_method_6_code 9 = .ok (.ireturn, 1) := by decide +kernel
theorem ef_8 (m : MethodId) (p0 : Addr) : entryFrame m #[(.ref p0)] 1 = mkF m 0 #[.val (.ref p0)] [] := by first | (simp [entryFrame, mkF, argsToLocals, Value.category]; done) | rfl
def Q8 (Z : State) (p0 : Addr) (mp : Addr) (q : Int32) (h0 : Heap) (n0 : Nat) (v : Option Value) (h : Heap) (L : List Loc) : Prop := v = some (.int q) ∧ Fr n0 L ∧ h = h0
set_option maxRecDepth 65536 in
set_option maxHeartbeats 40000000 in
theorem rm8 (l : Launch) (Z : State) (a0 : Array Value) (hw : ∀ d ∈ tables_1, d.before a0 Z = true) (ws : List Jvm.Cond) (p0 : Addr) (mp : Addr) (q : Int32) (h0 : Heap) (n0 : Nat) (Z0 : n0 ≤ h0.size) (P_F_p0_events : Fld Z h0 p0 "com/example/pacelint/pacelint/analysis/DifferenceBounds" "events" "Ljava/util/Map;" (.ref mp)) (P_E_mp : Exa Z h0 mp "java/util/HashMap") (P_F_mp_size : Fld Z h0 mp "java/util/HashMap" "size" "I" (.int q)) :
    MetFree l (⟨"com/example/pacelint/pacelint/analysis/DifferenceBounds", "eventCount", "()I"⟩ : MethodName) (head1 (Jvm.Cond.code (⟨"com/example/pacelint/pacelint/analysis/DifferenceBounds", "eventCount", "()I"⟩ : MethodName) prog_9_method_6_code 1 (some .int) :: ws) ({ frames := 1, cells := 0, slots := 0, locals := 12 } : Room)) (fun a U => a = #[(.ref p0)] ∧ Z.Warmed39 U.vm ∧ U.heap = h0) (fun _ _ _ _ _ => True) (fun _ U o U' => ∃ v L, o = .returned v ∧ (Q8 Z p0 mp q h0 n0) v U'.heap L ∧ FrameEnd U o U' L ({ frames := 1, cells := 0, slots := 0, locals := 12 } : Room).cells ({ frames := 1, cells := 0, slots := 0, locals := 12 } : Room).slots) := by
  refine MetFree.of_bodySF (plainFor_of_name pn_2) hisR ?_
  intro p e s m args below meth c s₁ Bd hml0 hP hK
  obtain ⟨rfl, hZ, hh⟩ := hP
  have hx := Bd.exec
  have hby := Bd.bytes
  have hml : c.maxLocals = 1 := hml0
  have hown : s.vm.findClass "com/example/pacelint/pacelint/analysis/DifferenceBounds" = some m.cls := findClass_of_methodNamed Bd.named
  have hnm := (name_of_methodNamed Bd.named Bd.method).1
  have hlk : meth.locks = false := BodyLoose.notSynchronized Bd
  have X0 : Stand p l e ({ frames := 1, cells := 0, slots := 0, locals := 12 } : Room) s m #[(.ref p0)] below meth c s₁ [] 0 0 := Stand.of_body Bd
  have e0 : s₁.heap = h0 := by rw [← hh, Bd.state]; rfl
  have N0 := Fr.nil n0
  show own_G p.tables e below (s₁.setTop (entryFrame m #[(.ref p0)] 1)) s ({ frames := 1, cells := 0, slots := 0, locals := 12 } : Room).cells ({ frames := 1, cells := 0, slots := 0, locals := 12 } : Room).slots (Q8 Z p0 mp q h0 n0)
  refine own_go (fun t k => castTop (ef_8 m p0) k) ?_
  show own_G _ _ _ (s₁.setTop (mkF m 0 #[.val (.ref p0)] [])) _ _ _ _
  refine own_go (fun t k => XS.aloadN X0.here hx rfl (hb hby d8_0) rfl rfl k) ?_
  show own_G _ _ _ (s₁.setTop (mkF m 1 #[.val (.ref p0)] [(.ref p0)])) _ _ _ _
  obtain ⟨T1, X1, e1, st1⟩ := getF X0 hx hZ hown (host := "") (Or.inl (hw _ (List.mem_of_getElem? (i := 25) rfl))) Via.refl e0 P_F_p0_events (g := (mkF m 1 #[.val (.ref p0)] [(.ref p0)])) rfl rfl (hb hby d8_1)
  refine own_go (fun t k => st1 _ k) ?_
  show own_G _ _ _ (T1.setTop (mkF m 4 #[.val (.ref p0)] [(.ref mp)])) _ _ _ _
  obtain ⟨cq2, kq2, q2a, q2b, q2c⟩ := isOf hZ e1 P_E_mp
  obtain ⟨_, _, ⟨T2, L2, k2, n2⟩, -, X2, ⟨Lc2, hQ2, l2, y2, z2⟩, st2⟩ := X1.interfaceBack hx (xi := (⟨"java/util/Map", "size", "()I"⟩ : MethodName)) (y := (⟨"java/util/HashMap", "size", "()I"⟩ : MethodName)) hown (mvT hZ (hw _ (List.mem_of_getElem? (i := 63) rfl))) (mvT hZ (hw _ (List.mem_of_getElem? (i := 64) rfl))) (mvT hZ (hw _ (List.mem_of_getElem? (i := 65) rfl))) (mvT hZ (hw _ (List.mem_of_getElem? (i := 66) rfl))) (mvT hZ (hw _ (List.mem_of_getElem? (i := 67) rfl))) (mvT hZ (hw _ (List.mem_of_getElem? (i := 68) rfl))) (mvT hZ (hw _ (List.mem_of_getElem? (i := 69) rfl))) (mvT hZ (hw _ (List.mem_of_getElem? (i := 70) rfl))) (by decide) (backOf (W := 0) (rm9 l Z a0 hw [] mp q h0 n0 Z0 P_F_mp_size) hZ (hw _ (List.mem_of_getElem? (i := 71) rfl)) (hw _ (List.mem_of_getElem? (i := 11) rfl)) (by decide) (by decide)) q2a q2b q2c (g := (mkF m 4 #[.val (.ref p0)] [(.ref mp)])) rfl (by rw [hml]; rfl) (Steps.refl _) (argsL := []) (rest := []) (lenOf pd_1 rfl) rfl (by show 2 * 0 + _ ≤ _; exact Nat.le_of_eq rfl) (hb hby d8_4) (fun _ _ => ⟨rfl, e1, (by decide : 0 + 0 ≤ _), (by decide : 0 + 0 ≤ _)⟩)
  dsimp only [Pt.U, Pt.locs, Pt.cells, Pt.slots] at X2 l2 y2 z2 st2 hQ2
  subst l2 y2 z2
  obtain ⟨rfl, Nq2, eh2⟩ := hQ2
  have N2 := Fr.app N0 Nq2
  refine own_tr st2 ?_
  show own_G _ _ _ (T2.setTop (mkF m 9 #[.val (.ref p0)] [(.int q)])) _ _ _ _
  exact own_endI X2 hx hlk Bd.returns (hb hby d8_9) (by decide) (by decide) (Q := (Q8 Z p0 mp q h0 n0)) (by rw [eh2]; exact ⟨rfl, N2, rfl⟩)
theorem d10_0 : decode prog_9_method_9_code 0 = .ok (.aload_n 0, 1) := by decide +kernel
theorem d10_1 : decode prog_9_method_9_code 1 = .ok (.getfield 46, 3) := by decide +kernel
theorem d10_4 : decode prog_9_method_9_code 4 = .ok (.ireturn, 1) := by decide +kernel
theorem ef_10 (m : MethodId) (p0 : Addr) : entryFrame m #[(.ref p0)] 1 = mkF m 0 #[.val (.ref p0)] [] := by first | (simp [entryFrame, mkF, argsToLocals, Value.category]; done) | rfl
def Q10 (Z : State) (p0 : Addr) (q : Int32) (h0 : Heap) (n0 : Nat) (v : Option Value) (h : Heap) (L : List Loc) : Prop := v = some (.int q) ∧ Fr n0 L ∧ h = h0
set_option maxRecDepth 65536 in
set_option maxHeartbeats 40000000 in
theorem rm10 (l : Launch) (Z : State) (a0 : Array Value) (hw : ∀ d ∈ tables_1, d.before a0 Z = true) (ws : List Jvm.Cond) (p0 : Addr) (q : Int32) (h0 : Heap) (n0 : Nat) (Z0 : n0 ≤ h0.size) (P_F_p0_boundCount : Fld Z h0 p0 "com/example/pacelint/pacelint/analysis/DifferenceBounds" "boundCount" "I" (.int q)) :
    MetFree l (⟨"com/example/pacelint/pacelint/analysis/DifferenceBounds", "boundCount", "()I"⟩ : MethodName) (head1 (Jvm.Cond.code (⟨"com/example/pacelint/pacelint/analysis/DifferenceBounds", "boundCount", "()I"⟩ : MethodName) prog_9_method_9_code 1 (some .int) :: ws) ({ frames := 0, cells := 0, slots := 0, locals := 0 } : Room)) (fun a U => a = #[(.ref p0)] ∧ Z.Warmed39 U.vm ∧ U.heap = h0) (fun _ _ _ _ _ => True) (fun _ U o U' => ∃ v L, o = .returned v ∧ (Q10 Z p0 q h0 n0) v U'.heap L ∧ FrameEnd U o U' L ({ frames := 0, cells := 0, slots := 0, locals := 0 } : Room).cells ({ frames := 0, cells := 0, slots := 0, locals := 0 } : Room).slots) := by
  refine MetFree.of_bodySF (plainFor_of_name pn_2) hisR ?_
  intro p e s m args below meth c s₁ Bd hml0 hP hK
  obtain ⟨rfl, hZ, hh⟩ := hP
  have hx := Bd.exec
  have hby := Bd.bytes
  have hml : c.maxLocals = 1 := hml0
  have hown : s.vm.findClass "com/example/pacelint/pacelint/analysis/DifferenceBounds" = some m.cls := findClass_of_methodNamed Bd.named
  have hnm := (name_of_methodNamed Bd.named Bd.method).1
  have hlk : meth.locks = false := BodyLoose.notSynchronized Bd
  have X0 : Stand p l e ({ frames := 0, cells := 0, slots := 0, locals := 0 } : Room) s m #[(.ref p0)] below meth c s₁ [] 0 0 := Stand.of_body Bd
  have e0 : s₁.heap = h0 := by rw [← hh, Bd.state]; rfl
  have N0 := Fr.nil n0
  show own_G p.tables e below (s₁.setTop (entryFrame m #[(.ref p0)] 1)) s ({ frames := 0, cells := 0, slots := 0, locals := 0 } : Room).cells ({ frames := 0, cells := 0, slots := 0, locals := 0 } : Room).slots (Q10 Z p0 q h0 n0)
  refine own_go (fun t k => castTop (ef_10 m p0) k) ?_
  show own_G _ _ _ (s₁.setTop (mkF m 0 #[.val (.ref p0)] [])) _ _ _ _
  refine own_go (fun t k => XS.aloadN X0.here hx rfl (hb hby d10_0) rfl rfl k) ?_
  show own_G _ _ _ (s₁.setTop (mkF m 1 #[.val (.ref p0)] [(.ref p0)])) _ _ _ _
  obtain ⟨T1, X1, e1, st1⟩ := getF X0 hx hZ hown (host := "") (Or.inl (hw _ (List.mem_of_getElem? (i := 79) rfl))) Via.refl e0 P_F_p0_boundCount (g := (mkF m 1 #[.val (.ref p0)] [(.ref p0)])) rfl rfl (hb hby d10_1)
  refine own_go (fun t k => st1 _ k) ?_
  show own_G _ _ _ (T1.setTop (mkF m 4 #[.val (.ref p0)] [(.int q)])) _ _ _ _
  exact own_endI X1 hx hlk Bd.returns (hb hby d10_4) (by decide) (by decide) (Q := (Q10 Z p0 q h0 n0)) (by rw [e1]; exact ⟨rfl, N0, rfl⟩)
theorem pd_2 : parseMethodDescriptor "(Lcom/example/pacelint/pacelint/analysis/DifferenceBounds;I)Z" = some ⟨[(.object "com/example/pacelint/pacelint/analysis/DifferenceBounds"), .int], some .boolean⟩ := by decide +kernel
theorem ef_0 (m : MethodId) (p0 : Int32) : entryFrame m #[(.int p0)] maxLocals = mkF m 0 #[.val (.int p0), .unset, .unset, .unset] [] := by first | (simp [entryFrame, mkF, argsToLocals, Value.category, maxLocals]; done) | rfl
def Q0 (Z : State) (p0 : Int32) (h0 : Heap) (n0 : Nat) (v : Option Value) (h : Heap) (L : List Loc) : Prop := v = some (.int (1 : Int32)) ∧ Fr n0 L ∧ Keep h0 h []
set_option maxRecDepth 65536 in
set_option maxHeartbeats 40000000 in
theorem rm0 (l : Launch) (Z : State) (a0 : Array Value) (hw : ∀ d ∈ tables_1, d.before a0 Z = true) (ws : List Jvm.Cond) (p0 : Int32) (h0 : Heap) (n0 : Nat) (Z0 : n0 ≤ h0.size) :
    MetFree l x (head1 (Jvm.Cond.code x code maxLocals ret :: ws) room_1) (fun a U => a = #[(.int p0)] ∧ Z.Warmed39 U.vm ∧ U.heap = h0) (fun _ _ _ _ _ => True) (fun _ U o U' => ∃ v L, o = .returned v ∧ (Q0 Z p0 h0 n0) v U'.heap L ∧ FrameEnd U o U' L room_1.cells room_1.slots) := by
  refine MetFree.of_bodySF (plainFor_of_name pn_3) hisR ?_
  intro p e s m args below meth c s₁ Bd hml0 hP hK
  obtain ⟨rfl, hZ, hh⟩ := hP
  have hx := Bd.exec
  have hby := Bd.bytes
  have hml : c.maxLocals = 4 := hml0
  have hown : s.vm.findClass "com/example/pacelint/pacelint/analysis/DifferenceBoundsNewPointPinLaw" = some m.cls := findClass_of_methodNamed Bd.named
  have hnm := (name_of_methodNamed Bd.named Bd.method).1
  have hlk : meth.locks = false := BodyLoose.notSynchronized Bd
  have X0 : Stand p l e room_1 s m #[(.int p0)] below meth c s₁ [] 0 0 := Stand.of_body Bd
  have e0 : s₁.heap = h0 := by rw [← hh, Bd.state]; rfl
  have N0 := Fr.nil n0
  have K0 : Keep h0 h0 [] := Keep.refl h0 []
  show own_G p.tables e below (s₁.setTop (entryFrame m #[(.int p0)] maxLocals)) s room_1.cells room_1.slots (Q0 Z p0 h0 n0)
  refine own_go (fun t k => castTop (ef_0 m p0) k) ?_
  show own_G _ _ _ (s₁.setTop (mkF m 0 #[.val (.int p0), .unset, .unset, .unset] [])) _ _ _ _
  obtain ⟨T1, h1, X1, e1, E1, A1, D1, -, st1⟩ := newO X0 hx hZ hown (hw _ (List.mem_of_getElem? (i := 0) rfl)) (hw _ (List.mem_of_getElem? (i := 1) rfl)) (hw _ (List.mem_of_getElem? (i := 2) rfl)) e0 (g := (mkF m 0 #[.val (.int p0), .unset, .unset, .unset] [])) rfl (hb hby at_0) (by decide) (by decide)
  obtain ⟨b1, g1⟩ : ∃ z, z = h0.size := ⟨_, rfl⟩
  rw [← g1] at A1 D1 st1
  have gg1 : n0 ≤ b1 := Nat.le_trans Z0 (Nat.le_of_eq g1.symm)
  have sz1_0 : h0.size ≤ b1 := Nat.le_trans K0.1 (Nat.le_of_eq g1.symm)
  have Zs1 : n0 ≤ h1.size := Nat.le_trans Z0 E1.1
  have K1_0 : Keep h0 h1 [] := K0.ext E1
  have f2 : Exa Z h1 b1 "com/example/pacelint/pacelint/analysis/DifferenceBounds" := A1
  have f3 : Fld Z h1 b1 "com/example/pacelint/pacelint/analysis/DifferenceBounds" "events" "Ljava/util/Map;" .null := D1 (Or.inr (hw _ (List.mem_of_getElem? (i := 26) rfl))) (ty := (.object "java/util/Map")) (by decide)
  have f4 : Fld Z h1 b1 "com/example/pacelint/pacelint/analysis/DifferenceBounds" "stating" "I" (.int (0 : Int32)) := D1 (Or.inl (hw _ (List.mem_of_getElem? (i := 28) rfl))) (ty := .int) (by decide)
  have f5 : Fld Z h1 b1 "com/example/pacelint/pacelint/analysis/DifferenceBounds" "from" "[I" .null := D1 (Or.inl (hw _ (List.mem_of_getElem? (i := 31) rfl))) (ty := (.array .int)) (by decide)
  have f6 : Fld Z h1 b1 "com/example/pacelint/pacelint/analysis/DifferenceBounds" "to" "[I" .null := D1 (Or.inl (hw _ (List.mem_of_getElem? (i := 33) rfl))) (ty := (.array .int)) (by decide)
  have f7 : Fld Z h1 b1 "com/example/pacelint/pacelint/analysis/DifferenceBounds" "limit" "[Lcom/example/pacelint/pacelint/model/Duration;" .null := D1 (Or.inl (hw _ (List.mem_of_getElem? (i := 37) rfl))) (ty := (.array (.object "com/example/pacelint/pacelint/model/Duration"))) (by decide)
  have f8 : Fld Z h1 b1 "com/example/pacelint/pacelint/analysis/DifferenceBounds" "requirement" "[I" .null := D1 (Or.inl (hw _ (List.mem_of_getElem? (i := 39) rfl))) (ty := (.array .int)) (by decide)
  have f9 : Fld Z h1 b1 "com/example/pacelint/pacelint/analysis/DifferenceBounds" "firstBound" "[I" .null := D1 (Or.inl (hw _ (List.mem_of_getElem? (i := 41) rfl))) (ty := (.array .int)) (by decide)
  have f10 : Fld Z h1 b1 "com/example/pacelint/pacelint/analysis/DifferenceBounds" "pointCount" "I" (.int (0 : Int32)) := D1 (Or.inl (hw _ (List.mem_of_getElem? (i := 48) rfl))) (ty := .int) (by decide)
  have f11 : Fld Z h1 b1 "com/example/pacelint/pacelint/analysis/DifferenceBounds" "boundCount" "I" (.int (0 : Int32)) := D1 (Or.inl (hw _ (List.mem_of_getElem? (i := 80) rfl))) (ty := .int) (by decide)
  refine own_go (fun t k => st1 _ k) ?_
  show own_G _ _ _ (T1.setTop (mkF m 3 #[.val (.int p0), .unset, .unset, .unset] [(.ref b1)])) _ _ _ _
  refine own_go (fun t k => XS.dup X1.here hx rfl (hb hby at_3) rfl rfl k) ?_
  show own_G _ _ _ (T1.setTop (mkF m 4 #[.val (.int p0), .unset, .unset, .unset] [(.ref b1), (.ref b1)])) _ _ _ _
  obtain ⟨_, _, ⟨T12, L12, k12, n12⟩, -, X12, ⟨Lc12, hQ12, l12, y12, z12⟩, st12⟩ := X1.specialBack hx (y := (⟨"com/example/pacelint/pacelint/analysis/DifferenceBounds", "<init>", "()V"⟩ : MethodName)) rfl hown (mvT hZ (hw _ (List.mem_of_getElem? (i := 3) rfl))) (mvT hZ (hw _ (List.mem_of_getElem? (i := 4) rfl))) (mvT hZ (hw _ (List.mem_of_getElem? (i := 5) rfl))) (by decide) (backOf (W := 1) (rm1 l Z a0 hw [] b1  h1 n0 Zs1 f2 f3 f4 f5 f6 f7 f8 f9 f10 f11 gg1) hZ (hw _ (List.mem_of_getElem? (i := 5) rfl)) (hw _ (List.mem_of_getElem? (i := 2) rfl)) (by decide) (by decide)) (g := (mkF m 4 #[.val (.int p0), .unset, .unset, .unset] [(.ref b1), (.ref b1)])) rfl (by rw [hml]; rfl) (Steps.refl _) (a := b1) (argsL := []) (rest := [(.ref b1)]) (lenOf pd_0 rfl) rfl (by show 2 * 0 + _ ≤ _; exact Nat.le_of_eq rfl) (hb hby at_4) (fun _ _ => ⟨rfl, e1, (by decide : 1 + 6 ≤ _), (by decide : 9 + 73 ≤ _)⟩)
  dsimp only [Pt.U, Pt.locs, Pt.cells, Pt.slots] at X12 l12 y12 z12 st12 hQ12
  subst l12 y12 z12
  obtain ⟨mp12, rfl, Nq12, Kq12, r12_0, r12_1, r12_2, r12_3, r12_4, r12_5, r12_6⟩ := hQ12
  have N12 := Fr.app N0 Nq12
  have ne13 : b1 ≠ mp12 := Nat.ne_of_lt (Nat.lt_of_lt_of_le f2.lt r12_0)
  have gg_mp12 : n0 ≤ mp12 := Nat.le_trans Zs1 r12_0
  have sz_mp12_0 : h0.size ≤ mp12 := Nat.le_trans K1_0.1 r12_0
  have f14 : Exa Z T12.heap b1 "com/example/pacelint/pacelint/analysis/DifferenceBounds" := f2.keep Kq12
  have Zs12 : n0 ≤ T12.heap.size := Nat.le_trans Zs1 Kq12.1
  have K12_0 : Keep h0 T12.heap [] := K1_0.trans Kq12 (allS (Or.inr sz1_0) all0)
  refine own_tr st12 ?_
  show own_G _ _ _ (T12.setTop (mkF m 7 #[.val (.int p0), .unset, .unset, .unset] [(.ref b1)])) _ _ _ _
  refine own_go (fun t k => XS.astoreN X12.here hx rfl (hb hby at_7) rfl rfl (l' := #[.val (.int p0), .val (.ref b1), .unset, .unset]) rfl k) ?_
  show own_G _ _ _ (T12.setTop (mkF m 8 #[.val (.int p0), .val (.ref b1), .unset, .unset] [])) _ _ _ _
  refine own_go (fun t k => XS.iloadN X12.here hx rfl (hb hby at_8) rfl k) ?_
  show own_G _ _ _ (T12.setTop (mkF m 9 #[.val (.int p0), .val (.ref b1), .unset, .unset] [(.int p0)])) _ _ _ _
  refine own_go (fun t k => XS.iconst X12.here hx rfl (hb hby at_9) k) ?_
  show own_G _ _ _ (T12.setTop (mkF m 10 #[.val (.int p0), .val (.ref b1), .unset, .unset] [(.int (3 : Int32)), (.int p0)])) _ _ _ _
  refine own_go (fun t k => XS.iand X12.here hx rfl (hb hby at_10) rfl k) ?_
  show own_G _ _ _ (T12.setTop (mkF m 11 #[.val (.int p0), .val (.ref b1), .unset, .unset] [(.int (p0 &&& (3 : Int32)))])) _ _ _ _
  rcases own_k4 p0 with hk | hk | hk | hk
  · rw [hk]
    show own_G _ _ _ (T12.setTop (mkF m 11 #[.val (.int p0), .val (.ref b1), .unset, .unset] [(.int (0 : Int32))])) _ _ _ _
    refine own_go (fun t k => XS.istoreN X12.here hx rfl (hb hby at_11) rfl (l' := #[.val (.int p0), .val (.ref b1), .val (.int (0 : Int32)), .unset]) rfl k) ?_
    show own_G _ _ _ (T12.setTop (mkF m 12 #[.val (.int p0), .val (.ref b1), .val (.int (0 : Int32)), .unset] [])) _ _ _ _
    refine own_go (fun t k => XS.aloadN X12.here hx rfl (hb hby at_12) rfl rfl k) ?_
    show own_G _ _ _ (T12.setTop (mkF m 13 #[.val (.int p0), .val (.ref b1), .val (.int (0 : Int32)), .unset] [(.ref b1)])) _ _ _ _
    obtain ⟨cq15, kq15, q15a, q15b, q15c⟩ := isOf hZ rfl r12_1
    obtain ⟨_, _, ⟨T15, L15, k15, n15⟩, -, X15, ⟨Lc15, hQ15, l15, y15, z15⟩, st15⟩ := X12.virtualBack hx (y := (⟨"com/example/pacelint/pacelint/analysis/DifferenceBounds", "pointCount", "()I"⟩ : MethodName)) (z := (⟨"com/example/pacelint/pacelint/analysis/DifferenceBounds", "pointCount", "()I"⟩ : MethodName)) hown (mvT hZ (hw _ (List.mem_of_getElem? (i := 42) rfl))) (mvT hZ (hw _ (List.mem_of_getElem? (i := 43) rfl))) (notFace_of_selects (args := #[]) (mvT hZ (hw _ (List.mem_of_getElem? (i := 45) rfl)))) (mvT hZ (hw _ (List.mem_of_getElem? (i := 45) rfl))) (mvT hZ (hw _ (List.mem_of_getElem? (i := 44) rfl))) (by decide) (backOf (W := 0) (rm5 l Z a0 hw [] b1 (0 : Int32) T12.heap n0 Zs12 r12_3) hZ (hw _ (List.mem_of_getElem? (i := 46) rfl)) (hw _ (List.mem_of_getElem? (i := 2) rfl)) (by decide) (by decide)) q15a q15c (g := (mkF m 13 #[.val (.int p0), .val (.ref b1), .val (.int (0 : Int32)), .unset] [(.ref b1)])) rfl (by rw [hml]; rfl) (Steps.refl _) (argsL := []) (rest := []) (lenOf pd_1 rfl) rfl (by show 2 * 0 + _ ≤ _; exact Nat.le_of_eq rfl) (hb hby at_13) (fun _ _ => ⟨rfl, rfl, (by decide : 7 + 0 ≤ _), (by decide : 82 + 0 ≤ _)⟩)
    dsimp only [Pt.U, Pt.locs, Pt.cells, Pt.slots] at X15 l15 y15 z15 st15 hQ15
    subst l15 y15 z15
    obtain ⟨rfl, Nq15, eh15⟩ := hQ15
    have N15 := Fr.app N12 Nq15
    refine own_tr st15 ?_
    show own_G _ _ _ (T15.setTop (mkF m 16 #[.val (.int p0), .val (.ref b1), .val (.int (0 : Int32)), .unset] [(.int (0 : Int32))])) _ _ _ _
    have hc16 : (0 : Int32) = (0 : Int32) := (by decide)
    refine own_go (fun t k => XS.ifNo X15.here hx rfl (hb hby at_16) rfl ((if0 _ _).trans (teq hc16).2) k) ?_
    show own_G _ _ _ (T15.setTop (mkF m 19 #[.val (.int p0), .val (.ref b1), .val (.int (0 : Int32)), .unset] [])) _ _ _ _
    refine own_go (fun t k => XS.iconst X15.here hx rfl (hb hby at_19) k) ?_
    show own_G _ _ _ (T15.setTop (mkF m 20 #[.val (.int p0), .val (.ref b1), .val (.int (0 : Int32)), .unset] [(.int (1 : Int32))])) _ _ _ _
    refine own_go (fun t k => XS.goto X15.here hx rfl (pc0 := 20) (pc' := 24) rfl (hb hby at_20) (by decide) (by decide) k) ?_
    show own_G _ _ _ (T15.setTop (mkF m 24 #[.val (.int p0), .val (.ref b1), .val (.int (0 : Int32)), .unset] [(.int (1 : Int32))])) _ _ _ _
    refine own_go (fun t k => XS.istoreN X15.here hx rfl (hb hby at_24) rfl (l' := #[.val (.int p0), .val (.ref b1), .val (.int (0 : Int32)), .val (.int (1 : Int32))]) rfl k) ?_
    show own_G _ _ _ (T15.setTop (mkF m 25 #[.val (.int p0), .val (.ref b1), .val (.int (0 : Int32)), .val (.int (1 : Int32))] [])) _ _ _ _
    refine own_go (fun t k => XS.iloadN X15.here hx rfl (hb hby at_25) rfl k) ?_
    show own_G _ _ _ (T15.setTop (mkF m 26 #[.val (.int p0), .val (.ref b1), .val (.int (0 : Int32)), .val (.int (1 : Int32))] [(.int (0 : Int32))])) _ _ _ _
    refine own_go (fun t k => XS.iconst X15.here hx rfl (hb hby at_26) k) ?_
    show own_G _ _ _ (T15.setTop (mkF m 27 #[.val (.int p0), .val (.ref b1), .val (.int (0 : Int32)), .val (.int (1 : Int32))] [(.int (1 : Int32)), (.int (0 : Int32))])) _ _ _ _
    have hc17 : (0 : Int32) < (1 : Int32) := (by decide)
    refine own_go (fun t k => XS.icmpYes X15.here hx rfl (pc0 := 27) (pc' := 48) rfl (hb hby at_27) rfl (tlt hc17).1 (by decide) (by decide) k) ?_
    show own_G _ _ _ (T15.setTop (mkF m 48 #[.val (.int p0), .val (.ref b1), .val (.int (0 : Int32)), .val (.int (1 : Int32))] [])) _ _ _ _
    refine own_go (fun t k => XS.iloadN X15.here hx rfl (hb hby at_48) rfl k) ?_
    show own_G _ _ _ (T15.setTop (mkF m 49 #[.val (.int p0), .val (.ref b1), .val (.int (0 : Int32)), .val (.int (1 : Int32))] [(.int (0 : Int32))])) _ _ _ _
    refine own_go (fun t k => XS.iconst X15.here hx rfl (hb hby at_49) k) ?_
    show own_G _ _ _ (T15.setTop (mkF m 50 #[.val (.int p0), .val (.ref b1), .val (.int (0 : Int32)), .val (.int (1 : Int32))] [(.int (2 : Int32)), (.int (0 : Int32))])) _ _ _ _
    have hc18 : (0 : Int32) < (2 : Int32) := (by decide)
    refine own_go (fun t k => XS.icmpYes X15.here hx rfl (pc0 := 50) (pc' := 71) rfl (hb hby at_50) rfl (tlt hc18).1 (by decide) (by decide) k) ?_
    show own_G _ _ _ (T15.setTop (mkF m 71 #[.val (.int p0), .val (.ref b1), .val (.int (0 : Int32)), .val (.int (1 : Int32))] [])) _ _ _ _
    refine own_go (fun t k => XS.iloadN X15.here hx rfl (hb hby at_71) rfl k) ?_
    show own_G _ _ _ (T15.setTop (mkF m 72 #[.val (.int p0), .val (.ref b1), .val (.int (0 : Int32)), .val (.int (1 : Int32))] [(.int (0 : Int32))])) _ _ _ _
    refine own_go (fun t k => XS.iconst X15.here hx rfl (hb hby at_72) k) ?_
    show own_G _ _ _ (T15.setTop (mkF m 73 #[.val (.int p0), .val (.ref b1), .val (.int (0 : Int32)), .val (.int (1 : Int32))] [(.int (3 : Int32)), (.int (0 : Int32))])) _ _ _ _
    have hc19 : (0 : Int32) < (3 : Int32) := (by decide)
    refine own_go (fun t k => XS.icmpYes X15.here hx rfl (pc0 := 73) (pc' := 94) rfl (hb hby at_73) rfl (tlt hc19).1 (by decide) (by decide) k) ?_
    show own_G _ _ _ (T15.setTop (mkF m 94 #[.val (.int p0), .val (.ref b1), .val (.int (0 : Int32)), .val (.int (1 : Int32))] [])) _ _ _ _
    refine own_go (fun t k => XS.aloadN X15.here hx rfl (hb hby at_94) rfl rfl k) ?_
    show own_G _ _ _ (T15.setTop (mkF m 95 #[.val (.int p0), .val (.ref b1), .val (.int (0 : Int32)), .val (.int (1 : Int32))] [(.ref b1)])) _ _ _ _
    refine own_go (fun t k => XS.iloadN X15.here hx rfl (hb hby at_95) rfl k) ?_
    show own_G _ _ _ (T15.setTop (mkF m 96 #[.val (.int p0), .val (.ref b1), .val (.int (0 : Int32)), .val (.int (1 : Int32))] [(.int (0 : Int32)), (.ref b1)])) _ _ _ _
    obtain ⟨_, _, ⟨T20, L20, k20, n20⟩, -, X20, ⟨Lc20, hQ20, l20, y20, z20⟩, st20⟩ := Jvm.LawKit.callS X15 hx (y := (⟨"com/example/pacelint/pacelint/analysis/DifferenceBoundsNewPointPinLaw", "step", "(Lcom/example/pacelint/pacelint/analysis/DifferenceBounds;I)Z"⟩ : MethodName)) hown (mvT hZ (hw _ (List.mem_of_getElem? (i := 49) rfl))) (mvT hZ (hw _ (List.mem_of_getElem? (i := 50) rfl))) (mvT hZ (hw _ (List.mem_of_getElem? (i := 51) rfl))) (mvT hZ (hw _ (List.mem_of_getElem? (i := 52) rfl))) (by decide) (backOf (W := 0) (rm6 l Z a0 hw [] b1 (0 : Int32) mp12 T12.heap n0 Zs12 r12_1 r12_3 r12_2 r12_4 gg1) hZ (hw _ (List.mem_of_getElem? (i := 52) rfl)) (hw _ (List.mem_of_getElem? (i := 51) rfl)) (by decide) (by decide)) (g := (mkF m 96 #[.val (.int p0), .val (.ref b1), .val (.int (0 : Int32)), .val (.int (1 : Int32))] [(.int (0 : Int32)), (.ref b1)])) rfl (by rw [hml]; rfl) (argsL := [(.ref b1), (.int (0 : Int32))]) (rest := []) (lenOf pd_2 rfl) rfl (by show 2 * 0 + _ ≤ _; exact Nat.le_of_eq rfl) (hb hby at_96) (fun _ _ => ⟨rfl, eh15, (by decide : 7 + 0 ≤ _), (by decide : 82 + 0 ≤ _)⟩)
    dsimp only [Pt.U, Pt.locs, Pt.cells, Pt.slots] at X20 l20 y20 z20 st20 hQ20
    subst l20 y20 z20
    obtain ⟨rfl, Nq20, Kq20, r20_0, r20_1, r20_2, r20_3⟩ := hQ20
    have N20 := Fr.app N15 Nq20
    have f21 : Exa Z T20.heap b1 "com/example/pacelint/pacelint/analysis/DifferenceBounds" := r12_1.keep Kq20
    have f22 : Exa Z T20.heap mp12 "java/util/HashMap" := r12_5.keep Kq20
    have f23 : Fld Z T20.heap mp12 "java/util/HashMap" "size" "I" (.int (0 : Int32)) := r12_6.keep Kq20 (ninS (Ne.symm ne13) nin0)
    have Zs20 : n0 ≤ T20.heap.size := Nat.le_trans Zs12 Kq20.1
    have K20_0 : Keep h0 T20.heap [] := K12_0.trans Kq20 (allS (Or.inr sz1_0) all0)
    have r20_1' : Fld Z T20.heap b1 "com/example/pacelint/pacelint/analysis/DifferenceBounds" "pointCount" "I" (.int (1 : Int32)) := r20_1
    refine own_go (fun t k => st20 _ k) ?_
    show own_G _ _ _ (T20.setTop (mkF m 99 #[.val (.int p0), .val (.ref b1), .val (.int (0 : Int32)), .val (.int (1 : Int32))] [(.int (1 : Int32))])) _ _ _ _
    have hc24 : ¬ ((1 : Int32) = (0 : Int32)) := (by decide)
    refine own_go (fun t k => XS.ifNo X20.here hx rfl (hb hby at_99) rfl ((if0 _ _).trans (feq hc24).1) k) ?_
    show own_G _ _ _ (T20.setTop (mkF m 102 #[.val (.int p0), .val (.ref b1), .val (.int (0 : Int32)), .val (.int (1 : Int32))] [])) _ _ _ _
    refine own_go (fun t k => XS.iloadN X20.here hx rfl (hb hby at_102) rfl k) ?_
    show own_G _ _ _ (T20.setTop (mkF m 103 #[.val (.int p0), .val (.ref b1), .val (.int (0 : Int32)), .val (.int (1 : Int32))] [(.int (1 : Int32))])) _ _ _ _
    have hc25 : ¬ ((1 : Int32) = (0 : Int32)) := (by decide)
    refine own_go (fun t k => XS.ifNo X20.here hx rfl (hb hby at_103) rfl ((if0 _ _).trans (feq hc25).1) k) ?_
    show own_G _ _ _ (T20.setTop (mkF m 106 #[.val (.int p0), .val (.ref b1), .val (.int (0 : Int32)), .val (.int (1 : Int32))] [])) _ _ _ _
    refine own_go (fun t k => XS.iconst X20.here hx rfl (hb hby at_106) k) ?_
    show own_G _ _ _ (T20.setTop (mkF m 107 #[.val (.int p0), .val (.ref b1), .val (.int (0 : Int32)), .val (.int (1 : Int32))] [(.int (1 : Int32))])) _ _ _ _
    refine own_go (fun t k => XS.goto X20.here hx rfl (pc0 := 107) (pc' := 111) rfl (hb hby at_107) (by decide) (by decide) k) ?_
    show own_G _ _ _ (T20.setTop (mkF m 111 #[.val (.int p0), .val (.ref b1), .val (.int (0 : Int32)), .val (.int (1 : Int32))] [(.int (1 : Int32))])) _ _ _ _
    refine own_go (fun t k => XS.istoreN X20.here hx rfl (hb hby at_111) rfl (l' := #[.val (.int p0), .val (.ref b1), .val (.int (0 : Int32)), .val (.int (1 : Int32))]) rfl k) ?_
    show own_G _ _ _ (T20.setTop (mkF m 112 #[.val (.int p0), .val (.ref b1), .val (.int (0 : Int32)), .val (.int (1 : Int32))] [])) _ _ _ _
    refine own_go (fun t k => XS.iloadN X20.here hx rfl (hb hby at_112) rfl k) ?_
    show own_G _ _ _ (T20.setTop (mkF m 113 #[.val (.int p0), .val (.ref b1), .val (.int (0 : Int32)), .val (.int (1 : Int32))] [(.int (1 : Int32))])) _ _ _ _
    have hc26 : ¬ ((1 : Int32) = (0 : Int32)) := (by decide)
    refine own_go (fun t k => XS.ifNo X20.here hx rfl (hb hby at_113) rfl ((if0 _ _).trans (feq hc26).1) k) ?_
    show own_G _ _ _ (T20.setTop (mkF m 116 #[.val (.int p0), .val (.ref b1), .val (.int (0 : Int32)), .val (.int (1 : Int32))] [])) _ _ _ _
    refine own_go (fun t k => XS.aloadN X20.here hx rfl (hb hby at_116) rfl rfl k) ?_
    show own_G _ _ _ (T20.setTop (mkF m 117 #[.val (.int p0), .val (.ref b1), .val (.int (0 : Int32)), .val (.int (1 : Int32))] [(.ref b1)])) _ _ _ _
    obtain ⟨cq27, kq27, q27a, q27b, q27c⟩ := isOf hZ rfl r20_0
    obtain ⟨_, _, ⟨T27, L27, k27, n27⟩, -, X27, ⟨Lc27, hQ27, l27, y27, z27⟩, st27⟩ := X20.virtualBack hx (y := (⟨"com/example/pacelint/pacelint/analysis/DifferenceBounds", "eventCount", "()I"⟩ : MethodName)) (z := (⟨"com/example/pacelint/pacelint/analysis/DifferenceBounds", "eventCount", "()I"⟩ : MethodName)) hown (mvT hZ (hw _ (List.mem_of_getElem? (i := 58) rfl))) (mvT hZ (hw _ (List.mem_of_getElem? (i := 59) rfl))) (notFace_of_selects (args := #[]) (mvT hZ (hw _ (List.mem_of_getElem? (i := 61) rfl)))) (mvT hZ (hw _ (List.mem_of_getElem? (i := 61) rfl))) (mvT hZ (hw _ (List.mem_of_getElem? (i := 60) rfl))) (by decide) (backOf (W := 0) (rm8 l Z a0 hw [] b1 mp12 (0 : Int32) T20.heap n0 Zs20 r20_2 f22 f23) hZ (hw _ (List.mem_of_getElem? (i := 62) rfl)) (hw _ (List.mem_of_getElem? (i := 2) rfl)) (by decide) (by decide)) q27a q27c (g := (mkF m 117 #[.val (.int p0), .val (.ref b1), .val (.int (0 : Int32)), .val (.int (1 : Int32))] [(.ref b1)])) rfl (by rw [hml]; rfl) (Steps.refl _) (argsL := []) (rest := []) (lenOf pd_1 rfl) rfl (by show 2 * 0 + _ ≤ _; exact Nat.le_of_eq rfl) (hb hby at_117) (fun _ _ => ⟨rfl, rfl, (by decide : 7 + 0 ≤ _), (by decide : 82 + 0 ≤ _)⟩)
    dsimp only [Pt.U, Pt.locs, Pt.cells, Pt.slots] at X27 l27 y27 z27 st27 hQ27
    subst l27 y27 z27
    obtain ⟨rfl, Nq27, eh27⟩ := hQ27
    have N27 := Fr.app N20 Nq27
    refine own_tr st27 ?_
    show own_G _ _ _ (T27.setTop (mkF m 120 #[.val (.int p0), .val (.ref b1), .val (.int (0 : Int32)), .val (.int (1 : Int32))] [(.int (0 : Int32))])) _ _ _ _
    have hc28 : (0 : Int32) = (0 : Int32) := (by decide)
    refine own_go (fun t k => XS.ifNo X27.here hx rfl (hb hby at_120) rfl ((if0 _ _).trans (teq hc28).2) k) ?_
    show own_G _ _ _ (T27.setTop (mkF m 123 #[.val (.int p0), .val (.ref b1), .val (.int (0 : Int32)), .val (.int (1 : Int32))] [])) _ _ _ _
    refine own_go (fun t k => XS.aloadN X27.here hx rfl (hb hby at_123) rfl rfl k) ?_
    show own_G _ _ _ (T27.setTop (mkF m 124 #[.val (.int p0), .val (.ref b1), .val (.int (0 : Int32)), .val (.int (1 : Int32))] [(.ref b1)])) _ _ _ _
    obtain ⟨cq29, kq29, q29a, q29b, q29c⟩ := isOf hZ eh27 r20_0
    obtain ⟨_, _, ⟨T29, L29, k29, n29⟩, -, X29, ⟨Lc29, hQ29, l29, y29, z29⟩, st29⟩ := X27.virtualBack hx (y := (⟨"com/example/pacelint/pacelint/analysis/DifferenceBounds", "boundCount", "()I"⟩ : MethodName)) (z := (⟨"com/example/pacelint/pacelint/analysis/DifferenceBounds", "boundCount", "()I"⟩ : MethodName)) hown (mvT hZ (hw _ (List.mem_of_getElem? (i := 74) rfl))) (mvT hZ (hw _ (List.mem_of_getElem? (i := 75) rfl))) (notFace_of_selects (args := #[]) (mvT hZ (hw _ (List.mem_of_getElem? (i := 77) rfl)))) (mvT hZ (hw _ (List.mem_of_getElem? (i := 77) rfl))) (mvT hZ (hw _ (List.mem_of_getElem? (i := 76) rfl))) (by decide) (backOf (W := 0) (rm10 l Z a0 hw [] b1 (0 : Int32) T20.heap n0 Zs20 r20_3) hZ (hw _ (List.mem_of_getElem? (i := 78) rfl)) (hw _ (List.mem_of_getElem? (i := 2) rfl)) (by decide) (by decide)) q29a q29c (g := (mkF m 124 #[.val (.int p0), .val (.ref b1), .val (.int (0 : Int32)), .val (.int (1 : Int32))] [(.ref b1)])) rfl (by rw [hml]; rfl) (Steps.refl _) (argsL := []) (rest := []) (lenOf pd_1 rfl) rfl (by show 2 * 0 + _ ≤ _; exact Nat.le_of_eq rfl) (hb hby at_124) (fun _ _ => ⟨rfl, eh27, (by decide : 7 + 0 ≤ _), (by decide : 82 + 0 ≤ _)⟩)
    dsimp only [Pt.U, Pt.locs, Pt.cells, Pt.slots] at X29 l29 y29 z29 st29 hQ29
    subst l29 y29 z29
    obtain ⟨rfl, Nq29, eh29⟩ := hQ29
    have N29 := Fr.app N27 Nq29
    refine own_tr st29 ?_
    show own_G _ _ _ (T29.setTop (mkF m 127 #[.val (.int p0), .val (.ref b1), .val (.int (0 : Int32)), .val (.int (1 : Int32))] [(.int (0 : Int32))])) _ _ _ _
    have hc30 : (0 : Int32) = (0 : Int32) := (by decide)
    refine own_go (fun t k => XS.ifNo X29.here hx rfl (hb hby at_127) rfl ((if0 _ _).trans (teq hc30).2) k) ?_
    show own_G _ _ _ (T29.setTop (mkF m 130 #[.val (.int p0), .val (.ref b1), .val (.int (0 : Int32)), .val (.int (1 : Int32))] [])) _ _ _ _
    refine own_go (fun t k => XS.iconst X29.here hx rfl (hb hby at_130) k) ?_
    show own_G _ _ _ (T29.setTop (mkF m 131 #[.val (.int p0), .val (.ref b1), .val (.int (0 : Int32)), .val (.int (1 : Int32))] [(.int (1 : Int32))])) _ _ _ _
    refine own_go (fun t k => XS.goto X29.here hx rfl (pc0 := 131) (pc' := 135) rfl (hb hby at_131) (by decide) (by decide) k) ?_
    show own_G _ _ _ (T29.setTop (mkF m 135 #[.val (.int p0), .val (.ref b1), .val (.int (0 : Int32)), .val (.int (1 : Int32))] [(.int (1 : Int32))])) _ _ _ _
    exact own_endN X29 hx hlk (t := .boolean) Bd.returns (by simp) (hb hby at_135) (by decide) (by decide) (Q := (Q0 Z p0 h0 n0)) (by rw [eh29]; exact ⟨rfl, N29, K20_0⟩)
  · rw [hk]
    show own_G _ _ _ (T12.setTop (mkF m 11 #[.val (.int p0), .val (.ref b1), .unset, .unset] [(.int (1 : Int32))])) _ _ _ _
    refine own_go (fun t k => XS.istoreN X12.here hx rfl (hb hby at_11) rfl (l' := #[.val (.int p0), .val (.ref b1), .val (.int (1 : Int32)), .unset]) rfl k) ?_
    show own_G _ _ _ (T12.setTop (mkF m 12 #[.val (.int p0), .val (.ref b1), .val (.int (1 : Int32)), .unset] [])) _ _ _ _
    refine own_go (fun t k => XS.aloadN X12.here hx rfl (hb hby at_12) rfl rfl k) ?_
    show own_G _ _ _ (T12.setTop (mkF m 13 #[.val (.int p0), .val (.ref b1), .val (.int (1 : Int32)), .unset] [(.ref b1)])) _ _ _ _
    obtain ⟨cq31, kq31, q31a, q31b, q31c⟩ := isOf hZ rfl r12_1
    obtain ⟨_, _, ⟨T31, L31, k31, n31⟩, -, X31, ⟨Lc31, hQ31, l31, y31, z31⟩, st31⟩ := X12.virtualBack hx (y := (⟨"com/example/pacelint/pacelint/analysis/DifferenceBounds", "pointCount", "()I"⟩ : MethodName)) (z := (⟨"com/example/pacelint/pacelint/analysis/DifferenceBounds", "pointCount", "()I"⟩ : MethodName)) hown (mvT hZ (hw _ (List.mem_of_getElem? (i := 42) rfl))) (mvT hZ (hw _ (List.mem_of_getElem? (i := 43) rfl))) (notFace_of_selects (args := #[]) (mvT hZ (hw _ (List.mem_of_getElem? (i := 45) rfl)))) (mvT hZ (hw _ (List.mem_of_getElem? (i := 45) rfl))) (mvT hZ (hw _ (List.mem_of_getElem? (i := 44) rfl))) (by decide) (backOf (W := 0) (rm5 l Z a0 hw [] b1 (0 : Int32) T12.heap n0 Zs12 r12_3) hZ (hw _ (List.mem_of_getElem? (i := 46) rfl)) (hw _ (List.mem_of_getElem? (i := 2) rfl)) (by decide) (by decide)) q31a q31c (g := (mkF m 13 #[.val (.int p0), .val (.ref b1), .val (.int (1 : Int32)), .unset] [(.ref b1)])) rfl (by rw [hml]; rfl) (Steps.refl _) (argsL := []) (rest := []) (lenOf pd_1 rfl) rfl (by show 2 * 0 + _ ≤ _; exact Nat.le_of_eq rfl) (hb hby at_13) (fun _ _ => ⟨rfl, rfl, (by decide : 7 + 0 ≤ _), (by decide : 82 + 0 ≤ _)⟩)
    dsimp only [Pt.U, Pt.locs, Pt.cells, Pt.slots] at X31 l31 y31 z31 st31 hQ31
    subst l31 y31 z31
    obtain ⟨rfl, Nq31, eh31⟩ := hQ31
    have N31 := Fr.app N12 Nq31
    refine own_tr st31 ?_
    show own_G _ _ _ (T31.setTop (mkF m 16 #[.val (.int p0), .val (.ref b1), .val (.int (1 : Int32)), .unset] [(.int (0 : Int32))])) _ _ _ _
    have hc32 : (0 : Int32) = (0 : Int32) := (by decide)
    refine own_go (fun t k => XS.ifNo X31.here hx rfl (hb hby at_16) rfl ((if0 _ _).trans (teq hc32).2) k) ?_
    show own_G _ _ _ (T31.setTop (mkF m 19 #[.val (.int p0), .val (.ref b1), .val (.int (1 : Int32)), .unset] [])) _ _ _ _
    refine own_go (fun t k => XS.iconst X31.here hx rfl (hb hby at_19) k) ?_
    show own_G _ _ _ (T31.setTop (mkF m 20 #[.val (.int p0), .val (.ref b1), .val (.int (1 : Int32)), .unset] [(.int (1 : Int32))])) _ _ _ _
    refine own_go (fun t k => XS.goto X31.here hx rfl (pc0 := 20) (pc' := 24) rfl (hb hby at_20) (by decide) (by decide) k) ?_
    show own_G _ _ _ (T31.setTop (mkF m 24 #[.val (.int p0), .val (.ref b1), .val (.int (1 : Int32)), .unset] [(.int (1 : Int32))])) _ _ _ _
    refine own_go (fun t k => XS.istoreN X31.here hx rfl (hb hby at_24) rfl (l' := #[.val (.int p0), .val (.ref b1), .val (.int (1 : Int32)), .val (.int (1 : Int32))]) rfl k) ?_
    show own_G _ _ _ (T31.setTop (mkF m 25 #[.val (.int p0), .val (.ref b1), .val (.int (1 : Int32)), .val (.int (1 : Int32))] [])) _ _ _ _
    refine own_go (fun t k => XS.iloadN X31.here hx rfl (hb hby at_25) rfl k) ?_
    show own_G _ _ _ (T31.setTop (mkF m 26 #[.val (.int p0), .val (.ref b1), .val (.int (1 : Int32)), .val (.int (1 : Int32))] [(.int (1 : Int32))])) _ _ _ _
    refine own_go (fun t k => XS.iconst X31.here hx rfl (hb hby at_26) k) ?_
    show own_G _ _ _ (T31.setTop (mkF m 27 #[.val (.int p0), .val (.ref b1), .val (.int (1 : Int32)), .val (.int (1 : Int32))] [(.int (1 : Int32)), (.int (1 : Int32))])) _ _ _ _
    have hc33 : ¬ ((1 : Int32) < (1 : Int32)) := (by decide)
    refine own_go (fun t k => XS.icmpNo X31.here hx rfl (hb hby at_27) rfl (flt hc33).1 k) ?_
    show own_G _ _ _ (T31.setTop (mkF m 30 #[.val (.int p0), .val (.ref b1), .val (.int (1 : Int32)), .val (.int (1 : Int32))] [])) _ _ _ _
    refine own_go (fun t k => XS.aloadN X31.here hx rfl (hb hby at_30) rfl rfl k) ?_
    show own_G _ _ _ (T31.setTop (mkF m 31 #[.val (.int p0), .val (.ref b1), .val (.int (1 : Int32)), .val (.int (1 : Int32))] [(.ref b1)])) _ _ _ _
    refine own_go (fun t k => XS.iconst X31.here hx rfl (hb hby at_31) k) ?_
    show own_G _ _ _ (T31.setTop (mkF m 32 #[.val (.int p0), .val (.ref b1), .val (.int (1 : Int32)), .val (.int (1 : Int32))] [(.int (0 : Int32)), (.ref b1)])) _ _ _ _
    obtain ⟨_, _, ⟨T34, L34, k34, n34⟩, -, X34, ⟨Lc34, hQ34, l34, y34, z34⟩, st34⟩ := Jvm.LawKit.callS X31 hx (y := (⟨"com/example/pacelint/pacelint/analysis/DifferenceBoundsNewPointPinLaw", "step", "(Lcom/example/pacelint/pacelint/analysis/DifferenceBounds;I)Z"⟩ : MethodName)) hown (mvT hZ (hw _ (List.mem_of_getElem? (i := 49) rfl))) (mvT hZ (hw _ (List.mem_of_getElem? (i := 50) rfl))) (mvT hZ (hw _ (List.mem_of_getElem? (i := 51) rfl))) (mvT hZ (hw _ (List.mem_of_getElem? (i := 52) rfl))) (by decide) (backOf (W := 0) (rm6 l Z a0 hw [] b1 (0 : Int32) mp12 T12.heap n0 Zs12 r12_1 r12_3 r12_2 r12_4 gg1) hZ (hw _ (List.mem_of_getElem? (i := 52) rfl)) (hw _ (List.mem_of_getElem? (i := 51) rfl)) (by decide) (by decide)) (g := (mkF m 32 #[.val (.int p0), .val (.ref b1), .val (.int (1 : Int32)), .val (.int (1 : Int32))] [(.int (0 : Int32)), (.ref b1)])) rfl (by rw [hml]; rfl) (argsL := [(.ref b1), (.int (0 : Int32))]) (rest := []) (lenOf pd_2 rfl) rfl (by show 2 * 0 + _ ≤ _; exact Nat.le_of_eq rfl) (hb hby at_32) (fun _ _ => ⟨rfl, eh31, (by decide : 7 + 0 ≤ _), (by decide : 82 + 0 ≤ _)⟩)
    dsimp only [Pt.U, Pt.locs, Pt.cells, Pt.slots] at X34 l34 y34 z34 st34 hQ34
    subst l34 y34 z34
    obtain ⟨rfl, Nq34, Kq34, r34_0, r34_1, r34_2, r34_3⟩ := hQ34
    have N34 := Fr.app N31 Nq34
    have f35 : Exa Z T34.heap b1 "com/example/pacelint/pacelint/analysis/DifferenceBounds" := r12_1.keep Kq34
    have f36 : Exa Z T34.heap mp12 "java/util/HashMap" := r12_5.keep Kq34
    have f37 : Fld Z T34.heap mp12 "java/util/HashMap" "size" "I" (.int (0 : Int32)) := r12_6.keep Kq34 (ninS (Ne.symm ne13) nin0)
    have Zs34 : n0 ≤ T34.heap.size := Nat.le_trans Zs12 Kq34.1
    have K34_0 : Keep h0 T34.heap [] := K12_0.trans Kq34 (allS (Or.inr sz1_0) all0)
    have r34_1' : Fld Z T34.heap b1 "com/example/pacelint/pacelint/analysis/DifferenceBounds" "pointCount" "I" (.int (1 : Int32)) := r34_1
    refine own_go (fun t k => st34 _ k) ?_
    show own_G _ _ _ (T34.setTop (mkF m 35 #[.val (.int p0), .val (.ref b1), .val (.int (1 : Int32)), .val (.int (1 : Int32))] [(.int (1 : Int32))])) _ _ _ _
    have hc38 : ¬ ((1 : Int32) = (0 : Int32)) := (by decide)
    refine own_go (fun t k => XS.ifNo X34.here hx rfl (hb hby at_35) rfl ((if0 _ _).trans (feq hc38).1) k) ?_
    show own_G _ _ _ (T34.setTop (mkF m 38 #[.val (.int p0), .val (.ref b1), .val (.int (1 : Int32)), .val (.int (1 : Int32))] [])) _ _ _ _
    refine own_go (fun t k => XS.iloadN X34.here hx rfl (hb hby at_38) rfl k) ?_
    show own_G _ _ _ (T34.setTop (mkF m 39 #[.val (.int p0), .val (.ref b1), .val (.int (1 : Int32)), .val (.int (1 : Int32))] [(.int (1 : Int32))])) _ _ _ _
    have hc39 : ¬ ((1 : Int32) = (0 : Int32)) := (by decide)
    refine own_go (fun t k => XS.ifNo X34.here hx rfl (hb hby at_39) rfl ((if0 _ _).trans (feq hc39).1) k) ?_
    show own_G _ _ _ (T34.setTop (mkF m 42 #[.val (.int p0), .val (.ref b1), .val (.int (1 : Int32)), .val (.int (1 : Int32))] [])) _ _ _ _
    refine own_go (fun t k => XS.iconst X34.here hx rfl (hb hby at_42) k) ?_
    show own_G _ _ _ (T34.setTop (mkF m 43 #[.val (.int p0), .val (.ref b1), .val (.int (1 : Int32)), .val (.int (1 : Int32))] [(.int (1 : Int32))])) _ _ _ _
    refine own_go (fun t k => XS.goto X34.here hx rfl (pc0 := 43) (pc' := 47) rfl (hb hby at_43) (by decide) (by decide) k) ?_
    show own_G _ _ _ (T34.setTop (mkF m 47 #[.val (.int p0), .val (.ref b1), .val (.int (1 : Int32)), .val (.int (1 : Int32))] [(.int (1 : Int32))])) _ _ _ _
    refine own_go (fun t k => XS.istoreN X34.here hx rfl (hb hby at_47) rfl (l' := #[.val (.int p0), .val (.ref b1), .val (.int (1 : Int32)), .val (.int (1 : Int32))]) rfl k) ?_
    show own_G _ _ _ (T34.setTop (mkF m 48 #[.val (.int p0), .val (.ref b1), .val (.int (1 : Int32)), .val (.int (1 : Int32))] [])) _ _ _ _
    refine own_go (fun t k => XS.iloadN X34.here hx rfl (hb hby at_48) rfl k) ?_
    show own_G _ _ _ (T34.setTop (mkF m 49 #[.val (.int p0), .val (.ref b1), .val (.int (1 : Int32)), .val (.int (1 : Int32))] [(.int (1 : Int32))])) _ _ _ _
    refine own_go (fun t k => XS.iconst X34.here hx rfl (hb hby at_49) k) ?_
    show own_G _ _ _ (T34.setTop (mkF m 50 #[.val (.int p0), .val (.ref b1), .val (.int (1 : Int32)), .val (.int (1 : Int32))] [(.int (2 : Int32)), (.int (1 : Int32))])) _ _ _ _
    have hc40 : (1 : Int32) < (2 : Int32) := (by decide)
    refine own_go (fun t k => XS.icmpYes X34.here hx rfl (pc0 := 50) (pc' := 71) rfl (hb hby at_50) rfl (tlt hc40).1 (by decide) (by decide) k) ?_
    show own_G _ _ _ (T34.setTop (mkF m 71 #[.val (.int p0), .val (.ref b1), .val (.int (1 : Int32)), .val (.int (1 : Int32))] [])) _ _ _ _
    refine own_go (fun t k => XS.iloadN X34.here hx rfl (hb hby at_71) rfl k) ?_
    show own_G _ _ _ (T34.setTop (mkF m 72 #[.val (.int p0), .val (.ref b1), .val (.int (1 : Int32)), .val (.int (1 : Int32))] [(.int (1 : Int32))])) _ _ _ _
    refine own_go (fun t k => XS.iconst X34.here hx rfl (hb hby at_72) k) ?_
    show own_G _ _ _ (T34.setTop (mkF m 73 #[.val (.int p0), .val (.ref b1), .val (.int (1 : Int32)), .val (.int (1 : Int32))] [(.int (3 : Int32)), (.int (1 : Int32))])) _ _ _ _
    have hc41 : (1 : Int32) < (3 : Int32) := (by decide)
    refine own_go (fun t k => XS.icmpYes X34.here hx rfl (pc0 := 73) (pc' := 94) rfl (hb hby at_73) rfl (tlt hc41).1 (by decide) (by decide) k) ?_
    show own_G _ _ _ (T34.setTop (mkF m 94 #[.val (.int p0), .val (.ref b1), .val (.int (1 : Int32)), .val (.int (1 : Int32))] [])) _ _ _ _
    refine own_go (fun t k => XS.aloadN X34.here hx rfl (hb hby at_94) rfl rfl k) ?_
    show own_G _ _ _ (T34.setTop (mkF m 95 #[.val (.int p0), .val (.ref b1), .val (.int (1 : Int32)), .val (.int (1 : Int32))] [(.ref b1)])) _ _ _ _
    refine own_go (fun t k => XS.iloadN X34.here hx rfl (hb hby at_95) rfl k) ?_
    show own_G _ _ _ (T34.setTop (mkF m 96 #[.val (.int p0), .val (.ref b1), .val (.int (1 : Int32)), .val (.int (1 : Int32))] [(.int (1 : Int32)), (.ref b1)])) _ _ _ _
    obtain ⟨_, _, ⟨T42, L42, k42, n42⟩, -, X42, ⟨Lc42, hQ42, l42, y42, z42⟩, st42⟩ := Jvm.LawKit.callS X34 hx (y := (⟨"com/example/pacelint/pacelint/analysis/DifferenceBoundsNewPointPinLaw", "step", "(Lcom/example/pacelint/pacelint/analysis/DifferenceBounds;I)Z"⟩ : MethodName)) hown (mvT hZ (hw _ (List.mem_of_getElem? (i := 49) rfl))) (mvT hZ (hw _ (List.mem_of_getElem? (i := 50) rfl))) (mvT hZ (hw _ (List.mem_of_getElem? (i := 51) rfl))) (mvT hZ (hw _ (List.mem_of_getElem? (i := 52) rfl))) (by decide) (backOf (W := 0) (rm6 l Z a0 hw [] b1 (1 : Int32) mp12 T34.heap n0 Zs34 r34_0 r34_1' r34_2 r34_3 gg1) hZ (hw _ (List.mem_of_getElem? (i := 52) rfl)) (hw _ (List.mem_of_getElem? (i := 51) rfl)) (by decide) (by decide)) (g := (mkF m 96 #[.val (.int p0), .val (.ref b1), .val (.int (1 : Int32)), .val (.int (1 : Int32))] [(.int (1 : Int32)), (.ref b1)])) rfl (by rw [hml]; rfl) (argsL := [(.ref b1), (.int (1 : Int32))]) (rest := []) (lenOf pd_2 rfl) rfl (by show 2 * 0 + _ ≤ _; exact Nat.le_of_eq rfl) (hb hby at_96) (fun _ _ => ⟨rfl, rfl, (by decide : 7 + 0 ≤ _), (by decide : 82 + 0 ≤ _)⟩)
    dsimp only [Pt.U, Pt.locs, Pt.cells, Pt.slots] at X42 l42 y42 z42 st42 hQ42
    subst l42 y42 z42
    obtain ⟨rfl, Nq42, Kq42, r42_0, r42_1, r42_2, r42_3⟩ := hQ42
    have N42 := Fr.app N34 Nq42
    have f43 : Exa Z T42.heap b1 "com/example/pacelint/pacelint/analysis/DifferenceBounds" := r34_0.keep Kq42
    have f44 : Exa Z T42.heap mp12 "java/util/HashMap" := f36.keep Kq42
    have f45 : Fld Z T42.heap mp12 "java/util/HashMap" "size" "I" (.int (0 : Int32)) := f37.keep Kq42 (ninS (Ne.symm ne13) nin0)
    have Zs42 : n0 ≤ T42.heap.size := Nat.le_trans Zs34 Kq42.1
    have K42_0 : Keep h0 T42.heap [] := K34_0.trans Kq42 (allS (Or.inr sz1_0) all0)
    have r42_1' : Fld Z T42.heap b1 "com/example/pacelint/pacelint/analysis/DifferenceBounds" "pointCount" "I" (.int (2 : Int32)) := r42_1
    refine own_go (fun t k => st42 _ k) ?_
    show own_G _ _ _ (T42.setTop (mkF m 99 #[.val (.int p0), .val (.ref b1), .val (.int (1 : Int32)), .val (.int (1 : Int32))] [(.int (1 : Int32))])) _ _ _ _
    have hc46 : ¬ ((1 : Int32) = (0 : Int32)) := (by decide)
    refine own_go (fun t k => XS.ifNo X42.here hx rfl (hb hby at_99) rfl ((if0 _ _).trans (feq hc46).1) k) ?_
    show own_G _ _ _ (T42.setTop (mkF m 102 #[.val (.int p0), .val (.ref b1), .val (.int (1 : Int32)), .val (.int (1 : Int32))] [])) _ _ _ _
    refine own_go (fun t k => XS.iloadN X42.here hx rfl (hb hby at_102) rfl k) ?_
    show own_G _ _ _ (T42.setTop (mkF m 103 #[.val (.int p0), .val (.ref b1), .val (.int (1 : Int32)), .val (.int (1 : Int32))] [(.int (1 : Int32))])) _ _ _ _
    have hc47 : ¬ ((1 : Int32) = (0 : Int32)) := (by decide)
    refine own_go (fun t k => XS.ifNo X42.here hx rfl (hb hby at_103) rfl ((if0 _ _).trans (feq hc47).1) k) ?_
    show own_G _ _ _ (T42.setTop (mkF m 106 #[.val (.int p0), .val (.ref b1), .val (.int (1 : Int32)), .val (.int (1 : Int32))] [])) _ _ _ _
    refine own_go (fun t k => XS.iconst X42.here hx rfl (hb hby at_106) k) ?_
    show own_G _ _ _ (T42.setTop (mkF m 107 #[.val (.int p0), .val (.ref b1), .val (.int (1 : Int32)), .val (.int (1 : Int32))] [(.int (1 : Int32))])) _ _ _ _
    refine own_go (fun t k => XS.goto X42.here hx rfl (pc0 := 107) (pc' := 111) rfl (hb hby at_107) (by decide) (by decide) k) ?_
    show own_G _ _ _ (T42.setTop (mkF m 111 #[.val (.int p0), .val (.ref b1), .val (.int (1 : Int32)), .val (.int (1 : Int32))] [(.int (1 : Int32))])) _ _ _ _
    refine own_go (fun t k => XS.istoreN X42.here hx rfl (hb hby at_111) rfl (l' := #[.val (.int p0), .val (.ref b1), .val (.int (1 : Int32)), .val (.int (1 : Int32))]) rfl k) ?_
    show own_G _ _ _ (T42.setTop (mkF m 112 #[.val (.int p0), .val (.ref b1), .val (.int (1 : Int32)), .val (.int (1 : Int32))] [])) _ _ _ _
    refine own_go (fun t k => XS.iloadN X42.here hx rfl (hb hby at_112) rfl k) ?_
    show own_G _ _ _ (T42.setTop (mkF m 113 #[.val (.int p0), .val (.ref b1), .val (.int (1 : Int32)), .val (.int (1 : Int32))] [(.int (1 : Int32))])) _ _ _ _
    have hc48 : ¬ ((1 : Int32) = (0 : Int32)) := (by decide)
    refine own_go (fun t k => XS.ifNo X42.here hx rfl (hb hby at_113) rfl ((if0 _ _).trans (feq hc48).1) k) ?_
    show own_G _ _ _ (T42.setTop (mkF m 116 #[.val (.int p0), .val (.ref b1), .val (.int (1 : Int32)), .val (.int (1 : Int32))] [])) _ _ _ _
    refine own_go (fun t k => XS.aloadN X42.here hx rfl (hb hby at_116) rfl rfl k) ?_
    show own_G _ _ _ (T42.setTop (mkF m 117 #[.val (.int p0), .val (.ref b1), .val (.int (1 : Int32)), .val (.int (1 : Int32))] [(.ref b1)])) _ _ _ _
    obtain ⟨cq49, kq49, q49a, q49b, q49c⟩ := isOf hZ rfl r42_0
    obtain ⟨_, _, ⟨T49, L49, k49, n49⟩, -, X49, ⟨Lc49, hQ49, l49, y49, z49⟩, st49⟩ := X42.virtualBack hx (y := (⟨"com/example/pacelint/pacelint/analysis/DifferenceBounds", "eventCount", "()I"⟩ : MethodName)) (z := (⟨"com/example/pacelint/pacelint/analysis/DifferenceBounds", "eventCount", "()I"⟩ : MethodName)) hown (mvT hZ (hw _ (List.mem_of_getElem? (i := 58) rfl))) (mvT hZ (hw _ (List.mem_of_getElem? (i := 59) rfl))) (notFace_of_selects (args := #[]) (mvT hZ (hw _ (List.mem_of_getElem? (i := 61) rfl)))) (mvT hZ (hw _ (List.mem_of_getElem? (i := 61) rfl))) (mvT hZ (hw _ (List.mem_of_getElem? (i := 60) rfl))) (by decide) (backOf (W := 0) (rm8 l Z a0 hw [] b1 mp12 (0 : Int32) T42.heap n0 Zs42 r42_2 f44 f45) hZ (hw _ (List.mem_of_getElem? (i := 62) rfl)) (hw _ (List.mem_of_getElem? (i := 2) rfl)) (by decide) (by decide)) q49a q49c (g := (mkF m 117 #[.val (.int p0), .val (.ref b1), .val (.int (1 : Int32)), .val (.int (1 : Int32))] [(.ref b1)])) rfl (by rw [hml]; rfl) (Steps.refl _) (argsL := []) (rest := []) (lenOf pd_1 rfl) rfl (by show 2 * 0 + _ ≤ _; exact Nat.le_of_eq rfl) (hb hby at_117) (fun _ _ => ⟨rfl, rfl, (by decide : 7 + 0 ≤ _), (by decide : 82 + 0 ≤ _)⟩)
    dsimp only [Pt.U, Pt.locs, Pt.cells, Pt.slots] at X49 l49 y49 z49 st49 hQ49
    subst l49 y49 z49
    obtain ⟨rfl, Nq49, eh49⟩ := hQ49
    have N49 := Fr.app N42 Nq49
    refine own_tr st49 ?_
    show own_G _ _ _ (T49.setTop (mkF m 120 #[.val (.int p0), .val (.ref b1), .val (.int (1 : Int32)), .val (.int (1 : Int32))] [(.int (0 : Int32))])) _ _ _ _
    have hc50 : (0 : Int32) = (0 : Int32) := (by decide)
    refine own_go (fun t k => XS.ifNo X49.here hx rfl (hb hby at_120) rfl ((if0 _ _).trans (teq hc50).2) k) ?_
    show own_G _ _ _ (T49.setTop (mkF m 123 #[.val (.int p0), .val (.ref b1), .val (.int (1 : Int32)), .val (.int (1 : Int32))] [])) _ _ _ _
    refine own_go (fun t k => XS.aloadN X49.here hx rfl (hb hby at_123) rfl rfl k) ?_
    show own_G _ _ _ (T49.setTop (mkF m 124 #[.val (.int p0), .val (.ref b1), .val (.int (1 : Int32)), .val (.int (1 : Int32))] [(.ref b1)])) _ _ _ _
    obtain ⟨cq51, kq51, q51a, q51b, q51c⟩ := isOf hZ eh49 r42_0
    obtain ⟨_, _, ⟨T51, L51, k51, n51⟩, -, X51, ⟨Lc51, hQ51, l51, y51, z51⟩, st51⟩ := X49.virtualBack hx (y := (⟨"com/example/pacelint/pacelint/analysis/DifferenceBounds", "boundCount", "()I"⟩ : MethodName)) (z := (⟨"com/example/pacelint/pacelint/analysis/DifferenceBounds", "boundCount", "()I"⟩ : MethodName)) hown (mvT hZ (hw _ (List.mem_of_getElem? (i := 74) rfl))) (mvT hZ (hw _ (List.mem_of_getElem? (i := 75) rfl))) (notFace_of_selects (args := #[]) (mvT hZ (hw _ (List.mem_of_getElem? (i := 77) rfl)))) (mvT hZ (hw _ (List.mem_of_getElem? (i := 77) rfl))) (mvT hZ (hw _ (List.mem_of_getElem? (i := 76) rfl))) (by decide) (backOf (W := 0) (rm10 l Z a0 hw [] b1 (0 : Int32) T42.heap n0 Zs42 r42_3) hZ (hw _ (List.mem_of_getElem? (i := 78) rfl)) (hw _ (List.mem_of_getElem? (i := 2) rfl)) (by decide) (by decide)) q51a q51c (g := (mkF m 124 #[.val (.int p0), .val (.ref b1), .val (.int (1 : Int32)), .val (.int (1 : Int32))] [(.ref b1)])) rfl (by rw [hml]; rfl) (Steps.refl _) (argsL := []) (rest := []) (lenOf pd_1 rfl) rfl (by show 2 * 0 + _ ≤ _; exact Nat.le_of_eq rfl) (hb hby at_124) (fun _ _ => ⟨rfl, eh49, (by decide : 7 + 0 ≤ _), (by decide : 82 + 0 ≤ _)⟩)
    dsimp only [Pt.U, Pt.locs, Pt.cells, Pt.slots] at X51 l51 y51 z51 st51 hQ51
    subst l51 y51 z51
    obtain ⟨rfl, Nq51, eh51⟩ := hQ51
    have N51 := Fr.app N49 Nq51
    refine own_tr st51 ?_
    show own_G _ _ _ (T51.setTop (mkF m 127 #[.val (.int p0), .val (.ref b1), .val (.int (1 : Int32)), .val (.int (1 : Int32))] [(.int (0 : Int32))])) _ _ _ _
    have hc52 : (0 : Int32) = (0 : Int32) := (by decide)
    refine own_go (fun t k => XS.ifNo X51.here hx rfl (hb hby at_127) rfl ((if0 _ _).trans (teq hc52).2) k) ?_
    show own_G _ _ _ (T51.setTop (mkF m 130 #[.val (.int p0), .val (.ref b1), .val (.int (1 : Int32)), .val (.int (1 : Int32))] [])) _ _ _ _
    refine own_go (fun t k => XS.iconst X51.here hx rfl (hb hby at_130) k) ?_
    show own_G _ _ _ (T51.setTop (mkF m 131 #[.val (.int p0), .val (.ref b1), .val (.int (1 : Int32)), .val (.int (1 : Int32))] [(.int (1 : Int32))])) _ _ _ _
    refine own_go (fun t k => XS.goto X51.here hx rfl (pc0 := 131) (pc' := 135) rfl (hb hby at_131) (by decide) (by decide) k) ?_
    show own_G _ _ _ (T51.setTop (mkF m 135 #[.val (.int p0), .val (.ref b1), .val (.int (1 : Int32)), .val (.int (1 : Int32))] [(.int (1 : Int32))])) _ _ _ _
    exact own_endN X51 hx hlk (t := .boolean) Bd.returns (by simp) (hb hby at_135) (by decide) (by decide) (Q := (Q0 Z p0 h0 n0)) (by rw [eh51]; exact ⟨rfl, N51, K42_0⟩)
  · rw [hk]
    show own_G _ _ _ (T12.setTop (mkF m 11 #[.val (.int p0), .val (.ref b1), .unset, .unset] [(.int (2 : Int32))])) _ _ _ _
    refine own_go (fun t k => XS.istoreN X12.here hx rfl (hb hby at_11) rfl (l' := #[.val (.int p0), .val (.ref b1), .val (.int (2 : Int32)), .unset]) rfl k) ?_
    show own_G _ _ _ (T12.setTop (mkF m 12 #[.val (.int p0), .val (.ref b1), .val (.int (2 : Int32)), .unset] [])) _ _ _ _
    refine own_go (fun t k => XS.aloadN X12.here hx rfl (hb hby at_12) rfl rfl k) ?_
    show own_G _ _ _ (T12.setTop (mkF m 13 #[.val (.int p0), .val (.ref b1), .val (.int (2 : Int32)), .unset] [(.ref b1)])) _ _ _ _
    obtain ⟨cq53, kq53, q53a, q53b, q53c⟩ := isOf hZ rfl r12_1
    obtain ⟨_, _, ⟨T53, L53, k53, n53⟩, -, X53, ⟨Lc53, hQ53, l53, y53, z53⟩, st53⟩ := X12.virtualBack hx (y := (⟨"com/example/pacelint/pacelint/analysis/DifferenceBounds", "pointCount", "()I"⟩ : MethodName)) (z := (⟨"com/example/pacelint/pacelint/analysis/DifferenceBounds", "pointCount", "()I"⟩ : MethodName)) hown (mvT hZ (hw _ (List.mem_of_getElem? (i := 42) rfl))) (mvT hZ (hw _ (List.mem_of_getElem? (i := 43) rfl))) (notFace_of_selects (args := #[]) (mvT hZ (hw _ (List.mem_of_getElem? (i := 45) rfl)))) (mvT hZ (hw _ (List.mem_of_getElem? (i := 45) rfl))) (mvT hZ (hw _ (List.mem_of_getElem? (i := 44) rfl))) (by decide) (backOf (W := 0) (rm5 l Z a0 hw [] b1 (0 : Int32) T12.heap n0 Zs12 r12_3) hZ (hw _ (List.mem_of_getElem? (i := 46) rfl)) (hw _ (List.mem_of_getElem? (i := 2) rfl)) (by decide) (by decide)) q53a q53c (g := (mkF m 13 #[.val (.int p0), .val (.ref b1), .val (.int (2 : Int32)), .unset] [(.ref b1)])) rfl (by rw [hml]; rfl) (Steps.refl _) (argsL := []) (rest := []) (lenOf pd_1 rfl) rfl (by show 2 * 0 + _ ≤ _; exact Nat.le_of_eq rfl) (hb hby at_13) (fun _ _ => ⟨rfl, rfl, (by decide : 7 + 0 ≤ _), (by decide : 82 + 0 ≤ _)⟩)
    dsimp only [Pt.U, Pt.locs, Pt.cells, Pt.slots] at X53 l53 y53 z53 st53 hQ53
    subst l53 y53 z53
    obtain ⟨rfl, Nq53, eh53⟩ := hQ53
    have N53 := Fr.app N12 Nq53
    refine own_tr st53 ?_
    show own_G _ _ _ (T53.setTop (mkF m 16 #[.val (.int p0), .val (.ref b1), .val (.int (2 : Int32)), .unset] [(.int (0 : Int32))])) _ _ _ _
    have hc54 : (0 : Int32) = (0 : Int32) := (by decide)
    refine own_go (fun t k => XS.ifNo X53.here hx rfl (hb hby at_16) rfl ((if0 _ _).trans (teq hc54).2) k) ?_
    show own_G _ _ _ (T53.setTop (mkF m 19 #[.val (.int p0), .val (.ref b1), .val (.int (2 : Int32)), .unset] [])) _ _ _ _
    refine own_go (fun t k => XS.iconst X53.here hx rfl (hb hby at_19) k) ?_
    show own_G _ _ _ (T53.setTop (mkF m 20 #[.val (.int p0), .val (.ref b1), .val (.int (2 : Int32)), .unset] [(.int (1 : Int32))])) _ _ _ _
    refine own_go (fun t k => XS.goto X53.here hx rfl (pc0 := 20) (pc' := 24) rfl (hb hby at_20) (by decide) (by decide) k) ?_
    show own_G _ _ _ (T53.setTop (mkF m 24 #[.val (.int p0), .val (.ref b1), .val (.int (2 : Int32)), .unset] [(.int (1 : Int32))])) _ _ _ _
    refine own_go (fun t k => XS.istoreN X53.here hx rfl (hb hby at_24) rfl (l' := #[.val (.int p0), .val (.ref b1), .val (.int (2 : Int32)), .val (.int (1 : Int32))]) rfl k) ?_
    show own_G _ _ _ (T53.setTop (mkF m 25 #[.val (.int p0), .val (.ref b1), .val (.int (2 : Int32)), .val (.int (1 : Int32))] [])) _ _ _ _
    refine own_go (fun t k => XS.iloadN X53.here hx rfl (hb hby at_25) rfl k) ?_
    show own_G _ _ _ (T53.setTop (mkF m 26 #[.val (.int p0), .val (.ref b1), .val (.int (2 : Int32)), .val (.int (1 : Int32))] [(.int (2 : Int32))])) _ _ _ _
    refine own_go (fun t k => XS.iconst X53.here hx rfl (hb hby at_26) k) ?_
    show own_G _ _ _ (T53.setTop (mkF m 27 #[.val (.int p0), .val (.ref b1), .val (.int (2 : Int32)), .val (.int (1 : Int32))] [(.int (1 : Int32)), (.int (2 : Int32))])) _ _ _ _
    have hc55 : ¬ ((2 : Int32) < (1 : Int32)) := (by decide)
    refine own_go (fun t k => XS.icmpNo X53.here hx rfl (hb hby at_27) rfl (flt hc55).1 k) ?_
    show own_G _ _ _ (T53.setTop (mkF m 30 #[.val (.int p0), .val (.ref b1), .val (.int (2 : Int32)), .val (.int (1 : Int32))] [])) _ _ _ _
    refine own_go (fun t k => XS.aloadN X53.here hx rfl (hb hby at_30) rfl rfl k) ?_
    show own_G _ _ _ (T53.setTop (mkF m 31 #[.val (.int p0), .val (.ref b1), .val (.int (2 : Int32)), .val (.int (1 : Int32))] [(.ref b1)])) _ _ _ _
    refine own_go (fun t k => XS.iconst X53.here hx rfl (hb hby at_31) k) ?_
    show own_G _ _ _ (T53.setTop (mkF m 32 #[.val (.int p0), .val (.ref b1), .val (.int (2 : Int32)), .val (.int (1 : Int32))] [(.int (0 : Int32)), (.ref b1)])) _ _ _ _
    obtain ⟨_, _, ⟨T56, L56, k56, n56⟩, -, X56, ⟨Lc56, hQ56, l56, y56, z56⟩, st56⟩ := Jvm.LawKit.callS X53 hx (y := (⟨"com/example/pacelint/pacelint/analysis/DifferenceBoundsNewPointPinLaw", "step", "(Lcom/example/pacelint/pacelint/analysis/DifferenceBounds;I)Z"⟩ : MethodName)) hown (mvT hZ (hw _ (List.mem_of_getElem? (i := 49) rfl))) (mvT hZ (hw _ (List.mem_of_getElem? (i := 50) rfl))) (mvT hZ (hw _ (List.mem_of_getElem? (i := 51) rfl))) (mvT hZ (hw _ (List.mem_of_getElem? (i := 52) rfl))) (by decide) (backOf (W := 0) (rm6 l Z a0 hw [] b1 (0 : Int32) mp12 T12.heap n0 Zs12 r12_1 r12_3 r12_2 r12_4 gg1) hZ (hw _ (List.mem_of_getElem? (i := 52) rfl)) (hw _ (List.mem_of_getElem? (i := 51) rfl)) (by decide) (by decide)) (g := (mkF m 32 #[.val (.int p0), .val (.ref b1), .val (.int (2 : Int32)), .val (.int (1 : Int32))] [(.int (0 : Int32)), (.ref b1)])) rfl (by rw [hml]; rfl) (argsL := [(.ref b1), (.int (0 : Int32))]) (rest := []) (lenOf pd_2 rfl) rfl (by show 2 * 0 + _ ≤ _; exact Nat.le_of_eq rfl) (hb hby at_32) (fun _ _ => ⟨rfl, eh53, (by decide : 7 + 0 ≤ _), (by decide : 82 + 0 ≤ _)⟩)
    dsimp only [Pt.U, Pt.locs, Pt.cells, Pt.slots] at X56 l56 y56 z56 st56 hQ56
    subst l56 y56 z56
    obtain ⟨rfl, Nq56, Kq56, r56_0, r56_1, r56_2, r56_3⟩ := hQ56
    have N56 := Fr.app N53 Nq56
    have f57 : Exa Z T56.heap b1 "com/example/pacelint/pacelint/analysis/DifferenceBounds" := r12_1.keep Kq56
    have f58 : Exa Z T56.heap mp12 "java/util/HashMap" := r12_5.keep Kq56
    have f59 : Fld Z T56.heap mp12 "java/util/HashMap" "size" "I" (.int (0 : Int32)) := r12_6.keep Kq56 (ninS (Ne.symm ne13) nin0)
    have Zs56 : n0 ≤ T56.heap.size := Nat.le_trans Zs12 Kq56.1
    have K56_0 : Keep h0 T56.heap [] := K12_0.trans Kq56 (allS (Or.inr sz1_0) all0)
    have r56_1' : Fld Z T56.heap b1 "com/example/pacelint/pacelint/analysis/DifferenceBounds" "pointCount" "I" (.int (1 : Int32)) := r56_1
    refine own_go (fun t k => st56 _ k) ?_
    show own_G _ _ _ (T56.setTop (mkF m 35 #[.val (.int p0), .val (.ref b1), .val (.int (2 : Int32)), .val (.int (1 : Int32))] [(.int (1 : Int32))])) _ _ _ _
    have hc60 : ¬ ((1 : Int32) = (0 : Int32)) := (by decide)
    refine own_go (fun t k => XS.ifNo X56.here hx rfl (hb hby at_35) rfl ((if0 _ _).trans (feq hc60).1) k) ?_
    show own_G _ _ _ (T56.setTop (mkF m 38 #[.val (.int p0), .val (.ref b1), .val (.int (2 : Int32)), .val (.int (1 : Int32))] [])) _ _ _ _
    refine own_go (fun t k => XS.iloadN X56.here hx rfl (hb hby at_38) rfl k) ?_
    show own_G _ _ _ (T56.setTop (mkF m 39 #[.val (.int p0), .val (.ref b1), .val (.int (2 : Int32)), .val (.int (1 : Int32))] [(.int (1 : Int32))])) _ _ _ _
    have hc61 : ¬ ((1 : Int32) = (0 : Int32)) := (by decide)
    refine own_go (fun t k => XS.ifNo X56.here hx rfl (hb hby at_39) rfl ((if0 _ _).trans (feq hc61).1) k) ?_
    show own_G _ _ _ (T56.setTop (mkF m 42 #[.val (.int p0), .val (.ref b1), .val (.int (2 : Int32)), .val (.int (1 : Int32))] [])) _ _ _ _
    refine own_go (fun t k => XS.iconst X56.here hx rfl (hb hby at_42) k) ?_
    show own_G _ _ _ (T56.setTop (mkF m 43 #[.val (.int p0), .val (.ref b1), .val (.int (2 : Int32)), .val (.int (1 : Int32))] [(.int (1 : Int32))])) _ _ _ _
    refine own_go (fun t k => XS.goto X56.here hx rfl (pc0 := 43) (pc' := 47) rfl (hb hby at_43) (by decide) (by decide) k) ?_
    show own_G _ _ _ (T56.setTop (mkF m 47 #[.val (.int p0), .val (.ref b1), .val (.int (2 : Int32)), .val (.int (1 : Int32))] [(.int (1 : Int32))])) _ _ _ _
    refine own_go (fun t k => XS.istoreN X56.here hx rfl (hb hby at_47) rfl (l' := #[.val (.int p0), .val (.ref b1), .val (.int (2 : Int32)), .val (.int (1 : Int32))]) rfl k) ?_
    show own_G _ _ _ (T56.setTop (mkF m 48 #[.val (.int p0), .val (.ref b1), .val (.int (2 : Int32)), .val (.int (1 : Int32))] [])) _ _ _ _
    refine own_go (fun t k => XS.iloadN X56.here hx rfl (hb hby at_48) rfl k) ?_
    show own_G _ _ _ (T56.setTop (mkF m 49 #[.val (.int p0), .val (.ref b1), .val (.int (2 : Int32)), .val (.int (1 : Int32))] [(.int (2 : Int32))])) _ _ _ _
    refine own_go (fun t k => XS.iconst X56.here hx rfl (hb hby at_49) k) ?_
    show own_G _ _ _ (T56.setTop (mkF m 50 #[.val (.int p0), .val (.ref b1), .val (.int (2 : Int32)), .val (.int (1 : Int32))] [(.int (2 : Int32)), (.int (2 : Int32))])) _ _ _ _
    have hc62 : ¬ ((2 : Int32) < (2 : Int32)) := (by decide)
    refine own_go (fun t k => XS.icmpNo X56.here hx rfl (hb hby at_50) rfl (flt hc62).1 k) ?_
    show own_G _ _ _ (T56.setTop (mkF m 53 #[.val (.int p0), .val (.ref b1), .val (.int (2 : Int32)), .val (.int (1 : Int32))] [])) _ _ _ _
    refine own_go (fun t k => XS.aloadN X56.here hx rfl (hb hby at_53) rfl rfl k) ?_
    show own_G _ _ _ (T56.setTop (mkF m 54 #[.val (.int p0), .val (.ref b1), .val (.int (2 : Int32)), .val (.int (1 : Int32))] [(.ref b1)])) _ _ _ _
    refine own_go (fun t k => XS.iconst X56.here hx rfl (hb hby at_54) k) ?_
    show own_G _ _ _ (T56.setTop (mkF m 55 #[.val (.int p0), .val (.ref b1), .val (.int (2 : Int32)), .val (.int (1 : Int32))] [(.int (1 : Int32)), (.ref b1)])) _ _ _ _
    obtain ⟨_, _, ⟨T63, L63, k63, n63⟩, -, X63, ⟨Lc63, hQ63, l63, y63, z63⟩, st63⟩ := Jvm.LawKit.callS X56 hx (y := (⟨"com/example/pacelint/pacelint/analysis/DifferenceBoundsNewPointPinLaw", "step", "(Lcom/example/pacelint/pacelint/analysis/DifferenceBounds;I)Z"⟩ : MethodName)) hown (mvT hZ (hw _ (List.mem_of_getElem? (i := 49) rfl))) (mvT hZ (hw _ (List.mem_of_getElem? (i := 50) rfl))) (mvT hZ (hw _ (List.mem_of_getElem? (i := 51) rfl))) (mvT hZ (hw _ (List.mem_of_getElem? (i := 52) rfl))) (by decide) (backOf (W := 0) (rm6 l Z a0 hw [] b1 (1 : Int32) mp12 T56.heap n0 Zs56 r56_0 r56_1' r56_2 r56_3 gg1) hZ (hw _ (List.mem_of_getElem? (i := 52) rfl)) (hw _ (List.mem_of_getElem? (i := 51) rfl)) (by decide) (by decide)) (g := (mkF m 55 #[.val (.int p0), .val (.ref b1), .val (.int (2 : Int32)), .val (.int (1 : Int32))] [(.int (1 : Int32)), (.ref b1)])) rfl (by rw [hml]; rfl) (argsL := [(.ref b1), (.int (1 : Int32))]) (rest := []) (lenOf pd_2 rfl) rfl (by show 2 * 0 + _ ≤ _; exact Nat.le_of_eq rfl) (hb hby at_55) (fun _ _ => ⟨rfl, rfl, (by decide : 7 + 0 ≤ _), (by decide : 82 + 0 ≤ _)⟩)
    dsimp only [Pt.U, Pt.locs, Pt.cells, Pt.slots] at X63 l63 y63 z63 st63 hQ63
    subst l63 y63 z63
    obtain ⟨rfl, Nq63, Kq63, r63_0, r63_1, r63_2, r63_3⟩ := hQ63
    have N63 := Fr.app N56 Nq63
    have f64 : Exa Z T63.heap b1 "com/example/pacelint/pacelint/analysis/DifferenceBounds" := r56_0.keep Kq63
    have f65 : Exa Z T63.heap mp12 "java/util/HashMap" := f58.keep Kq63
    have f66 : Fld Z T63.heap mp12 "java/util/HashMap" "size" "I" (.int (0 : Int32)) := f59.keep Kq63 (ninS (Ne.symm ne13) nin0)
    have Zs63 : n0 ≤ T63.heap.size := Nat.le_trans Zs56 Kq63.1
    have K63_0 : Keep h0 T63.heap [] := K56_0.trans Kq63 (allS (Or.inr sz1_0) all0)
    have r63_1' : Fld Z T63.heap b1 "com/example/pacelint/pacelint/analysis/DifferenceBounds" "pointCount" "I" (.int (2 : Int32)) := r63_1
    refine own_go (fun t k => st63 _ k) ?_
    show own_G _ _ _ (T63.setTop (mkF m 58 #[.val (.int p0), .val (.ref b1), .val (.int (2 : Int32)), .val (.int (1 : Int32))] [(.int (1 : Int32))])) _ _ _ _
    have hc67 : ¬ ((1 : Int32) = (0 : Int32)) := (by decide)
    refine own_go (fun t k => XS.ifNo X63.here hx rfl (hb hby at_58) rfl ((if0 _ _).trans (feq hc67).1) k) ?_
    show own_G _ _ _ (T63.setTop (mkF m 61 #[.val (.int p0), .val (.ref b1), .val (.int (2 : Int32)), .val (.int (1 : Int32))] [])) _ _ _ _
    refine own_go (fun t k => XS.iloadN X63.here hx rfl (hb hby at_61) rfl k) ?_
    show own_G _ _ _ (T63.setTop (mkF m 62 #[.val (.int p0), .val (.ref b1), .val (.int (2 : Int32)), .val (.int (1 : Int32))] [(.int (1 : Int32))])) _ _ _ _
    have hc68 : ¬ ((1 : Int32) = (0 : Int32)) := (by decide)
    refine own_go (fun t k => XS.ifNo X63.here hx rfl (hb hby at_62) rfl ((if0 _ _).trans (feq hc68).1) k) ?_
    show own_G _ _ _ (T63.setTop (mkF m 65 #[.val (.int p0), .val (.ref b1), .val (.int (2 : Int32)), .val (.int (1 : Int32))] [])) _ _ _ _
    refine own_go (fun t k => XS.iconst X63.here hx rfl (hb hby at_65) k) ?_
    show own_G _ _ _ (T63.setTop (mkF m 66 #[.val (.int p0), .val (.ref b1), .val (.int (2 : Int32)), .val (.int (1 : Int32))] [(.int (1 : Int32))])) _ _ _ _
    refine own_go (fun t k => XS.goto X63.here hx rfl (pc0 := 66) (pc' := 70) rfl (hb hby at_66) (by decide) (by decide) k) ?_
    show own_G _ _ _ (T63.setTop (mkF m 70 #[.val (.int p0), .val (.ref b1), .val (.int (2 : Int32)), .val (.int (1 : Int32))] [(.int (1 : Int32))])) _ _ _ _
    refine own_go (fun t k => XS.istoreN X63.here hx rfl (hb hby at_70) rfl (l' := #[.val (.int p0), .val (.ref b1), .val (.int (2 : Int32)), .val (.int (1 : Int32))]) rfl k) ?_
    show own_G _ _ _ (T63.setTop (mkF m 71 #[.val (.int p0), .val (.ref b1), .val (.int (2 : Int32)), .val (.int (1 : Int32))] [])) _ _ _ _
    refine own_go (fun t k => XS.iloadN X63.here hx rfl (hb hby at_71) rfl k) ?_
    show own_G _ _ _ (T63.setTop (mkF m 72 #[.val (.int p0), .val (.ref b1), .val (.int (2 : Int32)), .val (.int (1 : Int32))] [(.int (2 : Int32))])) _ _ _ _
    refine own_go (fun t k => XS.iconst X63.here hx rfl (hb hby at_72) k) ?_
    show own_G _ _ _ (T63.setTop (mkF m 73 #[.val (.int p0), .val (.ref b1), .val (.int (2 : Int32)), .val (.int (1 : Int32))] [(.int (3 : Int32)), (.int (2 : Int32))])) _ _ _ _
    have hc69 : (2 : Int32) < (3 : Int32) := (by decide)
    refine own_go (fun t k => XS.icmpYes X63.here hx rfl (pc0 := 73) (pc' := 94) rfl (hb hby at_73) rfl (tlt hc69).1 (by decide) (by decide) k) ?_
    show own_G _ _ _ (T63.setTop (mkF m 94 #[.val (.int p0), .val (.ref b1), .val (.int (2 : Int32)), .val (.int (1 : Int32))] [])) _ _ _ _
    refine own_go (fun t k => XS.aloadN X63.here hx rfl (hb hby at_94) rfl rfl k) ?_
    show own_G _ _ _ (T63.setTop (mkF m 95 #[.val (.int p0), .val (.ref b1), .val (.int (2 : Int32)), .val (.int (1 : Int32))] [(.ref b1)])) _ _ _ _
    refine own_go (fun t k => XS.iloadN X63.here hx rfl (hb hby at_95) rfl k) ?_
    show own_G _ _ _ (T63.setTop (mkF m 96 #[.val (.int p0), .val (.ref b1), .val (.int (2 : Int32)), .val (.int (1 : Int32))] [(.int (2 : Int32)), (.ref b1)])) _ _ _ _
    obtain ⟨_, _, ⟨T70, L70, k70, n70⟩, -, X70, ⟨Lc70, hQ70, l70, y70, z70⟩, st70⟩ := Jvm.LawKit.callS X63 hx (y := (⟨"com/example/pacelint/pacelint/analysis/DifferenceBoundsNewPointPinLaw", "step", "(Lcom/example/pacelint/pacelint/analysis/DifferenceBounds;I)Z"⟩ : MethodName)) hown (mvT hZ (hw _ (List.mem_of_getElem? (i := 49) rfl))) (mvT hZ (hw _ (List.mem_of_getElem? (i := 50) rfl))) (mvT hZ (hw _ (List.mem_of_getElem? (i := 51) rfl))) (mvT hZ (hw _ (List.mem_of_getElem? (i := 52) rfl))) (by decide) (backOf (W := 0) (rm6 l Z a0 hw [] b1 (2 : Int32) mp12 T63.heap n0 Zs63 r63_0 r63_1' r63_2 r63_3 gg1) hZ (hw _ (List.mem_of_getElem? (i := 52) rfl)) (hw _ (List.mem_of_getElem? (i := 51) rfl)) (by decide) (by decide)) (g := (mkF m 96 #[.val (.int p0), .val (.ref b1), .val (.int (2 : Int32)), .val (.int (1 : Int32))] [(.int (2 : Int32)), (.ref b1)])) rfl (by rw [hml]; rfl) (argsL := [(.ref b1), (.int (2 : Int32))]) (rest := []) (lenOf pd_2 rfl) rfl (by show 2 * 0 + _ ≤ _; exact Nat.le_of_eq rfl) (hb hby at_96) (fun _ _ => ⟨rfl, rfl, (by decide : 7 + 0 ≤ _), (by decide : 82 + 0 ≤ _)⟩)
    dsimp only [Pt.U, Pt.locs, Pt.cells, Pt.slots] at X70 l70 y70 z70 st70 hQ70
    subst l70 y70 z70
    obtain ⟨rfl, Nq70, Kq70, r70_0, r70_1, r70_2, r70_3⟩ := hQ70
    have N70 := Fr.app N63 Nq70
    have f71 : Exa Z T70.heap b1 "com/example/pacelint/pacelint/analysis/DifferenceBounds" := r63_0.keep Kq70
    have f72 : Exa Z T70.heap mp12 "java/util/HashMap" := f65.keep Kq70
    have f73 : Fld Z T70.heap mp12 "java/util/HashMap" "size" "I" (.int (0 : Int32)) := f66.keep Kq70 (ninS (Ne.symm ne13) nin0)
    have Zs70 : n0 ≤ T70.heap.size := Nat.le_trans Zs63 Kq70.1
    have K70_0 : Keep h0 T70.heap [] := K63_0.trans Kq70 (allS (Or.inr sz1_0) all0)
    have r70_1' : Fld Z T70.heap b1 "com/example/pacelint/pacelint/analysis/DifferenceBounds" "pointCount" "I" (.int (3 : Int32)) := r70_1
    refine own_go (fun t k => st70 _ k) ?_
    show own_G _ _ _ (T70.setTop (mkF m 99 #[.val (.int p0), .val (.ref b1), .val (.int (2 : Int32)), .val (.int (1 : Int32))] [(.int (1 : Int32))])) _ _ _ _
    have hc74 : ¬ ((1 : Int32) = (0 : Int32)) := (by decide)
    refine own_go (fun t k => XS.ifNo X70.here hx rfl (hb hby at_99) rfl ((if0 _ _).trans (feq hc74).1) k) ?_
    show own_G _ _ _ (T70.setTop (mkF m 102 #[.val (.int p0), .val (.ref b1), .val (.int (2 : Int32)), .val (.int (1 : Int32))] [])) _ _ _ _
    refine own_go (fun t k => XS.iloadN X70.here hx rfl (hb hby at_102) rfl k) ?_
    show own_G _ _ _ (T70.setTop (mkF m 103 #[.val (.int p0), .val (.ref b1), .val (.int (2 : Int32)), .val (.int (1 : Int32))] [(.int (1 : Int32))])) _ _ _ _
    have hc75 : ¬ ((1 : Int32) = (0 : Int32)) := (by decide)
    refine own_go (fun t k => XS.ifNo X70.here hx rfl (hb hby at_103) rfl ((if0 _ _).trans (feq hc75).1) k) ?_
    show own_G _ _ _ (T70.setTop (mkF m 106 #[.val (.int p0), .val (.ref b1), .val (.int (2 : Int32)), .val (.int (1 : Int32))] [])) _ _ _ _
    refine own_go (fun t k => XS.iconst X70.here hx rfl (hb hby at_106) k) ?_
    show own_G _ _ _ (T70.setTop (mkF m 107 #[.val (.int p0), .val (.ref b1), .val (.int (2 : Int32)), .val (.int (1 : Int32))] [(.int (1 : Int32))])) _ _ _ _
    refine own_go (fun t k => XS.goto X70.here hx rfl (pc0 := 107) (pc' := 111) rfl (hb hby at_107) (by decide) (by decide) k) ?_
    show own_G _ _ _ (T70.setTop (mkF m 111 #[.val (.int p0), .val (.ref b1), .val (.int (2 : Int32)), .val (.int (1 : Int32))] [(.int (1 : Int32))])) _ _ _ _
    refine own_go (fun t k => XS.istoreN X70.here hx rfl (hb hby at_111) rfl (l' := #[.val (.int p0), .val (.ref b1), .val (.int (2 : Int32)), .val (.int (1 : Int32))]) rfl k) ?_
    show own_G _ _ _ (T70.setTop (mkF m 112 #[.val (.int p0), .val (.ref b1), .val (.int (2 : Int32)), .val (.int (1 : Int32))] [])) _ _ _ _
    refine own_go (fun t k => XS.iloadN X70.here hx rfl (hb hby at_112) rfl k) ?_
    show own_G _ _ _ (T70.setTop (mkF m 113 #[.val (.int p0), .val (.ref b1), .val (.int (2 : Int32)), .val (.int (1 : Int32))] [(.int (1 : Int32))])) _ _ _ _
    have hc76 : ¬ ((1 : Int32) = (0 : Int32)) := (by decide)
    refine own_go (fun t k => XS.ifNo X70.here hx rfl (hb hby at_113) rfl ((if0 _ _).trans (feq hc76).1) k) ?_
    show own_G _ _ _ (T70.setTop (mkF m 116 #[.val (.int p0), .val (.ref b1), .val (.int (2 : Int32)), .val (.int (1 : Int32))] [])) _ _ _ _
    refine own_go (fun t k => XS.aloadN X70.here hx rfl (hb hby at_116) rfl rfl k) ?_
    show own_G _ _ _ (T70.setTop (mkF m 117 #[.val (.int p0), .val (.ref b1), .val (.int (2 : Int32)), .val (.int (1 : Int32))] [(.ref b1)])) _ _ _ _
    obtain ⟨cq77, kq77, q77a, q77b, q77c⟩ := isOf hZ rfl r70_0
    obtain ⟨_, _, ⟨T77, L77, k77, n77⟩, -, X77, ⟨Lc77, hQ77, l77, y77, z77⟩, st77⟩ := X70.virtualBack hx (y := (⟨"com/example/pacelint/pacelint/analysis/DifferenceBounds", "eventCount", "()I"⟩ : MethodName)) (z := (⟨"com/example/pacelint/pacelint/analysis/DifferenceBounds", "eventCount", "()I"⟩ : MethodName)) hown (mvT hZ (hw _ (List.mem_of_getElem? (i := 58) rfl))) (mvT hZ (hw _ (List.mem_of_getElem? (i := 59) rfl))) (notFace_of_selects (args := #[]) (mvT hZ (hw _ (List.mem_of_getElem? (i := 61) rfl)))) (mvT hZ (hw _ (List.mem_of_getElem? (i := 61) rfl))) (mvT hZ (hw _ (List.mem_of_getElem? (i := 60) rfl))) (by decide) (backOf (W := 0) (rm8 l Z a0 hw [] b1 mp12 (0 : Int32) T70.heap n0 Zs70 r70_2 f72 f73) hZ (hw _ (List.mem_of_getElem? (i := 62) rfl)) (hw _ (List.mem_of_getElem? (i := 2) rfl)) (by decide) (by decide)) q77a q77c (g := (mkF m 117 #[.val (.int p0), .val (.ref b1), .val (.int (2 : Int32)), .val (.int (1 : Int32))] [(.ref b1)])) rfl (by rw [hml]; rfl) (Steps.refl _) (argsL := []) (rest := []) (lenOf pd_1 rfl) rfl (by show 2 * 0 + _ ≤ _; exact Nat.le_of_eq rfl) (hb hby at_117) (fun _ _ => ⟨rfl, rfl, (by decide : 7 + 0 ≤ _), (by decide : 82 + 0 ≤ _)⟩)
    dsimp only [Pt.U, Pt.locs, Pt.cells, Pt.slots] at X77 l77 y77 z77 st77 hQ77
    subst l77 y77 z77
    obtain ⟨rfl, Nq77, eh77⟩ := hQ77
    have N77 := Fr.app N70 Nq77
    refine own_tr st77 ?_
    show own_G _ _ _ (T77.setTop (mkF m 120 #[.val (.int p0), .val (.ref b1), .val (.int (2 : Int32)), .val (.int (1 : Int32))] [(.int (0 : Int32))])) _ _ _ _
    have hc78 : (0 : Int32) = (0 : Int32) := (by decide)
    refine own_go (fun t k => XS.ifNo X77.here hx rfl (hb hby at_120) rfl ((if0 _ _).trans (teq hc78).2) k) ?_
    show own_G _ _ _ (T77.setTop (mkF m 123 #[.val (.int p0), .val (.ref b1), .val (.int (2 : Int32)), .val (.int (1 : Int32))] [])) _ _ _ _
    refine own_go (fun t k => XS.aloadN X77.here hx rfl (hb hby at_123) rfl rfl k) ?_
    show own_G _ _ _ (T77.setTop (mkF m 124 #[.val (.int p0), .val (.ref b1), .val (.int (2 : Int32)), .val (.int (1 : Int32))] [(.ref b1)])) _ _ _ _
    obtain ⟨cq79, kq79, q79a, q79b, q79c⟩ := isOf hZ eh77 r70_0
    obtain ⟨_, _, ⟨T79, L79, k79, n79⟩, -, X79, ⟨Lc79, hQ79, l79, y79, z79⟩, st79⟩ := X77.virtualBack hx (y := (⟨"com/example/pacelint/pacelint/analysis/DifferenceBounds", "boundCount", "()I"⟩ : MethodName)) (z := (⟨"com/example/pacelint/pacelint/analysis/DifferenceBounds", "boundCount", "()I"⟩ : MethodName)) hown (mvT hZ (hw _ (List.mem_of_getElem? (i := 74) rfl))) (mvT hZ (hw _ (List.mem_of_getElem? (i := 75) rfl))) (notFace_of_selects (args := #[]) (mvT hZ (hw _ (List.mem_of_getElem? (i := 77) rfl)))) (mvT hZ (hw _ (List.mem_of_getElem? (i := 77) rfl))) (mvT hZ (hw _ (List.mem_of_getElem? (i := 76) rfl))) (by decide) (backOf (W := 0) (rm10 l Z a0 hw [] b1 (0 : Int32) T70.heap n0 Zs70 r70_3) hZ (hw _ (List.mem_of_getElem? (i := 78) rfl)) (hw _ (List.mem_of_getElem? (i := 2) rfl)) (by decide) (by decide)) q79a q79c (g := (mkF m 124 #[.val (.int p0), .val (.ref b1), .val (.int (2 : Int32)), .val (.int (1 : Int32))] [(.ref b1)])) rfl (by rw [hml]; rfl) (Steps.refl _) (argsL := []) (rest := []) (lenOf pd_1 rfl) rfl (by show 2 * 0 + _ ≤ _; exact Nat.le_of_eq rfl) (hb hby at_124) (fun _ _ => ⟨rfl, eh77, (by decide : 7 + 0 ≤ _), (by decide : 82 + 0 ≤ _)⟩)
    dsimp only [Pt.U, Pt.locs, Pt.cells, Pt.slots] at X79 l79 y79 z79 st79 hQ79
    subst l79 y79 z79
    obtain ⟨rfl, Nq79, eh79⟩ := hQ79
    have N79 := Fr.app N77 Nq79
    refine own_tr st79 ?_
    show own_G _ _ _ (T79.setTop (mkF m 127 #[.val (.int p0), .val (.ref b1), .val (.int (2 : Int32)), .val (.int (1 : Int32))] [(.int (0 : Int32))])) _ _ _ _
    have hc80 : (0 : Int32) = (0 : Int32) := (by decide)
    refine own_go (fun t k => XS.ifNo X79.here hx rfl (hb hby at_127) rfl ((if0 _ _).trans (teq hc80).2) k) ?_
    show own_G _ _ _ (T79.setTop (mkF m 130 #[.val (.int p0), .val (.ref b1), .val (.int (2 : Int32)), .val (.int (1 : Int32))] [])) _ _ _ _
    refine own_go (fun t k => XS.iconst X79.here hx rfl (hb hby at_130) k) ?_
    show own_G _ _ _ (T79.setTop (mkF m 131 #[.val (.int p0), .val (.ref b1), .val (.int (2 : Int32)), .val (.int (1 : Int32))] [(.int (1 : Int32))])) _ _ _ _
    refine own_go (fun t k => XS.goto X79.here hx rfl (pc0 := 131) (pc' := 135) rfl (hb hby at_131) (by decide) (by decide) k) ?_
    show own_G _ _ _ (T79.setTop (mkF m 135 #[.val (.int p0), .val (.ref b1), .val (.int (2 : Int32)), .val (.int (1 : Int32))] [(.int (1 : Int32))])) _ _ _ _
    exact own_endN X79 hx hlk (t := .boolean) Bd.returns (by simp) (hb hby at_135) (by decide) (by decide) (Q := (Q0 Z p0 h0 n0)) (by rw [eh79]; exact ⟨rfl, N79, K70_0⟩)
  · rw [hk]
    show own_G _ _ _ (T12.setTop (mkF m 11 #[.val (.int p0), .val (.ref b1), .unset, .unset] [(.int (3 : Int32))])) _ _ _ _
    refine own_go (fun t k => XS.istoreN X12.here hx rfl (hb hby at_11) rfl (l' := #[.val (.int p0), .val (.ref b1), .val (.int (3 : Int32)), .unset]) rfl k) ?_
    show own_G _ _ _ (T12.setTop (mkF m 12 #[.val (.int p0), .val (.ref b1), .val (.int (3 : Int32)), .unset] [])) _ _ _ _
    refine own_go (fun t k => XS.aloadN X12.here hx rfl (hb hby at_12) rfl rfl k) ?_
    show own_G _ _ _ (T12.setTop (mkF m 13 #[.val (.int p0), .val (.ref b1), .val (.int (3 : Int32)), .unset] [(.ref b1)])) _ _ _ _
    obtain ⟨cq81, kq81, q81a, q81b, q81c⟩ := isOf hZ rfl r12_1
    obtain ⟨_, _, ⟨T81, L81, k81, n81⟩, -, X81, ⟨Lc81, hQ81, l81, y81, z81⟩, st81⟩ := X12.virtualBack hx (y := (⟨"com/example/pacelint/pacelint/analysis/DifferenceBounds", "pointCount", "()I"⟩ : MethodName)) (z := (⟨"com/example/pacelint/pacelint/analysis/DifferenceBounds", "pointCount", "()I"⟩ : MethodName)) hown (mvT hZ (hw _ (List.mem_of_getElem? (i := 42) rfl))) (mvT hZ (hw _ (List.mem_of_getElem? (i := 43) rfl))) (notFace_of_selects (args := #[]) (mvT hZ (hw _ (List.mem_of_getElem? (i := 45) rfl)))) (mvT hZ (hw _ (List.mem_of_getElem? (i := 45) rfl))) (mvT hZ (hw _ (List.mem_of_getElem? (i := 44) rfl))) (by decide) (backOf (W := 0) (rm5 l Z a0 hw [] b1 (0 : Int32) T12.heap n0 Zs12 r12_3) hZ (hw _ (List.mem_of_getElem? (i := 46) rfl)) (hw _ (List.mem_of_getElem? (i := 2) rfl)) (by decide) (by decide)) q81a q81c (g := (mkF m 13 #[.val (.int p0), .val (.ref b1), .val (.int (3 : Int32)), .unset] [(.ref b1)])) rfl (by rw [hml]; rfl) (Steps.refl _) (argsL := []) (rest := []) (lenOf pd_1 rfl) rfl (by show 2 * 0 + _ ≤ _; exact Nat.le_of_eq rfl) (hb hby at_13) (fun _ _ => ⟨rfl, rfl, (by decide : 7 + 0 ≤ _), (by decide : 82 + 0 ≤ _)⟩)
    dsimp only [Pt.U, Pt.locs, Pt.cells, Pt.slots] at X81 l81 y81 z81 st81 hQ81
    subst l81 y81 z81
    obtain ⟨rfl, Nq81, eh81⟩ := hQ81
    have N81 := Fr.app N12 Nq81
    refine own_tr st81 ?_
    show own_G _ _ _ (T81.setTop (mkF m 16 #[.val (.int p0), .val (.ref b1), .val (.int (3 : Int32)), .unset] [(.int (0 : Int32))])) _ _ _ _
    have hc82 : (0 : Int32) = (0 : Int32) := (by decide)
    refine own_go (fun t k => XS.ifNo X81.here hx rfl (hb hby at_16) rfl ((if0 _ _).trans (teq hc82).2) k) ?_
    show own_G _ _ _ (T81.setTop (mkF m 19 #[.val (.int p0), .val (.ref b1), .val (.int (3 : Int32)), .unset] [])) _ _ _ _
    refine own_go (fun t k => XS.iconst X81.here hx rfl (hb hby at_19) k) ?_
    show own_G _ _ _ (T81.setTop (mkF m 20 #[.val (.int p0), .val (.ref b1), .val (.int (3 : Int32)), .unset] [(.int (1 : Int32))])) _ _ _ _
    refine own_go (fun t k => XS.goto X81.here hx rfl (pc0 := 20) (pc' := 24) rfl (hb hby at_20) (by decide) (by decide) k) ?_
    show own_G _ _ _ (T81.setTop (mkF m 24 #[.val (.int p0), .val (.ref b1), .val (.int (3 : Int32)), .unset] [(.int (1 : Int32))])) _ _ _ _
    refine own_go (fun t k => XS.istoreN X81.here hx rfl (hb hby at_24) rfl (l' := #[.val (.int p0), .val (.ref b1), .val (.int (3 : Int32)), .val (.int (1 : Int32))]) rfl k) ?_
    show own_G _ _ _ (T81.setTop (mkF m 25 #[.val (.int p0), .val (.ref b1), .val (.int (3 : Int32)), .val (.int (1 : Int32))] [])) _ _ _ _
    refine own_go (fun t k => XS.iloadN X81.here hx rfl (hb hby at_25) rfl k) ?_
    show own_G _ _ _ (T81.setTop (mkF m 26 #[.val (.int p0), .val (.ref b1), .val (.int (3 : Int32)), .val (.int (1 : Int32))] [(.int (3 : Int32))])) _ _ _ _
    refine own_go (fun t k => XS.iconst X81.here hx rfl (hb hby at_26) k) ?_
    show own_G _ _ _ (T81.setTop (mkF m 27 #[.val (.int p0), .val (.ref b1), .val (.int (3 : Int32)), .val (.int (1 : Int32))] [(.int (1 : Int32)), (.int (3 : Int32))])) _ _ _ _
    have hc83 : ¬ ((3 : Int32) < (1 : Int32)) := (by decide)
    refine own_go (fun t k => XS.icmpNo X81.here hx rfl (hb hby at_27) rfl (flt hc83).1 k) ?_
    show own_G _ _ _ (T81.setTop (mkF m 30 #[.val (.int p0), .val (.ref b1), .val (.int (3 : Int32)), .val (.int (1 : Int32))] [])) _ _ _ _
    refine own_go (fun t k => XS.aloadN X81.here hx rfl (hb hby at_30) rfl rfl k) ?_
    show own_G _ _ _ (T81.setTop (mkF m 31 #[.val (.int p0), .val (.ref b1), .val (.int (3 : Int32)), .val (.int (1 : Int32))] [(.ref b1)])) _ _ _ _
    refine own_go (fun t k => XS.iconst X81.here hx rfl (hb hby at_31) k) ?_
    show own_G _ _ _ (T81.setTop (mkF m 32 #[.val (.int p0), .val (.ref b1), .val (.int (3 : Int32)), .val (.int (1 : Int32))] [(.int (0 : Int32)), (.ref b1)])) _ _ _ _
    obtain ⟨_, _, ⟨T84, L84, k84, n84⟩, -, X84, ⟨Lc84, hQ84, l84, y84, z84⟩, st84⟩ := Jvm.LawKit.callS X81 hx (y := (⟨"com/example/pacelint/pacelint/analysis/DifferenceBoundsNewPointPinLaw", "step", "(Lcom/example/pacelint/pacelint/analysis/DifferenceBounds;I)Z"⟩ : MethodName)) hown (mvT hZ (hw _ (List.mem_of_getElem? (i := 49) rfl))) (mvT hZ (hw _ (List.mem_of_getElem? (i := 50) rfl))) (mvT hZ (hw _ (List.mem_of_getElem? (i := 51) rfl))) (mvT hZ (hw _ (List.mem_of_getElem? (i := 52) rfl))) (by decide) (backOf (W := 0) (rm6 l Z a0 hw [] b1 (0 : Int32) mp12 T12.heap n0 Zs12 r12_1 r12_3 r12_2 r12_4 gg1) hZ (hw _ (List.mem_of_getElem? (i := 52) rfl)) (hw _ (List.mem_of_getElem? (i := 51) rfl)) (by decide) (by decide)) (g := (mkF m 32 #[.val (.int p0), .val (.ref b1), .val (.int (3 : Int32)), .val (.int (1 : Int32))] [(.int (0 : Int32)), (.ref b1)])) rfl (by rw [hml]; rfl) (argsL := [(.ref b1), (.int (0 : Int32))]) (rest := []) (lenOf pd_2 rfl) rfl (by show 2 * 0 + _ ≤ _; exact Nat.le_of_eq rfl) (hb hby at_32) (fun _ _ => ⟨rfl, eh81, (by decide : 7 + 0 ≤ _), (by decide : 82 + 0 ≤ _)⟩)
    dsimp only [Pt.U, Pt.locs, Pt.cells, Pt.slots] at X84 l84 y84 z84 st84 hQ84
    subst l84 y84 z84
    obtain ⟨rfl, Nq84, Kq84, r84_0, r84_1, r84_2, r84_3⟩ := hQ84
    have N84 := Fr.app N81 Nq84
    have f85 : Exa Z T84.heap b1 "com/example/pacelint/pacelint/analysis/DifferenceBounds" := r12_1.keep Kq84
    have f86 : Exa Z T84.heap mp12 "java/util/HashMap" := r12_5.keep Kq84
    have f87 : Fld Z T84.heap mp12 "java/util/HashMap" "size" "I" (.int (0 : Int32)) := r12_6.keep Kq84 (ninS (Ne.symm ne13) nin0)
    have Zs84 : n0 ≤ T84.heap.size := Nat.le_trans Zs12 Kq84.1
    have K84_0 : Keep h0 T84.heap [] := K12_0.trans Kq84 (allS (Or.inr sz1_0) all0)
    have r84_1' : Fld Z T84.heap b1 "com/example/pacelint/pacelint/analysis/DifferenceBounds" "pointCount" "I" (.int (1 : Int32)) := r84_1
    refine own_go (fun t k => st84 _ k) ?_
    show own_G _ _ _ (T84.setTop (mkF m 35 #[.val (.int p0), .val (.ref b1), .val (.int (3 : Int32)), .val (.int (1 : Int32))] [(.int (1 : Int32))])) _ _ _ _
    have hc88 : ¬ ((1 : Int32) = (0 : Int32)) := (by decide)
    refine own_go (fun t k => XS.ifNo X84.here hx rfl (hb hby at_35) rfl ((if0 _ _).trans (feq hc88).1) k) ?_
    show own_G _ _ _ (T84.setTop (mkF m 38 #[.val (.int p0), .val (.ref b1), .val (.int (3 : Int32)), .val (.int (1 : Int32))] [])) _ _ _ _
    refine own_go (fun t k => XS.iloadN X84.here hx rfl (hb hby at_38) rfl k) ?_
    show own_G _ _ _ (T84.setTop (mkF m 39 #[.val (.int p0), .val (.ref b1), .val (.int (3 : Int32)), .val (.int (1 : Int32))] [(.int (1 : Int32))])) _ _ _ _
    have hc89 : ¬ ((1 : Int32) = (0 : Int32)) := (by decide)
    refine own_go (fun t k => XS.ifNo X84.here hx rfl (hb hby at_39) rfl ((if0 _ _).trans (feq hc89).1) k) ?_
    show own_G _ _ _ (T84.setTop (mkF m 42 #[.val (.int p0), .val (.ref b1), .val (.int (3 : Int32)), .val (.int (1 : Int32))] [])) _ _ _ _
    refine own_go (fun t k => XS.iconst X84.here hx rfl (hb hby at_42) k) ?_
    show own_G _ _ _ (T84.setTop (mkF m 43 #[.val (.int p0), .val (.ref b1), .val (.int (3 : Int32)), .val (.int (1 : Int32))] [(.int (1 : Int32))])) _ _ _ _
    refine own_go (fun t k => XS.goto X84.here hx rfl (pc0 := 43) (pc' := 47) rfl (hb hby at_43) (by decide) (by decide) k) ?_
    show own_G _ _ _ (T84.setTop (mkF m 47 #[.val (.int p0), .val (.ref b1), .val (.int (3 : Int32)), .val (.int (1 : Int32))] [(.int (1 : Int32))])) _ _ _ _
    refine own_go (fun t k => XS.istoreN X84.here hx rfl (hb hby at_47) rfl (l' := #[.val (.int p0), .val (.ref b1), .val (.int (3 : Int32)), .val (.int (1 : Int32))]) rfl k) ?_
    show own_G _ _ _ (T84.setTop (mkF m 48 #[.val (.int p0), .val (.ref b1), .val (.int (3 : Int32)), .val (.int (1 : Int32))] [])) _ _ _ _
    refine own_go (fun t k => XS.iloadN X84.here hx rfl (hb hby at_48) rfl k) ?_
    show own_G _ _ _ (T84.setTop (mkF m 49 #[.val (.int p0), .val (.ref b1), .val (.int (3 : Int32)), .val (.int (1 : Int32))] [(.int (3 : Int32))])) _ _ _ _
    refine own_go (fun t k => XS.iconst X84.here hx rfl (hb hby at_49) k) ?_
    show own_G _ _ _ (T84.setTop (mkF m 50 #[.val (.int p0), .val (.ref b1), .val (.int (3 : Int32)), .val (.int (1 : Int32))] [(.int (2 : Int32)), (.int (3 : Int32))])) _ _ _ _
    have hc90 : ¬ ((3 : Int32) < (2 : Int32)) := (by decide)
    refine own_go (fun t k => XS.icmpNo X84.here hx rfl (hb hby at_50) rfl (flt hc90).1 k) ?_
    show own_G _ _ _ (T84.setTop (mkF m 53 #[.val (.int p0), .val (.ref b1), .val (.int (3 : Int32)), .val (.int (1 : Int32))] [])) _ _ _ _
    refine own_go (fun t k => XS.aloadN X84.here hx rfl (hb hby at_53) rfl rfl k) ?_
    show own_G _ _ _ (T84.setTop (mkF m 54 #[.val (.int p0), .val (.ref b1), .val (.int (3 : Int32)), .val (.int (1 : Int32))] [(.ref b1)])) _ _ _ _
    refine own_go (fun t k => XS.iconst X84.here hx rfl (hb hby at_54) k) ?_
    show own_G _ _ _ (T84.setTop (mkF m 55 #[.val (.int p0), .val (.ref b1), .val (.int (3 : Int32)), .val (.int (1 : Int32))] [(.int (1 : Int32)), (.ref b1)])) _ _ _ _
    obtain ⟨_, _, ⟨T91, L91, k91, n91⟩, -, X91, ⟨Lc91, hQ91, l91, y91, z91⟩, st91⟩ := Jvm.LawKit.callS X84 hx (y := (⟨"com/example/pacelint/pacelint/analysis/DifferenceBoundsNewPointPinLaw", "step", "(Lcom/example/pacelint/pacelint/analysis/DifferenceBounds;I)Z"⟩ : MethodName)) hown (mvT hZ (hw _ (List.mem_of_getElem? (i := 49) rfl))) (mvT hZ (hw _ (List.mem_of_getElem? (i := 50) rfl))) (mvT hZ (hw _ (List.mem_of_getElem? (i := 51) rfl))) (mvT hZ (hw _ (List.mem_of_getElem? (i := 52) rfl))) (by decide) (backOf (W := 0) (rm6 l Z a0 hw [] b1 (1 : Int32) mp12 T84.heap n0 Zs84 r84_0 r84_1' r84_2 r84_3 gg1) hZ (hw _ (List.mem_of_getElem? (i := 52) rfl)) (hw _ (List.mem_of_getElem? (i := 51) rfl)) (by decide) (by decide)) (g := (mkF m 55 #[.val (.int p0), .val (.ref b1), .val (.int (3 : Int32)), .val (.int (1 : Int32))] [(.int (1 : Int32)), (.ref b1)])) rfl (by rw [hml]; rfl) (argsL := [(.ref b1), (.int (1 : Int32))]) (rest := []) (lenOf pd_2 rfl) rfl (by show 2 * 0 + _ ≤ _; exact Nat.le_of_eq rfl) (hb hby at_55) (fun _ _ => ⟨rfl, rfl, (by decide : 7 + 0 ≤ _), (by decide : 82 + 0 ≤ _)⟩)
    dsimp only [Pt.U, Pt.locs, Pt.cells, Pt.slots] at X91 l91 y91 z91 st91 hQ91
    subst l91 y91 z91
    obtain ⟨rfl, Nq91, Kq91, r91_0, r91_1, r91_2, r91_3⟩ := hQ91
    have N91 := Fr.app N84 Nq91
    have f92 : Exa Z T91.heap b1 "com/example/pacelint/pacelint/analysis/DifferenceBounds" := r84_0.keep Kq91
    have f93 : Exa Z T91.heap mp12 "java/util/HashMap" := f86.keep Kq91
    have f94 : Fld Z T91.heap mp12 "java/util/HashMap" "size" "I" (.int (0 : Int32)) := f87.keep Kq91 (ninS (Ne.symm ne13) nin0)
    have Zs91 : n0 ≤ T91.heap.size := Nat.le_trans Zs84 Kq91.1
    have K91_0 : Keep h0 T91.heap [] := K84_0.trans Kq91 (allS (Or.inr sz1_0) all0)
    have r91_1' : Fld Z T91.heap b1 "com/example/pacelint/pacelint/analysis/DifferenceBounds" "pointCount" "I" (.int (2 : Int32)) := r91_1
    refine own_go (fun t k => st91 _ k) ?_
    show own_G _ _ _ (T91.setTop (mkF m 58 #[.val (.int p0), .val (.ref b1), .val (.int (3 : Int32)), .val (.int (1 : Int32))] [(.int (1 : Int32))])) _ _ _ _
    have hc95 : ¬ ((1 : Int32) = (0 : Int32)) := (by decide)
    refine own_go (fun t k => XS.ifNo X91.here hx rfl (hb hby at_58) rfl ((if0 _ _).trans (feq hc95).1) k) ?_
    show own_G _ _ _ (T91.setTop (mkF m 61 #[.val (.int p0), .val (.ref b1), .val (.int (3 : Int32)), .val (.int (1 : Int32))] [])) _ _ _ _
    refine own_go (fun t k => XS.iloadN X91.here hx rfl (hb hby at_61) rfl k) ?_
    show own_G _ _ _ (T91.setTop (mkF m 62 #[.val (.int p0), .val (.ref b1), .val (.int (3 : Int32)), .val (.int (1 : Int32))] [(.int (1 : Int32))])) _ _ _ _
    have hc96 : ¬ ((1 : Int32) = (0 : Int32)) := (by decide)
    refine own_go (fun t k => XS.ifNo X91.here hx rfl (hb hby at_62) rfl ((if0 _ _).trans (feq hc96).1) k) ?_
    show own_G _ _ _ (T91.setTop (mkF m 65 #[.val (.int p0), .val (.ref b1), .val (.int (3 : Int32)), .val (.int (1 : Int32))] [])) _ _ _ _
    refine own_go (fun t k => XS.iconst X91.here hx rfl (hb hby at_65) k) ?_
    show own_G _ _ _ (T91.setTop (mkF m 66 #[.val (.int p0), .val (.ref b1), .val (.int (3 : Int32)), .val (.int (1 : Int32))] [(.int (1 : Int32))])) _ _ _ _
    refine own_go (fun t k => XS.goto X91.here hx rfl (pc0 := 66) (pc' := 70) rfl (hb hby at_66) (by decide) (by decide) k) ?_
    show own_G _ _ _ (T91.setTop (mkF m 70 #[.val (.int p0), .val (.ref b1), .val (.int (3 : Int32)), .val (.int (1 : Int32))] [(.int (1 : Int32))])) _ _ _ _
    refine own_go (fun t k => XS.istoreN X91.here hx rfl (hb hby at_70) rfl (l' := #[.val (.int p0), .val (.ref b1), .val (.int (3 : Int32)), .val (.int (1 : Int32))]) rfl k) ?_
    show own_G _ _ _ (T91.setTop (mkF m 71 #[.val (.int p0), .val (.ref b1), .val (.int (3 : Int32)), .val (.int (1 : Int32))] [])) _ _ _ _
    refine own_go (fun t k => XS.iloadN X91.here hx rfl (hb hby at_71) rfl k) ?_
    show own_G _ _ _ (T91.setTop (mkF m 72 #[.val (.int p0), .val (.ref b1), .val (.int (3 : Int32)), .val (.int (1 : Int32))] [(.int (3 : Int32))])) _ _ _ _
    refine own_go (fun t k => XS.iconst X91.here hx rfl (hb hby at_72) k) ?_
    show own_G _ _ _ (T91.setTop (mkF m 73 #[.val (.int p0), .val (.ref b1), .val (.int (3 : Int32)), .val (.int (1 : Int32))] [(.int (3 : Int32)), (.int (3 : Int32))])) _ _ _ _
    have hc97 : ¬ ((3 : Int32) < (3 : Int32)) := (by decide)
    refine own_go (fun t k => XS.icmpNo X91.here hx rfl (hb hby at_73) rfl (flt hc97).1 k) ?_
    show own_G _ _ _ (T91.setTop (mkF m 76 #[.val (.int p0), .val (.ref b1), .val (.int (3 : Int32)), .val (.int (1 : Int32))] [])) _ _ _ _
    refine own_go (fun t k => XS.aloadN X91.here hx rfl (hb hby at_76) rfl rfl k) ?_
    show own_G _ _ _ (T91.setTop (mkF m 77 #[.val (.int p0), .val (.ref b1), .val (.int (3 : Int32)), .val (.int (1 : Int32))] [(.ref b1)])) _ _ _ _
    refine own_go (fun t k => XS.iconst X91.here hx rfl (hb hby at_77) k) ?_
    show own_G _ _ _ (T91.setTop (mkF m 78 #[.val (.int p0), .val (.ref b1), .val (.int (3 : Int32)), .val (.int (1 : Int32))] [(.int (2 : Int32)), (.ref b1)])) _ _ _ _
    obtain ⟨_, _, ⟨T98, L98, k98, n98⟩, -, X98, ⟨Lc98, hQ98, l98, y98, z98⟩, st98⟩ := Jvm.LawKit.callS X91 hx (y := (⟨"com/example/pacelint/pacelint/analysis/DifferenceBoundsNewPointPinLaw", "step", "(Lcom/example/pacelint/pacelint/analysis/DifferenceBounds;I)Z"⟩ : MethodName)) hown (mvT hZ (hw _ (List.mem_of_getElem? (i := 49) rfl))) (mvT hZ (hw _ (List.mem_of_getElem? (i := 50) rfl))) (mvT hZ (hw _ (List.mem_of_getElem? (i := 51) rfl))) (mvT hZ (hw _ (List.mem_of_getElem? (i := 52) rfl))) (by decide) (backOf (W := 0) (rm6 l Z a0 hw [] b1 (2 : Int32) mp12 T91.heap n0 Zs91 r91_0 r91_1' r91_2 r91_3 gg1) hZ (hw _ (List.mem_of_getElem? (i := 52) rfl)) (hw _ (List.mem_of_getElem? (i := 51) rfl)) (by decide) (by decide)) (g := (mkF m 78 #[.val (.int p0), .val (.ref b1), .val (.int (3 : Int32)), .val (.int (1 : Int32))] [(.int (2 : Int32)), (.ref b1)])) rfl (by rw [hml]; rfl) (argsL := [(.ref b1), (.int (2 : Int32))]) (rest := []) (lenOf pd_2 rfl) rfl (by show 2 * 0 + _ ≤ _; exact Nat.le_of_eq rfl) (hb hby at_78) (fun _ _ => ⟨rfl, rfl, (by decide : 7 + 0 ≤ _), (by decide : 82 + 0 ≤ _)⟩)
    dsimp only [Pt.U, Pt.locs, Pt.cells, Pt.slots] at X98 l98 y98 z98 st98 hQ98
    subst l98 y98 z98
    obtain ⟨rfl, Nq98, Kq98, r98_0, r98_1, r98_2, r98_3⟩ := hQ98
    have N98 := Fr.app N91 Nq98
    have f99 : Exa Z T98.heap b1 "com/example/pacelint/pacelint/analysis/DifferenceBounds" := r91_0.keep Kq98
    have f100 : Exa Z T98.heap mp12 "java/util/HashMap" := f93.keep Kq98
    have f101 : Fld Z T98.heap mp12 "java/util/HashMap" "size" "I" (.int (0 : Int32)) := f94.keep Kq98 (ninS (Ne.symm ne13) nin0)
    have Zs98 : n0 ≤ T98.heap.size := Nat.le_trans Zs91 Kq98.1
    have K98_0 : Keep h0 T98.heap [] := K91_0.trans Kq98 (allS (Or.inr sz1_0) all0)
    have r98_1' : Fld Z T98.heap b1 "com/example/pacelint/pacelint/analysis/DifferenceBounds" "pointCount" "I" (.int (3 : Int32)) := r98_1
    refine own_go (fun t k => st98 _ k) ?_
    show own_G _ _ _ (T98.setTop (mkF m 81 #[.val (.int p0), .val (.ref b1), .val (.int (3 : Int32)), .val (.int (1 : Int32))] [(.int (1 : Int32))])) _ _ _ _
    have hc102 : ¬ ((1 : Int32) = (0 : Int32)) := (by decide)
    refine own_go (fun t k => XS.ifNo X98.here hx rfl (hb hby at_81) rfl ((if0 _ _).trans (feq hc102).1) k) ?_
    show own_G _ _ _ (T98.setTop (mkF m 84 #[.val (.int p0), .val (.ref b1), .val (.int (3 : Int32)), .val (.int (1 : Int32))] [])) _ _ _ _
    refine own_go (fun t k => XS.iloadN X98.here hx rfl (hb hby at_84) rfl k) ?_
    show own_G _ _ _ (T98.setTop (mkF m 85 #[.val (.int p0), .val (.ref b1), .val (.int (3 : Int32)), .val (.int (1 : Int32))] [(.int (1 : Int32))])) _ _ _ _
    have hc103 : ¬ ((1 : Int32) = (0 : Int32)) := (by decide)
    refine own_go (fun t k => XS.ifNo X98.here hx rfl (hb hby at_85) rfl ((if0 _ _).trans (feq hc103).1) k) ?_
    show own_G _ _ _ (T98.setTop (mkF m 88 #[.val (.int p0), .val (.ref b1), .val (.int (3 : Int32)), .val (.int (1 : Int32))] [])) _ _ _ _
    refine own_go (fun t k => XS.iconst X98.here hx rfl (hb hby at_88) k) ?_
    show own_G _ _ _ (T98.setTop (mkF m 89 #[.val (.int p0), .val (.ref b1), .val (.int (3 : Int32)), .val (.int (1 : Int32))] [(.int (1 : Int32))])) _ _ _ _
    refine own_go (fun t k => XS.goto X98.here hx rfl (pc0 := 89) (pc' := 93) rfl (hb hby at_89) (by decide) (by decide) k) ?_
    show own_G _ _ _ (T98.setTop (mkF m 93 #[.val (.int p0), .val (.ref b1), .val (.int (3 : Int32)), .val (.int (1 : Int32))] [(.int (1 : Int32))])) _ _ _ _
    refine own_go (fun t k => XS.istoreN X98.here hx rfl (hb hby at_93) rfl (l' := #[.val (.int p0), .val (.ref b1), .val (.int (3 : Int32)), .val (.int (1 : Int32))]) rfl k) ?_
    show own_G _ _ _ (T98.setTop (mkF m 94 #[.val (.int p0), .val (.ref b1), .val (.int (3 : Int32)), .val (.int (1 : Int32))] [])) _ _ _ _
    refine own_go (fun t k => XS.aloadN X98.here hx rfl (hb hby at_94) rfl rfl k) ?_
    show own_G _ _ _ (T98.setTop (mkF m 95 #[.val (.int p0), .val (.ref b1), .val (.int (3 : Int32)), .val (.int (1 : Int32))] [(.ref b1)])) _ _ _ _
    refine own_go (fun t k => XS.iloadN X98.here hx rfl (hb hby at_95) rfl k) ?_
    show own_G _ _ _ (T98.setTop (mkF m 96 #[.val (.int p0), .val (.ref b1), .val (.int (3 : Int32)), .val (.int (1 : Int32))] [(.int (3 : Int32)), (.ref b1)])) _ _ _ _
    obtain ⟨_, _, ⟨T104, L104, k104, n104⟩, -, X104, ⟨Lc104, hQ104, l104, y104, z104⟩, st104⟩ := Jvm.LawKit.callS X98 hx (y := (⟨"com/example/pacelint/pacelint/analysis/DifferenceBoundsNewPointPinLaw", "step", "(Lcom/example/pacelint/pacelint/analysis/DifferenceBounds;I)Z"⟩ : MethodName)) hown (mvT hZ (hw _ (List.mem_of_getElem? (i := 49) rfl))) (mvT hZ (hw _ (List.mem_of_getElem? (i := 50) rfl))) (mvT hZ (hw _ (List.mem_of_getElem? (i := 51) rfl))) (mvT hZ (hw _ (List.mem_of_getElem? (i := 52) rfl))) (by decide) (backOf (W := 0) (rm6 l Z a0 hw [] b1 (3 : Int32) mp12 T98.heap n0 Zs98 r98_0 r98_1' r98_2 r98_3 gg1) hZ (hw _ (List.mem_of_getElem? (i := 52) rfl)) (hw _ (List.mem_of_getElem? (i := 51) rfl)) (by decide) (by decide)) (g := (mkF m 96 #[.val (.int p0), .val (.ref b1), .val (.int (3 : Int32)), .val (.int (1 : Int32))] [(.int (3 : Int32)), (.ref b1)])) rfl (by rw [hml]; rfl) (argsL := [(.ref b1), (.int (3 : Int32))]) (rest := []) (lenOf pd_2 rfl) rfl (by show 2 * 0 + _ ≤ _; exact Nat.le_of_eq rfl) (hb hby at_96) (fun _ _ => ⟨rfl, rfl, (by decide : 7 + 0 ≤ _), (by decide : 82 + 0 ≤ _)⟩)
    dsimp only [Pt.U, Pt.locs, Pt.cells, Pt.slots] at X104 l104 y104 z104 st104 hQ104
    subst l104 y104 z104
    obtain ⟨rfl, Nq104, Kq104, r104_0, r104_1, r104_2, r104_3⟩ := hQ104
    have N104 := Fr.app N98 Nq104
    have f105 : Exa Z T104.heap b1 "com/example/pacelint/pacelint/analysis/DifferenceBounds" := r98_0.keep Kq104
    have f106 : Exa Z T104.heap mp12 "java/util/HashMap" := f100.keep Kq104
    have f107 : Fld Z T104.heap mp12 "java/util/HashMap" "size" "I" (.int (0 : Int32)) := f101.keep Kq104 (ninS (Ne.symm ne13) nin0)
    have Zs104 : n0 ≤ T104.heap.size := Nat.le_trans Zs98 Kq104.1
    have K104_0 : Keep h0 T104.heap [] := K98_0.trans Kq104 (allS (Or.inr sz1_0) all0)
    have r104_1' : Fld Z T104.heap b1 "com/example/pacelint/pacelint/analysis/DifferenceBounds" "pointCount" "I" (.int (4 : Int32)) := r104_1
    refine own_go (fun t k => st104 _ k) ?_
    show own_G _ _ _ (T104.setTop (mkF m 99 #[.val (.int p0), .val (.ref b1), .val (.int (3 : Int32)), .val (.int (1 : Int32))] [(.int (1 : Int32))])) _ _ _ _
    have hc108 : ¬ ((1 : Int32) = (0 : Int32)) := (by decide)
    refine own_go (fun t k => XS.ifNo X104.here hx rfl (hb hby at_99) rfl ((if0 _ _).trans (feq hc108).1) k) ?_
    show own_G _ _ _ (T104.setTop (mkF m 102 #[.val (.int p0), .val (.ref b1), .val (.int (3 : Int32)), .val (.int (1 : Int32))] [])) _ _ _ _
    refine own_go (fun t k => XS.iloadN X104.here hx rfl (hb hby at_102) rfl k) ?_
    show own_G _ _ _ (T104.setTop (mkF m 103 #[.val (.int p0), .val (.ref b1), .val (.int (3 : Int32)), .val (.int (1 : Int32))] [(.int (1 : Int32))])) _ _ _ _
    have hc109 : ¬ ((1 : Int32) = (0 : Int32)) := (by decide)
    refine own_go (fun t k => XS.ifNo X104.here hx rfl (hb hby at_103) rfl ((if0 _ _).trans (feq hc109).1) k) ?_
    show own_G _ _ _ (T104.setTop (mkF m 106 #[.val (.int p0), .val (.ref b1), .val (.int (3 : Int32)), .val (.int (1 : Int32))] [])) _ _ _ _
    refine own_go (fun t k => XS.iconst X104.here hx rfl (hb hby at_106) k) ?_
    show own_G _ _ _ (T104.setTop (mkF m 107 #[.val (.int p0), .val (.ref b1), .val (.int (3 : Int32)), .val (.int (1 : Int32))] [(.int (1 : Int32))])) _ _ _ _
    refine own_go (fun t k => XS.goto X104.here hx rfl (pc0 := 107) (pc' := 111) rfl (hb hby at_107) (by decide) (by decide) k) ?_
    show own_G _ _ _ (T104.setTop (mkF m 111 #[.val (.int p0), .val (.ref b1), .val (.int (3 : Int32)), .val (.int (1 : Int32))] [(.int (1 : Int32))])) _ _ _ _
    refine own_go (fun t k => XS.istoreN X104.here hx rfl (hb hby at_111) rfl (l' := #[.val (.int p0), .val (.ref b1), .val (.int (3 : Int32)), .val (.int (1 : Int32))]) rfl k) ?_
    show own_G _ _ _ (T104.setTop (mkF m 112 #[.val (.int p0), .val (.ref b1), .val (.int (3 : Int32)), .val (.int (1 : Int32))] [])) _ _ _ _
    refine own_go (fun t k => XS.iloadN X104.here hx rfl (hb hby at_112) rfl k) ?_
    show own_G _ _ _ (T104.setTop (mkF m 113 #[.val (.int p0), .val (.ref b1), .val (.int (3 : Int32)), .val (.int (1 : Int32))] [(.int (1 : Int32))])) _ _ _ _
    have hc110 : ¬ ((1 : Int32) = (0 : Int32)) := (by decide)
    refine own_go (fun t k => XS.ifNo X104.here hx rfl (hb hby at_113) rfl ((if0 _ _).trans (feq hc110).1) k) ?_
    show own_G _ _ _ (T104.setTop (mkF m 116 #[.val (.int p0), .val (.ref b1), .val (.int (3 : Int32)), .val (.int (1 : Int32))] [])) _ _ _ _
    refine own_go (fun t k => XS.aloadN X104.here hx rfl (hb hby at_116) rfl rfl k) ?_
    show own_G _ _ _ (T104.setTop (mkF m 117 #[.val (.int p0), .val (.ref b1), .val (.int (3 : Int32)), .val (.int (1 : Int32))] [(.ref b1)])) _ _ _ _
    obtain ⟨cq111, kq111, q111a, q111b, q111c⟩ := isOf hZ rfl r104_0
    obtain ⟨_, _, ⟨T111, L111, k111, n111⟩, -, X111, ⟨Lc111, hQ111, l111, y111, z111⟩, st111⟩ := X104.virtualBack hx (y := (⟨"com/example/pacelint/pacelint/analysis/DifferenceBounds", "eventCount", "()I"⟩ : MethodName)) (z := (⟨"com/example/pacelint/pacelint/analysis/DifferenceBounds", "eventCount", "()I"⟩ : MethodName)) hown (mvT hZ (hw _ (List.mem_of_getElem? (i := 58) rfl))) (mvT hZ (hw _ (List.mem_of_getElem? (i := 59) rfl))) (notFace_of_selects (args := #[]) (mvT hZ (hw _ (List.mem_of_getElem? (i := 61) rfl)))) (mvT hZ (hw _ (List.mem_of_getElem? (i := 61) rfl))) (mvT hZ (hw _ (List.mem_of_getElem? (i := 60) rfl))) (by decide) (backOf (W := 0) (rm8 l Z a0 hw [] b1 mp12 (0 : Int32) T104.heap n0 Zs104 r104_2 f106 f107) hZ (hw _ (List.mem_of_getElem? (i := 62) rfl)) (hw _ (List.mem_of_getElem? (i := 2) rfl)) (by decide) (by decide)) q111a q111c (g := (mkF m 117 #[.val (.int p0), .val (.ref b1), .val (.int (3 : Int32)), .val (.int (1 : Int32))] [(.ref b1)])) rfl (by rw [hml]; rfl) (Steps.refl _) (argsL := []) (rest := []) (lenOf pd_1 rfl) rfl (by show 2 * 0 + _ ≤ _; exact Nat.le_of_eq rfl) (hb hby at_117) (fun _ _ => ⟨rfl, rfl, (by decide : 7 + 0 ≤ _), (by decide : 82 + 0 ≤ _)⟩)
    dsimp only [Pt.U, Pt.locs, Pt.cells, Pt.slots] at X111 l111 y111 z111 st111 hQ111
    subst l111 y111 z111
    obtain ⟨rfl, Nq111, eh111⟩ := hQ111
    have N111 := Fr.app N104 Nq111
    refine own_tr st111 ?_
    show own_G _ _ _ (T111.setTop (mkF m 120 #[.val (.int p0), .val (.ref b1), .val (.int (3 : Int32)), .val (.int (1 : Int32))] [(.int (0 : Int32))])) _ _ _ _
    have hc112 : (0 : Int32) = (0 : Int32) := (by decide)
    refine own_go (fun t k => XS.ifNo X111.here hx rfl (hb hby at_120) rfl ((if0 _ _).trans (teq hc112).2) k) ?_
    show own_G _ _ _ (T111.setTop (mkF m 123 #[.val (.int p0), .val (.ref b1), .val (.int (3 : Int32)), .val (.int (1 : Int32))] [])) _ _ _ _
    refine own_go (fun t k => XS.aloadN X111.here hx rfl (hb hby at_123) rfl rfl k) ?_
    show own_G _ _ _ (T111.setTop (mkF m 124 #[.val (.int p0), .val (.ref b1), .val (.int (3 : Int32)), .val (.int (1 : Int32))] [(.ref b1)])) _ _ _ _
    obtain ⟨cq113, kq113, q113a, q113b, q113c⟩ := isOf hZ eh111 r104_0
    obtain ⟨_, _, ⟨T113, L113, k113, n113⟩, -, X113, ⟨Lc113, hQ113, l113, y113, z113⟩, st113⟩ := X111.virtualBack hx (y := (⟨"com/example/pacelint/pacelint/analysis/DifferenceBounds", "boundCount", "()I"⟩ : MethodName)) (z := (⟨"com/example/pacelint/pacelint/analysis/DifferenceBounds", "boundCount", "()I"⟩ : MethodName)) hown (mvT hZ (hw _ (List.mem_of_getElem? (i := 74) rfl))) (mvT hZ (hw _ (List.mem_of_getElem? (i := 75) rfl))) (notFace_of_selects (args := #[]) (mvT hZ (hw _ (List.mem_of_getElem? (i := 77) rfl)))) (mvT hZ (hw _ (List.mem_of_getElem? (i := 77) rfl))) (mvT hZ (hw _ (List.mem_of_getElem? (i := 76) rfl))) (by decide) (backOf (W := 0) (rm10 l Z a0 hw [] b1 (0 : Int32) T104.heap n0 Zs104 r104_3) hZ (hw _ (List.mem_of_getElem? (i := 78) rfl)) (hw _ (List.mem_of_getElem? (i := 2) rfl)) (by decide) (by decide)) q113a q113c (g := (mkF m 124 #[.val (.int p0), .val (.ref b1), .val (.int (3 : Int32)), .val (.int (1 : Int32))] [(.ref b1)])) rfl (by rw [hml]; rfl) (Steps.refl _) (argsL := []) (rest := []) (lenOf pd_1 rfl) rfl (by show 2 * 0 + _ ≤ _; exact Nat.le_of_eq rfl) (hb hby at_124) (fun _ _ => ⟨rfl, eh111, (by decide : 7 + 0 ≤ _), (by decide : 82 + 0 ≤ _)⟩)
    dsimp only [Pt.U, Pt.locs, Pt.cells, Pt.slots] at X113 l113 y113 z113 st113 hQ113
    subst l113 y113 z113
    obtain ⟨rfl, Nq113, eh113⟩ := hQ113
    have N113 := Fr.app N111 Nq113
    refine own_tr st113 ?_
    show own_G _ _ _ (T113.setTop (mkF m 127 #[.val (.int p0), .val (.ref b1), .val (.int (3 : Int32)), .val (.int (1 : Int32))] [(.int (0 : Int32))])) _ _ _ _
    have hc114 : (0 : Int32) = (0 : Int32) := (by decide)
    refine own_go (fun t k => XS.ifNo X113.here hx rfl (hb hby at_127) rfl ((if0 _ _).trans (teq hc114).2) k) ?_
    show own_G _ _ _ (T113.setTop (mkF m 130 #[.val (.int p0), .val (.ref b1), .val (.int (3 : Int32)), .val (.int (1 : Int32))] [])) _ _ _ _
    refine own_go (fun t k => XS.iconst X113.here hx rfl (hb hby at_130) k) ?_
    show own_G _ _ _ (T113.setTop (mkF m 131 #[.val (.int p0), .val (.ref b1), .val (.int (3 : Int32)), .val (.int (1 : Int32))] [(.int (1 : Int32))])) _ _ _ _
    refine own_go (fun t k => XS.goto X113.here hx rfl (pc0 := 131) (pc' := 135) rfl (hb hby at_131) (by decide) (by decide) k) ?_
    show own_G _ _ _ (T113.setTop (mkF m 135 #[.val (.int p0), .val (.ref b1), .val (.int (3 : Int32)), .val (.int (1 : Int32))] [(.int (1 : Int32))])) _ _ _ _
    exact own_endN X113 hx hlk (t := .boolean) Bd.returns (by simp) (hb hby at_135) (by decide) (by decide) (Q := (Q0 Z p0 h0 n0)) (by rw [eh113]; exact ⟨rfl, N113, K104_0⟩)
set_option maxRecDepth 65536 in
set_option maxHeartbeats 40000000 in
theorem comes_1 {Post : Tables → Env → Array Value → State → Outcome → State → Prop} (hpost : ∀ tb e args s v u, (limb_1_1.after args s (.returned v) u = true ∧ limb_1_2.after args s (.returned v) u = true ∧ True) → FrameEnd s (.returned v) u (Jvm.fieldLocs frame_1_writes args s ++ Jvm.arrayLocs frame_1_arrays args s ++ Jvm.staticLocs frame_1_statics s) 24 256 → Post tb e args s (.returned v) u) :
    ArmFor flags0 classFile x code maxLocals ret World_1 tables_1 room_1 Calls_1 rest_1 Pre_1 Post := by
  intro l hfl _ _ p e ha hc hk s m args below hf hA hF happ hP
  obtain ⟨hcalls, hrest, hpre⟩ := hP
  obtain ⟨-, -, -, hnamed, -, -, -, hat⟩ := (Spec.applies_iff hf).mp happ
  obtain ⟨hg, hn⟩ := and_e (Cond.before_iff.mp (show (Jvm.Cond.and given_1 narrow_1).before args s = true from hpre))
  obtain ⟨g0, hg1⟩ := and_e hg
  obtain ⟨w0, rfl⟩ : ∃ w0 : Value, args = #[w0] := by
    have hs : args.size = 1 := by simpa [Cond.value, given_1] using g0
    obtain ⟨L⟩ := args
    match L, hs with
    | [w0], _ => exact ⟨w0, rfl⟩
  have hw := fun d (hd : d ∈ tables_1) => atoms_spec (ws := Jvm.Cond.code x code maxLocals ret :: tables_1) hat d (List.mem_cons_of_mem _ hd)
  have hfit : Fit s := fun {y c} hc i hi => by
    obtain ⟨ha, rfl⟩ := Array.getElem?_eq_some_iff.mp hc
    have q := List.all_eq_true.mp ((Array.all_eq_true_iff_forall_mem.mp hF) _ (Array.getElem_mem ha)) i (List.mem_range.mpr hi)
    simpa [Array.getElem?_eq_getElem hi] using q
  obtain ⟨i0, ei0⟩ := is_v hg1
  obtain rfl : w0 = (.int i0) := Option.some.inj ei0
  obtain ⟨n, o, h1, h2, h3, _, L, rfl, ⟨rfl, N, -⟩, hq⟩ := rm0 l s _ hw tables_1 i0  s.heap s.heap.size (Nat.le_refl _) p e ha hc hk s m _ below hf ((Spec.applies_iff_loose hf).mp happ).1 ⟨rfl, State.Warmed39.refl s, rfl⟩ trivial
  refine ⟨n, _, h1, h2, h3, hpost _ _ _ _ _ _ ⟨Cond.after_iff.mpr rfl, Cond.after_iff.mpr (eq_i res_at (Term.int_eval (1)) (rfl)), trivial⟩ ⟨hq.1, hq.2.1, (hq.2.2.sift fun y hy => Or.inr (N y hy)).mono (by decide) (by decide)⟩⟩
theorem main_1_1 : Claimed_1_1 := comes_1 fun _ _ _ _ _ _ h hF => ⟨h.1, hF⟩
theorem main_1_2 : Claimed_1_2 := comes_1 fun _ _ _ _ _ _ h hF => ⟨h.2.1, hF⟩
end Jvm.Pilot.@@N@@
namespace Jvm.Pilot.@@N@@
open Jvm Jvm.ClassFile Sem Op Lib Jvm.Free Jvm.Stand Jvm.Pilot.@@N@@.Jvm.D
/-! MADE BY PROGRAM (witnessworld.py) out of the Statement's table words and the real class files: 16 classes; the members and pool entries that the words name. The judged class is class 1, her method 2. -/
namespace start1
open Jvm.ClassFile
def u (s : String) : CpInfo := .utf8 (stringToUtf16 s)
/-- a pool by its gaps: so many unusable entries, then the entry; so many at the end -/
def gap : Nat → List CpInfo → List CpInfo
  | 0, r => r
  | n + 1, r => .unusable :: gap n r
def poolList (es : List (Nat × CpInfo)) (last : Nat) : List CpInfo := es.foldr (fun e r => gap e.1 (e.2 :: r)) (gap last [])
def pool (es : List (Nat × CpInfo)) (last : Nat) : Array CpInfo := ⟨poolList es last⟩
def fileOf (pool : Array CpInfo) (this : Nat) (attrs : Array Attribute := #[]) (ms : Array MethodInfo := #[]) (fl : Nat := 33) (sup : Nat := 0) (ifs : Array Nat := #[]) (fds : Array FieldInfo := #[]) : ClassFile where
  minorVersion := 0
  majorVersion := 65
  constantPool := pool
  accessFlags := fl
  thisClass := this
  superClass := sup
  interfaces := ifs
  fields := fds
  methods := ms
  attributes := attrs
def plain (name : String) (sup : Option ClassId) : Class where
  name := name
  kind := .ordinary
  loader := none
  accessFlags := 33
  super := sup
  interfaces := #[]
  cf := none
  fields := #[]
  methods := #[]
  instanceTypes := #[]
  staticTypes := #[]
  resolved := #[]
  callSites := []
  init := .initialized
  statics := none
  mirror := none

def pool0 : Array CpInfo := pool [(5, u "<init>"), (0, u "()V"), (1, .class_ 10), (1, u "java/lang/Object")] 113

def k0c0 : Code := { maxStack := 0, maxLocals := 1, code := object_method_1_code, exceptionTable := #[], attributes := #[] }
def k0m0 : Method := { name := "<init>", desc := "()V", sig := { parameters := [], returnType := none }, accessFlags := 1, code := some k0c0 }
/-- java/lang/Object -/
def k0 : Class := { plain "java/lang/Object" none with
  accessFlags := 33
  interfaces := #[]
  cf := some (fileOf pool0 8 #[] #[{ accessFlags := 1, nameIndex := 5, descriptorIndex := 6, attributes := #[] }] 33 0 #[] #[])
  fields := #[]
  methods := #[k0m0]
  instanceTypes := #[]
  staticTypes := #[]
  resolved := Array.replicate 124 none
  statics := none }

def pool1 : Array CpInfo := pool [(2, .class_ 4), (0, .nameAndType 5 6), (0, u "java/lang/Object"), (0, u "<init>"), (0, u "()V"), (0, .methodref 8 9), (0, .class_ 10), (0, .nameAndType 11 12), (0, u "com/example/pacelint/pacelint/analysis/DifferenceBounds"), (0, u "pointCount"), (0, u "()I"), (0, .methodref 8 14), (0, .nameAndType 15 12), (0, u "newPoint"), (0, .methodref 8 3), (0, .methodref 18 19), (0, .class_ 20), (0, .nameAndType 21 22), (0, u "com/example/pacelint/pacelint/analysis/DifferenceBoundsNewPointPinLaw"), (0, u "step"), (0, u "(Lcom/example/pacelint/pacelint/analysis/DifferenceBounds;I)Z"), (0, .methodref 8 24), (0, .nameAndType 25 12), (0, u "eventCount"), (0, .methodref 8 27), (0, .nameAndType 28 12), (0, u "boundCount"), (3, u "law"), (0, u "(I)Z")] 2

def k1m0 : Method := { name := "<init>", desc := "()V", sig := { parameters := [], returnType := none }, accessFlags := 2, code := none }
def k1c1 : Code := { maxStack := 3, maxLocals := 5, code := method_2_code, exceptionTable := #[], attributes := #[] }
def k1m1 : Method := { name := "step", desc := "(Lcom/example/pacelint/pacelint/analysis/DifferenceBounds;I)Z", sig := { parameters := [(.object "com/example/pacelint/pacelint/analysis/DifferenceBounds"), .int], returnType := some .boolean }, accessFlags := 10, code := some k1c1 }
def k1c2 : Code := { maxStack := 2, maxLocals := 4, code := code, exceptionTable := #[], attributes := #[] }
def k1m2 : Method := { name := "law", desc := "(I)Z", sig := { parameters := [.int], returnType := some .boolean }, accessFlags := 9, code := some k1c2 }
/-- com/example/pacelint/pacelint/analysis/DifferenceBoundsNewPointPinLaw -/
def k1 : Class := { plain "com/example/pacelint/pacelint/analysis/DifferenceBoundsNewPointPinLaw" (some 0) with
  accessFlags := 49
  interfaces := #[]
  cf := some (fileOf pool1 18 #[] #[{ accessFlags := 2, nameIndex := 5, descriptorIndex := 6, attributes := #[] }, { accessFlags := 10, nameIndex := 21, descriptorIndex := 22, attributes := #[] }, { accessFlags := 9, nameIndex := 32, descriptorIndex := 33, attributes := #[] }] 49 2 #[] #[])
  fields := #[]
  methods := #[k1m0, k1m1, k1m2]
  instanceTypes := #[]
  staticTypes := #[]
  resolved := Array.replicate 36 none
  statics := none }

def pool2 : Array CpInfo := pool [(12, .class_ 14), (1, u "com/example/pacelint/pacelint/model/Bounds"), (5, .class_ 21), (0, u "java/lang/Object")] 13

/-- com/example/pacelint/pacelint/model/Bounds -/
def k2 : Class := { plain "com/example/pacelint/pacelint/model/Bounds" (some 0) with
  accessFlags := 1537
  interfaces := #[]
  cf := some (fileOf pool2 12 #[] #[] 1537 20 #[] #[])
  fields := #[]
  methods := #[]
  instanceTypes := #[]
  staticTypes := #[]
  resolved := Array.replicate 35 none
  statics := none }

def pool3 : Array CpInfo := pool [(1, .methodref 2 3), (0, .class_ 4), (0, .nameAndType 5 6), (0, u "java/lang/Object"), (0, u "<init>"), (0, u "()V"), (0, .class_ 8), (0, u "java/util/HashMap"), (0, .methodref 7 3), (0, .fieldref 11 12), (0, .class_ 13), (0, .nameAndType 14 15), (0, u "com/example/pacelint/pacelint/analysis/DifferenceBounds"), (0, u "events"), (0, u "Ljava/util/Map;"), (0, .fieldref 11 17), (0, .nameAndType 18 19), (0, u "stating"), (0, u "I"), (0, .fieldref 11 21), (0, .nameAndType 22 23), (0, u "from"), (0, u "[I"), (0, .fieldref 11 25), (0, .nameAndType 26 23), (0, u "to"), (0, .class_ 28), (0, u "com/example/pacelint/pacelint/model/Duration"), (0, .fieldref 11 30), (0, .nameAndType 31 32), (0, u "limit"), (0, u "[Lcom/example/pacelint/pacelint/model/Duration;"), (0, .fieldref 11 34), (0, .nameAndType 35 23), (0, u "requirement"), (0, .fieldref 11 37), (0, .nameAndType 38 23), (0, u "firstBound"), (3, .nameAndType 44 45), (1, u "size"), (0, u "()I"), (0, .fieldref 11 47), (0, .nameAndType 48 19), (0, u "boundCount"), (23, .class_ 74), (1, u "java/util/Map"), (7, .fieldref 11 83), (0, .nameAndType 84 19), (0, u "pointCount"), (15, .interfaceMethodref 72 42), (8, u "newPoint"), (4, .class_ 115), (0, u "com/example/pacelint/pacelint/model/Bounds"), (0, u "NO_REQUIREMENT"), (14, u "eventCount")] 28

def k3c0 : Code := { maxStack := 5, maxLocals := 1, code := prog_9_method_1_code, exceptionTable := #[], attributes := #[] }
def k3m0 : Method := { name := "<init>", desc := "()V", sig := { parameters := [], returnType := none }, accessFlags := 1, code := some k3c0 }
def k3c1 : Code := { maxStack := 4, maxLocals := 1, code := prog_9_method_4_code, exceptionTable := #[], attributes := #[] }
def k3m1 : Method := { name := "newPoint", desc := "()I", sig := { parameters := [], returnType := some .int }, accessFlags := 1, code := some k3c1 }
def k3c2 : Code := { maxStack := 1, maxLocals := 1, code := prog_9_method_6_code, exceptionTable := #[], attributes := #[] }
def k3m2 : Method := { name := "eventCount", desc := "()I", sig := { parameters := [], returnType := some .int }, accessFlags := 1, code := some k3c2 }
def k3c3 : Code := { maxStack := 1, maxLocals := 1, code := prog_9_method_8_code, exceptionTable := #[], attributes := #[] }
def k3m3 : Method := { name := "pointCount", desc := "()I", sig := { parameters := [], returnType := some .int }, accessFlags := 1, code := some k3c3 }
def k3c4 : Code := { maxStack := 1, maxLocals := 1, code := prog_9_method_9_code, exceptionTable := #[], attributes := #[] }
def k3m4 : Method := { name := "boundCount", desc := "()I", sig := { parameters := [], returnType := some .int }, accessFlags := 1, code := some k3c4 }
/-- com/example/pacelint/pacelint/analysis/DifferenceBounds -/
def k3 : Class := { plain "com/example/pacelint/pacelint/analysis/DifferenceBounds" (some 0) with
  accessFlags := 33
  interfaces := #[2]
  cf := some (fileOf pool3 11 #[] #[{ accessFlags := 1, nameIndex := 5, descriptorIndex := 6, attributes := #[] }, { accessFlags := 1, nameIndex := 109, descriptorIndex := 45, attributes := #[] }, { accessFlags := 1, nameIndex := 131, descriptorIndex := 45, attributes := #[] }, { accessFlags := 1, nameIndex := 84, descriptorIndex := 45, attributes := #[] }, { accessFlags := 1, nameIndex := 48, descriptorIndex := 45, attributes := #[] }] 33 2 #[114] #[{ accessFlags := 25, nameIndex := 116, descriptorIndex := 19, attributes := #[] }, { accessFlags := 18, nameIndex := 14, descriptorIndex := 15, attributes := #[] }, { accessFlags := 2, nameIndex := 84, descriptorIndex := 19, attributes := #[] }, { accessFlags := 2, nameIndex := 18, descriptorIndex := 19, attributes := #[] }, { accessFlags := 2, nameIndex := 48, descriptorIndex := 19, attributes := #[] }, { accessFlags := 2, nameIndex := 22, descriptorIndex := 23, attributes := #[] }, { accessFlags := 2, nameIndex := 26, descriptorIndex := 23, attributes := #[] }, { accessFlags := 2, nameIndex := 31, descriptorIndex := 32, attributes := #[] }, { accessFlags := 2, nameIndex := 35, descriptorIndex := 23, attributes := #[] }, { accessFlags := 2, nameIndex := 38, descriptorIndex := 23, attributes := #[] }])
  fields := #[{ name := "NO_REQUIREMENT", type := .int, accessFlags := 25, slot := 0, constantValue := 0 }, { name := "events", type := (.object "java/util/Map"), accessFlags := 18, slot := 0, constantValue := 0 }, { name := "pointCount", type := .int, accessFlags := 2, slot := 1, constantValue := 0 }, { name := "stating", type := .int, accessFlags := 2, slot := 2, constantValue := 0 }, { name := "boundCount", type := .int, accessFlags := 2, slot := 3, constantValue := 0 }, { name := "from", type := (.array .int), accessFlags := 2, slot := 4, constantValue := 0 }, { name := "to", type := (.array .int), accessFlags := 2, slot := 5, constantValue := 0 }, { name := "limit", type := (.array (.object "com/example/pacelint/pacelint/model/Duration")), accessFlags := 2, slot := 6, constantValue := 0 }, { name := "requirement", type := (.array .int), accessFlags := 2, slot := 7, constantValue := 0 }, { name := "firstBound", type := (.array .int), accessFlags := 2, slot := 8, constantValue := 0 }]
  methods := #[k3m0, k3m1, k3m2, k3m3, k3m4]
  instanceTypes := #[(.object "java/util/Map"), .int, .int, .int, (.array .int), (.array .int), (.array (.object "com/example/pacelint/pacelint/model/Duration")), (.array .int), (.array .int)]
  staticTypes := #[.int]
  resolved := Array.replicate 160 none
  statics := none }

def pool4 : Array CpInfo := pool [(2, .class_ 4), (1, u "java/util/Map"), (31, .class_ 37), (0, u "java/util/Map$Entry"), (55, .class_ 94), (0, u "java/lang/Object"), (25, u "size"), (0, u "()I")] 141

def k4m0 : Method := { name := "size", desc := "()I", sig := { parameters := [], returnType := some .int }, accessFlags := 1025, code := none }
/-- java/util/Map -/
def k4 : Class := { plain "java/util/Map" (some 0) with
  accessFlags := 1537
  interfaces := #[]
  cf := some (fileOf pool4 2 #[.nestMembers #[36]] #[{ accessFlags := 1025, nameIndex := 120, descriptorIndex := 121, attributes := #[] }] 1537 93 #[] #[])
  fields := #[]
  methods := #[k4m0]
  instanceTypes := #[]
  staticTypes := #[]
  resolved := Array.replicate 263 none
  statics := none }

def pool5 : Array CpInfo := pool [(1, .methodref 2 3), (0, .class_ 4), (0, .nameAndType 5 6), (0, u "java/lang/Object"), (0, u "<init>"), (0, u "()V"), (1, .class_ 10), (1, u "java/util/AbstractMap"), (42, .class_ 54), (0, u "java/util/Map"), (9, u "keySet"), (0, u "Ljava/util/Set;"), (0, .class_ 67), (0, u "java/util/AbstractMap$1"), (5, u "values"), (0, u "Ljava/util/Collection;"), (0, .class_ 76), (0, u "java/util/AbstractMap$2"), (104, .class_ 182), (0, u "java/util/AbstractMap$ViewCollection"), (0, .class_ 184), (0, u "java/util/AbstractMap$SimpleImmutableEntry"), (0, .class_ 186), (0, u "java/util/AbstractMap$SimpleEntry"), (0, .class_ 188), (0, u "java/util/AbstractMap$2$1"), (0, .class_ 190), (0, u "java/util/AbstractMap$1$1")] 5

def k5c0 : Code := { maxStack := 1, maxLocals := 1, code := jdk_71_method_1_code, exceptionTable := #[], attributes := #[] }
def k5m0 : Method := { name := "<init>", desc := "()V", sig := { parameters := [], returnType := none }, accessFlags := 4, code := some k5c0 }
/-- java/util/AbstractMap -/
def k5 : Class := { plain "java/util/AbstractMap" (some 0) with
  accessFlags := 1057
  interfaces := #[4]
  cf := some (fileOf pool5 8 #[.nestMembers #[181, 183, 185, 75, 187, 66, 189]] #[{ accessFlags := 4, nameIndex := 5, descriptorIndex := 6, attributes := #[] }] 1057 2 #[53] #[{ accessFlags := 128, nameIndex := 64, descriptorIndex := 65, attributes := #[] }, { accessFlags := 128, nameIndex := 73, descriptorIndex := 74, attributes := #[] }])
  fields := #[{ name := "keySet", type := (.object "java/util/Set"), accessFlags := 128, slot := 0, constantValue := 0 }, { name := "values", type := (.object "java/util/Collection"), accessFlags := 128, slot := 1, constantValue := 0 }]
  methods := #[k5m0]
  instanceTypes := #[(.object "java/util/Set"), (.object "java/util/Collection")]
  staticTypes := #[]
  resolved := Array.replicate 196 none
  statics := none }

def pool6 : Array CpInfo := pool [(1, .class_ 2), (0, u "java/lang/Cloneable"), (0, .class_ 4), (0, u "java/lang/Object")] 2

/-- java/lang/Cloneable -/
def k6 : Class := { plain "java/lang/Cloneable" (some 0) with
  accessFlags := 1537
  interfaces := #[]
  cf := some (fileOf pool6 1 #[] #[] 1537 3 #[] #[])
  fields := #[]
  methods := #[]
  instanceTypes := #[]
  staticTypes := #[]
  resolved := Array.replicate 7 none
  statics := none }

def pool7 : Array CpInfo := pool [(1, .class_ 2), (0, u "java/io/Serializable"), (0, .class_ 4), (0, u "java/lang/Object")] 2

/-- java/io/Serializable -/
def k7 : Class := { plain "java/io/Serializable" (some 0) with
  accessFlags := 1537
  interfaces := #[]
  cf := some (fileOf pool7 1 #[] #[] 1537 3 #[] #[])
  fields := #[]
  methods := #[]
  instanceTypes := #[]
  staticTypes := #[]
  resolved := Array.replicate 7 none
  statics := none }

def pool8 : Array CpInfo := pool [(6, u "()I"), (33, .class_ 41), (0, u "java/util/HashMap"), (1, .methodref 44 45), (0, .class_ 46), (0, .nameAndType 47 48), (0, u "java/util/AbstractMap"), (0, u "<init>"), (0, u "()V"), (32, .fieldref 40 82), (0, .nameAndType 83 84), (0, u "loadFactor"), (0, u "F"), (5, u "threshold"), (0, u "I"), (0, .float 1061158912), (8, .class_ 103), (1, u "java/util/Map"), (0, u "size"), (2, u "table"), (0, u "[Ljava/util/HashMap$Node;"), (14, u "entrySet"), (32, .fieldref 40 157), (0, .nameAndType 104 91), (5, .class_ 165), (1, u "java/util/HashMap$Node"), (14, .class_ 181), (0, u "java/util/HashMap$TreeNode"), (22, u "modCount"), (37, u "Ljava/util/Set;"), (0, .class_ 244), (0, u "java/util/HashMap$KeySet"), (18, .class_ 264), (0, u "java/util/HashMap$Values"), (3, .class_ 269), (0, u "java/util/HashMap$EntrySet"), (76, .class_ 348), (1, u "java/util/HashMap$UnsafeHolder"), (43, .class_ 393), (0, u "java/lang/Cloneable"), (0, .class_ 395), (0, u "java/io/Serializable"), (0, u "serialVersionUID"), (0, u "J"), (3, u "DEFAULT_INITIAL_CAPACITY"), (1, u "MAXIMUM_CAPACITY"), (0, u "DEFAULT_LOAD_FACTOR"), (0, u "TREEIFY_THRESHOLD"), (1, u "UNTREEIFY_THRESHOLD"), (1, u "MIN_TREEIFY_CAPACITY"), (186, .class_ 597), (0, u "java/util/HashMap$EntrySpliterator"), (0, .class_ 599), (0, u "java/util/HashMap$ValueSpliterator"), (0, .class_ 601), (0, u "java/util/HashMap$KeySpliterator"), (0, .class_ 603), (0, u "java/util/HashMap$HashMapSpliterator"), (0, .class_ 605), (0, u "java/util/HashMap$EntryIterator"), (0, .class_ 607), (0, u "java/util/HashMap$ValueIterator"), (0, .class_ 609), (0, u "java/util/HashMap$KeyIterator"), (0, .class_ 611), (0, u "java/util/HashMap$HashIterator")] 17

def k8c0 : Code := { maxStack := 2, maxLocals := 1, code := jdk_69_method_7_code, exceptionTable := #[], attributes := #[] }
def k8m0 : Method := { name := "<init>", desc := "()V", sig := { parameters := [], returnType := none }, accessFlags := 1, code := some k8c0 }
def k8c1 : Code := { maxStack := 1, maxLocals := 1, code := jdk_69_method_10_code, exceptionTable := #[], attributes := #[] }
def k8m1 : Method := { name := "size", desc := "()I", sig := { parameters := [], returnType := some .int }, accessFlags := 1, code := some k8c1 }
/-- java/util/HashMap -/
def k8 : Class := { plain "java/util/HashMap" (some 5) with
  accessFlags := 33
  interfaces := #[4, 6, 7]
  cf := some (fileOf pool8 40 #[.nestMembers #[180, 596, 598, 600, 602, 604, 606, 608, 610, 346, 268, 263, 243, 163]] #[{ accessFlags := 1, nameIndex := 47, descriptorIndex := 48, attributes := #[] }, { accessFlags := 1, nameIndex := 104, descriptorIndex := 6, attributes := #[] }] 33 44 #[101, 392, 394] #[{ accessFlags := 26, nameIndex := 396, descriptorIndex := 397, attributes := #[] }, { accessFlags := 24, nameIndex := 401, descriptorIndex := 91, attributes := #[] }, { accessFlags := 24, nameIndex := 403, descriptorIndex := 91, attributes := #[] }, { accessFlags := 24, nameIndex := 404, descriptorIndex := 84, attributes := #[] }, { accessFlags := 24, nameIndex := 405, descriptorIndex := 91, attributes := #[] }, { accessFlags := 24, nameIndex := 407, descriptorIndex := 91, attributes := #[] }, { accessFlags := 24, nameIndex := 409, descriptorIndex := 91, attributes := #[] }, { accessFlags := 128, nameIndex := 107, descriptorIndex := 108, attributes := #[] }, { accessFlags := 128, nameIndex := 123, descriptorIndex := 242, attributes := #[] }, { accessFlags := 128, nameIndex := 104, descriptorIndex := 91, attributes := #[] }, { accessFlags := 128, nameIndex := 204, descriptorIndex := 91, attributes := #[] }, { accessFlags := 0, nameIndex := 90, descriptorIndex := 91, attributes := #[] }, { accessFlags := 16, nameIndex := 83, descriptorIndex := 84, attributes := #[] }])
  fields := #[{ name := "serialVersionUID", type := .long, accessFlags := 26, slot := 0, constantValue := 0 }, { name := "DEFAULT_INITIAL_CAPACITY", type := .int, accessFlags := 24, slot := 1, constantValue := 0 }, { name := "MAXIMUM_CAPACITY", type := .int, accessFlags := 24, slot := 2, constantValue := 0 }, { name := "DEFAULT_LOAD_FACTOR", type := .float, accessFlags := 24, slot := 3, constantValue := 0 }, { name := "TREEIFY_THRESHOLD", type := .int, accessFlags := 24, slot := 4, constantValue := 0 }, { name := "UNTREEIFY_THRESHOLD", type := .int, accessFlags := 24, slot := 5, constantValue := 0 }, { name := "MIN_TREEIFY_CAPACITY", type := .int, accessFlags := 24, slot := 6, constantValue := 0 }, { name := "table", type := (.array (.object "java/util/HashMap$Node")), accessFlags := 128, slot := 2, constantValue := 0 }, { name := "entrySet", type := (.object "java/util/Set"), accessFlags := 128, slot := 3, constantValue := 0 }, { name := "size", type := .int, accessFlags := 128, slot := 4, constantValue := 0 }, { name := "modCount", type := .int, accessFlags := 128, slot := 5, constantValue := 0 }, { name := "threshold", type := .int, accessFlags := 0, slot := 6, constantValue := 0 }, { name := "loadFactor", type := .float, accessFlags := 16, slot := 7, constantValue := 0 }]
  methods := #[k8m0, k8m1]
  instanceTypes := #[(.object "java/util/Set"), (.object "java/util/Collection"), (.array (.object "java/util/HashMap$Node")), (.object "java/util/Set"), .int, .int, .int, .float]
  staticTypes := #[.long, .int, .int, .float, .int, .int, .int]
  resolved := Array.replicate 629 none
  statics := none }

def pool9 : Array CpInfo := pool [(1, .class_ 2), (0, u "java/lang/Comparable"), (0, .class_ 4), (0, u "java/lang/Object")] 7

/-- java/lang/Comparable -/
def k9 : Class := { plain "java/lang/Comparable" (some 0) with
  accessFlags := 1537
  interfaces := #[]
  cf := some (fileOf pool9 1 #[] #[] 1537 3 #[] #[])
  fields := #[]
  methods := #[]
  instanceTypes := #[]
  staticTypes := #[]
  resolved := Array.replicate 12 none
  statics := none }

def pool10 : Array CpInfo := pool [(2, .class_ 4), (1, u "java/lang/Object"), (3, .class_ 10), (1, u "com/example/pacelint/pacelint/model/Duration"), (0, u "millis"), (0, u "Ljava/math/BigDecimal;"), (25, u "TEXT"), (0, u "Ljava/util/regex/Pattern;"), (84, u "ZERO"), (2, u "Lcom/example/pacelint/pacelint/model/Duration;"), (6, .class_ 135), (0, u "java/lang/Comparable"), (0, u "MAX_TEXT_LENGTH"), (0, u "I"), (2, u "UNITS"), (0, u "Ljava/lang/String;")] 43

/-- com/example/pacelint/pacelint/model/Duration -/
def k10 : Class := { plain "com/example/pacelint/pacelint/model/Duration" (some 0) with
  accessFlags := 33
  interfaces := #[9]
  cf := some (fileOf pool10 8 #[] #[] 33 2 #[134] #[{ accessFlags := 25, nameIndex := 124, descriptorIndex := 127, attributes := #[] }, { accessFlags := 25, nameIndex := 136, descriptorIndex := 137, attributes := #[] }, { accessFlags := 26, nameIndex := 140, descriptorIndex := 141, attributes := #[] }, { accessFlags := 26, nameIndex := 38, descriptorIndex := 39, attributes := #[] }, { accessFlags := 18, nameIndex := 11, descriptorIndex := 12, attributes := #[] }])
  fields := #[{ name := "ZERO", type := (.object "com/example/pacelint/pacelint/model/Duration"), accessFlags := 25, slot := 0, constantValue := 0 }, { name := "MAX_TEXT_LENGTH", type := .int, accessFlags := 25, slot := 1, constantValue := 0 }, { name := "UNITS", type := (.object "java/lang/String"), accessFlags := 26, slot := 2, constantValue := 0 }, { name := "TEXT", type := (.object "java/util/regex/Pattern"), accessFlags := 26, slot := 3, constantValue := 0 }, { name := "millis", type := (.object "java/math/BigDecimal"), accessFlags := 18, slot := 0, constantValue := 0 }]
  methods := #[]
  instanceTypes := #[(.object "java/math/BigDecimal")]
  staticTypes := #[(.object "com/example/pacelint/pacelint/model/Duration"), .int, (.object "java/lang/String"), (.object "java/util/regex/Pattern")]
  resolved := Array.replicate 185 none
  statics := none }

/-- the primitive byte -/
def k11 : Class := { plain "byte" none with kind := .primitive 'B', accessFlags := 0x411 }
/-- [B -/
def k12 : Class := { plain "[B" (some 0) with kind := .array 11 .byte, interfaces := #[6, 7], accessFlags := 1041 }

/-- the primitive int -/
def k13 : Class := { plain "int" none with kind := .primitive 'I', accessFlags := 0x411 }
/-- [I -/
def k14 : Class := { plain "[I" (some 0) with kind := .array 13 .int, interfaces := #[6, 7], accessFlags := 1041 }

/-- [Lcom/example/pacelint/pacelint/model/Duration; -/
def k15 : Class := { plain "[Lcom/example/pacelint/pacelint/model/Duration;" (some 0) with kind := .array 10 (.object "com/example/pacelint/pacelint/model/Duration"), interfaces := #[6, 7], accessFlags := 1041 }

def heap : Heap := #[]
def classes : Array Class := #[k0, k1, k2, k3, k4, k5, k6, k7, k8, k9, k10, k11, k12, k13, k14, k15]
def interned : List (Array UInt16 × Addr) := []
def slotsUsed : Nat := 0
def theMethod : MethodId := ⟨1, 2⟩
def args0 : Array Value := #[.int 6]
def aboutOver (below : List Frame) : State where
  vm := { classes := classes, interned := interned.toArray }
  heap := heap
  slotsUsed := slotsUsed
  threads := #[{ frames := .invoking theMethod args0 :: below }]
def below0 : List Frame := [.native { method := ⟨0, 0⟩, args := #[] }]
def about1 : State := aboutOver below0
def p0 : Program := .bare "" "" ""
def e0 : Env := launch0.env 0 0 0
theorem w_frames : about1.frames = Frame.invoking theMethod args0 :: below0 := rfl
set_option maxRecDepth 65536 in
theorem w_args : argsFit about1.vm theMethod args0 = true := by decide +kernel
set_option maxRecDepth 65536 in
theorem w_heap : heapFits about1 = true := by decide +kernel
set_option maxRecDepth 65536 in
theorem w_runnable : about1.curStatus? = some .runnable := by decide +kernel
set_option maxRecDepth 65536 in
theorem w_alone : about1.alone = true := by decide +kernel
set_option maxRecDepth 65536 in
theorem w_named : about1.methodNamed? x = some theMethod := by decide +kernel
set_option maxRecDepth 65536 in
theorem w_hears : about1.hears theMethod below0 = true := by decide +kernel
set_option maxRecDepth 65536 in
theorem w_ripe : about1.ripe theMethod args0 below0 = true := by decide +kernel
theorem w_running : about1.status = .running := rfl
set_option maxRecDepth 65536 in
theorem w_room : about1.hasRoom e0.platform room_1 = true :=
  launch0.hasRoom_least _ room_1 (by decide +kernel) (by decide +kernel) (by decide +kernel) (by decide +kernel) (by decide +kernel) (by decide +kernel)
theorem allAtoms_all (ts : List Jvm.Cond) (a : Array Jvm.Value) (st : Jvm.State) : (allAtoms ts).before a st = ts.all (fun c => c.before a st) := by
  induction ts with
  | nil => rfl
  | cons c t ih =>
    show (Jvm.Cond.and c (allAtoms t)).before a st = _
    rw [Jvm.Cond.before_and, ih, List.all_cons]
def words1 : List Jvm.Cond := Jvm.Cond.code x code maxLocals ret :: tables_1
/-- a 'code' word, met by the world's own term for the bytes: nothing is compared byte by byte -/
theorem code_word {y : MethodName} {bytes : ByteArray} {mx : Nat} {rt : Option FieldType} {a : Array Value} {s : State} {m : MethodId} {meth : Method} {c : Code} (h1 : s.methodNamed? y = some m) (h2 : s.vm.method? m = some meth) (h3 : meth.code = some c) (h4 : c.code = bytes)
    (h5 : (c.maxLocals == mx && c.exceptionTable.isEmpty && decide (c.maxStack ≤ mostOperands) && decide (meth.sig.returnType = rt) && !meth.locks && decide (parseMethodDescriptor y.desc = some meth.sig)) = true) : (Jvm.Cond.code y bytes mx rt).before a s = true := by
  simp only [Bool.and_eq_true, beq_iff_eq, Bool.not_eq_true', decide_eq_true_eq] at h5
  obtain ⟨⟨⟨⟨⟨g1, g2⟩, g3⟩, g4⟩, g5⟩, g6⟩ := h5
  simp [Cond.before, Cond.holds, Cond.value, h1, h2, h3, h4, g1, g2, g3, g4, g5, g6]
def isCode : Jvm.Cond → Bool
  | .code _ _ _ _ => true
  | _ => false
theorem all_split {L : List Jvm.Cond} {P : Jvm.Cond → Bool} (h1 : L.all (fun c => isCode c || P c) = true) (h2 : ∀ c ∈ L.filter isCode, P c = true) : L.all P = true := by
  refine List.all_eq_true.mpr fun c hc => ?_
  have h := List.all_eq_true.mp h1 c hc
  rcases Bool.eq_false_or_eq_true (isCode c) with hi | hi
  · exact h2 c (List.mem_filter.mpr ⟨hc, hi⟩)
  · simpa [hi] using h
set_option maxRecDepth 65536 in
theorem w_c0 : (Jvm.Cond.code x code maxLocals ret).before args0 about1 = true := code_word (m := ⟨1, 2⟩) (meth := k1m2) (c := k1c2) (by decide +kernel) rfl rfl rfl (by decide +kernel)
set_option maxRecDepth 65536 in
theorem w_c1 : (Jvm.Cond.code ({ cls := "com/example/pacelint/pacelint/analysis/DifferenceBounds", name := "<init>", desc := "()V" } : Jvm.MethodName) prog_9_method_1_code (1 : Nat) (Option.none : Option Jvm.ClassFile.FieldType)).before args0 about1 = true := code_word (m := ⟨3, 0⟩) (meth := k3m0) (c := k3c0) (by decide +kernel) rfl rfl rfl (by decide +kernel)
set_option maxRecDepth 65536 in
theorem w_c2 : (Jvm.Cond.code ({ cls := "java/lang/Object", name := "<init>", desc := "()V" } : Jvm.MethodName) object_method_1_code (1 : Nat) (Option.none : Option Jvm.ClassFile.FieldType)).before args0 about1 = true := code_word (m := ⟨0, 0⟩) (meth := k0m0) (c := k0c0) (by decide +kernel) rfl rfl rfl (by decide +kernel)
set_option maxRecDepth 65536 in
theorem w_c3 : (Jvm.Cond.code ({ cls := "java/util/HashMap", name := "<init>", desc := "()V" } : Jvm.MethodName) jdk_69_method_7_code (1 : Nat) (Option.none : Option Jvm.ClassFile.FieldType)).before args0 about1 = true := code_word (m := ⟨8, 0⟩) (meth := k8m0) (c := k8c0) (by decide +kernel) rfl rfl rfl (by decide +kernel)
set_option maxRecDepth 65536 in
theorem w_c4 : (Jvm.Cond.code ({ cls := "java/util/AbstractMap", name := "<init>", desc := "()V" } : Jvm.MethodName) jdk_71_method_1_code (1 : Nat) (Option.none : Option Jvm.ClassFile.FieldType)).before args0 about1 = true := code_word (m := ⟨5, 0⟩) (meth := k5m0) (c := k5c0) (by decide +kernel) rfl rfl rfl (by decide +kernel)
set_option maxRecDepth 65536 in
theorem w_c5 : (Jvm.Cond.code ({ cls := "com/example/pacelint/pacelint/analysis/DifferenceBounds", name := "pointCount", desc := "()I" } : Jvm.MethodName) prog_9_method_8_code (1 : Nat) (Option.some Jvm.ClassFile.FieldType.int)).before args0 about1 = true := code_word (m := ⟨3, 3⟩) (meth := k3m3) (c := k3c3) (by decide +kernel) rfl rfl rfl (by decide +kernel)
set_option maxRecDepth 65536 in
theorem w_c6 : (Jvm.Cond.code ({ cls := "com/example/pacelint/pacelint/analysis/DifferenceBoundsNewPointPinLaw", name := "step", desc := "(Lcom/example/pacelint/pacelint/analysis/DifferenceBounds;I)Z" } : Jvm.MethodName) method_2_code (5 : Nat) (Option.some Jvm.ClassFile.FieldType.boolean)).before args0 about1 = true := code_word (m := ⟨1, 1⟩) (meth := k1m1) (c := k1c1) (by decide +kernel) rfl rfl rfl (by decide +kernel)
set_option maxRecDepth 65536 in
theorem w_c7 : (Jvm.Cond.code ({ cls := "com/example/pacelint/pacelint/analysis/DifferenceBounds", name := "newPoint", desc := "()I" } : Jvm.MethodName) prog_9_method_4_code (1 : Nat) (Option.some Jvm.ClassFile.FieldType.int)).before args0 about1 = true := code_word (m := ⟨3, 1⟩) (meth := k3m1) (c := k3c1) (by decide +kernel) rfl rfl rfl (by decide +kernel)
set_option maxRecDepth 65536 in
theorem w_c8 : (Jvm.Cond.code ({ cls := "com/example/pacelint/pacelint/analysis/DifferenceBounds", name := "eventCount", desc := "()I" } : Jvm.MethodName) prog_9_method_6_code (1 : Nat) (Option.some Jvm.ClassFile.FieldType.int)).before args0 about1 = true := code_word (m := ⟨3, 2⟩) (meth := k3m2) (c := k3c2) (by decide +kernel) rfl rfl rfl (by decide +kernel)
set_option maxRecDepth 65536 in
theorem w_c9 : (Jvm.Cond.code ({ cls := "java/util/HashMap", name := "size", desc := "()I" } : Jvm.MethodName) jdk_69_method_10_code (1 : Nat) (Option.some Jvm.ClassFile.FieldType.int)).before args0 about1 = true := code_word (m := ⟨8, 1⟩) (meth := k8m1) (c := k8c1) (by decide +kernel) rfl rfl rfl (by decide +kernel)
set_option maxRecDepth 65536 in
theorem w_c10 : (Jvm.Cond.code ({ cls := "com/example/pacelint/pacelint/analysis/DifferenceBounds", name := "boundCount", desc := "()I" } : Jvm.MethodName) prog_9_method_9_code (1 : Nat) (Option.some Jvm.ClassFile.FieldType.int)).before args0 about1 = true := code_word (m := ⟨3, 4⟩) (meth := k3m4) (c := k3c4) (by decide +kernel) rfl rfl rfl (by decide +kernel)
def codes1 : List Jvm.Cond := [Jvm.Cond.code x code maxLocals ret, Jvm.Cond.code ({ cls := "com/example/pacelint/pacelint/analysis/DifferenceBounds", name := "<init>", desc := "()V" } : Jvm.MethodName) prog_9_method_1_code (1 : Nat) (Option.none : Option Jvm.ClassFile.FieldType), Jvm.Cond.code ({ cls := "java/lang/Object", name := "<init>", desc := "()V" } : Jvm.MethodName) object_method_1_code (1 : Nat) (Option.none : Option Jvm.ClassFile.FieldType), Jvm.Cond.code ({ cls := "java/util/HashMap", name := "<init>", desc := "()V" } : Jvm.MethodName) jdk_69_method_7_code (1 : Nat) (Option.none : Option Jvm.ClassFile.FieldType), Jvm.Cond.code ({ cls := "java/util/AbstractMap", name := "<init>", desc := "()V" } : Jvm.MethodName) jdk_71_method_1_code (1 : Nat) (Option.none : Option Jvm.ClassFile.FieldType), Jvm.Cond.code ({ cls := "com/example/pacelint/pacelint/analysis/DifferenceBounds", name := "pointCount", desc := "()I" } : Jvm.MethodName) prog_9_method_8_code (1 : Nat) (Option.some Jvm.ClassFile.FieldType.int), Jvm.Cond.code ({ cls := "com/example/pacelint/pacelint/analysis/DifferenceBoundsNewPointPinLaw", name := "step", desc := "(Lcom/example/pacelint/pacelint/analysis/DifferenceBounds;I)Z" } : Jvm.MethodName) method_2_code (5 : Nat) (Option.some Jvm.ClassFile.FieldType.boolean), Jvm.Cond.code ({ cls := "com/example/pacelint/pacelint/analysis/DifferenceBounds", name := "newPoint", desc := "()I" } : Jvm.MethodName) prog_9_method_4_code (1 : Nat) (Option.some Jvm.ClassFile.FieldType.int), Jvm.Cond.code ({ cls := "com/example/pacelint/pacelint/analysis/DifferenceBounds", name := "eventCount", desc := "()I" } : Jvm.MethodName) prog_9_method_6_code (1 : Nat) (Option.some Jvm.ClassFile.FieldType.int), Jvm.Cond.code ({ cls := "java/util/HashMap", name := "size", desc := "()I" } : Jvm.MethodName) jdk_69_method_10_code (1 : Nat) (Option.some Jvm.ClassFile.FieldType.int), Jvm.Cond.code ({ cls := "com/example/pacelint/pacelint/analysis/DifferenceBounds", name := "boundCount", desc := "()I" } : Jvm.MethodName) prog_9_method_9_code (1 : Nat) (Option.some Jvm.ClassFile.FieldType.int)]
set_option maxRecDepth 65536 in
theorem codes_eq : words1.filter isCode = codes1 := rfl
theorem w_codes : ∀ c ∈ words1.filter isCode, c.before args0 about1 = true := by
  rw [codes_eq]
  intro c hc
  simp only [codes1, List.mem_cons, List.not_mem_nil, or_false] at hc
  rcases hc with rfl | rfl | rfl | rfl | rfl | rfl | rfl | rfl | rfl | rfl | rfl
  · exact w_c0
  · exact w_c1
  · exact w_c2
  · exact w_c3
  · exact w_c4
  · exact w_c5
  · exact w_c6
  · exact w_c7
  · exact w_c8
  · exact w_c9
  · exact w_c10
set_option maxRecDepth 65536 in
theorem w_t1 : (words1.take 24).all (fun c => isCode c || c.before args0 about1) = true := by decide +kernel
set_option maxRecDepth 65536 in
theorem w_t2 : ((words1.drop 24).take 24).all (fun c => isCode c || c.before args0 about1) = true := by decide +kernel
set_option maxRecDepth 65536 in
theorem w_t3 : (((words1.drop 24).drop 24).take 24).all (fun c => isCode c || c.before args0 about1) = true := by decide +kernel
set_option maxRecDepth 65536 in
theorem w_t4 : (((words1.drop 24).drop 24).drop 24).all (fun c => isCode c || c.before args0 about1) = true := by decide +kernel
theorem w_tables : (allAtoms (Jvm.Cond.code x code maxLocals ret :: tables_1)).before args0 about1 = true := by
  rw [allAtoms_all]
  show words1.all (fun c => c.before args0 about1) = true
  refine all_split ?_ w_codes
  rw [← List.take_append_drop 24 words1, List.all_append, w_t1, ← List.take_append_drop 24 (words1.drop 24), List.all_append, w_t2, ← List.take_append_drop 24 ((words1.drop 24).drop 24), List.all_append, w_t3, w_t4]
  rfl
set_option maxRecDepth 65536 in
theorem w_case : (Jvm.Cond.and given_1 narrow_1).before args0 about1 = true := by decide +kernel
theorem w_applies : (headSpec (Jvm.Cond.code x code maxLocals ret :: tables_1) room_1).applies x e0.platform about1 = true :=
  (Spec.applies_iff w_frames).mpr ⟨w_running, w_runnable, w_alone, w_named, w_hears, w_ripe, w_room, w_tables⟩
theorem atStart : AtStart classFile x code maxLocals ret World_1 tables_1 room_1 Calls_1 rest_1 Pre_1 launch0 p0 e0 about1 theMethod args0 below0 :=
  ⟨lists_1, trivial, launch0.admits_env _ _ _, launch0.least_env, fairChoices_fair.cas, fairChoices_fair.clock, w_frames, w_args, w_heap, w_applies, trivial, trivial, w_case⟩
end start1
theorem witness_1 : WitnessClaimed_1 := ⟨start1.p0, start1.e0, start1.about1, start1.theMethod, start1.args0, start1.below0, start1.atStart⟩
end Jvm.Pilot.@@N@@
