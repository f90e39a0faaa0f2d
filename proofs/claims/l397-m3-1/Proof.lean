import JvmDerived
import JvmDerived.Pilot.@@N@@Statement
import JvmDerived.Pilot.@@N@@Code
set_option linter.unusedVariables false
set_option linter.unusedSimpArgs false
@@BLOCK:NumsL.lean.txt@@
namespace Jvm.Pilot.@@N@@
open Jvm Jvm.ClassFile Sem Op Lib Jvm.Free Jvm.Stand Jvm.LawKit Jvm.RoadKit Bundle Jvm.Pilot.@@N@@.Jvm.D
/-! general: a run that comes to its end with what Q says -/
def own_G (tb : Tables) (e : Env) (below : List Frame) (S : State) (s : State) (C N : Nat) (Q : Option Value → Heap → List Loc → Prop) : Prop :=
  ∃ t o, Steps tb e below S t ∧ t.status = .running ∧ Ended t below o ∧ ∃ v L, o = .returned v ∧ Q v t.heap L ∧ FrameEnd s o t L C N
def own_P (n0 : Nat) (h0 : Heap) (w : Option Value) (v : Option Value) (h : Heap) (L : List Loc) : Prop := v = w ∧ Fr n0 L ∧ h = h0
section Own
variable {tb : Tables} {p : Program} {l : Launch} {e : Env} {R : Room} {s : State} {m : MethodId} {args : Array Value} {below : List Frame} {meth : Method} {c : Code} {T S S' : State} {locs : List Loc} {cells slots C N n0 : Nat} {h0 : Heap} {Q : Option Value → Heap → List Loc → Prop}
theorem own_go (h : ∀ t, Steps tb e below S' t → Steps tb e below S t) (k : own_G tb e below S' s C N Q) : own_G tb e below S s C N Q := by
  obtain ⟨t, o, a, b⟩ := k
  exact ⟨t, o, h t a, b⟩
theorem own_tr (h : Steps tb e below S S') (k : own_G tb e below S' s C N Q) : own_G tb e below S s C N Q := by
  obtain ⟨t, o, a, b⟩ := k
  exact ⟨t, o, h.trans a, b⟩
theorem own_itI {P : Prop} [Decidable P] {A B : Int32} (h : P) (k : own_G tb e below S s C N (own_P n0 h0 (some (.int A)))) : own_G tb e below S s C N (own_P n0 h0 (some (.int (if P then A else B)))) := by rw [if_pos h]; exact k
theorem own_ifI {P : Prop} [Decidable P] {A B : Int32} (h : ¬ P) (k : own_G tb e below S s C N (own_P n0 h0 (some (.int B)))) : own_G tb e below S s C N (own_P n0 h0 (some (.int (if P then A else B)))) := by rw [if_neg h]; exact k
theorem own_itJ {P : Prop} [Decidable P] {A B : Int64} (h : P) (k : own_G tb e below S s C N (own_P n0 h0 (some (.long A)))) : own_G tb e below S s C N (own_P n0 h0 (some (.long (if P then A else B)))) := by rw [if_pos h]; exact k
theorem own_ifJ {P : Prop} [Decidable P] {A B : Int64} (h : ¬ P) (k : own_G tb e below S s C N (own_P n0 h0 (some (.long B)))) : own_G tb e below S s C N (own_P n0 h0 (some (.long (if P then A else B)))) := by rw [if_neg h]; exact k
theorem own_endO {w : Value} {t : FieldType} {i : Instr} (X : Stand p l e R s m args below meth c T locs cells slots) (hx : p.tables.exec = Jvm.exec) (hlk : meth.locks = false) {pc : Nat} {Ls : Array Slot} {rest : List Value} (hret : meth.sig.returnType = some t) (hn : narrow t w = w)
    (hi : (i = .ireturn ∧ (t = .int ∨ t = .boolean ∨ t = .byte ∨ t = .char ∨ t = .short) ∧ ∃ z, w = .int z) ∨ (i = .lreturn ∧ t = .long ∧ ∃ z, w = .long z) ∨ (i = .dreturn ∧ t = .double ∧ ∃ z, w = .double z) ∨ (i = .freturn ∧ t = .float ∧ ∃ z, w = .float z) ∨ (i = .areturn ∧ t.isReference = true ∧ w.isRef = true))
    (hd : decode c.code pc = .ok (i, 1)) (hC : cells ≤ C) (hN : slots ≤ N) (hQ : Q (some w) T.heap locs) : own_G p.tables e below (T.setTop (mkF m pc Ls (w :: rest))) s C N Q := by
  obtain ⟨fs, hr, hrun, hended, hW, hsame⟩ := X.leave (v := some w) (fun h => by rw [hret] at h; cases h) hlk
  exact ⟨_, _, retOut X hx hret hn hi hd hr, hrun, hended, _, _, rfl, hQ, ⟨_, rfl⟩, hW, hsame.mono hC hN⟩
theorem own_endI {z : Int32} (X : Stand p l e R s m args below meth c T locs cells slots) (hx : p.tables.exec = Jvm.exec) (hlk : meth.locks = false) {pc : Nat} {Ls : Array Slot} {rest : List Value} (hret : meth.sig.returnType = some .int)
    (hd : decode c.code pc = .ok (.ireturn, 1)) (hC : cells ≤ C) (hN : slots ≤ N) (hQ : Q (some (.int z)) T.heap locs) : own_G p.tables e below (T.setTop (mkF m pc Ls (.int z :: rest))) s C N Q :=
  own_endO X hx hlk hret rfl (Or.inl ⟨rfl, Or.inl rfl, z, rfl⟩) hd hC hN hQ
theorem own_endJ {z : Int64} (X : Stand p l e R s m args below meth c T locs cells slots) (hx : p.tables.exec = Jvm.exec) (hlk : meth.locks = false) {pc : Nat} {Ls : Array Slot} {rest : List Value} (hret : meth.sig.returnType = some .long)
    (hd : decode c.code pc = .ok (.lreturn, 1)) (hC : cells ≤ C) (hN : slots ≤ N) (hQ : Q (some (.long z)) T.heap locs) : own_G p.tables e below (T.setTop (mkF m pc Ls (.long z :: rest))) s C N Q :=
  own_endO X hx hlk hret rfl (Or.inr (Or.inl ⟨rfl, rfl, z, rfl⟩)) hd hC hN hQ
theorem own_endR {w : Value} {t : FieldType} (X : Stand p l e R s m args below meth c T locs cells slots) (hx : p.tables.exec = Jvm.exec) (hlk : meth.locks = false) {pc : Nat} {Ls : Array Slot} {rest : List Value} (hret : meth.sig.returnType = some t) (hn : narrow t w = w) (ht : t.isReference = true) (hw : w.isRef = true)
    (hd : decode c.code pc = .ok (.areturn, 1)) (hC : cells ≤ C) (hN : slots ≤ N) (hQ : Q (some w) T.heap locs) : own_G p.tables e below (T.setTop (mkF m pc Ls (w :: rest))) s C N Q :=
  own_endO X hx hlk hret hn (Or.inr (Or.inr (Or.inr (Or.inr ⟨rfl, ht, hw⟩)))) hd hC hN hQ
theorem own_endN {z : Int32} {t : FieldType} (X : Stand p l e R s m args below meth c T locs cells slots) (hx : p.tables.exec = Jvm.exec) (hlk : meth.locks = false) {pc : Nat} {Ls : Array Slot} {rest : List Value} (hret : meth.sig.returnType = some t) (ht : t = .boolean ∨ t = .byte ∨ t = .char ∨ t = .short)
    (hd : decode c.code pc = .ok (.ireturn, 1)) (hC : cells ≤ C) (hN : slots ≤ N) (hQ : Q (some (.int (nar t z))) T.heap locs) : own_G p.tables e below (T.setTop (mkF m pc Ls (.int z :: rest))) s C N Q := by
  obtain ⟨fs, hr, hrun, hended, hW, hsame⟩ := X.leave (v := some (.int (nar t z))) (fun h => by rw [hret] at h; cases h) hlk
  exact ⟨_, _, retN X hx hret ht hd hr, hrun, hended, _, _, rfl, hQ, ⟨_, rfl⟩, hW, hsame.mono hC hN⟩
theorem own_endV (X : Stand p l e R s m args below meth c T locs cells slots) (hx : p.tables.exec = Jvm.exec) (hlk : meth.locks = false) {pc : Nat} {Ls : Array Slot} (hret : meth.sig.returnType = none)
    (hd : decode c.code pc = .ok (.return_, 1)) (hC : cells ≤ C) (hN : slots ≤ N) (hQ : Q none T.heap locs) : own_G p.tables e below (T.setTop (mkF m pc Ls [])) s C N Q := by
  obtain ⟨fs, hr, hrun, hended, hW, hsame⟩ := X.leave (v := none) (fun _ => rfl) hlk
  exact ⟨_, _, X.returnOut hx hret hd hr, hrun, hended, _, _, rfl, hQ, ⟨_, rfl⟩, hW, hsame.mono hC hN⟩
end Own
theorem own_cases (i : Int32) (h : 0 ≤ i.toInt) : i < 1 ∨ (¬ i < 1 ∧ i < 7) ∨ (¬ i < 7 ∧ i < 31) ∨ ¬ i < 31 := by
  by_cases h1 : i < 1
  · exact Or.inl h1
  · by_cases h2 : i < 7
    · exact Or.inr (Or.inl ⟨h1, h2⟩)
    · by_cases h3 : i < 31
      · exact Or.inr (Or.inr (Or.inl ⟨h2, h3⟩))
      · exact Or.inr (Or.inr (Or.inr h3))
theorem own_sub (a b : Int32) (h0 : 0 ≤ a.toInt) (h1 : 0 ≤ b.toInt) : (a - b).toInt = a.toInt - b.toInt :=
  Jvm.Kit.i32_sub (by have := a.toInt_lt; have := b.toInt_lt; omega) (by have := a.toInt_lt; have := b.toInt_lt; omega)
theorem own_neg (i d : Int32) (h0 : 0 ≤ i.toInt) (h1 : 0 ≤ d.toInt) (h : i < d) : i - d < 0 := by
  have e := own_sub i d h0 h1
  simp only [Int32.lt_iff_toInt_lt, Int32.reduceToInt] at *
  omega
theorem own_pos (i d : Int32) (h0 : 0 ≤ i.toInt) (h1 : 0 ≤ d.toInt) (h : ¬ i < d) : ¬ i - d < 0 := by
  have e := own_sub i d h0 h1
  simp only [Int32.lt_iff_toInt_lt, Int32.reduceToInt] at *
  omega
theorem own_lt (i a b : Int32) (h : i < a) (hb : a.toInt ≤ b.toInt) : i < b := by
  simp only [Int32.lt_iff_toInt_lt] at *
  omega
theorem own_nlt (i a b : Int32) (h : ¬ i < b) (hb : a.toInt ≤ b.toInt) : ¬ i < a := by
  simp only [Int32.lt_iff_toInt_lt] at *
  omega
theorem own_nn {i : Int32} (h : ¬ i < 0) : ¬ i < (-128) := by
  simp only [Int32.lt_iff_toInt_lt, Int32.reduceToInt] at *
  omega
theorem own_m1 (x : Int32) : 0 ≤ (x &&& 63).toInt := by
  rw [Jvm.Kit.i32_mask x 63 (k := 6) (by decide) (by decide)]
  omega
theorem own_m2 (x : Int32) : 0 ≤ (x &&& 2147483647).toInt := by
  rw [Jvm.Kit.i32_mask x 2147483647 (k := 31) (by decide) (by decide)]
  omega
theorem own_in (x : Int32) (h0 : ¬ x < 0) (h : ¬ 127 < x) : ¬ (x + 128) < 0 ∧ (x + 128) < 256 := by
  have e : (x + 128).toInt = x.toInt + (128 : Int32).toInt := Jvm.Kit.i32_add (by
    simp only [Int32.lt_iff_toInt_lt, Int32.reduceToInt] at *
    omega) (by
    simp only [Int32.lt_iff_toInt_lt, Int32.reduceToInt] at *
    omega)
  simp only [Int32.lt_iff_toInt_lt, Int32.reduceToInt] at *
  omega
theorem own_back (x : Int32) : x + 128 - 128 = x := by
  rw [Int32.add_sub_cancel]

theorem d4_0 : decode jdk_22_method_1_code 0 = .ok (.aload_n 0, 1) := by decide +kernel
theorem d4_1 : decode jdk_22_method_1_code 1 = .ok (.invokespecial 1, 3) := by decide +kernel
theorem d4_4 : decode jdk_22_method_1_code 4 = .ok (.return_, 1) := by decide +kernel
theorem pn_0 : plainName "java/util/AbstractCollection" = true := by first | (simp [plainName, overriddenIn]; done) | decide +kernel
theorem ef_4 (m : MethodId) (p0 : Addr) : entryFrame m #[(.ref p0)] 1 = mkF m 0 #[.val (.ref p0)] [] := by first | (simp [entryFrame, mkF, argsToLocals, Value.category]; done) | rfl
def Q4 (Z : State) (p0 : Addr) (h0 : Heap) (n0 : Nat) (v : Option Value) (h : Heap) (L : List Loc) : Prop := v = none ∧ Fr n0 L ∧ h = h0
set_option maxRecDepth 65536 in
set_option maxHeartbeats 40000000 in
theorem rm4 (l : Launch) (Z : State) (a0 : Array Value) (hw : ∀ d ∈ tables_1, d.before a0 Z = true) (ws : List Jvm.Cond) (p0 : Addr) (h0 : Heap) (n0 : Nat) :
    MetFree l (⟨"java/util/AbstractCollection", "<init>", "()V"⟩ : MethodName) (head1 (Jvm.Cond.code (⟨"java/util/AbstractCollection", "<init>", "()V"⟩ : MethodName) jdk_22_method_1_code 1 none :: ws) ({ frames := 1, cells := 0, slots := 0, locals := 12 } : Room)) (fun a U => a = #[(.ref p0)] ∧ Z.Warmed39 U.vm ∧ U.heap = h0) (fun _ _ _ _ _ => True) (fun _ U o U' => ∃ v L, o = .returned v ∧ (Q4 Z p0 h0 n0) v U'.heap L ∧ FrameEnd U o U' L ({ frames := 1, cells := 0, slots := 0, locals := 12 } : Room).cells ({ frames := 1, cells := 0, slots := 0, locals := 12 } : Room).slots) := by
  refine MetFree.of_bodySF (plainFor_of_name pn_0) hisR ?_
  intro p e s m args below meth c s₁ Bd hml0 hP hK
  obtain ⟨rfl, hZ, hh⟩ := hP
  have hx := Bd.exec
  have hby := Bd.bytes
  have hml : c.maxLocals = 1 := hml0
  have hown : s.vm.findClass "java/util/AbstractCollection" = some m.cls := findClass_of_methodNamed Bd.named
  have hnm := (name_of_methodNamed Bd.named Bd.method).1
  have hlk : meth.locks = false := BodyLoose.notSynchronized Bd
  have X0 : Stand p l e ({ frames := 1, cells := 0, slots := 0, locals := 12 } : Room) s m #[(.ref p0)] below meth c s₁ [] 0 0 := Stand.of_body Bd
  have e0 : s₁.heap = h0 := by rw [← hh, Bd.state]; rfl
  have N0 := Fr.nil n0
  show own_G p.tables e below (s₁.setTop (entryFrame m #[(.ref p0)] 1)) s ({ frames := 1, cells := 0, slots := 0, locals := 12 } : Room).cells ({ frames := 1, cells := 0, slots := 0, locals := 12 } : Room).slots (Q4 Z p0 h0 n0)
  refine own_go (fun _ k => castTop (ef_4 m p0) k) ?_
  show own_G _ _ _ (s₁.setTop (mkF m 0 #[.val (.ref p0)] [])) _ _ _ _
  refine own_go (fun _ k => XS.aloadN X0.here hx rfl (hb hby d4_0) rfl rfl k) ?_
  show own_G _ _ _ (s₁.setTop (mkF m 1 #[.val (.ref p0)] [(.ref p0)])) _ _ _ _
  obtain ⟨T1, X1, e1, st1⟩ := initO X0 hx hZ hown (hw _ (List.mem_of_getElem? (i := 22) rfl)) (hw _ (List.mem_of_getElem? (i := 23) rfl)) (hw _ (List.mem_of_getElem? (i := 24) rfl)) e0 (g := (mkF m 1 #[.val (.ref p0)] [(.ref p0)])) rfl (by rw [hml]; rfl) rfl (hb hby d4_1) (by decide) (W := 0) (by show 2 * 0 + _ ≤ _; exact Nat.le_of_eq rfl) (by decide)
  refine own_go (fun _ k => st1 _ k) ?_
  show own_G _ _ _ (T1.setTop (mkF m 4 #[.val (.ref p0)] [])) _ _ _ _
  exact own_endV X1 hx hlk Bd.returns (hb hby d4_4) (by decide) (by decide) (Q := (Q4 Z p0 h0 n0)) (by rw [e1]; exact ⟨rfl, N0, rfl⟩)
theorem d19_0 : decode jdk_18_method_1_code 0 = .ok (.aload_n 0, 1) := by decide +kernel
theorem d19_1 : decode jdk_18_method_1_code 1 = .ok (.invokespecial 1, 3) := by decide +kernel
theorem d19_4 : decode jdk_18_method_1_code 4 = .ok (.return_, 1) := by decide +kernel
theorem pn_1 : plainName "java/lang/Number" = true := by first | (simp [plainName, overriddenIn]; done) | decide +kernel
theorem ef_19 (m : MethodId) (p0 : Addr) : entryFrame m #[(.ref p0)] 1 = mkF m 0 #[.val (.ref p0)] [] := by first | (simp [entryFrame, mkF, argsToLocals, Value.category]; done) | rfl
def Q19 (Z : State) (p0 : Addr) (h0 : Heap) (n0 : Nat) (v : Option Value) (h : Heap) (L : List Loc) : Prop := v = none ∧ Fr n0 L ∧ h = h0
set_option maxRecDepth 65536 in
set_option maxHeartbeats 40000000 in
theorem rm19 (l : Launch) (Z : State) (a0 : Array Value) (hw : ∀ d ∈ tables_1, d.before a0 Z = true) (ws : List Jvm.Cond) (p0 : Addr) (h0 : Heap) (n0 : Nat) :
    MetFree l (⟨"java/lang/Number", "<init>", "()V"⟩ : MethodName) (head1 (Jvm.Cond.code (⟨"java/lang/Number", "<init>", "()V"⟩ : MethodName) jdk_18_method_1_code 1 none :: ws) ({ frames := 1, cells := 0, slots := 0, locals := 12 } : Room)) (fun a U => a = #[(.ref p0)] ∧ Z.Warmed39 U.vm ∧ U.heap = h0) (fun _ _ _ _ _ => True) (fun _ U o U' => ∃ v L, o = .returned v ∧ (Q19 Z p0 h0 n0) v U'.heap L ∧ FrameEnd U o U' L ({ frames := 1, cells := 0, slots := 0, locals := 12 } : Room).cells ({ frames := 1, cells := 0, slots := 0, locals := 12 } : Room).slots) := by
  refine MetFree.of_bodySF (plainFor_of_name pn_1) hisR ?_
  intro p e s m args below meth c s₁ Bd hml0 hP hK
  obtain ⟨rfl, hZ, hh⟩ := hP
  have hx := Bd.exec
  have hby := Bd.bytes
  have hml : c.maxLocals = 1 := hml0
  have hown : s.vm.findClass "java/lang/Number" = some m.cls := findClass_of_methodNamed Bd.named
  have hnm := (name_of_methodNamed Bd.named Bd.method).1
  have hlk : meth.locks = false := BodyLoose.notSynchronized Bd
  have X0 : Stand p l e ({ frames := 1, cells := 0, slots := 0, locals := 12 } : Room) s m #[(.ref p0)] below meth c s₁ [] 0 0 := Stand.of_body Bd
  have e0 : s₁.heap = h0 := by rw [← hh, Bd.state]; rfl
  have N0 := Fr.nil n0
  show own_G p.tables e below (s₁.setTop (entryFrame m #[(.ref p0)] 1)) s ({ frames := 1, cells := 0, slots := 0, locals := 12 } : Room).cells ({ frames := 1, cells := 0, slots := 0, locals := 12 } : Room).slots (Q19 Z p0 h0 n0)
  refine own_go (fun _ k => castTop (ef_19 m p0) k) ?_
  show own_G _ _ _ (s₁.setTop (mkF m 0 #[.val (.ref p0)] [])) _ _ _ _
  refine own_go (fun _ k => XS.aloadN X0.here hx rfl (hb hby d19_0) rfl rfl k) ?_
  show own_G _ _ _ (s₁.setTop (mkF m 1 #[.val (.ref p0)] [(.ref p0)])) _ _ _ _
  obtain ⟨T1, X1, e1, st1⟩ := initO X0 hx hZ hown (hw _ (List.mem_of_getElem? (i := 124) rfl)) (hw _ (List.mem_of_getElem? (i := 23) rfl)) (hw _ (List.mem_of_getElem? (i := 24) rfl)) e0 (g := (mkF m 1 #[.val (.ref p0)] [(.ref p0)])) rfl (by rw [hml]; rfl) rfl (hb hby d19_1) (by decide) (W := 0) (by show 2 * 0 + _ ≤ _; exact Nat.le_of_eq rfl) (by decide)
  refine own_go (fun _ k => st1 _ k) ?_
  show own_G _ _ _ (T1.setTop (mkF m 4 #[.val (.ref p0)] [])) _ _ _ _
  exact own_endV X1 hx hlk Bd.returns (hb hby d19_4) (by decide) (by decide) (Q := (Q19 Z p0 h0 n0)) (by rw [e1]; exact ⟨rfl, N0, rfl⟩)
theorem d3_0 : decode jdk_39_method_1_code 0 = .ok (.aload_n 0, 1) := by decide +kernel
theorem d3_1 : decode jdk_39_method_1_code 1 = .ok (.invokespecial 1, 3) := by decide +kernel
theorem d3_4 : decode jdk_39_method_1_code 4 = .ok (.aload_n 0, 1) := by decide +kernel
theorem d3_5 : decode jdk_39_method_1_code 5 = .ok (.iconst 0, 1) := by decide +kernel
theorem d3_6 : decode jdk_39_method_1_code 6 = .ok (.putfield 7, 3) := by decide +kernel
theorem d3_9 : decode jdk_39_method_1_code 9 = .ok (.return_, 1) := by decide +kernel
theorem pd_0 : parseMethodDescriptor "()V" = some ⟨[], none⟩ := by decide +kernel
theorem pn_2 : plainName "java/util/AbstractList" = true := by first | (simp [plainName, overriddenIn]; done) | decide +kernel
theorem ef_3 (m : MethodId) (p0 : Addr) : entryFrame m #[(.ref p0)] 1 = mkF m 0 #[.val (.ref p0)] [] := by first | (simp [entryFrame, mkF, argsToLocals, Value.category]; done) | rfl
def Q3 (Z : State) (p0 : Addr) (h0 : Heap) (n0 : Nat) (v : Option Value) (h : Heap) (L : List Loc) : Prop := v = none ∧ Fr n0 L ∧ Keep h0 h [p0] ∧ Exa Z h p0 "java/util/ArrayList" ∧ Fld Z h p0 "java/util/AbstractList" "modCount" "I" (.int (0 : Int32)) ∧ Fld Z h p0 "java/util/ArrayList" "elementData" "[Ljava/lang/Object;" .null ∧ Fld Z h p0 "java/util/ArrayList" "size" "I" (.int (0 : Int32))
set_option maxRecDepth 65536 in
set_option maxHeartbeats 40000000 in
theorem rm3 (l : Launch) (Z : State) (a0 : Array Value) (hw : ∀ d ∈ tables_1, d.before a0 Z = true) (ws : List Jvm.Cond) (p0 : Addr) (h0 : Heap) (n0 : Nat) (Z0 : n0 ≤ h0.size) (P_E_p0 : Exa Z h0 p0 "java/util/ArrayList") (P_F_p0_modCount : Fld Z h0 p0 "java/util/AbstractList" "modCount" "I" (.int (0 : Int32))) (P_F_p0_elementData : Fld Z h0 p0 "java/util/ArrayList" "elementData" "[Ljava/lang/Object;" .null) (P_F_p0_size : Fld Z h0 p0 "java/util/ArrayList" "size" "I" (.int (0 : Int32))) (g_p0 : n0 ≤ p0) :
    MetFree l (⟨"java/util/AbstractList", "<init>", "()V"⟩ : MethodName) (head1 (Jvm.Cond.code (⟨"java/util/AbstractList", "<init>", "()V"⟩ : MethodName) jdk_39_method_1_code 1 none :: ws) ({ frames := 2, cells := 0, slots := 0, locals := 24 } : Room)) (fun a U => a = #[(.ref p0)] ∧ Z.Warmed39 U.vm ∧ U.heap = h0) (fun _ _ _ _ _ => True) (fun _ U o U' => ∃ v L, o = .returned v ∧ (Q3 Z p0 h0 n0) v U'.heap L ∧ FrameEnd U o U' L ({ frames := 2, cells := 0, slots := 0, locals := 24 } : Room).cells ({ frames := 2, cells := 0, slots := 0, locals := 24 } : Room).slots) := by
  refine MetFree.of_bodySF (plainFor_of_name pn_2) hisR ?_
  intro p e s m args below meth c s₁ Bd hml0 hP hK
  obtain ⟨rfl, hZ, hh⟩ := hP
  have hx := Bd.exec
  have hby := Bd.bytes
  have hml : c.maxLocals = 1 := hml0
  have hown : s.vm.findClass "java/util/AbstractList" = some m.cls := findClass_of_methodNamed Bd.named
  have hnm := (name_of_methodNamed Bd.named Bd.method).1
  have hlk : meth.locks = false := BodyLoose.notSynchronized Bd
  have X0 : Stand p l e ({ frames := 2, cells := 0, slots := 0, locals := 24 } : Room) s m #[(.ref p0)] below meth c s₁ [] 0 0 := Stand.of_body Bd
  have e0 : s₁.heap = h0 := by rw [← hh, Bd.state]; rfl
  have N0 := Fr.nil n0
  have K0 : Keep h0 h0 [p0] := Keep.refl h0 [p0]
  show own_G p.tables e below (s₁.setTop (entryFrame m #[(.ref p0)] 1)) s ({ frames := 2, cells := 0, slots := 0, locals := 24 } : Room).cells ({ frames := 2, cells := 0, slots := 0, locals := 24 } : Room).slots (Q3 Z p0 h0 n0)
  refine own_go (fun _ k => castTop (ef_3 m p0) k) ?_
  show own_G _ _ _ (s₁.setTop (mkF m 0 #[.val (.ref p0)] [])) _ _ _ _
  refine own_go (fun _ k => XS.aloadN X0.here hx rfl (hb hby d3_0) rfl rfl k) ?_
  show own_G _ _ _ (s₁.setTop (mkF m 1 #[.val (.ref p0)] [(.ref p0)])) _ _ _ _
  obtain ⟨_, _, ⟨T1, L1, k1, n1⟩, -, X1, ⟨Lc1, hQ1, l1, y1, z1⟩, st1⟩ := X0.specialBack hx (y := (⟨"java/util/AbstractCollection", "<init>", "()V"⟩ : MethodName)) rfl hown (mvT hZ (hw _ (List.mem_of_getElem? (i := 16) rfl))) (mvT hZ (hw _ (List.mem_of_getElem? (i := 17) rfl))) (mvT hZ (hw _ (List.mem_of_getElem? (i := 21) rfl))) (by decide) (backOf (W := 0) (rm4 l Z a0 hw [] p0 h0 n0) hZ (hw _ (List.mem_of_getElem? (i := 21) rfl)) (hw _ (List.mem_of_getElem? (i := 20) rfl)) (by decide) (by decide)) (g := (mkF m 1 #[.val (.ref p0)] [(.ref p0)])) rfl (by rw [hml]; rfl) (Steps.refl _) (a := p0) (argsL := []) (rest := []) (lenOf pd_0 rfl) rfl (by show 2 * 0 + _ ≤ _; exact Nat.le_of_eq rfl) (hb hby d3_1) (fun _ _ => ⟨rfl, e0, (by decide : 0 + 0 ≤ _), (by decide : 0 + 0 ≤ _)⟩)
  dsimp only [Pt.U, Pt.locs, Pt.cells, Pt.slots] at X1 l1 y1 z1 st1 hQ1
  subst l1 y1 z1
  obtain ⟨rfl, Nq1, eh1⟩ := hQ1
  have N1 := Fr.app N0 Nq1
  refine own_tr st1 ?_
  show own_G _ _ _ (T1.setTop (mkF m 4 #[.val (.ref p0)] [])) _ _ _ _
  refine own_go (fun _ k => XS.aloadN X1.here hx rfl (hb hby d3_4) rfl rfl k) ?_
  show own_G _ _ _ (T1.setTop (mkF m 5 #[.val (.ref p0)] [(.ref p0)])) _ _ _ _
  refine own_go (fun _ k => XS.iconst X1.here hx rfl (hb hby d3_5) k) ?_
  show own_G _ _ _ (T1.setTop (mkF m 6 #[.val (.ref p0)] [(.int (0 : Int32)), (.ref p0)])) _ _ _ _
  obtain ⟨T2, h2, X2, e2, W2, st2⟩ := putF X1 hx hZ hown (host := "") (Or.inl (hw _ (List.mem_of_getElem? (i := 25) rfl))) Via.refl eh1 P_F_p0_modCount P_E_p0 (Or.inl (hw _ (List.mem_of_getElem? (i := 26) rfl))) (hw _ (List.mem_of_getElem? (i := 5) rfl)) (ty := .int) (by decide) rfl rfl (g := (mkF m 6 #[.val (.ref p0)] [(.int (0 : Int32)), (.ref p0)])) rfl rfl (hb hby d3_6)
  have N2 := Fr.snoc X2 N1 g_p0
  have Zs2 : n0 ≤ h2.size := Nat.le_trans Z0 (Keep.of_wr W2).1
  have K2_0 : Keep h0 h2 [p0] := K0.wr W2 (Or.inl (List.mem_of_getElem? (i := 0) rfl))
  have f3 : Exa Z h2 p0 "java/util/ArrayList" := P_E_p0.wr W2
  have f4 : Fld Z h2 p0 "java/util/AbstractList" "modCount" "I" (.int (0 : Int32)) := P_F_p0_modCount.same W2
  have f5 : Fld Z h2 p0 "java/util/ArrayList" "elementData" "[Ljava/lang/Object;" .null := P_F_p0_elementData.other W2 (Or.inr (slot_ne (Or.inl (hw _ (List.mem_of_getElem? (i := 29) rfl))) (Or.inl (hw _ (List.mem_of_getElem? (i := 26) rfl))) (by decide) (t := (.array (.object "java/lang/Object"))) (t' := .int) (by decide) (by decide)))
  have f6 : Fld Z h2 p0 "java/util/ArrayList" "size" "I" (.int (0 : Int32)) := P_F_p0_size.other W2 (Or.inr (slot_ne (Or.inl (hw _ (List.mem_of_getElem? (i := 42) rfl))) (Or.inl (hw _ (List.mem_of_getElem? (i := 26) rfl))) (by decide) (t := .int) (t' := .int) (by decide) (by decide)))
  refine own_go (fun _ k => st2 _ k) ?_
  show own_G _ _ _ (T2.setTop (mkF m 9 #[.val (.ref p0)] [])) _ _ _ _
  exact own_endV X2 hx hlk Bd.returns (hb hby d3_9) (by decide) (by decide) (Q := (Q3 Z p0 h0 n0)) (by rw [e2]; exact ⟨rfl, N2, K2_0, f3, f4, f5, f6⟩)
theorem d2_0 : decode jdk_38_method_2_code 0 = .ok (.aload_n 0, 1) := by decide +kernel
theorem d2_1 : decode jdk_38_method_2_code 1 = .ok (.invokespecial 1, 3) := by decide +kernel
theorem d2_4 : decode jdk_38_method_2_code 4 = .ok (.aload_n 0, 1) := by decide +kernel
theorem d2_5 : decode jdk_38_method_2_code 5 = .ok (.getstatic 39, 3) := by decide +kernel
theorem d2_8 : decode jdk_38_method_2_code 8 = .ok (.putfield 9, 3) := by decide +kernel
theorem d2_11 : decode jdk_38_method_2_code 11 = .ok (.return_, 1) := by decide +kernel
theorem pn_3 : plainName "java/util/ArrayList" = true := by first | (simp [plainName, overriddenIn]; done) | decide +kernel
theorem ef_2 (m : MethodId) (p0 : Addr) : entryFrame m #[(.ref p0)] 1 = mkF m 0 #[.val (.ref p0)] [] := by first | (simp [entryFrame, mkF, argsToLocals, Value.category]; done) | rfl
def Q2 (Z : State) (p0 : Addr) (d0 : Addr) (h0 : Heap) (n0 : Nat) (v : Option Value) (h : Heap) (L : List Loc) : Prop := v = none ∧ Fr n0 L ∧ Keep h0 h [p0] ∧ Exa Z h p0 "java/util/ArrayList" ∧ Fld Z h p0 "java/util/AbstractList" "modCount" "I" (.int (0 : Int32)) ∧ Fld Z h p0 "java/util/ArrayList" "elementData" "[Ljava/lang/Object;" (.ref d0) ∧ Fld Z h p0 "java/util/ArrayList" "size" "I" (.int (0 : Int32))
set_option maxRecDepth 65536 in
set_option maxHeartbeats 40000000 in
theorem rm2 (l : Launch) (Z : State) (a0 : Array Value) (hw : ∀ d ∈ tables_1, d.before a0 Z = true) (ws : List Jvm.Cond) (p0 : Addr) (d0 : Addr) (h0 : Heap) (n0 : Nat) (Z0 : n0 ≤ h0.size) (P_E_p0 : Exa Z h0 p0 "java/util/ArrayList") (P_F_p0_modCount : Fld Z h0 p0 "java/util/AbstractList" "modCount" "I" (.int (0 : Int32))) (P_F_p0_elementData : Fld Z h0 p0 "java/util/ArrayList" "elementData" "[Ljava/lang/Object;" .null) (P_F_p0_size : Fld Z h0 p0 "java/util/ArrayList" "size" "I" (.int (0 : Int32))) (g_p0 : n0 ≤ p0) (P_Old : Old Z n0 h0) (P_ZS_java_util_ArrayList_DEFAULTCAPACITY_EMPTY_ELEMENTDATA : Sta Z Z.heap "java/util/ArrayList" "DEFAULTCAPACITY_EMPTY_ELEMENTDATA" "[Ljava/lang/Object;" (.ref d0)) :
    MetFree l (⟨"java/util/ArrayList", "<init>", "()V"⟩ : MethodName) (head1 (Jvm.Cond.code (⟨"java/util/ArrayList", "<init>", "()V"⟩ : MethodName) jdk_38_method_2_code 1 none :: ws) ({ frames := 3, cells := 0, slots := 0, locals := 36 } : Room)) (fun a U => a = #[(.ref p0)] ∧ Z.Warmed39 U.vm ∧ U.heap = h0) (fun _ _ _ _ _ => True) (fun _ U o U' => ∃ v L, o = .returned v ∧ (Q2 Z p0 d0 h0 n0) v U'.heap L ∧ FrameEnd U o U' L ({ frames := 3, cells := 0, slots := 0, locals := 36 } : Room).cells ({ frames := 3, cells := 0, slots := 0, locals := 36 } : Room).slots) := by
  refine MetFree.of_bodySF (plainFor_of_name pn_3) hisR ?_
  intro p e s m args below meth c s₁ Bd hml0 hP hK
  obtain ⟨rfl, hZ, hh⟩ := hP
  have hx := Bd.exec
  have hby := Bd.bytes
  have hml : c.maxLocals = 1 := hml0
  have hown : s.vm.findClass "java/util/ArrayList" = some m.cls := findClass_of_methodNamed Bd.named
  have hnm := (name_of_methodNamed Bd.named Bd.method).1
  have hlk : meth.locks = false := BodyLoose.notSynchronized Bd
  have X0 : Stand p l e ({ frames := 3, cells := 0, slots := 0, locals := 36 } : Room) s m #[(.ref p0)] below meth c s₁ [] 0 0 := Stand.of_body Bd
  have e0 : s₁.heap = h0 := by rw [← hh, Bd.state]; rfl
  have N0 := Fr.nil n0
  have K0 : Keep h0 h0 [p0] := Keep.refl h0 [p0]
  show own_G p.tables e below (s₁.setTop (entryFrame m #[(.ref p0)] 1)) s ({ frames := 3, cells := 0, slots := 0, locals := 36 } : Room).cells ({ frames := 3, cells := 0, slots := 0, locals := 36 } : Room).slots (Q2 Z p0 d0 h0 n0)
  refine own_go (fun _ k => castTop (ef_2 m p0) k) ?_
  show own_G _ _ _ (s₁.setTop (mkF m 0 #[.val (.ref p0)] [])) _ _ _ _
  refine own_go (fun _ k => XS.aloadN X0.here hx rfl (hb hby d2_0) rfl rfl k) ?_
  show own_G _ _ _ (s₁.setTop (mkF m 1 #[.val (.ref p0)] [(.ref p0)])) _ _ _ _
  obtain ⟨_, _, ⟨T1, L1, k1, n1⟩, -, X1, ⟨Lc1, hQ1, l1, y1, z1⟩, st1⟩ := X0.specialBack hx (y := (⟨"java/util/AbstractList", "<init>", "()V"⟩ : MethodName)) rfl hown (mvT hZ (hw _ (List.mem_of_getElem? (i := 10) rfl))) (mvT hZ (hw _ (List.mem_of_getElem? (i := 11) rfl))) (mvT hZ (hw _ (List.mem_of_getElem? (i := 15) rfl))) (by decide) (backOf (W := 0) (rm3 l Z a0 hw [] p0  h0 n0 Z0 P_E_p0 P_F_p0_modCount P_F_p0_elementData P_F_p0_size g_p0) hZ (hw _ (List.mem_of_getElem? (i := 15) rfl)) (hw _ (List.mem_of_getElem? (i := 14) rfl)) (by decide) (by decide)) (g := (mkF m 1 #[.val (.ref p0)] [(.ref p0)])) rfl (by rw [hml]; rfl) (Steps.refl _) (a := p0) (argsL := []) (rest := []) (lenOf pd_0 rfl) rfl (by show 2 * 0 + _ ≤ _; exact Nat.le_of_eq rfl) (hb hby d2_1) (fun _ _ => ⟨rfl, e0, (by decide : 0 + 0 ≤ _), (by decide : 0 + 0 ≤ _)⟩)
  dsimp only [Pt.U, Pt.locs, Pt.cells, Pt.slots] at X1 l1 y1 z1 st1 hQ1
  subst l1 y1 z1
  obtain ⟨rfl, Nq1, Kq1, r1_0, r1_1, r1_2, r1_3⟩ := hQ1
  have N1 := Fr.app N0 Nq1
  have f2 : Exa Z T1.heap p0 "java/util/ArrayList" := P_E_p0.keep Kq1
  have f3 : Old Z n0 T1.heap := P_Old.keep Kq1 (allS g_p0 all0)
  have Zs1 : n0 ≤ T1.heap.size := Nat.le_trans Z0 Kq1.1
  have K1_0 : Keep h0 T1.heap [p0] := K0.trans Kq1 (allS (Or.inl (List.mem_of_getElem? (i := 0) rfl)) all0)
  refine own_tr st1 ?_
  show own_G _ _ _ (T1.setTop (mkF m 4 #[.val (.ref p0)] [])) _ _ _ _
  refine own_go (fun _ k => XS.aloadN X1.here hx rfl (hb hby d2_4) rfl rfl k) ?_
  show own_G _ _ _ (T1.setTop (mkF m 5 #[.val (.ref p0)] [(.ref p0)])) _ _ _ _
  obtain ⟨T4, X4, e4, st4⟩ := getS2 X1 hx hZ hown (host := "") (Or.inl (hw _ (List.mem_of_getElem? (i := 27) rfl))) Via.refl rfl (P_ZS_java_util_ArrayList_DEFAULTCAPACITY_EMPTY_ELEMENTDATA.ext f3.2) (g := (mkF m 5 #[.val (.ref p0)] [(.ref p0)])) rfl (hb hby d2_5)
  refine own_go (fun _ k => st4 _ k) ?_
  show own_G _ _ _ (T4.setTop (mkF m 8 #[.val (.ref p0)] [(.ref d0), (.ref p0)])) _ _ _ _
  obtain ⟨T5, h5, X5, e5, W5, st5⟩ := putF X4 hx hZ hown (host := "") (Or.inl (hw _ (List.mem_of_getElem? (i := 28) rfl))) Via.refl e4 r1_2 r1_0 (Or.inl (hw _ (List.mem_of_getElem? (i := 29) rfl))) (hw _ (List.mem_of_getElem? (i := 5) rfl)) (ty := (.array (.object "java/lang/Object"))) (by decide) rfl rfl (g := (mkF m 8 #[.val (.ref p0)] [(.ref d0), (.ref p0)])) rfl rfl (hb hby d2_8)
  have N5 := Fr.snoc X5 N1 g_p0
  have Zs5 : n0 ≤ h5.size := Nat.le_trans Zs1 (Keep.of_wr W5).1
  have K5_0 : Keep h0 h5 [p0] := K1_0.wr W5 (Or.inl (List.mem_of_getElem? (i := 0) rfl))
  have f6 : Exa Z h5 p0 "java/util/ArrayList" := r1_0.wr W5
  have f7 : Old Z n0 h5 := f3.wr W5 g_p0
  have f8 : Fld Z h5 p0 "java/util/AbstractList" "modCount" "I" (.int (0 : Int32)) := r1_1.other W5 (Or.inr (slot_ne (Or.inl (hw _ (List.mem_of_getElem? (i := 26) rfl))) (Or.inl (hw _ (List.mem_of_getElem? (i := 29) rfl))) (by decide) (t := .int) (t' := (.array (.object "java/lang/Object"))) (by decide) (by decide)))
  have f9 : Fld Z h5 p0 "java/util/ArrayList" "elementData" "[Ljava/lang/Object;" (.ref d0) := r1_2.same W5
  have f10 : Fld Z h5 p0 "java/util/ArrayList" "size" "I" (.int (0 : Int32)) := r1_3.other W5 (Or.inr (slot_ne (Or.inl (hw _ (List.mem_of_getElem? (i := 42) rfl))) (Or.inl (hw _ (List.mem_of_getElem? (i := 29) rfl))) (by decide) (t := .int) (t' := (.array (.object "java/lang/Object"))) (by decide) (by decide)))
  refine own_go (fun _ k => st5 _ k) ?_
  show own_G _ _ _ (T5.setTop (mkF m 11 #[.val (.ref p0)] [])) _ _ _ _
  exact own_endV X5 hx hlk Bd.returns (hb hby d2_11) (by decide) (by decide) (Q := (Q2 Z p0 d0 h0 n0)) (by rw [e5]; exact ⟨rfl, N5, K5_0, f6, f8, f9, f10⟩)
theorem d6_0 : decode jdk_38_method_8_code 0 = .ok (.aload_n 0, 1) := by decide +kernel
theorem d6_1 : decode jdk_38_method_8_code 1 = .ok (.getfield 48, 3) := by decide +kernel
theorem d6_4 : decode jdk_38_method_8_code 4 = .ok (.ireturn, 1) := by decide +kernel
theorem ef_6 (m : MethodId) (p0 : Addr) : entryFrame m #[(.ref p0)] 1 = mkF m 0 #[.val (.ref p0)] [] := by first | (simp [entryFrame, mkF, argsToLocals, Value.category]; done) | rfl
def Q6 (Z : State) (p0 : Addr) (q : Int32) (h0 : Heap) (n0 : Nat) (v : Option Value) (h : Heap) (L : List Loc) : Prop := v = some (.int q) ∧ Fr n0 L ∧ h = h0
set_option maxRecDepth 65536 in
set_option maxHeartbeats 40000000 in
theorem rm6 (l : Launch) (Z : State) (a0 : Array Value) (hw : ∀ d ∈ tables_1, d.before a0 Z = true) (ws : List Jvm.Cond) (p0 : Addr) (q : Int32) (h0 : Heap) (n0 : Nat) (Z0 : n0 ≤ h0.size) (P_F_p0_size : Fld Z h0 p0 "java/util/ArrayList" "size" "I" (.int q)) :
    MetFree l (⟨"java/util/ArrayList", "size", "()I"⟩ : MethodName) (head1 (Jvm.Cond.code (⟨"java/util/ArrayList", "size", "()I"⟩ : MethodName) jdk_38_method_8_code 1 (some .int) :: ws) ({ frames := 0, cells := 0, slots := 0, locals := 0 } : Room)) (fun a U => a = #[(.ref p0)] ∧ Z.Warmed39 U.vm ∧ U.heap = h0) (fun _ _ _ _ _ => True) (fun _ U o U' => ∃ v L, o = .returned v ∧ (Q6 Z p0 q h0 n0) v U'.heap L ∧ FrameEnd U o U' L ({ frames := 0, cells := 0, slots := 0, locals := 0 } : Room).cells ({ frames := 0, cells := 0, slots := 0, locals := 0 } : Room).slots) := by
  refine MetFree.of_bodySF (plainFor_of_name pn_3) hisR ?_
  intro p e s m args below meth c s₁ Bd hml0 hP hK
  obtain ⟨rfl, hZ, hh⟩ := hP
  have hx := Bd.exec
  have hby := Bd.bytes
  have hml : c.maxLocals = 1 := hml0
  have hown : s.vm.findClass "java/util/ArrayList" = some m.cls := findClass_of_methodNamed Bd.named
  have hnm := (name_of_methodNamed Bd.named Bd.method).1
  have hlk : meth.locks = false := BodyLoose.notSynchronized Bd
  have X0 : Stand p l e ({ frames := 0, cells := 0, slots := 0, locals := 0 } : Room) s m #[(.ref p0)] below meth c s₁ [] 0 0 := Stand.of_body Bd
  have e0 : s₁.heap = h0 := by rw [← hh, Bd.state]; rfl
  have N0 := Fr.nil n0
  show own_G p.tables e below (s₁.setTop (entryFrame m #[(.ref p0)] 1)) s ({ frames := 0, cells := 0, slots := 0, locals := 0 } : Room).cells ({ frames := 0, cells := 0, slots := 0, locals := 0 } : Room).slots (Q6 Z p0 q h0 n0)
  refine own_go (fun _ k => castTop (ef_6 m p0) k) ?_
  show own_G _ _ _ (s₁.setTop (mkF m 0 #[.val (.ref p0)] [])) _ _ _ _
  refine own_go (fun _ k => XS.aloadN X0.here hx rfl (hb hby d6_0) rfl rfl k) ?_
  show own_G _ _ _ (s₁.setTop (mkF m 1 #[.val (.ref p0)] [(.ref p0)])) _ _ _ _
  obtain ⟨T1, X1, e1, st1⟩ := getF X0 hx hZ hown (host := "") (Or.inl (hw _ (List.mem_of_getElem? (i := 41) rfl))) Via.refl e0 P_F_p0_size (g := (mkF m 1 #[.val (.ref p0)] [(.ref p0)])) rfl rfl (hb hby d6_1)
  refine own_go (fun _ k => st1 _ k) ?_
  show own_G _ _ _ (T1.setTop (mkF m 4 #[.val (.ref p0)] [(.int q)])) _ _ _ _
  exact own_endI X1 hx hlk Bd.returns (hb hby d6_4) (by decide) (by decide) (Q := (Q6 Z p0 q h0 n0)) (by rw [e1]; exact ⟨rfl, N0, rfl⟩)
theorem d18_0 : decode jdk_33_method_23_code 0 = .ok (.aload_n 0, 1) := by decide +kernel
theorem d18_1 : decode jdk_33_method_23_code 1 = .ok (.invokespecial 202, 3) := by decide +kernel
theorem d18_4 : decode jdk_33_method_23_code 4 = .ok (.aload_n 0, 1) := by decide +kernel
theorem d18_5 : decode jdk_33_method_23_code 5 = .ok (.iload_n 1, 1) := by decide +kernel
theorem d18_6 : decode jdk_33_method_23_code 6 = .ok (.putfield 205, 3) := by decide +kernel
theorem d18_9 : decode jdk_33_method_23_code 9 = .ok (.return_, 1) := by decide +kernel
theorem pn_4 : plainName "java/lang/Integer" = true := by first | (simp [plainName, overriddenIn]; done) | decide +kernel
theorem ef_18 (m : MethodId) (p0 : Addr) (p1 : Int32) : entryFrame m #[(.ref p0), (.int p1)] 2 = mkF m 0 #[.val (.ref p0), .val (.int p1)] [] := by first | (simp [entryFrame, mkF, argsToLocals, Value.category]; done) | rfl
def Q18 (Z : State) (p0 : Addr) (p1 : Int32) (h0 : Heap) (n0 : Nat) (v : Option Value) (h : Heap) (L : List Loc) : Prop := v = none ∧ Fr n0 L ∧ Keep h0 h [p0] ∧ Exa Z h p0 "java/lang/Integer" ∧ Fld Z h p0 "java/lang/Integer" "value" "I" (.int p1)
set_option maxRecDepth 65536 in
set_option maxHeartbeats 40000000 in
theorem rm18 (l : Launch) (Z : State) (a0 : Array Value) (hw : ∀ d ∈ tables_1, d.before a0 Z = true) (ws : List Jvm.Cond) (p0 : Addr) (p1 : Int32) (h0 : Heap) (n0 : Nat) (Z0 : n0 ≤ h0.size) (P_E_p0 : Exa Z h0 p0 "java/lang/Integer") (P_F_p0_value : Fld Z h0 p0 "java/lang/Integer" "value" "I" (.int (0 : Int32))) (g_p0 : n0 ≤ p0) :
    MetFree l (⟨"java/lang/Integer", "<init>", "(I)V"⟩ : MethodName) (head1 (Jvm.Cond.code (⟨"java/lang/Integer", "<init>", "(I)V"⟩ : MethodName) jdk_33_method_23_code 2 none :: ws) ({ frames := 2, cells := 0, slots := 0, locals := 24 } : Room)) (fun a U => a = #[(.ref p0), (.int p1)] ∧ Z.Warmed39 U.vm ∧ U.heap = h0) (fun _ _ _ _ _ => True) (fun _ U o U' => ∃ v L, o = .returned v ∧ (Q18 Z p0 p1 h0 n0) v U'.heap L ∧ FrameEnd U o U' L ({ frames := 2, cells := 0, slots := 0, locals := 24 } : Room).cells ({ frames := 2, cells := 0, slots := 0, locals := 24 } : Room).slots) := by
  refine MetFree.of_bodySF (plainFor_of_name pn_4) hisR ?_
  intro p e s m args below meth c s₁ Bd hml0 hP hK
  obtain ⟨rfl, hZ, hh⟩ := hP
  have hx := Bd.exec
  have hby := Bd.bytes
  have hml : c.maxLocals = 2 := hml0
  have hown : s.vm.findClass "java/lang/Integer" = some m.cls := findClass_of_methodNamed Bd.named
  have hnm := (name_of_methodNamed Bd.named Bd.method).1
  have hlk : meth.locks = false := BodyLoose.notSynchronized Bd
  have X0 : Stand p l e ({ frames := 2, cells := 0, slots := 0, locals := 24 } : Room) s m #[(.ref p0), (.int p1)] below meth c s₁ [] 0 0 := Stand.of_body Bd
  have e0 : s₁.heap = h0 := by rw [← hh, Bd.state]; rfl
  have N0 := Fr.nil n0
  have K0 : Keep h0 h0 [p0] := Keep.refl h0 [p0]
  show own_G p.tables e below (s₁.setTop (entryFrame m #[(.ref p0), (.int p1)] 2)) s ({ frames := 2, cells := 0, slots := 0, locals := 24 } : Room).cells ({ frames := 2, cells := 0, slots := 0, locals := 24 } : Room).slots (Q18 Z p0 p1 h0 n0)
  refine own_go (fun _ k => castTop (ef_18 m p0 p1) k) ?_
  show own_G _ _ _ (s₁.setTop (mkF m 0 #[.val (.ref p0), .val (.int p1)] [])) _ _ _ _
  refine own_go (fun _ k => XS.aloadN X0.here hx rfl (hb hby d18_0) rfl rfl k) ?_
  show own_G _ _ _ (s₁.setTop (mkF m 1 #[.val (.ref p0), .val (.int p1)] [(.ref p0)])) _ _ _ _
  obtain ⟨_, _, ⟨T1, L1, k1, n1⟩, -, X1, ⟨Lc1, hQ1, l1, y1, z1⟩, st1⟩ := X0.specialBack hx (y := (⟨"java/lang/Number", "<init>", "()V"⟩ : MethodName)) rfl hown (mvT hZ (hw _ (List.mem_of_getElem? (i := 118) rfl))) (mvT hZ (hw _ (List.mem_of_getElem? (i := 119) rfl))) (mvT hZ (hw _ (List.mem_of_getElem? (i := 123) rfl))) (by decide) (backOf (W := 0) (rm19 l Z a0 hw [] p0 h0 n0) hZ (hw _ (List.mem_of_getElem? (i := 123) rfl)) (hw _ (List.mem_of_getElem? (i := 122) rfl)) (by decide) (by decide)) (g := (mkF m 1 #[.val (.ref p0), .val (.int p1)] [(.ref p0)])) rfl (by rw [hml]; rfl) (Steps.refl _) (a := p0) (argsL := []) (rest := []) (lenOf pd_0 rfl) rfl (by show 2 * 0 + _ ≤ _; exact Nat.le_of_eq rfl) (hb hby d18_1) (fun _ _ => ⟨rfl, e0, (by decide : 0 + 0 ≤ _), (by decide : 0 + 0 ≤ _)⟩)
  dsimp only [Pt.U, Pt.locs, Pt.cells, Pt.slots] at X1 l1 y1 z1 st1 hQ1
  subst l1 y1 z1
  obtain ⟨rfl, Nq1, eh1⟩ := hQ1
  have N1 := Fr.app N0 Nq1
  refine own_tr st1 ?_
  show own_G _ _ _ (T1.setTop (mkF m 4 #[.val (.ref p0), .val (.int p1)] [])) _ _ _ _
  refine own_go (fun _ k => XS.aloadN X1.here hx rfl (hb hby d18_4) rfl rfl k) ?_
  show own_G _ _ _ (T1.setTop (mkF m 5 #[.val (.ref p0), .val (.int p1)] [(.ref p0)])) _ _ _ _
  refine own_go (fun _ k => XS.iloadN X1.here hx rfl (hb hby d18_5) rfl k) ?_
  show own_G _ _ _ (T1.setTop (mkF m 6 #[.val (.ref p0), .val (.int p1)] [(.int p1), (.ref p0)])) _ _ _ _
  obtain ⟨T2, h2, X2, e2, W2, st2⟩ := putF X1 hx hZ hown (host := "") (Or.inl (hw _ (List.mem_of_getElem? (i := 110) rfl))) Via.refl eh1 P_F_p0_value P_E_p0 (Or.inr ⟨(hw _ (List.mem_of_getElem? (i := 111) rfl)), rfl, hnm⟩) (hw _ (List.mem_of_getElem? (i := 114) rfl)) (ty := .int) (by decide) rfl rfl (g := (mkF m 6 #[.val (.ref p0), .val (.int p1)] [(.int p1), (.ref p0)])) rfl rfl (hb hby d18_6)
  have N2 := Fr.snoc X2 N1 g_p0
  have Zs2 : n0 ≤ h2.size := Nat.le_trans Z0 (Keep.of_wr W2).1
  have K2_0 : Keep h0 h2 [p0] := K0.wr W2 (Or.inl (List.mem_of_getElem? (i := 0) rfl))
  have f3 : Exa Z h2 p0 "java/lang/Integer" := P_E_p0.wr W2
  have f4 : Fld Z h2 p0 "java/lang/Integer" "value" "I" (.int p1) := P_F_p0_value.same W2
  refine own_go (fun _ k => st2 _ k) ?_
  show own_G _ _ _ (T2.setTop (mkF m 9 #[.val (.ref p0), .val (.int p1)] [])) _ _ _ _
  exact own_endV X2 hx hlk Bd.returns (hb hby d18_9) (by decide) (by decide) (Q := (Q18 Z p0 p1 h0 n0)) (by rw [e2]; exact ⟨rfl, N2, K2_0, f3, f4⟩)
theorem d17_0 : decode jdk_33_method_27_code 0 = .ok (.aload_n 0, 1) := by decide +kernel
theorem d17_1 : decode jdk_33_method_27_code 1 = .ok (.getfield 205, 3) := by decide +kernel
theorem d17_4 : decode jdk_33_method_27_code 4 = .ok (.ireturn, 1) := by decide +kernel
theorem ef_17 (m : MethodId) (p0 : Addr) : entryFrame m #[(.ref p0)] 1 = mkF m 0 #[.val (.ref p0)] [] := by first | (simp [entryFrame, mkF, argsToLocals, Value.category]; done) | rfl
def Q17 (Z : State) (p0 : Addr) (q : Int32) (h0 : Heap) (n0 : Nat) (v : Option Value) (h : Heap) (L : List Loc) : Prop := v = some (.int q) ∧ Fr n0 L ∧ h = h0
set_option maxRecDepth 65536 in
set_option maxHeartbeats 40000000 in
theorem rm17 (l : Launch) (Z : State) (a0 : Array Value) (hw : ∀ d ∈ tables_1, d.before a0 Z = true) (ws : List Jvm.Cond) (p0 : Addr) (q : Int32) (h0 : Heap) (n0 : Nat) (Z0 : n0 ≤ h0.size) (P_F_p0_value : Fld Z h0 p0 "java/lang/Integer" "value" "I" (.int q)) :
    MetFree l (⟨"java/lang/Integer", "intValue", "()I"⟩ : MethodName) (head1 (Jvm.Cond.code (⟨"java/lang/Integer", "intValue", "()I"⟩ : MethodName) jdk_33_method_27_code 1 (some .int) :: ws) ({ frames := 0, cells := 0, slots := 0, locals := 0 } : Room)) (fun a U => a = #[(.ref p0)] ∧ Z.Warmed39 U.vm ∧ U.heap = h0) (fun _ _ _ _ _ => True) (fun _ U o U' => ∃ v L, o = .returned v ∧ (Q17 Z p0 q h0 n0) v U'.heap L ∧ FrameEnd U o U' L ({ frames := 0, cells := 0, slots := 0, locals := 0 } : Room).cells ({ frames := 0, cells := 0, slots := 0, locals := 0 } : Room).slots) := by
  refine MetFree.of_bodySF (plainFor_of_name pn_4) hisR ?_
  intro p e s m args below meth c s₁ Bd hml0 hP hK
  obtain ⟨rfl, hZ, hh⟩ := hP
  have hx := Bd.exec
  have hby := Bd.bytes
  have hml : c.maxLocals = 1 := hml0
  have hown : s.vm.findClass "java/lang/Integer" = some m.cls := findClass_of_methodNamed Bd.named
  have hnm := (name_of_methodNamed Bd.named Bd.method).1
  have hlk : meth.locks = false := BodyLoose.notSynchronized Bd
  have X0 : Stand p l e ({ frames := 0, cells := 0, slots := 0, locals := 0 } : Room) s m #[(.ref p0)] below meth c s₁ [] 0 0 := Stand.of_body Bd
  have e0 : s₁.heap = h0 := by rw [← hh, Bd.state]; rfl
  have N0 := Fr.nil n0
  show own_G p.tables e below (s₁.setTop (entryFrame m #[(.ref p0)] 1)) s ({ frames := 0, cells := 0, slots := 0, locals := 0 } : Room).cells ({ frames := 0, cells := 0, slots := 0, locals := 0 } : Room).slots (Q17 Z p0 q h0 n0)
  refine own_go (fun _ k => castTop (ef_17 m p0) k) ?_
  show own_G _ _ _ (s₁.setTop (mkF m 0 #[.val (.ref p0)] [])) _ _ _ _
  refine own_go (fun _ k => XS.aloadN X0.here hx rfl (hb hby d17_0) rfl rfl k) ?_
  show own_G _ _ _ (s₁.setTop (mkF m 1 #[.val (.ref p0)] [(.ref p0)])) _ _ _ _
  obtain ⟨T1, X1, e1, st1⟩ := getF X0 hx hZ hown (host := "") (Or.inl (hw _ (List.mem_of_getElem? (i := 110) rfl))) Via.refl e0 P_F_p0_value (g := (mkF m 1 #[.val (.ref p0)] [(.ref p0)])) rfl rfl (hb hby d17_1)
  refine own_go (fun _ k => st1 _ k) ?_
  show own_G _ _ _ (T1.setTop (mkF m 4 #[.val (.ref p0)] [(.int q)])) _ _ _ _
  exact own_endI X1 hx hlk Bd.returns (hb hby d17_4) (by decide) (by decide) (Q := (Q17 Z p0 q h0 n0)) (by rw [e1]; exact ⟨rfl, N0, rfl⟩)
theorem d7_0 : decode jdk_33_method_22_code 0 = .ok (.iload_n 0, 1) := by decide +kernel
theorem d7_1 : decode jdk_33_method_22_code 1 = .ok (.bipush (-128), 2) := by decide +kernel
theorem d7_3 : decode jdk_33_method_22_code 3 = .ok (.if_icmp .lt 20, 3) := by decide +kernel
theorem d7_6 : decode jdk_33_method_22_code 6 = .ok (.iload_n 0, 1) := by decide +kernel
theorem d7_7 : decode jdk_33_method_22_code 7 = .ok (.getstatic 191, 3) := by decide +kernel
theorem d7_10 : decode jdk_33_method_22_code 10 = .ok (.if_icmp .gt 13, 3) := by decide +kernel
theorem d7_13 : decode jdk_33_method_22_code 13 = .ok (.getstatic 195, 3) := by decide +kernel
theorem d7_16 : decode jdk_33_method_22_code 16 = .ok (.iload_n 0, 1) := by decide +kernel
theorem d7_17 : decode jdk_33_method_22_code 17 = .ok (.sipush 128, 3) := by decide +kernel
theorem d7_20 : decode jdk_33_method_22_code 20 = .ok (.iadd, 1) := by decide +kernel
theorem d7_21 : decode jdk_33_method_22_code 21 = .ok (.aaload, 1) := by decide +kernel
theorem d7_22 : decode jdk_33_method_22_code 22 = .ok (.areturn, 1) := by decide +kernel
theorem d7_23 : decode jdk_33_method_22_code 23 = .ok (.new 1, 3) := by decide +kernel
theorem d7_26 : decode jdk_33_method_22_code 26 = .ok (.dup, 1) := by decide +kernel
theorem d7_27 : decode jdk_33_method_22_code 27 = .ok (.iload_n 0, 1) := by decide +kernel
theorem d7_28 : decode jdk_33_method_22_code 28 = .ok (.invokespecial 199, 3) := by decide +kernel
theorem d7_31 : decode jdk_33_method_22_code 31 = .ok (.areturn, 1) := by decide +kernel
theorem pd_1 : parseMethodDescriptor "(I)V" = some ⟨[.int], none⟩ := by decide +kernel
theorem ef_7 (m : MethodId) (p0 : Int32) : entryFrame m #[(.int p0)] 1 = mkF m 0 #[.val (.int p0)] [] := by first | (simp [entryFrame, mkF, argsToLocals, Value.category]; done) | rfl
def Q7 (Z : State) (p0 : Int32) (ca : Addr) (cc : Cell) (h0 : Heap) (n0 : Nat) (v : Option Value) (h : Heap) (L : List Loc) : Prop := ∃ (b : Addr), v = some (.ref b) ∧ Fr n0 L ∧ Keep h0 h [] ∧ Exa Z h b "java/lang/Integer" ∧ Fld Z h b "java/lang/Integer" "value" "I" (.int p0)
set_option maxRecDepth 65536 in
set_option maxHeartbeats 40000000 in
theorem rm7 (l : Launch) (Z : State) (a0 : Array Value) (hw : ∀ d ∈ tables_1, d.before a0 Z = true) (ws : List Jvm.Cond) (p0 : Int32) (ca : Addr) (cc : Cell) (h0 : Heap) (n0 : Nat) (Z0 : n0 ≤ h0.size) (P_Old : Old Z n0 h0) (P_ZS_java_lang_Integer_IntegerCache_high : Sta Z Z.heap "java/lang/Integer$IntegerCache" "high" "I" (.int (127 : Int32))) (P_ZS_java_lang_Integer_IntegerCache_cache : Sta Z Z.heap "java/lang/Integer$IntegerCache" "cache" "[Ljava/lang/Integer;" (.ref ca)) (bx : Bxs Z ca cc "java/lang/Integer" "I" (256 : Int32) (fun j => .int (j - 128))) (hp : ¬ p0 < 0) :
    MetFree l (⟨"java/lang/Integer", "valueOf", "(I)Ljava/lang/Integer;"⟩ : MethodName) (head1 (Jvm.Cond.code (⟨"java/lang/Integer", "valueOf", "(I)Ljava/lang/Integer;"⟩ : MethodName) jdk_33_method_22_code 1 (some (.object "java/lang/Integer")) :: ws) ({ frames := 3, cells := 1, slots := 1, locals := 38 } : Room)) (fun a U => a = #[(.int p0)] ∧ Z.Warmed39 U.vm ∧ U.heap = h0) (fun _ _ _ _ _ => True) (fun _ U o U' => ∃ v L, o = .returned v ∧ (Q7 Z p0 ca cc h0 n0) v U'.heap L ∧ FrameEnd U o U' L ({ frames := 3, cells := 1, slots := 1, locals := 38 } : Room).cells ({ frames := 3, cells := 1, slots := 1, locals := 38 } : Room).slots) := by
  refine MetFree.of_bodySF (plainFor_of_name pn_4) hisR ?_
  intro p e s m args below meth c s₁ Bd hml0 hP hK
  obtain ⟨rfl, hZ, hh⟩ := hP
  have hx := Bd.exec
  have hby := Bd.bytes
  have hml : c.maxLocals = 1 := hml0
  have hown : s.vm.findClass "java/lang/Integer" = some m.cls := findClass_of_methodNamed Bd.named
  have hnm := (name_of_methodNamed Bd.named Bd.method).1
  have hlk : meth.locks = false := BodyLoose.notSynchronized Bd
  have X0 : Stand p l e ({ frames := 3, cells := 1, slots := 1, locals := 38 } : Room) s m #[(.int p0)] below meth c s₁ [] 0 0 := Stand.of_body Bd
  have e0 : s₁.heap = h0 := by rw [← hh, Bd.state]; rfl
  have N0 := Fr.nil n0
  have K0 : Keep h0 h0 [] := Keep.refl h0 []
  show own_G p.tables e below (s₁.setTop (entryFrame m #[(.int p0)] 1)) s ({ frames := 3, cells := 1, slots := 1, locals := 38 } : Room).cells ({ frames := 3, cells := 1, slots := 1, locals := 38 } : Room).slots (Q7 Z p0 ca cc h0 n0)
  refine own_go (fun _ k => castTop (ef_7 m p0) k) ?_
  show own_G _ _ _ (s₁.setTop (mkF m 0 #[.val (.int p0)] [])) _ _ _ _
  refine own_go (fun _ k => XS.iloadN X0.here hx rfl (hb hby d7_0) rfl k) ?_
  show own_G _ _ _ (s₁.setTop (mkF m 1 #[.val (.int p0)] [(.int p0)])) _ _ _ _
  refine own_go (fun _ k => XS.bipush X0.here hx rfl (hb hby d7_1) k) ?_
  show own_G _ _ _ (s₁.setTop (mkF m 3 #[.val (.int p0)] [(.int (-128 : Int32)), (.int p0)])) _ _ _ _
  have hc1 : ¬ (p0 < (-128 : Int32)) := own_nn hp
  refine own_go (fun _ k => XS.icmpNo X0.here hx rfl (hb hby d7_3) rfl (flt hc1).1 k) ?_
  show own_G _ _ _ (s₁.setTop (mkF m 6 #[.val (.int p0)] [])) _ _ _ _
  refine own_go (fun _ k => XS.iloadN X0.here hx rfl (hb hby d7_6) rfl k) ?_
  show own_G _ _ _ (s₁.setTop (mkF m 7 #[.val (.int p0)] [(.int p0)])) _ _ _ _
  obtain ⟨T2, X2, e2, st2⟩ := getS2 X0 hx hZ hown (host := "") (Or.inl (hw _ (List.mem_of_getElem? (i := 47) rfl))) Via.refl e0 (P_ZS_java_lang_Integer_IntegerCache_high.ext P_Old.2) (g := (mkF m 7 #[.val (.int p0)] [(.int p0)])) rfl (hb hby d7_7)
  refine own_go (fun _ k => st2 _ k) ?_
  show own_G _ _ _ (T2.setTop (mkF m 10 #[.val (.int p0)] [(.int (127 : Int32)), (.int p0)])) _ _ _ _
  by_cases hc3 : (127 : Int32) < p0
  · refine own_go (fun _ k => XS.icmpYes X2.here hx rfl (pc0 := 10) (pc' := 23) rfl (hb hby d7_10) rfl (tlt hc3).2.2.1 (by decide) (by decide) k) ?_
    show own_G _ _ _ (T2.setTop (mkF m 23 #[.val (.int p0)] [])) _ _ _ _
    obtain ⟨T4, h4, X4, e4, E4, A4, D4, -, st4⟩ := newO X2 hx hZ hown (hw _ (List.mem_of_getElem? (i := 113) rfl)) (hw _ (List.mem_of_getElem? (i := 114) rfl)) (hw _ (List.mem_of_getElem? (i := 45) rfl)) e2 (g := (mkF m 23 #[.val (.int p0)] [])) rfl (hb hby d7_23) (by decide) (by decide)
    obtain ⟨b4, g4⟩ : ∃ z, z = h0.size := ⟨_, rfl⟩
    rw [← g4] at A4 D4 st4
    have gg4 : n0 ≤ b4 := Nat.le_trans Z0 (Nat.le_of_eq g4.symm)
    have sz4_0 : h0.size ≤ b4 := Nat.le_trans K0.1 (Nat.le_of_eq g4.symm)
    have Zs4 : n0 ≤ h4.size := Nat.le_trans Z0 E4.1
    have K4_0 : Keep h0 h4 [] := K0.ext E4
    have f5 : Old Z n0 h4 := P_Old.ext E4
    have f6 : Exa Z h4 b4 "java/lang/Integer" := A4
    have f7 : Fld Z h4 b4 "java/lang/Integer" "value" "I" (.int (0 : Int32)) := D4 (Or.inr (hw _ (List.mem_of_getElem? (i := 111) rfl))) (ty := .int) (by decide)
    refine own_go (fun _ k => st4 _ k) ?_
    show own_G _ _ _ (T4.setTop (mkF m 26 #[.val (.int p0)] [(.ref b4)])) _ _ _ _
    refine own_go (fun _ k => XS.dup X4.here hx rfl (hb hby d7_26) rfl rfl k) ?_
    show own_G _ _ _ (T4.setTop (mkF m 27 #[.val (.int p0)] [(.ref b4), (.ref b4)])) _ _ _ _
    refine own_go (fun _ k => XS.iloadN X4.here hx rfl (hb hby d7_27) rfl k) ?_
    show own_G _ _ _ (T4.setTop (mkF m 28 #[.val (.int p0)] [(.int p0), (.ref b4), (.ref b4)])) _ _ _ _
    obtain ⟨_, _, ⟨T8, L8, k8, n8⟩, -, X8, ⟨Lc8, hQ8, l8, y8, z8⟩, st8⟩ := X4.specialBack hx (y := (⟨"java/lang/Integer", "<init>", "(I)V"⟩ : MethodName)) rfl hown (mvT hZ (hw _ (List.mem_of_getElem? (i := 115) rfl))) (mvT hZ (hw _ (List.mem_of_getElem? (i := 116) rfl))) (mvT hZ (hw _ (List.mem_of_getElem? (i := 117) rfl))) (by decide) (backOf (W := 1) (rm18 l Z a0 hw [] b4 p0  h4 n0 Zs4 f6 f7 gg4) hZ (hw _ (List.mem_of_getElem? (i := 117) rfl)) (hw _ (List.mem_of_getElem? (i := 45) rfl)) (by decide) (by decide)) (g := (mkF m 28 #[.val (.int p0)] [(.int p0), (.ref b4), (.ref b4)])) rfl (by rw [hml]; rfl) (Steps.refl _) (a := b4) (argsL := [(.int p0)]) (rest := [(.ref b4)]) (lenOf pd_1 rfl) rfl (by show 2 * 0 + _ ≤ _; exact Nat.le_of_eq rfl) (hb hby d7_28) (fun _ _ => ⟨rfl, e4, (by decide : 1 + 0 ≤ _), (by decide : 1 + 0 ≤ _)⟩)
    dsimp only [Pt.U, Pt.locs, Pt.cells, Pt.slots] at X8 l8 y8 z8 st8 hQ8
    subst l8 y8 z8
    obtain ⟨rfl, Nq8, Kq8, r8_0, r8_1⟩ := hQ8
    have N8 := Fr.app N0 Nq8
    have f9 : Old Z n0 T8.heap := f5.keep Kq8 (allS gg4 all0)
    have f10 : Exa Z T8.heap b4 "java/lang/Integer" := f6.keep Kq8
    have Zs8 : n0 ≤ T8.heap.size := Nat.le_trans Zs4 Kq8.1
    have K8_0 : Keep h0 T8.heap [] := K4_0.trans Kq8 (allS (Or.inr sz4_0) all0)
    refine own_tr st8 ?_
    show own_G _ _ _ (T8.setTop (mkF m 31 #[.val (.int p0)] [(.ref b4)])) _ _ _ _
    exact own_endR X8 hx hlk Bd.returns rfl rfl rfl (hb hby d7_31) (by decide) (by decide) (Q := (Q7 Z p0 ca cc h0 n0)) ⟨b4, rfl, N8, K8_0, r8_0, r8_1⟩
  · refine own_go (fun _ k => XS.icmpNo X2.here hx rfl (hb hby d7_10) rfl (flt hc3).2.2.1 k) ?_
    show own_G _ _ _ (T2.setTop (mkF m 13 #[.val (.int p0)] [])) _ _ _ _
    obtain ⟨T11, X11, e11, st11⟩ := getS2 X2 hx hZ hown (host := "") (Or.inl (hw _ (List.mem_of_getElem? (i := 49) rfl))) Via.refl e2 (P_ZS_java_lang_Integer_IntegerCache_cache.ext P_Old.2) (g := (mkF m 13 #[.val (.int p0)] [])) rfl (hb hby d7_13)
    refine own_go (fun _ k => st11 _ k) ?_
    show own_G _ _ _ (T11.setTop (mkF m 16 #[.val (.int p0)] [(.ref ca)])) _ _ _ _
    refine own_go (fun _ k => XS.iloadN X11.here hx rfl (hb hby d7_16) rfl k) ?_
    show own_G _ _ _ (T11.setTop (mkF m 17 #[.val (.int p0)] [(.int p0), (.ref ca)])) _ _ _ _
    refine own_go (fun _ k => XS.sipush X11.here hx rfl (hb hby d7_17) k) ?_
    show own_G _ _ _ (T11.setTop (mkF m 20 #[.val (.int p0)] [(.int (128 : Int32)), (.int p0), (.ref ca)])) _ _ _ _
    refine own_go (fun _ k => XS.iadd X11.here hx rfl (hb hby d7_20) rfl k) ?_
    show own_G _ _ _ (T11.setTop (mkF m 21 #[.val (.int p0)] [(.int (p0 + (128 : Int32))), (.ref ca)])) _ _ _ _
    have inb : ¬ ((p0 + (128 : Int32)) < 0 ∨ cc.slots.size ≤ ((p0 + (128 : Int32))).toNatClampNeg) := inb_of bx.2.1 (own_in p0 hp hc3)
    obtain ⟨bb, eb, xb, vb⟩ := bx.2.2.2 (p0 + (128 : Int32)) inb
    have AC := bx.1.ext P_Old.2
    have vb' : Fld Z Z.heap bb "java/lang/Integer" "value" "I" (.int p0) := by have q : Fld Z Z.heap bb "java/lang/Integer" "value" "I" (.int (p0 + 128 - 128)) := vb; rw [own_back] at q; exact q
    refine own_go (fun _ k => X11.aaload hx (j := (p0 + (128 : Int32))) (v := (.ref bb)) (by rw [e11]; exact AC.1) (State.isArrayOf_alike hZ.alike AC.2.1) rfl AC.2.2 inb eb (g := (mkF m 21 #[.val (.int p0)] [(.int (p0 + (128 : Int32))), (.ref ca)])) rfl rfl (hb hby d7_21) _ k) ?_
    have f12 : Exa Z h0 bb "java/lang/Integer" := xb.ext P_Old.2
    have f13 : Fld Z h0 bb "java/lang/Integer" "value" "I" (.int p0) := vb'.ext P_Old.2
    show own_G _ _ _ (T11.setTop (mkF m 22 #[.val (.int p0)] [(.ref bb)])) _ _ _ _
    exact own_endR X11 hx hlk Bd.returns rfl rfl rfl (hb hby d7_22) (by decide) (by decide) (Q := (Q7 Z p0 ca cc h0 n0)) (by rw [e11]; exact ⟨bb, rfl, N0, K0, f12, f13⟩)
theorem d12_0 : decode jdk_29_method_65_code 0 = .ok (.iload_n 0, 1) := by decide +kernel
theorem d12_1 : decode jdk_29_method_65_code 1 = .ok (.iload_n 1, 1) := by decide +kernel
theorem d12_2 : decode jdk_29_method_65_code 2 = .ok (.if_icmp .lt 7, 3) := by decide +kernel
theorem d12_5 : decode jdk_29_method_65_code 5 = .ok (.iload_n 0, 1) := by decide +kernel
theorem d12_6 : decode jdk_29_method_65_code 6 = .ok (.goto 4, 3) := by decide +kernel
theorem d12_9 : decode jdk_29_method_65_code 9 = .ok (.iload_n 1, 1) := by decide +kernel
theorem d12_10 : decode jdk_29_method_65_code 10 = .ok (.ireturn, 1) := by decide +kernel
def own_max_10 (p0 : Int32) (p1 : Int32) (w0 : Int32) : Int32 := w0
def own_max (p0 : Int32) (p1 : Int32) : Int32 := (if p0 < p1 then (own_max_10 p0 p1 p1) else (own_max_10 p0 p1 p0))
theorem ef_12 (m : MethodId) (p0 : Int32) (p1 : Int32) : entryFrame m #[(.int p0), (.int p1)] 2 = mkF m 0 #[.val (.int p0), .val (.int p1)] [] := by first | (simp [entryFrame, mkF, argsToLocals, Value.category]; done) | rfl
set_option maxRecDepth 65536 in
set_option maxHeartbeats 40000000 in
theorem rm12 (l : Launch) (Z : State) (a0 : Array Value) (hw : ∀ d ∈ tables_1, d.before a0 Z = true) (ws : List Jvm.Cond) (p0 : Int32) (p1 : Int32) (h0 : Heap) (n0 : Nat) :
    MetFree l (⟨"java/lang/Math", "max", "(II)I"⟩ : MethodName) (head1 (Jvm.Cond.code (⟨"java/lang/Math", "max", "(II)I"⟩ : MethodName) jdk_29_method_65_code 2 (some .int) :: ws) ({ frames := 0, cells := 0, slots := 0, locals := 0 } : Room)) (fun a U => a = #[(.int p0), (.int p1)] ∧ Z.Warmed39 U.vm ∧ U.heap = h0) (fun _ _ _ _ _ => True) (fun _ U o U' => ∃ v L, o = .returned v ∧ (own_P n0 h0 (some (.int (own_max p0 p1)))) v U'.heap L ∧ FrameEnd U o U' L ({ frames := 0, cells := 0, slots := 0, locals := 0 } : Room).cells ({ frames := 0, cells := 0, slots := 0, locals := 0 } : Room).slots) := by
  refine MetFree.of_bodySF (Jvm.Free.JP.mathPlain rfl (by decide +kernel)) hisR ?_
  intro p e s m args below meth c s₁ Bd hml0 hP hK
  obtain ⟨rfl, hZ, hh⟩ := hP
  have hx := Bd.exec
  have hby := Bd.bytes
  have hml : c.maxLocals = 2 := hml0
  have hown : s.vm.findClass "java/lang/Math" = some m.cls := findClass_of_methodNamed Bd.named
  have hnm := (name_of_methodNamed Bd.named Bd.method).1
  have hlk : meth.locks = false := BodyLoose.notSynchronized Bd
  have X0 : Stand p l e ({ frames := 0, cells := 0, slots := 0, locals := 0 } : Room) s m #[(.int p0), (.int p1)] below meth c s₁ [] 0 0 := Stand.of_body Bd
  have e0 : s₁.heap = h0 := by rw [← hh, Bd.state]; rfl
  have N0 := Fr.nil n0
  have J10 : ∀ (T : State) (Lc : List Loc) (X : Stand p l e ({ frames := 0, cells := 0, slots := 0, locals := 0 } : Room) s m #[(.int p0), (.int p1)] below meth c T Lc 0 0) (eT : T.heap = h0) (N : Fr n0 Lc) (w0 : Int32) , own_G p.tables e below (T.setTop (mkF m 10 #[.val (.int p0), .val (.int p1)] [(.int w0)])) s ({ frames := 0, cells := 0, slots := 0, locals := 0 } : Room).cells ({ frames := 0, cells := 0, slots := 0, locals := 0 } : Room).slots (own_P n0 h0 (some (.int (own_max_10 p0 p1 w0)))) := by
    intro T Lc X eT N w0 
    show own_G _ _ _ _ _ _ _ (own_P n0 h0 (some (.int (w0))))
    exact own_endI X hx hlk Bd.returns (hb hby d12_10) (by decide) (by decide) ⟨rfl, N, eT⟩
  show own_G p.tables e below (s₁.setTop (entryFrame m #[(.int p0), (.int p1)] 2)) s ({ frames := 0, cells := 0, slots := 0, locals := 0 } : Room).cells ({ frames := 0, cells := 0, slots := 0, locals := 0 } : Room).slots (own_P n0 h0 (some (.int ((if p0 < p1 then (own_max_10 p0 p1 p1) else (own_max_10 p0 p1 p0))))))
  refine own_go (fun _ k => castTop (ef_12 m p0 p1) k) ?_
  refine own_go (fun _ k => XS.iloadN X0.here hx rfl (hb hby d12_0) rfl k) ?_
  show own_G _ _ _ (s₁.setTop (mkF m 1 #[.val (.int p0), .val (.int p1)] [(.int p0)])) _ _ _ _
  refine own_go (fun _ k => XS.iloadN X0.here hx rfl (hb hby d12_1) rfl k) ?_
  show own_G _ _ _ (s₁.setTop (mkF m 2 #[.val (.int p0), .val (.int p1)] [(.int p1), (.int p0)])) _ _ _ _
  by_cases hc1 : p0 < p1
  · refine own_itI hc1 ?_
    refine own_go (fun _ k => XS.icmpYes X0.here hx rfl (pc0 := 2) (pc' := 9) rfl (hb hby d12_2) rfl (tlt hc1).1 (by decide) (by decide) k) ?_
    show own_G _ _ _ (s₁.setTop (mkF m 9 #[.val (.int p0), .val (.int p1)] [])) _ _ _ _
    refine own_go (fun _ k => XS.iloadN X0.here hx rfl (hb hby d12_9) rfl k) ?_
    show own_G _ _ _ (s₁.setTop (mkF m 10 #[.val (.int p0), .val (.int p1)] [(.int p1)])) _ _ _ _
    exact J10 _ _ X0 e0 N0 p1 
  · refine own_ifI hc1 ?_
    refine own_go (fun _ k => XS.icmpNo X0.here hx rfl (hb hby d12_2) rfl (flt hc1).1 k) ?_
    show own_G _ _ _ (s₁.setTop (mkF m 5 #[.val (.int p0), .val (.int p1)] [])) _ _ _ _
    refine own_go (fun _ k => XS.iloadN X0.here hx rfl (hb hby d12_5) rfl k) ?_
    show own_G _ _ _ (s₁.setTop (mkF m 6 #[.val (.int p0), .val (.int p1)] [(.int p0)])) _ _ _ _
    refine own_go (fun _ k => XS.goto X0.here hx rfl (pc0 := 6) (pc' := 10) rfl (hb hby d12_6) (by decide) (by decide) k) ?_
    show own_G _ _ _ (s₁.setTop (mkF m 10 #[.val (.int p0), .val (.int p1)] [(.int p0)])) _ _ _ _
    exact J10 _ _ X0 e0 N0 p0 
theorem d11_0 : decode jdk_38_method_6_code 0 = .ok (.aload_n 0, 1) := by decide +kernel
theorem d11_1 : decode jdk_38_method_6_code 1 = .ok (.getfield 9, 3) := by decide +kernel
theorem d11_4 : decode jdk_38_method_6_code 4 = .ok (.arraylength, 1) := by decide +kernel
theorem d11_5 : decode jdk_38_method_6_code 5 = .ok (.istore_n 2, 1) := by decide +kernel
theorem d11_6 : decode jdk_38_method_6_code 6 = .ok (.iload_n 2, 1) := by decide +kernel
theorem d11_7 : decode jdk_38_method_6_code 7 = .ok (.ifCond .gt 13, 3) := by decide +kernel
theorem d11_10 : decode jdk_38_method_6_code 10 = .ok (.aload_n 0, 1) := by decide +kernel
theorem d11_11 : decode jdk_38_method_6_code 11 = .ok (.getfield 9, 3) := by decide +kernel
theorem d11_14 : decode jdk_38_method_6_code 14 = .ok (.getstatic 39, 3) := by decide +kernel
theorem d11_17 : decode jdk_38_method_6_code 17 = .ok (.if_acmp .eq 28, 3) := by decide +kernel
theorem d11_20 : decode jdk_38_method_6_code 20 = .ok (.iload_n 2, 1) := by decide +kernel
theorem d11_21 : decode jdk_38_method_6_code 21 = .ok (.iload_n 1, 1) := by decide +kernel
theorem d11_22 : decode jdk_38_method_6_code 22 = .ok (.iload_n 2, 1) := by decide +kernel
theorem d11_23 : decode jdk_38_method_6_code 23 = .ok (.isub, 1) := by decide +kernel
theorem d11_24 : decode jdk_38_method_6_code 24 = .ok (.iload_n 2, 1) := by decide +kernel
theorem d11_25 : decode jdk_38_method_6_code 25 = .ok (.iconst 1, 1) := by decide +kernel
theorem d11_26 : decode jdk_38_method_6_code 26 = .ok (.ishr, 1) := by decide +kernel
theorem d11_27 : decode jdk_38_method_6_code 27 = .ok (.invokestatic 73, 3) := by decide +kernel
theorem d11_30 : decode jdk_38_method_6_code 30 = .ok (.istore_n 3, 1) := by decide +kernel
theorem d11_31 : decode jdk_38_method_6_code 31 = .ok (.aload_n 0, 1) := by decide +kernel
theorem d11_32 : decode jdk_38_method_6_code 32 = .ok (.aload_n 0, 1) := by decide +kernel
theorem d11_33 : decode jdk_38_method_6_code 33 = .ok (.getfield 9, 3) := by decide +kernel
theorem d11_36 : decode jdk_38_method_6_code 36 = .ok (.iload_n 3, 1) := by decide +kernel
theorem d11_37 : decode jdk_38_method_6_code 37 = .ok (.invokestatic 66, 3) := by decide +kernel
theorem d11_40 : decode jdk_38_method_6_code 40 = .ok (.dup_x1, 1) := by decide +kernel
theorem d11_41 : decode jdk_38_method_6_code 41 = .ok (.putfield 9, 3) := by decide +kernel
theorem d11_44 : decode jdk_38_method_6_code 44 = .ok (.areturn, 1) := by decide +kernel
theorem d11_45 : decode jdk_38_method_6_code 45 = .ok (.aload_n 0, 1) := by decide +kernel
theorem d11_46 : decode jdk_38_method_6_code 46 = .ok (.bipush 10, 2) := by decide +kernel
theorem d11_48 : decode jdk_38_method_6_code 48 = .ok (.iload_n 1, 1) := by decide +kernel
theorem d11_49 : decode jdk_38_method_6_code 49 = .ok (.invokestatic 79, 3) := by decide +kernel
theorem d11_52 : decode jdk_38_method_6_code 52 = .ok (.anewarray 7, 3) := by decide +kernel
theorem d11_55 : decode jdk_38_method_6_code 55 = .ok (.dup_x1, 1) := by decide +kernel
theorem d11_56 : decode jdk_38_method_6_code 56 = .ok (.putfield 9, 3) := by decide +kernel
theorem d11_59 : decode jdk_38_method_6_code 59 = .ok (.areturn, 1) := by decide +kernel
theorem pd_2 : parseMethodDescriptor "(II)I" = some ⟨[.int, .int], some .int⟩ := by decide +kernel
theorem ef_11 (m : MethodId) (p0 : Addr) : entryFrame m #[(.ref p0), (.int (1 : Int32))] 4 = mkF m 0 #[.val (.ref p0), .val (.int (1 : Int32)), .unset, .unset] [] := by first | (simp [entryFrame, mkF, argsToLocals, Value.category]; done) | rfl
def Q11 (Z : State) (p0 : Addr) (mc : Int32) (d0 : Addr) (k0 : ClassId) (h0 : Heap) (n0 : Nat) (v : Option Value) (h : Heap) (L : List Loc) : Prop := ∃ (na : Addr) (kn : ClassId), v = some (.ref na) ∧ Fr n0 L ∧ Keep h0 h [p0] ∧ h0.size ≤ na ∧ Exa Z h p0 "java/util/ArrayList" ∧ Fld Z h p0 "java/util/AbstractList" "modCount" "I" (.int mc) ∧ Fld Z h p0 "java/util/ArrayList" "elementData" "[Ljava/lang/Object;" (.ref na) ∧ Fld Z h p0 "java/util/ArrayList" "size" "I" (.int (0 : Int32)) ∧ Arv Z h na kn (.object "java/lang/Object") (10 : Int32) [.null, .null, .null, .null, .null, .null, .null, .null, .null, .null] .null ∧ Ovr Z kn "java/lang/Object"
set_option maxRecDepth 65536 in
set_option maxHeartbeats 40000000 in
theorem rm11 (l : Launch) (Z : State) (a0 : Array Value) (hw : ∀ d ∈ tables_1, d.before a0 Z = true) (ws : List Jvm.Cond) (p0 : Addr) (mc : Int32) (d0 : Addr) (k0 : ClassId) (h0 : Heap) (n0 : Nat) (Z0 : n0 ≤ h0.size) (P_E_p0 : Exa Z h0 p0 "java/util/ArrayList") (P_F_p0_modCount : Fld Z h0 p0 "java/util/AbstractList" "modCount" "I" (.int mc)) (P_F_p0_elementData : Fld Z h0 p0 "java/util/ArrayList" "elementData" "[Ljava/lang/Object;" (.ref d0)) (P_F_p0_size : Fld Z h0 p0 "java/util/ArrayList" "size" "I" (.int (0 : Int32))) (g_p0 : n0 ≤ p0) (P_Old : Old Z n0 h0) (P_ZS_java_util_ArrayList_DEFAULTCAPACITY_EMPTY_ELEMENTDATA : Sta Z Z.heap "java/util/ArrayList" "DEFAULTCAPACITY_EMPTY_ELEMENTDATA" "[Ljava/lang/Object;" (.ref d0)) (P_V_d0 : Arv Z h0 d0 k0 (.object "java/lang/Object") (0 : Int32) [] .null) :
    MetFree l (⟨"java/util/ArrayList", "grow", "(I)[Ljava/lang/Object;"⟩ : MethodName) (head1 (Jvm.Cond.code (⟨"java/util/ArrayList", "grow", "(I)[Ljava/lang/Object;"⟩ : MethodName) jdk_38_method_6_code 4 (some (.array (.object "java/lang/Object"))) :: ws) ({ frames := 1, cells := 1, slots := 10, locals := 14 } : Room)) (fun a U => a = #[(.ref p0), (.int (1 : Int32))] ∧ Z.Warmed39 U.vm ∧ U.heap = h0) (fun _ _ _ _ _ => True) (fun _ U o U' => ∃ v L, o = .returned v ∧ (Q11 Z p0 mc d0 k0 h0 n0) v U'.heap L ∧ FrameEnd U o U' L ({ frames := 1, cells := 1, slots := 10, locals := 14 } : Room).cells ({ frames := 1, cells := 1, slots := 10, locals := 14 } : Room).slots) := by
  refine MetFree.of_bodySF (plainFor_of_name pn_3) hisR ?_
  intro p e s m args below meth c s₁ Bd hml0 hP hK
  obtain ⟨rfl, hZ, hh⟩ := hP
  have hx := Bd.exec
  have hby := Bd.bytes
  have hml : c.maxLocals = 4 := hml0
  have hown : s.vm.findClass "java/util/ArrayList" = some m.cls := findClass_of_methodNamed Bd.named
  have hnm := (name_of_methodNamed Bd.named Bd.method).1
  have hlk : meth.locks = false := BodyLoose.notSynchronized Bd
  have X0 : Stand p l e ({ frames := 1, cells := 1, slots := 10, locals := 14 } : Room) s m #[(.ref p0), (.int (1 : Int32))] below meth c s₁ [] 0 0 := Stand.of_body Bd
  have e0 : s₁.heap = h0 := by rw [← hh, Bd.state]; rfl
  have N0 := Fr.nil n0
  have K0 : Keep h0 h0 [p0] := Keep.refl h0 [p0]
  show own_G p.tables e below (s₁.setTop (entryFrame m #[(.ref p0), (.int (1 : Int32))] 4)) s ({ frames := 1, cells := 1, slots := 10, locals := 14 } : Room).cells ({ frames := 1, cells := 1, slots := 10, locals := 14 } : Room).slots (Q11 Z p0 mc d0 k0 h0 n0)
  refine own_go (fun _ k => castTop (ef_11 m p0) k) ?_
  show own_G _ _ _ (s₁.setTop (mkF m 0 #[.val (.ref p0), .val (.int (1 : Int32)), .unset, .unset] [])) _ _ _ _
  refine own_go (fun _ k => XS.aloadN X0.here hx rfl (hb hby d11_0) rfl rfl k) ?_
  show own_G _ _ _ (s₁.setTop (mkF m 1 #[.val (.ref p0), .val (.int (1 : Int32)), .unset, .unset] [(.ref p0)])) _ _ _ _
  obtain ⟨T1, X1, e1, st1⟩ := getF X0 hx hZ hown (host := "") (Or.inl (hw _ (List.mem_of_getElem? (i := 28) rfl))) Via.refl e0 P_F_p0_elementData (g := (mkF m 1 #[.val (.ref p0), .val (.int (1 : Int32)), .unset, .unset] [(.ref p0)])) rfl rfl (hb hby d11_1)
  refine own_go (fun _ k => st1 _ k) ?_
  show own_G _ _ _ (T1.setTop (mkF m 4 #[.val (.ref p0), .val (.int (1 : Int32)), .unset, .unset] [(.ref d0)])) _ _ _ _
  obtain ⟨cl2, Ar2, -, S2, Ng2, -, -⟩ := id P_V_d0
  refine own_go (fun _ k => X1.arraylength hx (by rw [e1]; exact Ar2.1) (State.isArrayOf_alike hZ.alike Ar2.2.1) (g := (mkF m 4 #[.val (.ref p0), .val (.int (1 : Int32)), .unset, .unset] [(.ref d0)])) rfl rfl (hb hby d11_4) _ k) ?_
  rw [len_of S2 Ng2]
  show own_G _ _ _ (T1.setTop (mkF m 5 #[.val (.ref p0), .val (.int (1 : Int32)), .unset, .unset] [(.int (0 : Int32))])) _ _ _ _
  refine own_go (fun _ k => XS.istoreN X1.here hx rfl (hb hby d11_5) rfl (l' := #[.val (.ref p0), .val (.int (1 : Int32)), .val (.int (0 : Int32)), .unset]) rfl k) ?_
  show own_G _ _ _ (T1.setTop (mkF m 6 #[.val (.ref p0), .val (.int (1 : Int32)), .val (.int (0 : Int32)), .unset] [])) _ _ _ _
  refine own_go (fun _ k => XS.iloadN X1.here hx rfl (hb hby d11_6) rfl k) ?_
  show own_G _ _ _ (T1.setTop (mkF m 7 #[.val (.ref p0), .val (.int (1 : Int32)), .val (.int (0 : Int32)), .unset] [(.int (0 : Int32))])) _ _ _ _
  have hc3 : ¬ ((0 : Int32) < (0 : Int32)) := (by decide)
  refine own_go (fun _ k => XS.ifNo X1.here hx rfl (hb hby d11_7) rfl ((if0 _ _).trans (flt hc3).2.2.1) k) ?_
  show own_G _ _ _ (T1.setTop (mkF m 10 #[.val (.ref p0), .val (.int (1 : Int32)), .val (.int (0 : Int32)), .unset] [])) _ _ _ _
  refine own_go (fun _ k => XS.aloadN X1.here hx rfl (hb hby d11_10) rfl rfl k) ?_
  show own_G _ _ _ (T1.setTop (mkF m 11 #[.val (.ref p0), .val (.int (1 : Int32)), .val (.int (0 : Int32)), .unset] [(.ref p0)])) _ _ _ _
  obtain ⟨T4, X4, e4, st4⟩ := getF X1 hx hZ hown (host := "") (Or.inl (hw _ (List.mem_of_getElem? (i := 28) rfl))) Via.refl e1 P_F_p0_elementData (g := (mkF m 11 #[.val (.ref p0), .val (.int (1 : Int32)), .val (.int (0 : Int32)), .unset] [(.ref p0)])) rfl rfl (hb hby d11_11)
  refine own_go (fun _ k => st4 _ k) ?_
  show own_G _ _ _ (T4.setTop (mkF m 14 #[.val (.ref p0), .val (.int (1 : Int32)), .val (.int (0 : Int32)), .unset] [(.ref d0)])) _ _ _ _
  obtain ⟨T5, X5, e5, st5⟩ := getS2 X4 hx hZ hown (host := "") (Or.inl (hw _ (List.mem_of_getElem? (i := 27) rfl))) Via.refl e4 (P_ZS_java_util_ArrayList_DEFAULTCAPACITY_EMPTY_ELEMENTDATA.ext P_Old.2) (g := (mkF m 14 #[.val (.ref p0), .val (.int (1 : Int32)), .val (.int (0 : Int32)), .unset] [(.ref d0)])) rfl (hb hby d11_14)
  refine own_go (fun _ k => st5 _ k) ?_
  show own_G _ _ _ (T5.setTop (mkF m 17 #[.val (.ref p0), .val (.int (1 : Int32)), .val (.int (0 : Int32)), .unset] [(.ref d0), (.ref d0)])) _ _ _ _
  refine own_go (fun _ k => Jvm.RoadKit.acmp (g := (mkF m 17 #[.val (.ref p0), .val (.int (1 : Int32)), .val (.int (0 : Int32)), .unset] [(.ref d0), (.ref d0)])) X5 hx rfl rfl rfl (pc0 := 17) (pc' := 45) (same := true) rfl (hb hby d11_17) rfl (decide_eq_true rfl) (by decide) (by decide) k) ?_
  show own_G _ _ _ (T5.setTop (mkF m 45 #[.val (.ref p0), .val (.int (1 : Int32)), .val (.int (0 : Int32)), .unset] [])) _ _ _ _
  refine own_go (fun _ k => XS.aloadN X5.here hx rfl (hb hby d11_45) rfl rfl k) ?_
  show own_G _ _ _ (T5.setTop (mkF m 46 #[.val (.ref p0), .val (.int (1 : Int32)), .val (.int (0 : Int32)), .unset] [(.ref p0)])) _ _ _ _
  refine own_go (fun _ k => XS.bipush X5.here hx rfl (hb hby d11_46) k) ?_
  show own_G _ _ _ (T5.setTop (mkF m 48 #[.val (.ref p0), .val (.int (1 : Int32)), .val (.int (0 : Int32)), .unset] [(.int (10 : Int32)), (.ref p0)])) _ _ _ _
  refine own_go (fun _ k => XS.iloadN X5.here hx rfl (hb hby d11_48) rfl k) ?_
  show own_G _ _ _ (T5.setTop (mkF m 49 #[.val (.ref p0), .val (.int (1 : Int32)), .val (.int (0 : Int32)), .unset] [(.int (1 : Int32)), (.int (10 : Int32)), (.ref p0)])) _ _ _ _
  obtain ⟨_, _, ⟨T6, L6, k6, n6⟩, -, X6, ⟨Lc6, hQ6, l6, y6, z6⟩, st6⟩ := Jvm.LawKit.callS X5 hx (y := (⟨"java/lang/Math", "max", "(II)I"⟩ : MethodName)) hown (mvT hZ (hw _ (List.mem_of_getElem? (i := 75) rfl))) (mvT hZ (hw _ (List.mem_of_getElem? (i := 76) rfl))) (mvT hZ (hw _ (List.mem_of_getElem? (i := 77) rfl))) (mvT hZ (hw _ (List.mem_of_getElem? (i := 78) rfl))) (by decide) (backOf (W := 1) (rm12 l Z a0 hw [] (10 : Int32) (1 : Int32) h0 n0) hZ (hw _ (List.mem_of_getElem? (i := 78) rfl)) (hw _ (List.mem_of_getElem? (i := 77) rfl)) (by decide) (by decide)) (g := (mkF m 49 #[.val (.ref p0), .val (.int (1 : Int32)), .val (.int (0 : Int32)), .unset] [(.int (1 : Int32)), (.int (10 : Int32)), (.ref p0)])) rfl (by rw [hml]; rfl) (argsL := [(.int (10 : Int32)), (.int (1 : Int32))]) (rest := [(.ref p0)]) (lenOf pd_2 rfl) rfl (by show 2 * 0 + _ ≤ _; exact Nat.le_of_eq rfl) (hb hby d11_49) (fun _ _ => ⟨rfl, e5, (by decide : 0 + 0 ≤ _), (by decide : 0 + 0 ≤ _)⟩)
  dsimp only [Pt.U, Pt.locs, Pt.cells, Pt.slots] at X6 l6 y6 z6 st6 hQ6
  subst l6 y6 z6
  obtain ⟨rfl, Nq6, eh6⟩ := hQ6
  have N6 := Fr.app N0 Nq6
  refine own_go (fun _ k => st6 _ k) ?_
  show own_G _ _ _ (T6.setTop (mkF m 52 #[.val (.ref p0), .val (.int (1 : Int32)), .val (.int (0 : Int32)), .unset] [(.int (10 : Int32)), (.ref p0)])) _ _ _ _
  obtain ⟨T7, h7, k7, X7, e7, E7, A7, O7, st7⟩ := newR X6 hx hZ hown (hw _ (List.mem_of_getElem? (i := 79) rfl)) (hw _ (List.mem_of_getElem? (i := 80) rfl)) eh6 (g := (mkF m 52 #[.val (.ref p0), .val (.int (1 : Int32)), .val (.int (0 : Int32)), .unset] [(.int (10 : Int32)), (.ref p0)])) rfl (hb hby d11_52) rfl (by decide) (cap := 10) (by decide) (by decide) (by decide) (by decide)
  obtain ⟨b7, g7⟩ : ∃ z, z = h0.size := ⟨_, rfl⟩
  rw [← g7] at A7 st7
  have ne8 : p0 ≠ b7 := Nat.ne_of_lt (Nat.lt_of_lt_of_le P_E_p0.lt (Nat.le_of_eq g7.symm))
  have ne9 : d0 ≠ b7 := Nat.ne_of_lt (Nat.lt_of_lt_of_le P_V_d0.lt (Nat.le_of_eq g7.symm))
  have gg7 : n0 ≤ b7 := Nat.le_trans Z0 (Nat.le_of_eq g7.symm)
  have sz7_0 : h0.size ≤ b7 := Nat.le_trans K0.1 (Nat.le_of_eq g7.symm)
  have Zs7 : n0 ≤ h7.size := Nat.le_trans Z0 E7.1
  have K7_0 : Keep h0 h7 [p0] := K0.ext E7
  have f10 : Exa Z h7 p0 "java/util/ArrayList" := P_E_p0.ext E7
  have f11 : Fld Z h7 p0 "java/util/AbstractList" "modCount" "I" (.int mc) := P_F_p0_modCount.ext E7
  have f12 : Fld Z h7 p0 "java/util/ArrayList" "elementData" "[Ljava/lang/Object;" (.ref d0) := P_F_p0_elementData.ext E7
  have f13 : Fld Z h7 p0 "java/util/ArrayList" "size" "I" (.int (0 : Int32)) := P_F_p0_size.ext E7
  have f14 : Old Z n0 h7 := P_Old.ext E7
  have f15 : Arv Z h7 d0 k0 (.object "java/lang/Object") (0 : Int32) [] .null := P_V_d0.ext E7
  have f16 : Ovr Z k7 "java/lang/Object" := O7
  have f17 : Arv Z h7 b7 k7 (.object "java/lang/Object") (10 : Int32) [.null, .null, .null, .null, .null, .null, .null, .null, .null, .null] .null := (Arv.new A7 (by decide)).pad (pad_rep [] .null 10)
  refine own_go (fun _ k => st7 _ k) ?_
  show own_G _ _ _ (T7.setTop (mkF m 55 #[.val (.ref p0), .val (.int (1 : Int32)), .val (.int (0 : Int32)), .unset] [(.ref b7), (.ref p0)])) _ _ _ _
  refine own_go (fun _ k => XS.dupX1 X7.here hx rfl (hb hby d11_55) rfl rfl rfl k) ?_
  show own_G _ _ _ (T7.setTop (mkF m 56 #[.val (.ref p0), .val (.int (1 : Int32)), .val (.int (0 : Int32)), .unset] [(.ref b7), (.ref p0), (.ref b7)])) _ _ _ _
  obtain ⟨T18, h18, X18, e18, W18, st18⟩ := putF X7 hx hZ hown (host := "") (Or.inl (hw _ (List.mem_of_getElem? (i := 28) rfl))) Via.refl e7 f12 f10 (Or.inl (hw _ (List.mem_of_getElem? (i := 29) rfl))) (hw _ (List.mem_of_getElem? (i := 5) rfl)) (ty := (.array (.object "java/lang/Object"))) (by decide) rfl rfl (g := (mkF m 56 #[.val (.ref p0), .val (.int (1 : Int32)), .val (.int (0 : Int32)), .unset] [(.ref b7), (.ref p0), (.ref b7)])) rfl rfl (hb hby d11_56)
  have N18 := Fr.snoc X18 N6 g_p0
  have Zs18 : n0 ≤ h18.size := Nat.le_trans Zs7 (Keep.of_wr W18).1
  have K18_0 : Keep h0 h18 [p0] := K7_0.wr W18 (Or.inl (List.mem_of_getElem? (i := 0) rfl))
  have f19 : Exa Z h18 p0 "java/util/ArrayList" := f10.wr W18
  have f20 : Fld Z h18 p0 "java/util/AbstractList" "modCount" "I" (.int mc) := f11.other W18 (Or.inr (slot_ne (Or.inl (hw _ (List.mem_of_getElem? (i := 26) rfl))) (Or.inl (hw _ (List.mem_of_getElem? (i := 29) rfl))) (by decide) (t := .int) (t' := (.array (.object "java/lang/Object"))) (by decide) (by decide)))
  have f21 : Fld Z h18 p0 "java/util/ArrayList" "elementData" "[Ljava/lang/Object;" (.ref b7) := f12.same W18
  have f22 : Fld Z h18 p0 "java/util/ArrayList" "size" "I" (.int (0 : Int32)) := f13.other W18 (Or.inr (slot_ne (Or.inl (hw _ (List.mem_of_getElem? (i := 42) rfl))) (Or.inl (hw _ (List.mem_of_getElem? (i := 29) rfl))) (by decide) (t := .int) (t' := (.array (.object "java/lang/Object"))) (by decide) (by decide)))
  have f23 : Old Z n0 h18 := f14.wr W18 g_p0
  have f24 : Arv Z h18 d0 k0 (.object "java/lang/Object") (0 : Int32) [] .null := f15.other W18 (Ne.symm (by obtain ⟨c_, A_, -⟩ := f15; exact ne_arr f10 (hw _ (List.mem_of_getElem? (i := 5) rfl)) A_))
  have f25 : Arv Z h18 b7 k7 (.object "java/lang/Object") (10 : Int32) [.null, .null, .null, .null, .null, .null, .null, .null, .null, .null] .null := f17.other W18 (Ne.symm ne8)
  refine own_go (fun _ k => st18 _ k) ?_
  show own_G _ _ _ (T18.setTop (mkF m 59 #[.val (.ref p0), .val (.int (1 : Int32)), .val (.int (0 : Int32)), .unset] [(.ref b7)])) _ _ _ _
  exact own_endR X18 hx hlk Bd.returns rfl rfl rfl (hb hby d11_59) (by decide) (by decide) (Q := (Q11 Z p0 mc d0 k0 h0 n0)) (by rw [e18]; exact ⟨b7, k7, rfl, N18, K18_0, sz7_0, f19, f20, f21, f22, f25, f16⟩)
theorem d10_0 : decode jdk_38_method_7_code 0 = .ok (.aload_n 0, 1) := by decide +kernel
theorem d10_1 : decode jdk_38_method_7_code 1 = .ok (.aload_n 0, 1) := by decide +kernel
theorem d10_2 : decode jdk_38_method_7_code 2 = .ok (.getfield 48, 3) := by decide +kernel
theorem d10_5 : decode jdk_38_method_7_code 5 = .ok (.iconst 1, 1) := by decide +kernel
theorem d10_6 : decode jdk_38_method_7_code 6 = .ok (.iadd, 1) := by decide +kernel
theorem d10_7 : decode jdk_38_method_7_code 7 = .ok (.invokevirtual 69, 3) := by decide +kernel
theorem d10_10 : decode jdk_38_method_7_code 10 = .ok (.areturn, 1) := by decide +kernel
theorem pd_3 : parseMethodDescriptor "(I)[Ljava/lang/Object;" = some ⟨[.int], some (.array (.object "java/lang/Object"))⟩ := by decide +kernel
theorem ef_10 (m : MethodId) (p0 : Addr) : entryFrame m #[(.ref p0)] 1 = mkF m 0 #[.val (.ref p0)] [] := by first | (simp [entryFrame, mkF, argsToLocals, Value.category]; done) | rfl
def Q10 (Z : State) (p0 : Addr) (mc : Int32) (d0 : Addr) (k0 : ClassId) (h0 : Heap) (n0 : Nat) (v : Option Value) (h : Heap) (L : List Loc) : Prop := ∃ (na : Addr) (kn : ClassId), v = some (.ref na) ∧ Fr n0 L ∧ Keep h0 h [p0] ∧ h0.size ≤ na ∧ Exa Z h p0 "java/util/ArrayList" ∧ Fld Z h p0 "java/util/AbstractList" "modCount" "I" (.int mc) ∧ Fld Z h p0 "java/util/ArrayList" "elementData" "[Ljava/lang/Object;" (.ref na) ∧ Fld Z h p0 "java/util/ArrayList" "size" "I" (.int (0 : Int32)) ∧ Arv Z h na kn (.object "java/lang/Object") (10 : Int32) [.null, .null, .null, .null, .null, .null, .null, .null, .null, .null] .null ∧ Ovr Z kn "java/lang/Object"
set_option maxRecDepth 65536 in
set_option maxHeartbeats 40000000 in
theorem rm10 (l : Launch) (Z : State) (a0 : Array Value) (hw : ∀ d ∈ tables_1, d.before a0 Z = true) (ws : List Jvm.Cond) (p0 : Addr) (mc : Int32) (d0 : Addr) (k0 : ClassId) (h0 : Heap) (n0 : Nat) (Z0 : n0 ≤ h0.size) (P_E_p0 : Exa Z h0 p0 "java/util/ArrayList") (P_F_p0_modCount : Fld Z h0 p0 "java/util/AbstractList" "modCount" "I" (.int mc)) (P_F_p0_elementData : Fld Z h0 p0 "java/util/ArrayList" "elementData" "[Ljava/lang/Object;" (.ref d0)) (P_F_p0_size : Fld Z h0 p0 "java/util/ArrayList" "size" "I" (.int (0 : Int32))) (g_p0 : n0 ≤ p0) (P_Old : Old Z n0 h0) (P_ZS_java_util_ArrayList_DEFAULTCAPACITY_EMPTY_ELEMENTDATA : Sta Z Z.heap "java/util/ArrayList" "DEFAULTCAPACITY_EMPTY_ELEMENTDATA" "[Ljava/lang/Object;" (.ref d0)) (P_V_d0 : Arv Z h0 d0 k0 (.object "java/lang/Object") (0 : Int32) [] .null) :
    MetFree l (⟨"java/util/ArrayList", "grow", "()[Ljava/lang/Object;"⟩ : MethodName) (head1 (Jvm.Cond.code (⟨"java/util/ArrayList", "grow", "()[Ljava/lang/Object;"⟩ : MethodName) jdk_38_method_7_code 1 (some (.array (.object "java/lang/Object"))) :: ws) ({ frames := 2, cells := 1, slots := 10, locals := 29 } : Room)) (fun a U => a = #[(.ref p0)] ∧ Z.Warmed39 U.vm ∧ U.heap = h0) (fun _ _ _ _ _ => True) (fun _ U o U' => ∃ v L, o = .returned v ∧ (Q10 Z p0 mc d0 k0 h0 n0) v U'.heap L ∧ FrameEnd U o U' L ({ frames := 2, cells := 1, slots := 10, locals := 29 } : Room).cells ({ frames := 2, cells := 1, slots := 10, locals := 29 } : Room).slots) := by
  refine MetFree.of_bodySF (plainFor_of_name pn_3) hisR ?_
  intro p e s m args below meth c s₁ Bd hml0 hP hK
  obtain ⟨rfl, hZ, hh⟩ := hP
  have hx := Bd.exec
  have hby := Bd.bytes
  have hml : c.maxLocals = 1 := hml0
  have hown : s.vm.findClass "java/util/ArrayList" = some m.cls := findClass_of_methodNamed Bd.named
  have hnm := (name_of_methodNamed Bd.named Bd.method).1
  have hlk : meth.locks = false := BodyLoose.notSynchronized Bd
  have X0 : Stand p l e ({ frames := 2, cells := 1, slots := 10, locals := 29 } : Room) s m #[(.ref p0)] below meth c s₁ [] 0 0 := Stand.of_body Bd
  have e0 : s₁.heap = h0 := by rw [← hh, Bd.state]; rfl
  have N0 := Fr.nil n0
  have K0 : Keep h0 h0 [p0] := Keep.refl h0 [p0]
  show own_G p.tables e below (s₁.setTop (entryFrame m #[(.ref p0)] 1)) s ({ frames := 2, cells := 1, slots := 10, locals := 29 } : Room).cells ({ frames := 2, cells := 1, slots := 10, locals := 29 } : Room).slots (Q10 Z p0 mc d0 k0 h0 n0)
  refine own_go (fun _ k => castTop (ef_10 m p0) k) ?_
  show own_G _ _ _ (s₁.setTop (mkF m 0 #[.val (.ref p0)] [])) _ _ _ _
  refine own_go (fun _ k => XS.aloadN X0.here hx rfl (hb hby d10_0) rfl rfl k) ?_
  show own_G _ _ _ (s₁.setTop (mkF m 1 #[.val (.ref p0)] [(.ref p0)])) _ _ _ _
  refine own_go (fun _ k => XS.aloadN X0.here hx rfl (hb hby d10_1) rfl rfl k) ?_
  show own_G _ _ _ (s₁.setTop (mkF m 2 #[.val (.ref p0)] [(.ref p0), (.ref p0)])) _ _ _ _
  obtain ⟨T1, X1, e1, st1⟩ := getF X0 hx hZ hown (host := "") (Or.inl (hw _ (List.mem_of_getElem? (i := 41) rfl))) Via.refl e0 P_F_p0_size (g := (mkF m 2 #[.val (.ref p0)] [(.ref p0), (.ref p0)])) rfl rfl (hb hby d10_2)
  refine own_go (fun _ k => st1 _ k) ?_
  show own_G _ _ _ (T1.setTop (mkF m 5 #[.val (.ref p0)] [(.int (0 : Int32)), (.ref p0)])) _ _ _ _
  refine own_go (fun _ k => XS.iconst X1.here hx rfl (hb hby d10_5) k) ?_
  show own_G _ _ _ (T1.setTop (mkF m 6 #[.val (.ref p0)] [(.int (1 : Int32)), (.int (0 : Int32)), (.ref p0)])) _ _ _ _
  refine own_go (fun _ k => XS.iadd X1.here hx rfl (hb hby d10_6) rfl k) ?_
  show own_G _ _ _ (T1.setTop (mkF m 7 #[.val (.ref p0)] [(.int (1 : Int32)), (.ref p0)])) _ _ _ _
  obtain ⟨cq2, q2, q2'⟩ := P_E_p0.cell
  obtain ⟨_, _, ⟨T2, L2, k2, n2⟩, -, X2, ⟨Lc2, hQ2, l2, y2, z2⟩, st2⟩ := X1.privateBack hx (y := (⟨"java/util/ArrayList", "grow", "(I)[Ljava/lang/Object;"⟩ : MethodName)) hown (mvT hZ (hw _ (List.mem_of_getElem? (i := 70) rfl))) (mvT hZ (hw _ (List.mem_of_getElem? (i := 71) rfl))) (mvT hZ (hw _ (List.mem_of_getElem? (i := 73) rfl))) (Cond.privateMethod_at (mvP hZ (hw _ (List.mem_of_getElem? (i := 72) rfl)) (args := #[]))) (mvT hZ (hw _ (List.mem_of_getElem? (i := 74) rfl))) (by decide) (backOf (W := 0) (rm11 l Z a0 hw [] p0 mc d0 k0 h0 n0 Z0 P_E_p0 P_F_p0_modCount P_F_p0_elementData P_F_p0_size g_p0 P_Old P_ZS_java_util_ArrayList_DEFAULTCAPACITY_EMPTY_ELEMENTDATA P_V_d0) hZ (hw _ (List.mem_of_getElem? (i := 74) rfl)) (hw _ (List.mem_of_getElem? (i := 6) rfl)) (by decide) (by decide)) (g := (mkF m 7 #[.val (.ref p0)] [(.int (1 : Int32)), (.ref p0)])) rfl (by rw [hml]; rfl) (Steps.refl _) (a := p0) (by rw [e1]; exact q2) q2' (argsL := [(.int (1 : Int32))]) (rest := []) (lenOf pd_3 rfl) rfl (by show 2 * 0 + _ ≤ _; exact Nat.le_of_eq rfl) (hb hby d10_7) (fun _ _ => ⟨rfl, e1, (by decide : 0 + 1 ≤ _), (by decide : 0 + 10 ≤ _)⟩)
  dsimp only [Pt.U, Pt.locs, Pt.cells, Pt.slots] at X2 l2 y2 z2 st2 hQ2
  subst l2 y2 z2
  obtain ⟨na2, kn2, rfl, Nq2, Kq2, r2_0, r2_1, r2_2, r2_3, r2_4, r2_5, r2_6⟩ := hQ2
  have N2 := Fr.app N0 Nq2
  have ne3 : p0 ≠ na2 := Nat.ne_of_lt (Nat.lt_of_lt_of_le P_E_p0.lt r2_0)
  have ne4 : d0 ≠ na2 := Nat.ne_of_lt (Nat.lt_of_lt_of_le P_V_d0.lt r2_0)
  have gg_na2 : n0 ≤ na2 := Nat.le_trans Z0 r2_0
  have sz_na2_0 : h0.size ≤ na2 := Nat.le_trans K0.1 r2_0
  have f5 : Exa Z T2.heap p0 "java/util/ArrayList" := P_E_p0.keep Kq2
  have f6 : Old Z n0 T2.heap := P_Old.keep Kq2 (allS g_p0 all0)
  have f7 : Arv Z T2.heap d0 k0 (.object "java/lang/Object") (0 : Int32) [] .null := P_V_d0.keep Kq2 (ninS (Ne.symm (by obtain ⟨c_, A_, -⟩ := P_V_d0; exact ne_arr P_E_p0 (hw _ (List.mem_of_getElem? (i := 5) rfl)) A_)) nin0)
  have Zs2 : n0 ≤ T2.heap.size := Nat.le_trans Z0 Kq2.1
  have K2_0 : Keep h0 T2.heap [p0] := K0.trans Kq2 (allS (Or.inl (List.mem_of_getElem? (i := 0) rfl)) all0)
  refine own_tr st2 ?_
  show own_G _ _ _ (T2.setTop (mkF m 10 #[.val (.ref p0)] [(.ref na2)])) _ _ _ _
  exact own_endR X2 hx hlk Bd.returns rfl rfl rfl (hb hby d10_10) (by decide) (by decide) (Q := (Q10 Z p0 mc d0 k0 h0 n0)) ⟨na2, kn2, rfl, N2, K2_0, sz_na2_0, r2_1, r2_2, r2_3, r2_4, r2_5, r2_6⟩
theorem d9_0 : decode jdk_38_method_24_code 0 = .ok (.iload_n 3, 1) := by decide +kernel
theorem d9_1 : decode jdk_38_method_24_code 1 = .ok (.aload_n 2, 1) := by decide +kernel
theorem d9_2 : decode jdk_38_method_24_code 2 = .ok (.arraylength, 1) := by decide +kernel
theorem d9_3 : decode jdk_38_method_24_code 3 = .ok (.if_icmp .ne 8, 3) := by decide +kernel
theorem d9_6 : decode jdk_38_method_24_code 6 = .ok (.aload_n 0, 1) := by decide +kernel
theorem d9_7 : decode jdk_38_method_24_code 7 = .ok (.invokevirtual 129, 3) := by decide +kernel
theorem d9_10 : decode jdk_38_method_24_code 10 = .ok (.astore_n 2, 1) := by decide +kernel
theorem d9_11 : decode jdk_38_method_24_code 11 = .ok (.aload_n 2, 1) := by decide +kernel
theorem d9_12 : decode jdk_38_method_24_code 12 = .ok (.iload_n 3, 1) := by decide +kernel
theorem d9_13 : decode jdk_38_method_24_code 13 = .ok (.aload_n 1, 1) := by decide +kernel
theorem d9_14 : decode jdk_38_method_24_code 14 = .ok (.aastore, 1) := by decide +kernel
theorem d9_15 : decode jdk_38_method_24_code 15 = .ok (.aload_n 0, 1) := by decide +kernel
theorem d9_16 : decode jdk_38_method_24_code 16 = .ok (.iload_n 3, 1) := by decide +kernel
theorem d9_17 : decode jdk_38_method_24_code 17 = .ok (.iconst 1, 1) := by decide +kernel
theorem d9_18 : decode jdk_38_method_24_code 18 = .ok (.iadd, 1) := by decide +kernel
theorem d9_19 : decode jdk_38_method_24_code 19 = .ok (.putfield 48, 3) := by decide +kernel
theorem d9_22 : decode jdk_38_method_24_code 22 = .ok (.return_, 1) := by decide +kernel
theorem pd_4 : parseMethodDescriptor "()[Ljava/lang/Object;" = some ⟨[], some (.array (.object "java/lang/Object"))⟩ := by decide +kernel
theorem ef_9a (m : MethodId) (p0 : Addr) (p1 : Addr) (d0 : Addr) : entryFrame m #[(.ref p0), (.ref p1), (.ref d0), (.int (0 : Int32))] 4 = mkF m 0 #[.val (.ref p0), .val (.ref p1), .val (.ref d0), .val (.int (0 : Int32))] [] := by first | (simp [entryFrame, mkF, argsToLocals, Value.category]; done) | rfl
def Q9a (Z : State) (p0 : Addr) (p1 : Addr) (d0 : Addr) (mc : Int32) (k0 : ClassId) (h0 : Heap) (n0 : Nat) (v : Option Value) (h : Heap) (L : List Loc) : Prop := ∃ (na : Addr) (kn : ClassId), v = none ∧ Fr n0 L ∧ Keep h0 h [p0] ∧ h0.size ≤ na ∧ Exa Z h p0 "java/util/ArrayList" ∧ Fld Z h p0 "java/util/AbstractList" "modCount" "I" (.int mc) ∧ Fld Z h p0 "java/util/ArrayList" "elementData" "[Ljava/lang/Object;" (.ref na) ∧ Fld Z h p0 "java/util/ArrayList" "size" "I" (.int (1 : Int32)) ∧ Arv Z h na kn (.object "java/lang/Object") (10 : Int32) [(.ref p1), .null, .null, .null, .null, .null, .null, .null, .null, .null] .null ∧ Ovr Z kn "java/lang/Object"
set_option maxRecDepth 65536 in
set_option maxHeartbeats 40000000 in
theorem rm9a (l : Launch) (Z : State) (a0 : Array Value) (hw : ∀ d ∈ tables_1, d.before a0 Z = true) (ws : List Jvm.Cond) (p0 : Addr) (p1 : Addr) (d0 : Addr) (mc : Int32) (k0 : ClassId) (h0 : Heap) (n0 : Nat) (Z0 : n0 ≤ h0.size) (P_E_p0 : Exa Z h0 p0 "java/util/ArrayList") (P_F_p0_modCount : Fld Z h0 p0 "java/util/AbstractList" "modCount" "I" (.int mc)) (P_F_p0_elementData : Fld Z h0 p0 "java/util/ArrayList" "elementData" "[Ljava/lang/Object;" (.ref d0)) (P_F_p0_size : Fld Z h0 p0 "java/util/ArrayList" "size" "I" (.int (0 : Int32))) (g_p0 : n0 ≤ p0) (P_Old : Old Z n0 h0) (P_ZS_java_util_ArrayList_DEFAULTCAPACITY_EMPTY_ELEMENTDATA : Sta Z Z.heap "java/util/ArrayList" "DEFAULTCAPACITY_EMPTY_ELEMENTDATA" "[Ljava/lang/Object;" (.ref d0)) (P_V_d0 : Arv Z h0 d0 k0 (.object "java/lang/Object") (0 : Int32) [] .null) (P_E_p1 : Exa Z h0 p1 "java/lang/Integer") :
    MetFree l (⟨"java/util/ArrayList", "add", "(Ljava/lang/Object;[Ljava/lang/Object;I)V"⟩ : MethodName) (head1 (Jvm.Cond.code (⟨"java/util/ArrayList", "add", "(Ljava/lang/Object;[Ljava/lang/Object;I)V"⟩ : MethodName) jdk_38_method_24_code 4 none :: ws) ({ frames := 3, cells := 1, slots := 10, locals := 41 } : Room)) (fun a U => a = #[(.ref p0), (.ref p1), (.ref d0), (.int (0 : Int32))] ∧ Z.Warmed39 U.vm ∧ U.heap = h0) (fun _ _ _ _ _ => True) (fun _ U o U' => ∃ v L, o = .returned v ∧ (Q9a Z p0 p1 d0 mc k0 h0 n0) v U'.heap L ∧ FrameEnd U o U' L ({ frames := 3, cells := 1, slots := 10, locals := 41 } : Room).cells ({ frames := 3, cells := 1, slots := 10, locals := 41 } : Room).slots) := by
  refine MetFree.of_bodySF (plainFor_of_name pn_3) hisR ?_
  intro p e s m args below meth c s₁ Bd hml0 hP hK
  obtain ⟨rfl, hZ, hh⟩ := hP
  have hx := Bd.exec
  have hby := Bd.bytes
  have hml : c.maxLocals = 4 := hml0
  have hown : s.vm.findClass "java/util/ArrayList" = some m.cls := findClass_of_methodNamed Bd.named
  have hnm := (name_of_methodNamed Bd.named Bd.method).1
  have hlk : meth.locks = false := BodyLoose.notSynchronized Bd
  have X0 : Stand p l e ({ frames := 3, cells := 1, slots := 10, locals := 41 } : Room) s m #[(.ref p0), (.ref p1), (.ref d0), (.int (0 : Int32))] below meth c s₁ [] 0 0 := Stand.of_body Bd
  have e0 : s₁.heap = h0 := by rw [← hh, Bd.state]; rfl
  have N0 := Fr.nil n0
  have K0 : Keep h0 h0 [p0] := Keep.refl h0 [p0]
  show own_G p.tables e below (s₁.setTop (entryFrame m #[(.ref p0), (.ref p1), (.ref d0), (.int (0 : Int32))] 4)) s ({ frames := 3, cells := 1, slots := 10, locals := 41 } : Room).cells ({ frames := 3, cells := 1, slots := 10, locals := 41 } : Room).slots (Q9a Z p0 p1 d0 mc k0 h0 n0)
  refine own_go (fun _ k => castTop (ef_9a m p0 p1 d0) k) ?_
  show own_G _ _ _ (s₁.setTop (mkF m 0 #[.val (.ref p0), .val (.ref p1), .val (.ref d0), .val (.int (0 : Int32))] [])) _ _ _ _
  refine own_go (fun _ k => XS.iloadN X0.here hx rfl (hb hby d9_0) rfl k) ?_
  show own_G _ _ _ (s₁.setTop (mkF m 1 #[.val (.ref p0), .val (.ref p1), .val (.ref d0), .val (.int (0 : Int32))] [(.int (0 : Int32))])) _ _ _ _
  refine own_go (fun _ k => XS.aloadN X0.here hx rfl (hb hby d9_1) rfl rfl k) ?_
  show own_G _ _ _ (s₁.setTop (mkF m 2 #[.val (.ref p0), .val (.ref p1), .val (.ref d0), .val (.int (0 : Int32))] [(.ref d0), (.int (0 : Int32))])) _ _ _ _
  obtain ⟨cl1, Ar1, -, S1, Ng1, -, -⟩ := id P_V_d0
  refine own_go (fun _ k => X0.arraylength hx (by rw [e0]; exact Ar1.1) (State.isArrayOf_alike hZ.alike Ar1.2.1) (g := (mkF m 2 #[.val (.ref p0), .val (.ref p1), .val (.ref d0), .val (.int (0 : Int32))] [(.ref d0), (.int (0 : Int32))])) rfl rfl (hb hby d9_2) _ k) ?_
  rw [len_of S1 Ng1]
  show own_G _ _ _ (s₁.setTop (mkF m 3 #[.val (.ref p0), .val (.ref p1), .val (.ref d0), .val (.int (0 : Int32))] [(.int (0 : Int32)), (.int (0 : Int32))])) _ _ _ _
  have hc2 : (0 : Int32) = (0 : Int32) := (by decide)
  refine own_go (fun _ k => XS.icmpNo X0.here hx rfl (hb hby d9_3) rfl (teq hc2).2 k) ?_
  show own_G _ _ _ (s₁.setTop (mkF m 6 #[.val (.ref p0), .val (.ref p1), .val (.ref d0), .val (.int (0 : Int32))] [])) _ _ _ _
  refine own_go (fun _ k => XS.aloadN X0.here hx rfl (hb hby d9_6) rfl rfl k) ?_
  show own_G _ _ _ (s₁.setTop (mkF m 7 #[.val (.ref p0), .val (.ref p1), .val (.ref d0), .val (.int (0 : Int32))] [(.ref p0)])) _ _ _ _
  obtain ⟨cq3, q3, q3'⟩ := P_E_p0.cell
  obtain ⟨_, _, ⟨T3, L3, k3, n3⟩, -, X3, ⟨Lc3, hQ3, l3, y3, z3⟩, st3⟩ := X0.privateBack hx (y := (⟨"java/util/ArrayList", "grow", "()[Ljava/lang/Object;"⟩ : MethodName)) hown (mvT hZ (hw _ (List.mem_of_getElem? (i := 65) rfl))) (mvT hZ (hw _ (List.mem_of_getElem? (i := 66) rfl))) (mvT hZ (hw _ (List.mem_of_getElem? (i := 68) rfl))) (Cond.privateMethod_at (mvP hZ (hw _ (List.mem_of_getElem? (i := 67) rfl)) (args := #[]))) (mvT hZ (hw _ (List.mem_of_getElem? (i := 69) rfl))) (by decide) (backOf (W := 0) (rm10 l Z a0 hw [] p0 mc d0 k0 h0 n0 Z0 P_E_p0 P_F_p0_modCount P_F_p0_elementData P_F_p0_size g_p0 P_Old P_ZS_java_util_ArrayList_DEFAULTCAPACITY_EMPTY_ELEMENTDATA P_V_d0) hZ (hw _ (List.mem_of_getElem? (i := 69) rfl)) (hw _ (List.mem_of_getElem? (i := 6) rfl)) (by decide) (by decide)) (g := (mkF m 7 #[.val (.ref p0), .val (.ref p1), .val (.ref d0), .val (.int (0 : Int32))] [(.ref p0)])) rfl (by rw [hml]; rfl) (Steps.refl _) (a := p0) (by rw [e0]; exact q3) q3' (argsL := []) (rest := []) (lenOf pd_4 rfl) rfl (by show 2 * 0 + _ ≤ _; exact Nat.le_of_eq rfl) (hb hby d9_7) (fun _ _ => ⟨rfl, e0, (by decide : 0 + 1 ≤ _), (by decide : 0 + 10 ≤ _)⟩)
  dsimp only [Pt.U, Pt.locs, Pt.cells, Pt.slots] at X3 l3 y3 z3 st3 hQ3
  subst l3 y3 z3
  obtain ⟨na3, kn3, rfl, Nq3, Kq3, r3_0, r3_1, r3_2, r3_3, r3_4, r3_5, r3_6⟩ := hQ3
  have N3 := Fr.app N0 Nq3
  have ne4 : p0 ≠ na3 := Nat.ne_of_lt (Nat.lt_of_lt_of_le P_E_p0.lt r3_0)
  have ne5 : d0 ≠ na3 := Nat.ne_of_lt (Nat.lt_of_lt_of_le P_V_d0.lt r3_0)
  have ne6 : p1 ≠ na3 := Nat.ne_of_lt (Nat.lt_of_lt_of_le P_E_p1.lt r3_0)
  have gg_na3 : n0 ≤ na3 := Nat.le_trans Z0 r3_0
  have sz_na3_0 : h0.size ≤ na3 := Nat.le_trans K0.1 r3_0
  have f7 : Exa Z T3.heap p0 "java/util/ArrayList" := P_E_p0.keep Kq3
  have f8 : Old Z n0 T3.heap := P_Old.keep Kq3 (allS g_p0 all0)
  have f9 : Arv Z T3.heap d0 k0 (.object "java/lang/Object") (0 : Int32) [] .null := P_V_d0.keep Kq3 (ninS (Ne.symm (by obtain ⟨c_, A_, -⟩ := P_V_d0; exact ne_arr P_E_p0 (hw _ (List.mem_of_getElem? (i := 5) rfl)) A_)) nin0)
  have f10 : Exa Z T3.heap p1 "java/lang/Integer" := P_E_p1.keep Kq3
  have Zs3 : n0 ≤ T3.heap.size := Nat.le_trans Z0 Kq3.1
  have K3_0 : Keep h0 T3.heap [p0] := K0.trans Kq3 (allS (Or.inl (List.mem_of_getElem? (i := 0) rfl)) all0)
  refine own_tr st3 ?_
  show own_G _ _ _ (T3.setTop (mkF m 10 #[.val (.ref p0), .val (.ref p1), .val (.ref d0), .val (.int (0 : Int32))] [(.ref na3)])) _ _ _ _
  refine own_go (fun _ k => XS.astoreN X3.here hx rfl (hb hby d9_10) rfl rfl (l' := #[.val (.ref p0), .val (.ref p1), .val (.ref na3), .val (.int (0 : Int32))]) rfl k) ?_
  show own_G _ _ _ (T3.setTop (mkF m 11 #[.val (.ref p0), .val (.ref p1), .val (.ref na3), .val (.int (0 : Int32))] [])) _ _ _ _
  refine own_go (fun _ k => XS.aloadN X3.here hx rfl (hb hby d9_11) rfl rfl k) ?_
  show own_G _ _ _ (T3.setTop (mkF m 12 #[.val (.ref p0), .val (.ref p1), .val (.ref na3), .val (.int (0 : Int32))] [(.ref na3)])) _ _ _ _
  refine own_go (fun _ k => XS.iloadN X3.here hx rfl (hb hby d9_12) rfl k) ?_
  show own_G _ _ _ (T3.setTop (mkF m 13 #[.val (.ref p0), .val (.ref p1), .val (.ref na3), .val (.int (0 : Int32))] [(.int (0 : Int32)), (.ref na3)])) _ _ _ _
  refine own_go (fun _ k => XS.aloadN X3.here hx rfl (hb hby d9_13) rfl rfl k) ?_
  show own_G _ _ _ (T3.setTop (mkF m 14 #[.val (.ref p0), .val (.ref p1), .val (.ref na3), .val (.int (0 : Int32))] [(.ref p1), (.int (0 : Int32)), (.ref na3)])) _ _ _ _
  obtain ⟨cl11, Ar11, q11, S11, Ng11, H11, G11⟩ := id r3_5
  have in11 : ¬ ((0 : Int32) < 0 ∨ cl11.slots.size ≤ ((0 : Int32)).toNatClampNeg) := inb_of S11 ⟨by decide, by decide⟩
  obtain ⟨T11, h11, X11, e11, W11, st11⟩ := stR X3 hx hZ rfl Ar11 (j := (0 : Int32)) in11 rfl (Sto.ofV Ar11 q11 r3_6 (Ins.of_exa f10 (hw _ (List.mem_of_getElem? (i := 81) rfl)))) (g := (mkF m 14 #[.val (.ref p0), .val (.ref p1), .val (.ref na3), .val (.int (0 : Int32))] [(.ref p1), (.int (0 : Int32)), (.ref na3)])) rfl rfl (hb hby d9_14)
  have N11 := Fr.snoc X11 N3 gg_na3
  have Zs11 : n0 ≤ h11.size := Nat.le_trans Zs3 (Keep.of_wr W11).1
  have K11_0 : Keep h0 h11 [p0] := K3_0.wr W11 (Or.inr sz_na3_0)
  have f12 : Exa Z h11 p0 "java/util/ArrayList" := r3_1.wr W11
  have f13 : Old Z n0 h11 := f8.wr W11 gg_na3
  have f14 : Arv Z h11 d0 k0 (.object "java/lang/Object") (0 : Int32) [] .null := f9.other W11 ne5
  have f15 : Exa Z h11 p1 "java/lang/Integer" := f10.wr W11
  have f16 : Fld Z h11 p0 "java/util/AbstractList" "modCount" "I" (.int mc) := r3_2.other W11 (Or.inl ne4)
  have f17 : Fld Z h11 p0 "java/util/ArrayList" "elementData" "[Ljava/lang/Object;" (.ref na3) := r3_3.other W11 (Or.inl ne4)
  have f18 : Fld Z h11 p0 "java/util/ArrayList" "size" "I" (.int (0 : Int32)) := r3_4.other W11 (Or.inl ne4)
  have f19 : Arv Z h11 na3 kn3 (.object "java/lang/Object") (10 : Int32) [(.ref p1), .null, .null, .null, .null, .null, .null, .null, .null, .null] .null := Arv.set Ar11 q11 S11 Ng11 H11 G11 rfl W11 0 rfl (Nat.le_of_ble_eq_true rfl)
  refine own_go (fun _ k => st11 _ k) ?_
  show own_G _ _ _ (T11.setTop (mkF m 15 #[.val (.ref p0), .val (.ref p1), .val (.ref na3), .val (.int (0 : Int32))] [])) _ _ _ _
  refine own_go (fun _ k => XS.aloadN X11.here hx rfl (hb hby d9_15) rfl rfl k) ?_
  show own_G _ _ _ (T11.setTop (mkF m 16 #[.val (.ref p0), .val (.ref p1), .val (.ref na3), .val (.int (0 : Int32))] [(.ref p0)])) _ _ _ _
  refine own_go (fun _ k => XS.iloadN X11.here hx rfl (hb hby d9_16) rfl k) ?_
  show own_G _ _ _ (T11.setTop (mkF m 17 #[.val (.ref p0), .val (.ref p1), .val (.ref na3), .val (.int (0 : Int32))] [(.int (0 : Int32)), (.ref p0)])) _ _ _ _
  refine own_go (fun _ k => XS.iconst X11.here hx rfl (hb hby d9_17) k) ?_
  show own_G _ _ _ (T11.setTop (mkF m 18 #[.val (.ref p0), .val (.ref p1), .val (.ref na3), .val (.int (0 : Int32))] [(.int (1 : Int32)), (.int (0 : Int32)), (.ref p0)])) _ _ _ _
  refine own_go (fun _ k => XS.iadd X11.here hx rfl (hb hby d9_18) rfl k) ?_
  show own_G _ _ _ (T11.setTop (mkF m 19 #[.val (.ref p0), .val (.ref p1), .val (.ref na3), .val (.int (0 : Int32))] [(.int (1 : Int32)), (.ref p0)])) _ _ _ _
  obtain ⟨T20, h20, X20, e20, W20, st20⟩ := putF X11 hx hZ hown (host := "") (Or.inl (hw _ (List.mem_of_getElem? (i := 41) rfl))) Via.refl e11 f18 f12 (Or.inl (hw _ (List.mem_of_getElem? (i := 42) rfl))) (hw _ (List.mem_of_getElem? (i := 5) rfl)) (ty := .int) (by decide) rfl rfl (g := (mkF m 19 #[.val (.ref p0), .val (.ref p1), .val (.ref na3), .val (.int (0 : Int32))] [(.int (1 : Int32)), (.ref p0)])) rfl rfl (hb hby d9_19)
  have N20 := Fr.snoc X20 N11 g_p0
  have Zs20 : n0 ≤ h20.size := Nat.le_trans Zs11 (Keep.of_wr W20).1
  have K20_0 : Keep h0 h20 [p0] := K11_0.wr W20 (Or.inl (List.mem_of_getElem? (i := 0) rfl))
  have f21 : Exa Z h20 p0 "java/util/ArrayList" := f12.wr W20
  have f22 : Old Z n0 h20 := f13.wr W20 g_p0
  have f23 : Arv Z h20 d0 k0 (.object "java/lang/Object") (0 : Int32) [] .null := f14.other W20 (Ne.symm (by obtain ⟨c_, A_, -⟩ := f14; exact ne_arr f12 (hw _ (List.mem_of_getElem? (i := 5) rfl)) A_))
  have f24 : Exa Z h20 p1 "java/lang/Integer" := f15.wr W20
  have f25 : Fld Z h20 p0 "java/util/AbstractList" "modCount" "I" (.int mc) := f16.other W20 (Or.inr (slot_ne (Or.inl (hw _ (List.mem_of_getElem? (i := 26) rfl))) (Or.inl (hw _ (List.mem_of_getElem? (i := 42) rfl))) (by decide) (t := .int) (t' := .int) (by decide) (by decide)))
  have f26 : Fld Z h20 p0 "java/util/ArrayList" "elementData" "[Ljava/lang/Object;" (.ref na3) := f17.other W20 (Or.inr (slot_ne (Or.inl (hw _ (List.mem_of_getElem? (i := 29) rfl))) (Or.inl (hw _ (List.mem_of_getElem? (i := 42) rfl))) (by decide) (t := (.array (.object "java/lang/Object"))) (t' := .int) (by decide) (by decide)))
  have f27 : Fld Z h20 p0 "java/util/ArrayList" "size" "I" (.int (1 : Int32)) := f18.same W20
  have f28 : Arv Z h20 na3 kn3 (.object "java/lang/Object") (10 : Int32) [(.ref p1), .null, .null, .null, .null, .null, .null, .null, .null, .null] .null := f19.other W20 (Ne.symm ne4)
  refine own_go (fun _ k => st20 _ k) ?_
  show own_G _ _ _ (T20.setTop (mkF m 22 #[.val (.ref p0), .val (.ref p1), .val (.ref na3), .val (.int (0 : Int32))] [])) _ _ _ _
  exact own_endV X20 hx hlk Bd.returns (hb hby d9_22) (by decide) (by decide) (Q := (Q9a Z p0 p1 d0 mc k0 h0 n0)) (by rw [e20]; exact ⟨na3, kn3, rfl, N20, K20_0, sz_na3_0, f21, f25, f26, f27, f28, r3_6⟩)
theorem ef_9b (m : MethodId) (p0 : Addr) (p1 : Addr) (na : Addr) : entryFrame m #[(.ref p0), (.ref p1), (.ref na), (.int (1 : Int32))] 4 = mkF m 0 #[.val (.ref p0), .val (.ref p1), .val (.ref na), .val (.int (1 : Int32))] [] := by first | (simp [entryFrame, mkF, argsToLocals, Value.category]; done) | rfl
def Q9b (Z : State) (p0 : Addr) (p1 : Addr) (na : Addr) (mc : Int32) (kn : ClassId) (el0 : Addr) (h0 : Heap) (n0 : Nat) (v : Option Value) (h : Heap) (L : List Loc) : Prop := v = none ∧ Fr n0 L ∧ Keep h0 h [p0, na] ∧ Exa Z h p0 "java/util/ArrayList" ∧ Fld Z h p0 "java/util/AbstractList" "modCount" "I" (.int mc) ∧ Fld Z h p0 "java/util/ArrayList" "elementData" "[Ljava/lang/Object;" (.ref na) ∧ Fld Z h p0 "java/util/ArrayList" "size" "I" (.int (2 : Int32)) ∧ Arv Z h na kn (.object "java/lang/Object") (10 : Int32) [(.ref el0), (.ref p1), .null, .null, .null, .null, .null, .null, .null, .null] .null ∧ Ovr Z kn "java/lang/Object"
set_option maxRecDepth 65536 in
set_option maxHeartbeats 40000000 in
theorem rm9b (l : Launch) (Z : State) (a0 : Array Value) (hw : ∀ d ∈ tables_1, d.before a0 Z = true) (ws : List Jvm.Cond) (p0 : Addr) (p1 : Addr) (na : Addr) (mc : Int32) (kn : ClassId) (el0 : Addr) (h0 : Heap) (n0 : Nat) (Z0 : n0 ≤ h0.size) (P_E_p0 : Exa Z h0 p0 "java/util/ArrayList") (P_F_p0_modCount : Fld Z h0 p0 "java/util/AbstractList" "modCount" "I" (.int mc)) (P_F_p0_elementData : Fld Z h0 p0 "java/util/ArrayList" "elementData" "[Ljava/lang/Object;" (.ref na)) (P_F_p0_size : Fld Z h0 p0 "java/util/ArrayList" "size" "I" (.int (1 : Int32))) (g_p0 : n0 ≤ p0) (g_na : n0 ≤ na) (P_V_na : Arv Z h0 na kn (.object "java/lang/Object") (10 : Int32) [(.ref el0), .null, .null, .null, .null, .null, .null, .null, .null, .null] .null) (P_O_kn : Ovr Z kn "java/lang/Object") (P_E_p1 : Exa Z h0 p1 "java/lang/Integer") :
    MetFree l (⟨"java/util/ArrayList", "add", "(Ljava/lang/Object;[Ljava/lang/Object;I)V"⟩ : MethodName) (head1 (Jvm.Cond.code (⟨"java/util/ArrayList", "add", "(Ljava/lang/Object;[Ljava/lang/Object;I)V"⟩ : MethodName) jdk_38_method_24_code 4 none :: ws) ({ frames := 0, cells := 0, slots := 0, locals := 0 } : Room)) (fun a U => a = #[(.ref p0), (.ref p1), (.ref na), (.int (1 : Int32))] ∧ Z.Warmed39 U.vm ∧ U.heap = h0) (fun _ _ _ _ _ => True) (fun _ U o U' => ∃ v L, o = .returned v ∧ (Q9b Z p0 p1 na mc kn el0 h0 n0) v U'.heap L ∧ FrameEnd U o U' L ({ frames := 0, cells := 0, slots := 0, locals := 0 } : Room).cells ({ frames := 0, cells := 0, slots := 0, locals := 0 } : Room).slots) := by
  refine MetFree.of_bodySF (plainFor_of_name pn_3) hisR ?_
  intro p e s m args below meth c s₁ Bd hml0 hP hK
  obtain ⟨rfl, hZ, hh⟩ := hP
  have hx := Bd.exec
  have hby := Bd.bytes
  have hml : c.maxLocals = 4 := hml0
  have hown : s.vm.findClass "java/util/ArrayList" = some m.cls := findClass_of_methodNamed Bd.named
  have hnm := (name_of_methodNamed Bd.named Bd.method).1
  have hlk : meth.locks = false := BodyLoose.notSynchronized Bd
  have X0 : Stand p l e ({ frames := 0, cells := 0, slots := 0, locals := 0 } : Room) s m #[(.ref p0), (.ref p1), (.ref na), (.int (1 : Int32))] below meth c s₁ [] 0 0 := Stand.of_body Bd
  have e0 : s₁.heap = h0 := by rw [← hh, Bd.state]; rfl
  have N0 := Fr.nil n0
  have K0 : Keep h0 h0 [p0, na] := Keep.refl h0 [p0, na]
  show own_G p.tables e below (s₁.setTop (entryFrame m #[(.ref p0), (.ref p1), (.ref na), (.int (1 : Int32))] 4)) s ({ frames := 0, cells := 0, slots := 0, locals := 0 } : Room).cells ({ frames := 0, cells := 0, slots := 0, locals := 0 } : Room).slots (Q9b Z p0 p1 na mc kn el0 h0 n0)
  refine own_go (fun _ k => castTop (ef_9b m p0 p1 na) k) ?_
  show own_G _ _ _ (s₁.setTop (mkF m 0 #[.val (.ref p0), .val (.ref p1), .val (.ref na), .val (.int (1 : Int32))] [])) _ _ _ _
  refine own_go (fun _ k => XS.iloadN X0.here hx rfl (hb hby d9_0) rfl k) ?_
  show own_G _ _ _ (s₁.setTop (mkF m 1 #[.val (.ref p0), .val (.ref p1), .val (.ref na), .val (.int (1 : Int32))] [(.int (1 : Int32))])) _ _ _ _
  refine own_go (fun _ k => XS.aloadN X0.here hx rfl (hb hby d9_1) rfl rfl k) ?_
  show own_G _ _ _ (s₁.setTop (mkF m 2 #[.val (.ref p0), .val (.ref p1), .val (.ref na), .val (.int (1 : Int32))] [(.ref na), (.int (1 : Int32))])) _ _ _ _
  obtain ⟨cl1, Ar1, -, S1, Ng1, -, -⟩ := id P_V_na
  refine own_go (fun _ k => X0.arraylength hx (by rw [e0]; exact Ar1.1) (State.isArrayOf_alike hZ.alike Ar1.2.1) (g := (mkF m 2 #[.val (.ref p0), .val (.ref p1), .val (.ref na), .val (.int (1 : Int32))] [(.ref na), (.int (1 : Int32))])) rfl rfl (hb hby d9_2) _ k) ?_
  rw [len_of S1 Ng1]
  show own_G _ _ _ (s₁.setTop (mkF m 3 #[.val (.ref p0), .val (.ref p1), .val (.ref na), .val (.int (1 : Int32))] [(.int (10 : Int32)), (.int (1 : Int32))])) _ _ _ _
  have hc2 : ¬ ((1 : Int32) = (10 : Int32)) := (by decide)
  refine own_go (fun _ k => XS.icmpYes X0.here hx rfl (pc0 := 3) (pc' := 11) rfl (hb hby d9_3) rfl (feq hc2).2 (by decide) (by decide) k) ?_
  show own_G _ _ _ (s₁.setTop (mkF m 11 #[.val (.ref p0), .val (.ref p1), .val (.ref na), .val (.int (1 : Int32))] [])) _ _ _ _
  refine own_go (fun _ k => XS.aloadN X0.here hx rfl (hb hby d9_11) rfl rfl k) ?_
  show own_G _ _ _ (s₁.setTop (mkF m 12 #[.val (.ref p0), .val (.ref p1), .val (.ref na), .val (.int (1 : Int32))] [(.ref na)])) _ _ _ _
  refine own_go (fun _ k => XS.iloadN X0.here hx rfl (hb hby d9_12) rfl k) ?_
  show own_G _ _ _ (s₁.setTop (mkF m 13 #[.val (.ref p0), .val (.ref p1), .val (.ref na), .val (.int (1 : Int32))] [(.int (1 : Int32)), (.ref na)])) _ _ _ _
  refine own_go (fun _ k => XS.aloadN X0.here hx rfl (hb hby d9_13) rfl rfl k) ?_
  show own_G _ _ _ (s₁.setTop (mkF m 14 #[.val (.ref p0), .val (.ref p1), .val (.ref na), .val (.int (1 : Int32))] [(.ref p1), (.int (1 : Int32)), (.ref na)])) _ _ _ _
  obtain ⟨cl3, Ar3, q3, S3, Ng3, H3, G3⟩ := id P_V_na
  have in3 : ¬ ((1 : Int32) < 0 ∨ cl3.slots.size ≤ ((1 : Int32)).toNatClampNeg) := inb_of S3 ⟨by decide, by decide⟩
  obtain ⟨T3, h3, X3, e3, W3, st3⟩ := stR X0 hx hZ e0 Ar3 (j := (1 : Int32)) in3 rfl (Sto.ofV Ar3 q3 P_O_kn (Ins.of_exa P_E_p1 (hw _ (List.mem_of_getElem? (i := 81) rfl)))) (g := (mkF m 14 #[.val (.ref p0), .val (.ref p1), .val (.ref na), .val (.int (1 : Int32))] [(.ref p1), (.int (1 : Int32)), (.ref na)])) rfl rfl (hb hby d9_14)
  have N3 := Fr.snoc X3 N0 g_na
  have Zs3 : n0 ≤ h3.size := Nat.le_trans Z0 (Keep.of_wr W3).1
  have K3_0 : Keep h0 h3 [p0, na] := K0.wr W3 (Or.inl (List.mem_of_getElem? (i := 1) rfl))
  have f4 : Exa Z h3 p0 "java/util/ArrayList" := P_E_p0.wr W3
  have f5 : Fld Z h3 p0 "java/util/AbstractList" "modCount" "I" (.int mc) := P_F_p0_modCount.other W3 (Or.inl (by obtain ⟨c_, A_, -⟩ := P_V_na; exact ne_arr P_E_p0 (hw _ (List.mem_of_getElem? (i := 5) rfl)) A_))
  have f6 : Fld Z h3 p0 "java/util/ArrayList" "elementData" "[Ljava/lang/Object;" (.ref na) := P_F_p0_elementData.other W3 (Or.inl (by obtain ⟨c_, A_, -⟩ := P_V_na; exact ne_arr P_E_p0 (hw _ (List.mem_of_getElem? (i := 5) rfl)) A_))
  have f7 : Fld Z h3 p0 "java/util/ArrayList" "size" "I" (.int (1 : Int32)) := P_F_p0_size.other W3 (Or.inl (by obtain ⟨c_, A_, -⟩ := P_V_na; exact ne_arr P_E_p0 (hw _ (List.mem_of_getElem? (i := 5) rfl)) A_))
  have f8 : Exa Z h3 p1 "java/lang/Integer" := P_E_p1.wr W3
  have f9 : Arv Z h3 na kn (.object "java/lang/Object") (10 : Int32) [(.ref el0), (.ref p1), .null, .null, .null, .null, .null, .null, .null, .null] .null := Arv.set Ar3 q3 S3 Ng3 H3 G3 rfl W3 1 rfl (Nat.le_of_ble_eq_true rfl)
  refine own_go (fun _ k => st3 _ k) ?_
  show own_G _ _ _ (T3.setTop (mkF m 15 #[.val (.ref p0), .val (.ref p1), .val (.ref na), .val (.int (1 : Int32))] [])) _ _ _ _
  refine own_go (fun _ k => XS.aloadN X3.here hx rfl (hb hby d9_15) rfl rfl k) ?_
  show own_G _ _ _ (T3.setTop (mkF m 16 #[.val (.ref p0), .val (.ref p1), .val (.ref na), .val (.int (1 : Int32))] [(.ref p0)])) _ _ _ _
  refine own_go (fun _ k => XS.iloadN X3.here hx rfl (hb hby d9_16) rfl k) ?_
  show own_G _ _ _ (T3.setTop (mkF m 17 #[.val (.ref p0), .val (.ref p1), .val (.ref na), .val (.int (1 : Int32))] [(.int (1 : Int32)), (.ref p0)])) _ _ _ _
  refine own_go (fun _ k => XS.iconst X3.here hx rfl (hb hby d9_17) k) ?_
  show own_G _ _ _ (T3.setTop (mkF m 18 #[.val (.ref p0), .val (.ref p1), .val (.ref na), .val (.int (1 : Int32))] [(.int (1 : Int32)), (.int (1 : Int32)), (.ref p0)])) _ _ _ _
  refine own_go (fun _ k => XS.iadd X3.here hx rfl (hb hby d9_18) rfl k) ?_
  show own_G _ _ _ (T3.setTop (mkF m 19 #[.val (.ref p0), .val (.ref p1), .val (.ref na), .val (.int (1 : Int32))] [(.int (2 : Int32)), (.ref p0)])) _ _ _ _
  obtain ⟨T10, h10, X10, e10, W10, st10⟩ := putF X3 hx hZ hown (host := "") (Or.inl (hw _ (List.mem_of_getElem? (i := 41) rfl))) Via.refl e3 f7 f4 (Or.inl (hw _ (List.mem_of_getElem? (i := 42) rfl))) (hw _ (List.mem_of_getElem? (i := 5) rfl)) (ty := .int) (by decide) rfl rfl (g := (mkF m 19 #[.val (.ref p0), .val (.ref p1), .val (.ref na), .val (.int (1 : Int32))] [(.int (2 : Int32)), (.ref p0)])) rfl rfl (hb hby d9_19)
  have N10 := Fr.snoc X10 N3 g_p0
  have Zs10 : n0 ≤ h10.size := Nat.le_trans Zs3 (Keep.of_wr W10).1
  have K10_0 : Keep h0 h10 [p0, na] := K3_0.wr W10 (Or.inl (List.mem_of_getElem? (i := 0) rfl))
  have f11 : Exa Z h10 p0 "java/util/ArrayList" := f4.wr W10
  have f12 : Fld Z h10 p0 "java/util/AbstractList" "modCount" "I" (.int mc) := f5.other W10 (Or.inr (slot_ne (Or.inl (hw _ (List.mem_of_getElem? (i := 26) rfl))) (Or.inl (hw _ (List.mem_of_getElem? (i := 42) rfl))) (by decide) (t := .int) (t' := .int) (by decide) (by decide)))
  have f13 : Fld Z h10 p0 "java/util/ArrayList" "elementData" "[Ljava/lang/Object;" (.ref na) := f6.other W10 (Or.inr (slot_ne (Or.inl (hw _ (List.mem_of_getElem? (i := 29) rfl))) (Or.inl (hw _ (List.mem_of_getElem? (i := 42) rfl))) (by decide) (t := (.array (.object "java/lang/Object"))) (t' := .int) (by decide) (by decide)))
  have f14 : Fld Z h10 p0 "java/util/ArrayList" "size" "I" (.int (2 : Int32)) := f7.same W10
  have f15 : Exa Z h10 p1 "java/lang/Integer" := f8.wr W10
  have f16 : Arv Z h10 na kn (.object "java/lang/Object") (10 : Int32) [(.ref el0), (.ref p1), .null, .null, .null, .null, .null, .null, .null, .null] .null := f9.other W10 (Ne.symm (by obtain ⟨c_, A_, -⟩ := f9; exact ne_arr f4 (hw _ (List.mem_of_getElem? (i := 5) rfl)) A_))
  refine own_go (fun _ k => st10 _ k) ?_
  show own_G _ _ _ (T10.setTop (mkF m 22 #[.val (.ref p0), .val (.ref p1), .val (.ref na), .val (.int (1 : Int32))] [])) _ _ _ _
  exact own_endV X10 hx hlk Bd.returns (hb hby d9_22) (by decide) (by decide) (Q := (Q9b Z p0 p1 na mc kn el0 h0 n0)) (by rw [e10]; exact ⟨rfl, N10, K10_0, f11, f12, f13, f14, f16, P_O_kn⟩)
theorem ef_9c (m : MethodId) (p0 : Addr) (p1 : Addr) (na : Addr) : entryFrame m #[(.ref p0), (.ref p1), (.ref na), (.int (2 : Int32))] 4 = mkF m 0 #[.val (.ref p0), .val (.ref p1), .val (.ref na), .val (.int (2 : Int32))] [] := by first | (simp [entryFrame, mkF, argsToLocals, Value.category]; done) | rfl
def Q9c (Z : State) (p0 : Addr) (p1 : Addr) (na : Addr) (mc : Int32) (kn : ClassId) (el0 : Addr) (el1 : Addr) (h0 : Heap) (n0 : Nat) (v : Option Value) (h : Heap) (L : List Loc) : Prop := v = none ∧ Fr n0 L ∧ Keep h0 h [p0, na] ∧ Exa Z h p0 "java/util/ArrayList" ∧ Fld Z h p0 "java/util/AbstractList" "modCount" "I" (.int mc) ∧ Fld Z h p0 "java/util/ArrayList" "elementData" "[Ljava/lang/Object;" (.ref na) ∧ Fld Z h p0 "java/util/ArrayList" "size" "I" (.int (3 : Int32)) ∧ Arv Z h na kn (.object "java/lang/Object") (10 : Int32) [(.ref el0), (.ref el1), (.ref p1), .null, .null, .null, .null, .null, .null, .null] .null ∧ Ovr Z kn "java/lang/Object"
set_option maxRecDepth 65536 in
set_option maxHeartbeats 40000000 in
theorem rm9c (l : Launch) (Z : State) (a0 : Array Value) (hw : ∀ d ∈ tables_1, d.before a0 Z = true) (ws : List Jvm.Cond) (p0 : Addr) (p1 : Addr) (na : Addr) (mc : Int32) (kn : ClassId) (el0 : Addr) (el1 : Addr) (h0 : Heap) (n0 : Nat) (Z0 : n0 ≤ h0.size) (P_E_p0 : Exa Z h0 p0 "java/util/ArrayList") (P_F_p0_modCount : Fld Z h0 p0 "java/util/AbstractList" "modCount" "I" (.int mc)) (P_F_p0_elementData : Fld Z h0 p0 "java/util/ArrayList" "elementData" "[Ljava/lang/Object;" (.ref na)) (P_F_p0_size : Fld Z h0 p0 "java/util/ArrayList" "size" "I" (.int (2 : Int32))) (g_p0 : n0 ≤ p0) (g_na : n0 ≤ na) (P_V_na : Arv Z h0 na kn (.object "java/lang/Object") (10 : Int32) [(.ref el0), (.ref el1), .null, .null, .null, .null, .null, .null, .null, .null] .null) (P_O_kn : Ovr Z kn "java/lang/Object") (P_E_p1 : Exa Z h0 p1 "java/lang/Integer") :
    MetFree l (⟨"java/util/ArrayList", "add", "(Ljava/lang/Object;[Ljava/lang/Object;I)V"⟩ : MethodName) (head1 (Jvm.Cond.code (⟨"java/util/ArrayList", "add", "(Ljava/lang/Object;[Ljava/lang/Object;I)V"⟩ : MethodName) jdk_38_method_24_code 4 none :: ws) ({ frames := 0, cells := 0, slots := 0, locals := 0 } : Room)) (fun a U => a = #[(.ref p0), (.ref p1), (.ref na), (.int (2 : Int32))] ∧ Z.Warmed39 U.vm ∧ U.heap = h0) (fun _ _ _ _ _ => True) (fun _ U o U' => ∃ v L, o = .returned v ∧ (Q9c Z p0 p1 na mc kn el0 el1 h0 n0) v U'.heap L ∧ FrameEnd U o U' L ({ frames := 0, cells := 0, slots := 0, locals := 0 } : Room).cells ({ frames := 0, cells := 0, slots := 0, locals := 0 } : Room).slots) := by
  refine MetFree.of_bodySF (plainFor_of_name pn_3) hisR ?_
  intro p e s m args below meth c s₁ Bd hml0 hP hK
  obtain ⟨rfl, hZ, hh⟩ := hP
  have hx := Bd.exec
  have hby := Bd.bytes
  have hml : c.maxLocals = 4 := hml0
  have hown : s.vm.findClass "java/util/ArrayList" = some m.cls := findClass_of_methodNamed Bd.named
  have hnm := (name_of_methodNamed Bd.named Bd.method).1
  have hlk : meth.locks = false := BodyLoose.notSynchronized Bd
  have X0 : Stand p l e ({ frames := 0, cells := 0, slots := 0, locals := 0 } : Room) s m #[(.ref p0), (.ref p1), (.ref na), (.int (2 : Int32))] below meth c s₁ [] 0 0 := Stand.of_body Bd
  have e0 : s₁.heap = h0 := by rw [← hh, Bd.state]; rfl
  have N0 := Fr.nil n0
  have K0 : Keep h0 h0 [p0, na] := Keep.refl h0 [p0, na]
  show own_G p.tables e below (s₁.setTop (entryFrame m #[(.ref p0), (.ref p1), (.ref na), (.int (2 : Int32))] 4)) s ({ frames := 0, cells := 0, slots := 0, locals := 0 } : Room).cells ({ frames := 0, cells := 0, slots := 0, locals := 0 } : Room).slots (Q9c Z p0 p1 na mc kn el0 el1 h0 n0)
  refine own_go (fun _ k => castTop (ef_9c m p0 p1 na) k) ?_
  show own_G _ _ _ (s₁.setTop (mkF m 0 #[.val (.ref p0), .val (.ref p1), .val (.ref na), .val (.int (2 : Int32))] [])) _ _ _ _
  refine own_go (fun _ k => XS.iloadN X0.here hx rfl (hb hby d9_0) rfl k) ?_
  show own_G _ _ _ (s₁.setTop (mkF m 1 #[.val (.ref p0), .val (.ref p1), .val (.ref na), .val (.int (2 : Int32))] [(.int (2 : Int32))])) _ _ _ _
  refine own_go (fun _ k => XS.aloadN X0.here hx rfl (hb hby d9_1) rfl rfl k) ?_
  show own_G _ _ _ (s₁.setTop (mkF m 2 #[.val (.ref p0), .val (.ref p1), .val (.ref na), .val (.int (2 : Int32))] [(.ref na), (.int (2 : Int32))])) _ _ _ _
  obtain ⟨cl1, Ar1, -, S1, Ng1, -, -⟩ := id P_V_na
  refine own_go (fun _ k => X0.arraylength hx (by rw [e0]; exact Ar1.1) (State.isArrayOf_alike hZ.alike Ar1.2.1) (g := (mkF m 2 #[.val (.ref p0), .val (.ref p1), .val (.ref na), .val (.int (2 : Int32))] [(.ref na), (.int (2 : Int32))])) rfl rfl (hb hby d9_2) _ k) ?_
  rw [len_of S1 Ng1]
  show own_G _ _ _ (s₁.setTop (mkF m 3 #[.val (.ref p0), .val (.ref p1), .val (.ref na), .val (.int (2 : Int32))] [(.int (10 : Int32)), (.int (2 : Int32))])) _ _ _ _
  have hc2 : ¬ ((2 : Int32) = (10 : Int32)) := (by decide)
  refine own_go (fun _ k => XS.icmpYes X0.here hx rfl (pc0 := 3) (pc' := 11) rfl (hb hby d9_3) rfl (feq hc2).2 (by decide) (by decide) k) ?_
  show own_G _ _ _ (s₁.setTop (mkF m 11 #[.val (.ref p0), .val (.ref p1), .val (.ref na), .val (.int (2 : Int32))] [])) _ _ _ _
  refine own_go (fun _ k => XS.aloadN X0.here hx rfl (hb hby d9_11) rfl rfl k) ?_
  show own_G _ _ _ (s₁.setTop (mkF m 12 #[.val (.ref p0), .val (.ref p1), .val (.ref na), .val (.int (2 : Int32))] [(.ref na)])) _ _ _ _
  refine own_go (fun _ k => XS.iloadN X0.here hx rfl (hb hby d9_12) rfl k) ?_
  show own_G _ _ _ (s₁.setTop (mkF m 13 #[.val (.ref p0), .val (.ref p1), .val (.ref na), .val (.int (2 : Int32))] [(.int (2 : Int32)), (.ref na)])) _ _ _ _
  refine own_go (fun _ k => XS.aloadN X0.here hx rfl (hb hby d9_13) rfl rfl k) ?_
  show own_G _ _ _ (s₁.setTop (mkF m 14 #[.val (.ref p0), .val (.ref p1), .val (.ref na), .val (.int (2 : Int32))] [(.ref p1), (.int (2 : Int32)), (.ref na)])) _ _ _ _
  obtain ⟨cl3, Ar3, q3, S3, Ng3, H3, G3⟩ := id P_V_na
  have in3 : ¬ ((2 : Int32) < 0 ∨ cl3.slots.size ≤ ((2 : Int32)).toNatClampNeg) := inb_of S3 ⟨by decide, by decide⟩
  obtain ⟨T3, h3, X3, e3, W3, st3⟩ := stR X0 hx hZ e0 Ar3 (j := (2 : Int32)) in3 rfl (Sto.ofV Ar3 q3 P_O_kn (Ins.of_exa P_E_p1 (hw _ (List.mem_of_getElem? (i := 81) rfl)))) (g := (mkF m 14 #[.val (.ref p0), .val (.ref p1), .val (.ref na), .val (.int (2 : Int32))] [(.ref p1), (.int (2 : Int32)), (.ref na)])) rfl rfl (hb hby d9_14)
  have N3 := Fr.snoc X3 N0 g_na
  have Zs3 : n0 ≤ h3.size := Nat.le_trans Z0 (Keep.of_wr W3).1
  have K3_0 : Keep h0 h3 [p0, na] := K0.wr W3 (Or.inl (List.mem_of_getElem? (i := 1) rfl))
  have f4 : Exa Z h3 p0 "java/util/ArrayList" := P_E_p0.wr W3
  have f5 : Fld Z h3 p0 "java/util/AbstractList" "modCount" "I" (.int mc) := P_F_p0_modCount.other W3 (Or.inl (by obtain ⟨c_, A_, -⟩ := P_V_na; exact ne_arr P_E_p0 (hw _ (List.mem_of_getElem? (i := 5) rfl)) A_))
  have f6 : Fld Z h3 p0 "java/util/ArrayList" "elementData" "[Ljava/lang/Object;" (.ref na) := P_F_p0_elementData.other W3 (Or.inl (by obtain ⟨c_, A_, -⟩ := P_V_na; exact ne_arr P_E_p0 (hw _ (List.mem_of_getElem? (i := 5) rfl)) A_))
  have f7 : Fld Z h3 p0 "java/util/ArrayList" "size" "I" (.int (2 : Int32)) := P_F_p0_size.other W3 (Or.inl (by obtain ⟨c_, A_, -⟩ := P_V_na; exact ne_arr P_E_p0 (hw _ (List.mem_of_getElem? (i := 5) rfl)) A_))
  have f8 : Exa Z h3 p1 "java/lang/Integer" := P_E_p1.wr W3
  have f9 : Arv Z h3 na kn (.object "java/lang/Object") (10 : Int32) [(.ref el0), (.ref el1), (.ref p1), .null, .null, .null, .null, .null, .null, .null] .null := Arv.set Ar3 q3 S3 Ng3 H3 G3 rfl W3 2 rfl (Nat.le_of_ble_eq_true rfl)
  refine own_go (fun _ k => st3 _ k) ?_
  show own_G _ _ _ (T3.setTop (mkF m 15 #[.val (.ref p0), .val (.ref p1), .val (.ref na), .val (.int (2 : Int32))] [])) _ _ _ _
  refine own_go (fun _ k => XS.aloadN X3.here hx rfl (hb hby d9_15) rfl rfl k) ?_
  show own_G _ _ _ (T3.setTop (mkF m 16 #[.val (.ref p0), .val (.ref p1), .val (.ref na), .val (.int (2 : Int32))] [(.ref p0)])) _ _ _ _
  refine own_go (fun _ k => XS.iloadN X3.here hx rfl (hb hby d9_16) rfl k) ?_
  show own_G _ _ _ (T3.setTop (mkF m 17 #[.val (.ref p0), .val (.ref p1), .val (.ref na), .val (.int (2 : Int32))] [(.int (2 : Int32)), (.ref p0)])) _ _ _ _
  refine own_go (fun _ k => XS.iconst X3.here hx rfl (hb hby d9_17) k) ?_
  show own_G _ _ _ (T3.setTop (mkF m 18 #[.val (.ref p0), .val (.ref p1), .val (.ref na), .val (.int (2 : Int32))] [(.int (1 : Int32)), (.int (2 : Int32)), (.ref p0)])) _ _ _ _
  refine own_go (fun _ k => XS.iadd X3.here hx rfl (hb hby d9_18) rfl k) ?_
  show own_G _ _ _ (T3.setTop (mkF m 19 #[.val (.ref p0), .val (.ref p1), .val (.ref na), .val (.int (2 : Int32))] [(.int (3 : Int32)), (.ref p0)])) _ _ _ _
  obtain ⟨T10, h10, X10, e10, W10, st10⟩ := putF X3 hx hZ hown (host := "") (Or.inl (hw _ (List.mem_of_getElem? (i := 41) rfl))) Via.refl e3 f7 f4 (Or.inl (hw _ (List.mem_of_getElem? (i := 42) rfl))) (hw _ (List.mem_of_getElem? (i := 5) rfl)) (ty := .int) (by decide) rfl rfl (g := (mkF m 19 #[.val (.ref p0), .val (.ref p1), .val (.ref na), .val (.int (2 : Int32))] [(.int (3 : Int32)), (.ref p0)])) rfl rfl (hb hby d9_19)
  have N10 := Fr.snoc X10 N3 g_p0
  have Zs10 : n0 ≤ h10.size := Nat.le_trans Zs3 (Keep.of_wr W10).1
  have K10_0 : Keep h0 h10 [p0, na] := K3_0.wr W10 (Or.inl (List.mem_of_getElem? (i := 0) rfl))
  have f11 : Exa Z h10 p0 "java/util/ArrayList" := f4.wr W10
  have f12 : Fld Z h10 p0 "java/util/AbstractList" "modCount" "I" (.int mc) := f5.other W10 (Or.inr (slot_ne (Or.inl (hw _ (List.mem_of_getElem? (i := 26) rfl))) (Or.inl (hw _ (List.mem_of_getElem? (i := 42) rfl))) (by decide) (t := .int) (t' := .int) (by decide) (by decide)))
  have f13 : Fld Z h10 p0 "java/util/ArrayList" "elementData" "[Ljava/lang/Object;" (.ref na) := f6.other W10 (Or.inr (slot_ne (Or.inl (hw _ (List.mem_of_getElem? (i := 29) rfl))) (Or.inl (hw _ (List.mem_of_getElem? (i := 42) rfl))) (by decide) (t := (.array (.object "java/lang/Object"))) (t' := .int) (by decide) (by decide)))
  have f14 : Fld Z h10 p0 "java/util/ArrayList" "size" "I" (.int (3 : Int32)) := f7.same W10
  have f15 : Exa Z h10 p1 "java/lang/Integer" := f8.wr W10
  have f16 : Arv Z h10 na kn (.object "java/lang/Object") (10 : Int32) [(.ref el0), (.ref el1), (.ref p1), .null, .null, .null, .null, .null, .null, .null] .null := f9.other W10 (Ne.symm (by obtain ⟨c_, A_, -⟩ := f9; exact ne_arr f4 (hw _ (List.mem_of_getElem? (i := 5) rfl)) A_))
  refine own_go (fun _ k => st10 _ k) ?_
  show own_G _ _ _ (T10.setTop (mkF m 22 #[.val (.ref p0), .val (.ref p1), .val (.ref na), .val (.int (2 : Int32))] [])) _ _ _ _
  exact own_endV X10 hx hlk Bd.returns (hb hby d9_22) (by decide) (by decide) (Q := (Q9c Z p0 p1 na mc kn el0 el1 h0 n0)) (by rw [e10]; exact ⟨rfl, N10, K10_0, f11, f12, f13, f14, f16, P_O_kn⟩)
theorem d8_0 : decode jdk_38_method_25_code 0 = .ok (.aload_n 0, 1) := by decide +kernel
theorem d8_1 : decode jdk_38_method_25_code 1 = .ok (.dup, 1) := by decide +kernel
theorem d8_2 : decode jdk_38_method_25_code 2 = .ok (.getfield 63, 3) := by decide +kernel
theorem d8_5 : decode jdk_38_method_25_code 5 = .ok (.iconst 1, 1) := by decide +kernel
theorem d8_6 : decode jdk_38_method_25_code 6 = .ok (.iadd, 1) := by decide +kernel
theorem d8_7 : decode jdk_38_method_25_code 7 = .ok (.putfield 63, 3) := by decide +kernel
theorem d8_10 : decode jdk_38_method_25_code 10 = .ok (.aload_n 0, 1) := by decide +kernel
theorem d8_11 : decode jdk_38_method_25_code 11 = .ok (.aload_n 1, 1) := by decide +kernel
theorem d8_12 : decode jdk_38_method_25_code 12 = .ok (.aload_n 0, 1) := by decide +kernel
theorem d8_13 : decode jdk_38_method_25_code 13 = .ok (.getfield 9, 3) := by decide +kernel
theorem d8_16 : decode jdk_38_method_25_code 16 = .ok (.aload_n 0, 1) := by decide +kernel
theorem d8_17 : decode jdk_38_method_25_code 17 = .ok (.getfield 48, 3) := by decide +kernel
theorem d8_20 : decode jdk_38_method_25_code 20 = .ok (.invokevirtual 131, 3) := by decide +kernel
theorem d8_23 : decode jdk_38_method_25_code 23 = .ok (.iconst 1, 1) := by decide +kernel
theorem d8_24 : decode jdk_38_method_25_code 24 = .ok (.ireturn, 1) := by decide +kernel
theorem pd_5 : parseMethodDescriptor "(Ljava/lang/Object;[Ljava/lang/Object;I)V" = some ⟨[(.object "java/lang/Object"), (.array (.object "java/lang/Object")), .int], none⟩ := by decide +kernel
theorem ef_8a (m : MethodId) (p0 : Addr) (p1 : Addr) : entryFrame m #[(.ref p0), (.ref p1)] 2 = mkF m 0 #[.val (.ref p0), .val (.ref p1)] [] := by first | (simp [entryFrame, mkF, argsToLocals, Value.category]; done) | rfl
def Q8a (Z : State) (p0 : Addr) (p1 : Addr) (mc : Int32) (d0 : Addr) (k0 : ClassId) (h0 : Heap) (n0 : Nat) (v : Option Value) (h : Heap) (L : List Loc) : Prop := ∃ (na : Addr) (kn : ClassId), v = some (.int (1 : Int32)) ∧ Fr n0 L ∧ Keep h0 h [p0] ∧ h0.size ≤ na ∧ Exa Z h p0 "java/util/ArrayList" ∧ Fld Z h p0 "java/util/AbstractList" "modCount" "I" (.int (mc + (1 : Int32))) ∧ Fld Z h p0 "java/util/ArrayList" "elementData" "[Ljava/lang/Object;" (.ref na) ∧ Fld Z h p0 "java/util/ArrayList" "size" "I" (.int (1 : Int32)) ∧ Arv Z h na kn (.object "java/lang/Object") (10 : Int32) [(.ref p1), .null, .null, .null, .null, .null, .null, .null, .null, .null] .null ∧ Ovr Z kn "java/lang/Object"
set_option maxRecDepth 65536 in
set_option maxHeartbeats 40000000 in
theorem rm8a (l : Launch) (Z : State) (a0 : Array Value) (hw : ∀ d ∈ tables_1, d.before a0 Z = true) (ws : List Jvm.Cond) (p0 : Addr) (p1 : Addr) (mc : Int32) (d0 : Addr) (k0 : ClassId) (h0 : Heap) (n0 : Nat) (Z0 : n0 ≤ h0.size) (P_E_p0 : Exa Z h0 p0 "java/util/ArrayList") (P_F_p0_modCount : Fld Z h0 p0 "java/util/AbstractList" "modCount" "I" (.int mc)) (P_F_p0_elementData : Fld Z h0 p0 "java/util/ArrayList" "elementData" "[Ljava/lang/Object;" (.ref d0)) (P_F_p0_size : Fld Z h0 p0 "java/util/ArrayList" "size" "I" (.int (0 : Int32))) (g_p0 : n0 ≤ p0) (P_Old : Old Z n0 h0) (P_ZS_java_util_ArrayList_DEFAULTCAPACITY_EMPTY_ELEMENTDATA : Sta Z Z.heap "java/util/ArrayList" "DEFAULTCAPACITY_EMPTY_ELEMENTDATA" "[Ljava/lang/Object;" (.ref d0)) (P_V_d0 : Arv Z h0 d0 k0 (.object "java/lang/Object") (0 : Int32) [] .null) (P_E_p1 : Exa Z h0 p1 "java/lang/Integer") :
    MetFree l (⟨"java/util/ArrayList", "add", "(Ljava/lang/Object;)Z"⟩ : MethodName) (head1 (Jvm.Cond.code (⟨"java/util/ArrayList", "add", "(Ljava/lang/Object;)Z"⟩ : MethodName) jdk_38_method_25_code 2 (some .boolean) :: ws) ({ frames := 4, cells := 1, slots := 10, locals := 56 } : Room)) (fun a U => a = #[(.ref p0), (.ref p1)] ∧ Z.Warmed39 U.vm ∧ U.heap = h0) (fun _ _ _ _ _ => True) (fun _ U o U' => ∃ v L, o = .returned v ∧ (Q8a Z p0 p1 mc d0 k0 h0 n0) v U'.heap L ∧ FrameEnd U o U' L ({ frames := 4, cells := 1, slots := 10, locals := 56 } : Room).cells ({ frames := 4, cells := 1, slots := 10, locals := 56 } : Room).slots) := by
  refine MetFree.of_bodySF (plainFor_of_name pn_3) hisR ?_
  intro p e s m args below meth c s₁ Bd hml0 hP hK
  obtain ⟨rfl, hZ, hh⟩ := hP
  have hx := Bd.exec
  have hby := Bd.bytes
  have hml : c.maxLocals = 2 := hml0
  have hown : s.vm.findClass "java/util/ArrayList" = some m.cls := findClass_of_methodNamed Bd.named
  have hnm := (name_of_methodNamed Bd.named Bd.method).1
  have hlk : meth.locks = false := BodyLoose.notSynchronized Bd
  have X0 : Stand p l e ({ frames := 4, cells := 1, slots := 10, locals := 56 } : Room) s m #[(.ref p0), (.ref p1)] below meth c s₁ [] 0 0 := Stand.of_body Bd
  have e0 : s₁.heap = h0 := by rw [← hh, Bd.state]; rfl
  have N0 := Fr.nil n0
  have K0 : Keep h0 h0 [p0] := Keep.refl h0 [p0]
  show own_G p.tables e below (s₁.setTop (entryFrame m #[(.ref p0), (.ref p1)] 2)) s ({ frames := 4, cells := 1, slots := 10, locals := 56 } : Room).cells ({ frames := 4, cells := 1, slots := 10, locals := 56 } : Room).slots (Q8a Z p0 p1 mc d0 k0 h0 n0)
  refine own_go (fun _ k => castTop (ef_8a m p0 p1) k) ?_
  show own_G _ _ _ (s₁.setTop (mkF m 0 #[.val (.ref p0), .val (.ref p1)] [])) _ _ _ _
  refine own_go (fun _ k => XS.aloadN X0.here hx rfl (hb hby d8_0) rfl rfl k) ?_
  show own_G _ _ _ (s₁.setTop (mkF m 1 #[.val (.ref p0), .val (.ref p1)] [(.ref p0)])) _ _ _ _
  refine own_go (fun _ k => XS.dup X0.here hx rfl (hb hby d8_1) rfl rfl k) ?_
  show own_G _ _ _ (s₁.setTop (mkF m 2 #[.val (.ref p0), .val (.ref p1)] [(.ref p0), (.ref p0)])) _ _ _ _
  obtain ⟨T1, X1, e1, st1⟩ := getF X0 hx hZ hown (host := "") (Or.inl (hw _ (List.mem_of_getElem? (i := 58) rfl))) (Via.of (hw _ (List.mem_of_getElem? (i := 59) rfl))) e0 P_F_p0_modCount (g := (mkF m 2 #[.val (.ref p0), .val (.ref p1)] [(.ref p0), (.ref p0)])) rfl rfl (hb hby d8_2)
  refine own_go (fun _ k => st1 _ k) ?_
  show own_G _ _ _ (T1.setTop (mkF m 5 #[.val (.ref p0), .val (.ref p1)] [(.int mc), (.ref p0)])) _ _ _ _
  refine own_go (fun _ k => XS.iconst X1.here hx rfl (hb hby d8_5) k) ?_
  show own_G _ _ _ (T1.setTop (mkF m 6 #[.val (.ref p0), .val (.ref p1)] [(.int (1 : Int32)), (.int mc), (.ref p0)])) _ _ _ _
  refine own_go (fun _ k => XS.iadd X1.here hx rfl (hb hby d8_6) rfl k) ?_
  show own_G _ _ _ (T1.setTop (mkF m 7 #[.val (.ref p0), .val (.ref p1)] [(.int (mc + (1 : Int32))), (.ref p0)])) _ _ _ _
  obtain ⟨T2, h2, X2, e2, W2, st2⟩ := putF X1 hx hZ hown (host := "") (Or.inl (hw _ (List.mem_of_getElem? (i := 58) rfl))) (Via.of (hw _ (List.mem_of_getElem? (i := 59) rfl))) e1 P_F_p0_modCount P_E_p0 (Or.inl (hw _ (List.mem_of_getElem? (i := 26) rfl))) (hw _ (List.mem_of_getElem? (i := 5) rfl)) (ty := .int) (by decide) rfl rfl (g := (mkF m 7 #[.val (.ref p0), .val (.ref p1)] [(.int (mc + (1 : Int32))), (.ref p0)])) rfl rfl (hb hby d8_7)
  have N2 := Fr.snoc X2 N0 g_p0
  have Zs2 : n0 ≤ h2.size := Nat.le_trans Z0 (Keep.of_wr W2).1
  have K2_0 : Keep h0 h2 [p0] := K0.wr W2 (Or.inl (List.mem_of_getElem? (i := 0) rfl))
  have f3 : Exa Z h2 p0 "java/util/ArrayList" := P_E_p0.wr W2
  have f4 : Fld Z h2 p0 "java/util/AbstractList" "modCount" "I" (.int (mc + (1 : Int32))) := P_F_p0_modCount.same W2
  have f5 : Fld Z h2 p0 "java/util/ArrayList" "elementData" "[Ljava/lang/Object;" (.ref d0) := P_F_p0_elementData.other W2 (Or.inr (slot_ne (Or.inl (hw _ (List.mem_of_getElem? (i := 29) rfl))) (Or.inl (hw _ (List.mem_of_getElem? (i := 26) rfl))) (by decide) (t := (.array (.object "java/lang/Object"))) (t' := .int) (by decide) (by decide)))
  have f6 : Fld Z h2 p0 "java/util/ArrayList" "size" "I" (.int (0 : Int32)) := P_F_p0_size.other W2 (Or.inr (slot_ne (Or.inl (hw _ (List.mem_of_getElem? (i := 42) rfl))) (Or.inl (hw _ (List.mem_of_getElem? (i := 26) rfl))) (by decide) (t := .int) (t' := .int) (by decide) (by decide)))
  have f7 : Old Z n0 h2 := P_Old.wr W2 g_p0
  have f8 : Arv Z h2 d0 k0 (.object "java/lang/Object") (0 : Int32) [] .null := P_V_d0.other W2 (Ne.symm (by obtain ⟨c_, A_, -⟩ := P_V_d0; exact ne_arr P_E_p0 (hw _ (List.mem_of_getElem? (i := 5) rfl)) A_))
  have f9 : Exa Z h2 p1 "java/lang/Integer" := P_E_p1.wr W2
  refine own_go (fun _ k => st2 _ k) ?_
  show own_G _ _ _ (T2.setTop (mkF m 10 #[.val (.ref p0), .val (.ref p1)] [])) _ _ _ _
  refine own_go (fun _ k => XS.aloadN X2.here hx rfl (hb hby d8_10) rfl rfl k) ?_
  show own_G _ _ _ (T2.setTop (mkF m 11 #[.val (.ref p0), .val (.ref p1)] [(.ref p0)])) _ _ _ _
  refine own_go (fun _ k => XS.aloadN X2.here hx rfl (hb hby d8_11) rfl rfl k) ?_
  show own_G _ _ _ (T2.setTop (mkF m 12 #[.val (.ref p0), .val (.ref p1)] [(.ref p1), (.ref p0)])) _ _ _ _
  refine own_go (fun _ k => XS.aloadN X2.here hx rfl (hb hby d8_12) rfl rfl k) ?_
  show own_G _ _ _ (T2.setTop (mkF m 13 #[.val (.ref p0), .val (.ref p1)] [(.ref p0), (.ref p1), (.ref p0)])) _ _ _ _
  obtain ⟨T10, X10, e10, st10⟩ := getF X2 hx hZ hown (host := "") (Or.inl (hw _ (List.mem_of_getElem? (i := 28) rfl))) Via.refl e2 f5 (g := (mkF m 13 #[.val (.ref p0), .val (.ref p1)] [(.ref p0), (.ref p1), (.ref p0)])) rfl rfl (hb hby d8_13)
  refine own_go (fun _ k => st10 _ k) ?_
  show own_G _ _ _ (T10.setTop (mkF m 16 #[.val (.ref p0), .val (.ref p1)] [(.ref d0), (.ref p1), (.ref p0)])) _ _ _ _
  refine own_go (fun _ k => XS.aloadN X10.here hx rfl (hb hby d8_16) rfl rfl k) ?_
  show own_G _ _ _ (T10.setTop (mkF m 17 #[.val (.ref p0), .val (.ref p1)] [(.ref p0), (.ref d0), (.ref p1), (.ref p0)])) _ _ _ _
  obtain ⟨T11, X11, e11, st11⟩ := getF X10 hx hZ hown (host := "") (Or.inl (hw _ (List.mem_of_getElem? (i := 41) rfl))) Via.refl e10 f6 (g := (mkF m 17 #[.val (.ref p0), .val (.ref p1)] [(.ref p0), (.ref d0), (.ref p1), (.ref p0)])) rfl rfl (hb hby d8_17)
  refine own_go (fun _ k => st11 _ k) ?_
  show own_G _ _ _ (T11.setTop (mkF m 20 #[.val (.ref p0), .val (.ref p1)] [(.int (0 : Int32)), (.ref d0), (.ref p1), (.ref p0)])) _ _ _ _
  obtain ⟨cq12, q12, q12'⟩ := f3.cell
  obtain ⟨_, _, ⟨T12, L12, k12, n12⟩, -, X12, ⟨Lc12, hQ12, l12, y12, z12⟩, st12⟩ := X11.privateBack hx (y := (⟨"java/util/ArrayList", "add", "(Ljava/lang/Object;[Ljava/lang/Object;I)V"⟩ : MethodName)) hown (mvT hZ (hw _ (List.mem_of_getElem? (i := 60) rfl))) (mvT hZ (hw _ (List.mem_of_getElem? (i := 61) rfl))) (mvT hZ (hw _ (List.mem_of_getElem? (i := 63) rfl))) (Cond.privateMethod_at (mvP hZ (hw _ (List.mem_of_getElem? (i := 62) rfl)) (args := #[]))) (mvT hZ (hw _ (List.mem_of_getElem? (i := 64) rfl))) (by decide) (backOf (W := 0) (rm9a l Z a0 hw [] p0 p1 d0 (mc + (1 : Int32)) k0 h2 n0 Zs2 f3 f4 f5 f6 g_p0 f7 P_ZS_java_util_ArrayList_DEFAULTCAPACITY_EMPTY_ELEMENTDATA f8 f9) hZ (hw _ (List.mem_of_getElem? (i := 64) rfl)) (hw _ (List.mem_of_getElem? (i := 6) rfl)) (by decide) (by decide)) (g := (mkF m 20 #[.val (.ref p0), .val (.ref p1)] [(.int (0 : Int32)), (.ref d0), (.ref p1), (.ref p0)])) rfl (by rw [hml]; rfl) (Steps.refl _) (a := p0) (by rw [e11]; exact q12) q12' (argsL := [(.ref p1), (.ref d0), (.int (0 : Int32))]) (rest := []) (lenOf pd_5 rfl) rfl (by show 2 * 0 + _ ≤ _; exact Nat.le_of_eq rfl) (hb hby d8_20) (fun _ _ => ⟨rfl, e11, (by decide : 0 + 1 ≤ _), (by decide : 0 + 10 ≤ _)⟩)
  dsimp only [Pt.U, Pt.locs, Pt.cells, Pt.slots] at X12 l12 y12 z12 st12 hQ12
  subst l12 y12 z12
  obtain ⟨na12, kn12, rfl, Nq12, Kq12, r12_0, r12_1, r12_2, r12_3, r12_4, r12_5, r12_6⟩ := hQ12
  have N12 := Fr.app N2 Nq12
  have ne13 : p0 ≠ na12 := Nat.ne_of_lt (Nat.lt_of_lt_of_le f3.lt r12_0)
  have ne14 : d0 ≠ na12 := Nat.ne_of_lt (Nat.lt_of_lt_of_le f8.lt r12_0)
  have ne15 : p1 ≠ na12 := Nat.ne_of_lt (Nat.lt_of_lt_of_le f9.lt r12_0)
  have gg_na12 : n0 ≤ na12 := Nat.le_trans Zs2 r12_0
  have sz_na12_0 : h0.size ≤ na12 := Nat.le_trans K2_0.1 r12_0
  have f16 : Exa Z T12.heap p0 "java/util/ArrayList" := f3.keep Kq12
  have f17 : Old Z n0 T12.heap := f7.keep Kq12 (allS g_p0 all0)
  have f18 : Arv Z T12.heap d0 k0 (.object "java/lang/Object") (0 : Int32) [] .null := f8.keep Kq12 (ninS (Ne.symm (by obtain ⟨c_, A_, -⟩ := f8; exact ne_arr f3 (hw _ (List.mem_of_getElem? (i := 5) rfl)) A_)) nin0)
  have f19 : Exa Z T12.heap p1 "java/lang/Integer" := f9.keep Kq12
  have Zs12 : n0 ≤ T12.heap.size := Nat.le_trans Zs2 Kq12.1
  have K12_0 : Keep h0 T12.heap [p0] := K2_0.trans Kq12 (allS (Or.inl (List.mem_of_getElem? (i := 0) rfl)) all0)
  refine own_tr st12 ?_
  show own_G _ _ _ (T12.setTop (mkF m 23 #[.val (.ref p0), .val (.ref p1)] [])) _ _ _ _
  refine own_go (fun _ k => XS.iconst X12.here hx rfl (hb hby d8_23) k) ?_
  show own_G _ _ _ (T12.setTop (mkF m 24 #[.val (.ref p0), .val (.ref p1)] [(.int (1 : Int32))])) _ _ _ _
  exact own_endN X12 hx hlk (t := .boolean) Bd.returns (by simp) (hb hby d8_24) (by decide) (by decide) (Q := (Q8a Z p0 p1 mc d0 k0 h0 n0)) ⟨na12, kn12, rfl, N12, K12_0, sz_na12_0, r12_1, r12_2, r12_3, r12_4, r12_5, r12_6⟩
def Q8b (Z : State) (p0 : Addr) (p1 : Addr) (mc : Int32) (na : Addr) (kn : ClassId) (el0 : Addr) (h0 : Heap) (n0 : Nat) (v : Option Value) (h : Heap) (L : List Loc) : Prop := v = some (.int (1 : Int32)) ∧ Fr n0 L ∧ Keep h0 h [p0, na] ∧ Exa Z h p0 "java/util/ArrayList" ∧ Fld Z h p0 "java/util/AbstractList" "modCount" "I" (.int (mc + (1 : Int32))) ∧ Fld Z h p0 "java/util/ArrayList" "elementData" "[Ljava/lang/Object;" (.ref na) ∧ Fld Z h p0 "java/util/ArrayList" "size" "I" (.int (2 : Int32)) ∧ Arv Z h na kn (.object "java/lang/Object") (10 : Int32) [(.ref el0), (.ref p1), .null, .null, .null, .null, .null, .null, .null, .null] .null ∧ Ovr Z kn "java/lang/Object"
set_option maxRecDepth 65536 in
set_option maxHeartbeats 40000000 in
theorem rm8b (l : Launch) (Z : State) (a0 : Array Value) (hw : ∀ d ∈ tables_1, d.before a0 Z = true) (ws : List Jvm.Cond) (p0 : Addr) (p1 : Addr) (mc : Int32) (na : Addr) (kn : ClassId) (el0 : Addr) (h0 : Heap) (n0 : Nat) (Z0 : n0 ≤ h0.size) (P_E_p0 : Exa Z h0 p0 "java/util/ArrayList") (P_F_p0_modCount : Fld Z h0 p0 "java/util/AbstractList" "modCount" "I" (.int mc)) (P_F_p0_elementData : Fld Z h0 p0 "java/util/ArrayList" "elementData" "[Ljava/lang/Object;" (.ref na)) (P_F_p0_size : Fld Z h0 p0 "java/util/ArrayList" "size" "I" (.int (1 : Int32))) (g_p0 : n0 ≤ p0) (g_na : n0 ≤ na) (P_V_na : Arv Z h0 na kn (.object "java/lang/Object") (10 : Int32) [(.ref el0), .null, .null, .null, .null, .null, .null, .null, .null, .null] .null) (P_O_kn : Ovr Z kn "java/lang/Object") (P_E_p1 : Exa Z h0 p1 "java/lang/Integer") :
    MetFree l (⟨"java/util/ArrayList", "add", "(Ljava/lang/Object;)Z"⟩ : MethodName) (head1 (Jvm.Cond.code (⟨"java/util/ArrayList", "add", "(Ljava/lang/Object;)Z"⟩ : MethodName) jdk_38_method_25_code 2 (some .boolean) :: ws) ({ frames := 1, cells := 0, slots := 0, locals := 15 } : Room)) (fun a U => a = #[(.ref p0), (.ref p1)] ∧ Z.Warmed39 U.vm ∧ U.heap = h0) (fun _ _ _ _ _ => True) (fun _ U o U' => ∃ v L, o = .returned v ∧ (Q8b Z p0 p1 mc na kn el0 h0 n0) v U'.heap L ∧ FrameEnd U o U' L ({ frames := 1, cells := 0, slots := 0, locals := 15 } : Room).cells ({ frames := 1, cells := 0, slots := 0, locals := 15 } : Room).slots) := by
  refine MetFree.of_bodySF (plainFor_of_name pn_3) hisR ?_
  intro p e s m args below meth c s₁ Bd hml0 hP hK
  obtain ⟨rfl, hZ, hh⟩ := hP
  have hx := Bd.exec
  have hby := Bd.bytes
  have hml : c.maxLocals = 2 := hml0
  have hown : s.vm.findClass "java/util/ArrayList" = some m.cls := findClass_of_methodNamed Bd.named
  have hnm := (name_of_methodNamed Bd.named Bd.method).1
  have hlk : meth.locks = false := BodyLoose.notSynchronized Bd
  have X0 : Stand p l e ({ frames := 1, cells := 0, slots := 0, locals := 15 } : Room) s m #[(.ref p0), (.ref p1)] below meth c s₁ [] 0 0 := Stand.of_body Bd
  have e0 : s₁.heap = h0 := by rw [← hh, Bd.state]; rfl
  have N0 := Fr.nil n0
  have K0 : Keep h0 h0 [p0, na] := Keep.refl h0 [p0, na]
  show own_G p.tables e below (s₁.setTop (entryFrame m #[(.ref p0), (.ref p1)] 2)) s ({ frames := 1, cells := 0, slots := 0, locals := 15 } : Room).cells ({ frames := 1, cells := 0, slots := 0, locals := 15 } : Room).slots (Q8b Z p0 p1 mc na kn el0 h0 n0)
  refine own_go (fun _ k => castTop (ef_8a m p0 p1) k) ?_
  show own_G _ _ _ (s₁.setTop (mkF m 0 #[.val (.ref p0), .val (.ref p1)] [])) _ _ _ _
  refine own_go (fun _ k => XS.aloadN X0.here hx rfl (hb hby d8_0) rfl rfl k) ?_
  show own_G _ _ _ (s₁.setTop (mkF m 1 #[.val (.ref p0), .val (.ref p1)] [(.ref p0)])) _ _ _ _
  refine own_go (fun _ k => XS.dup X0.here hx rfl (hb hby d8_1) rfl rfl k) ?_
  show own_G _ _ _ (s₁.setTop (mkF m 2 #[.val (.ref p0), .val (.ref p1)] [(.ref p0), (.ref p0)])) _ _ _ _
  obtain ⟨T1, X1, e1, st1⟩ := getF X0 hx hZ hown (host := "") (Or.inl (hw _ (List.mem_of_getElem? (i := 58) rfl))) (Via.of (hw _ (List.mem_of_getElem? (i := 59) rfl))) e0 P_F_p0_modCount (g := (mkF m 2 #[.val (.ref p0), .val (.ref p1)] [(.ref p0), (.ref p0)])) rfl rfl (hb hby d8_2)
  refine own_go (fun _ k => st1 _ k) ?_
  show own_G _ _ _ (T1.setTop (mkF m 5 #[.val (.ref p0), .val (.ref p1)] [(.int mc), (.ref p0)])) _ _ _ _
  refine own_go (fun _ k => XS.iconst X1.here hx rfl (hb hby d8_5) k) ?_
  show own_G _ _ _ (T1.setTop (mkF m 6 #[.val (.ref p0), .val (.ref p1)] [(.int (1 : Int32)), (.int mc), (.ref p0)])) _ _ _ _
  refine own_go (fun _ k => XS.iadd X1.here hx rfl (hb hby d8_6) rfl k) ?_
  show own_G _ _ _ (T1.setTop (mkF m 7 #[.val (.ref p0), .val (.ref p1)] [(.int (mc + (1 : Int32))), (.ref p0)])) _ _ _ _
  obtain ⟨T2, h2, X2, e2, W2, st2⟩ := putF X1 hx hZ hown (host := "") (Or.inl (hw _ (List.mem_of_getElem? (i := 58) rfl))) (Via.of (hw _ (List.mem_of_getElem? (i := 59) rfl))) e1 P_F_p0_modCount P_E_p0 (Or.inl (hw _ (List.mem_of_getElem? (i := 26) rfl))) (hw _ (List.mem_of_getElem? (i := 5) rfl)) (ty := .int) (by decide) rfl rfl (g := (mkF m 7 #[.val (.ref p0), .val (.ref p1)] [(.int (mc + (1 : Int32))), (.ref p0)])) rfl rfl (hb hby d8_7)
  have N2 := Fr.snoc X2 N0 g_p0
  have Zs2 : n0 ≤ h2.size := Nat.le_trans Z0 (Keep.of_wr W2).1
  have K2_0 : Keep h0 h2 [p0, na] := K0.wr W2 (Or.inl (List.mem_of_getElem? (i := 0) rfl))
  have f3 : Exa Z h2 p0 "java/util/ArrayList" := P_E_p0.wr W2
  have f4 : Fld Z h2 p0 "java/util/AbstractList" "modCount" "I" (.int (mc + (1 : Int32))) := P_F_p0_modCount.same W2
  have f5 : Fld Z h2 p0 "java/util/ArrayList" "elementData" "[Ljava/lang/Object;" (.ref na) := P_F_p0_elementData.other W2 (Or.inr (slot_ne (Or.inl (hw _ (List.mem_of_getElem? (i := 29) rfl))) (Or.inl (hw _ (List.mem_of_getElem? (i := 26) rfl))) (by decide) (t := (.array (.object "java/lang/Object"))) (t' := .int) (by decide) (by decide)))
  have f6 : Fld Z h2 p0 "java/util/ArrayList" "size" "I" (.int (1 : Int32)) := P_F_p0_size.other W2 (Or.inr (slot_ne (Or.inl (hw _ (List.mem_of_getElem? (i := 42) rfl))) (Or.inl (hw _ (List.mem_of_getElem? (i := 26) rfl))) (by decide) (t := .int) (t' := .int) (by decide) (by decide)))
  have f7 : Arv Z h2 na kn (.object "java/lang/Object") (10 : Int32) [(.ref el0), .null, .null, .null, .null, .null, .null, .null, .null, .null] .null := P_V_na.other W2 (Ne.symm (by obtain ⟨c_, A_, -⟩ := P_V_na; exact ne_arr P_E_p0 (hw _ (List.mem_of_getElem? (i := 5) rfl)) A_))
  have f8 : Exa Z h2 p1 "java/lang/Integer" := P_E_p1.wr W2
  refine own_go (fun _ k => st2 _ k) ?_
  show own_G _ _ _ (T2.setTop (mkF m 10 #[.val (.ref p0), .val (.ref p1)] [])) _ _ _ _
  refine own_go (fun _ k => XS.aloadN X2.here hx rfl (hb hby d8_10) rfl rfl k) ?_
  show own_G _ _ _ (T2.setTop (mkF m 11 #[.val (.ref p0), .val (.ref p1)] [(.ref p0)])) _ _ _ _
  refine own_go (fun _ k => XS.aloadN X2.here hx rfl (hb hby d8_11) rfl rfl k) ?_
  show own_G _ _ _ (T2.setTop (mkF m 12 #[.val (.ref p0), .val (.ref p1)] [(.ref p1), (.ref p0)])) _ _ _ _
  refine own_go (fun _ k => XS.aloadN X2.here hx rfl (hb hby d8_12) rfl rfl k) ?_
  show own_G _ _ _ (T2.setTop (mkF m 13 #[.val (.ref p0), .val (.ref p1)] [(.ref p0), (.ref p1), (.ref p0)])) _ _ _ _
  obtain ⟨T9, X9, e9, st9⟩ := getF X2 hx hZ hown (host := "") (Or.inl (hw _ (List.mem_of_getElem? (i := 28) rfl))) Via.refl e2 f5 (g := (mkF m 13 #[.val (.ref p0), .val (.ref p1)] [(.ref p0), (.ref p1), (.ref p0)])) rfl rfl (hb hby d8_13)
  refine own_go (fun _ k => st9 _ k) ?_
  show own_G _ _ _ (T9.setTop (mkF m 16 #[.val (.ref p0), .val (.ref p1)] [(.ref na), (.ref p1), (.ref p0)])) _ _ _ _
  refine own_go (fun _ k => XS.aloadN X9.here hx rfl (hb hby d8_16) rfl rfl k) ?_
  show own_G _ _ _ (T9.setTop (mkF m 17 #[.val (.ref p0), .val (.ref p1)] [(.ref p0), (.ref na), (.ref p1), (.ref p0)])) _ _ _ _
  obtain ⟨T10, X10, e10, st10⟩ := getF X9 hx hZ hown (host := "") (Or.inl (hw _ (List.mem_of_getElem? (i := 41) rfl))) Via.refl e9 f6 (g := (mkF m 17 #[.val (.ref p0), .val (.ref p1)] [(.ref p0), (.ref na), (.ref p1), (.ref p0)])) rfl rfl (hb hby d8_17)
  refine own_go (fun _ k => st10 _ k) ?_
  show own_G _ _ _ (T10.setTop (mkF m 20 #[.val (.ref p0), .val (.ref p1)] [(.int (1 : Int32)), (.ref na), (.ref p1), (.ref p0)])) _ _ _ _
  obtain ⟨cq11, q11, q11'⟩ := f3.cell
  obtain ⟨_, _, ⟨T11, L11, k11, n11⟩, -, X11, ⟨Lc11, hQ11, l11, y11, z11⟩, st11⟩ := X10.privateBack hx (y := (⟨"java/util/ArrayList", "add", "(Ljava/lang/Object;[Ljava/lang/Object;I)V"⟩ : MethodName)) hown (mvT hZ (hw _ (List.mem_of_getElem? (i := 60) rfl))) (mvT hZ (hw _ (List.mem_of_getElem? (i := 61) rfl))) (mvT hZ (hw _ (List.mem_of_getElem? (i := 63) rfl))) (Cond.privateMethod_at (mvP hZ (hw _ (List.mem_of_getElem? (i := 62) rfl)) (args := #[]))) (mvT hZ (hw _ (List.mem_of_getElem? (i := 64) rfl))) (by decide) (backOf (W := 0) (rm9b l Z a0 hw [] p0 p1 na (mc + (1 : Int32)) kn el0 h2 n0 Zs2 f3 f4 f5 f6 g_p0 g_na f7 P_O_kn f8) hZ (hw _ (List.mem_of_getElem? (i := 64) rfl)) (hw _ (List.mem_of_getElem? (i := 6) rfl)) (by decide) (by decide)) (g := (mkF m 20 #[.val (.ref p0), .val (.ref p1)] [(.int (1 : Int32)), (.ref na), (.ref p1), (.ref p0)])) rfl (by rw [hml]; rfl) (Steps.refl _) (a := p0) (by rw [e10]; exact q11) q11' (argsL := [(.ref p1), (.ref na), (.int (1 : Int32))]) (rest := []) (lenOf pd_5 rfl) rfl (by show 2 * 0 + _ ≤ _; exact Nat.le_of_eq rfl) (hb hby d8_20) (fun _ _ => ⟨rfl, e10, (by decide : 0 + 0 ≤ _), (by decide : 0 + 0 ≤ _)⟩)
  dsimp only [Pt.U, Pt.locs, Pt.cells, Pt.slots] at X11 l11 y11 z11 st11 hQ11
  subst l11 y11 z11
  obtain ⟨rfl, Nq11, Kq11, r11_0, r11_1, r11_2, r11_3, r11_4, r11_5⟩ := hQ11
  have N11 := Fr.app N2 Nq11
  have f12 : Exa Z T11.heap p0 "java/util/ArrayList" := f3.keep Kq11
  have f13 : Exa Z T11.heap p1 "java/lang/Integer" := f8.keep Kq11
  have Zs11 : n0 ≤ T11.heap.size := Nat.le_trans Zs2 Kq11.1
  have K11_0 : Keep h0 T11.heap [p0, na] := K2_0.trans Kq11 (allS (Or.inl (List.mem_of_getElem? (i := 0) rfl)) (allS (Or.inl (List.mem_of_getElem? (i := 1) rfl)) all0))
  refine own_tr st11 ?_
  show own_G _ _ _ (T11.setTop (mkF m 23 #[.val (.ref p0), .val (.ref p1)] [])) _ _ _ _
  refine own_go (fun _ k => XS.iconst X11.here hx rfl (hb hby d8_23) k) ?_
  show own_G _ _ _ (T11.setTop (mkF m 24 #[.val (.ref p0), .val (.ref p1)] [(.int (1 : Int32))])) _ _ _ _
  exact own_endN X11 hx hlk (t := .boolean) Bd.returns (by simp) (hb hby d8_24) (by decide) (by decide) (Q := (Q8b Z p0 p1 mc na kn el0 h0 n0)) ⟨rfl, N11, K11_0, r11_0, r11_1, r11_2, r11_3, r11_4, r11_5⟩
def Q8c (Z : State) (p0 : Addr) (p1 : Addr) (mc : Int32) (na : Addr) (kn : ClassId) (el0 : Addr) (el1 : Addr) (h0 : Heap) (n0 : Nat) (v : Option Value) (h : Heap) (L : List Loc) : Prop := v = some (.int (1 : Int32)) ∧ Fr n0 L ∧ Keep h0 h [p0, na] ∧ Exa Z h p0 "java/util/ArrayList" ∧ Fld Z h p0 "java/util/AbstractList" "modCount" "I" (.int (mc + (1 : Int32))) ∧ Fld Z h p0 "java/util/ArrayList" "elementData" "[Ljava/lang/Object;" (.ref na) ∧ Fld Z h p0 "java/util/ArrayList" "size" "I" (.int (3 : Int32)) ∧ Arv Z h na kn (.object "java/lang/Object") (10 : Int32) [(.ref el0), (.ref el1), (.ref p1), .null, .null, .null, .null, .null, .null, .null] .null ∧ Ovr Z kn "java/lang/Object"
set_option maxRecDepth 65536 in
set_option maxHeartbeats 40000000 in
theorem rm8c (l : Launch) (Z : State) (a0 : Array Value) (hw : ∀ d ∈ tables_1, d.before a0 Z = true) (ws : List Jvm.Cond) (p0 : Addr) (p1 : Addr) (mc : Int32) (na : Addr) (kn : ClassId) (el0 : Addr) (el1 : Addr) (h0 : Heap) (n0 : Nat) (Z0 : n0 ≤ h0.size) (P_E_p0 : Exa Z h0 p0 "java/util/ArrayList") (P_F_p0_modCount : Fld Z h0 p0 "java/util/AbstractList" "modCount" "I" (.int mc)) (P_F_p0_elementData : Fld Z h0 p0 "java/util/ArrayList" "elementData" "[Ljava/lang/Object;" (.ref na)) (P_F_p0_size : Fld Z h0 p0 "java/util/ArrayList" "size" "I" (.int (2 : Int32))) (g_p0 : n0 ≤ p0) (g_na : n0 ≤ na) (P_V_na : Arv Z h0 na kn (.object "java/lang/Object") (10 : Int32) [(.ref el0), (.ref el1), .null, .null, .null, .null, .null, .null, .null, .null] .null) (P_O_kn : Ovr Z kn "java/lang/Object") (P_E_p1 : Exa Z h0 p1 "java/lang/Integer") :
    MetFree l (⟨"java/util/ArrayList", "add", "(Ljava/lang/Object;)Z"⟩ : MethodName) (head1 (Jvm.Cond.code (⟨"java/util/ArrayList", "add", "(Ljava/lang/Object;)Z"⟩ : MethodName) jdk_38_method_25_code 2 (some .boolean) :: ws) ({ frames := 1, cells := 0, slots := 0, locals := 15 } : Room)) (fun a U => a = #[(.ref p0), (.ref p1)] ∧ Z.Warmed39 U.vm ∧ U.heap = h0) (fun _ _ _ _ _ => True) (fun _ U o U' => ∃ v L, o = .returned v ∧ (Q8c Z p0 p1 mc na kn el0 el1 h0 n0) v U'.heap L ∧ FrameEnd U o U' L ({ frames := 1, cells := 0, slots := 0, locals := 15 } : Room).cells ({ frames := 1, cells := 0, slots := 0, locals := 15 } : Room).slots) := by
  refine MetFree.of_bodySF (plainFor_of_name pn_3) hisR ?_
  intro p e s m args below meth c s₁ Bd hml0 hP hK
  obtain ⟨rfl, hZ, hh⟩ := hP
  have hx := Bd.exec
  have hby := Bd.bytes
  have hml : c.maxLocals = 2 := hml0
  have hown : s.vm.findClass "java/util/ArrayList" = some m.cls := findClass_of_methodNamed Bd.named
  have hnm := (name_of_methodNamed Bd.named Bd.method).1
  have hlk : meth.locks = false := BodyLoose.notSynchronized Bd
  have X0 : Stand p l e ({ frames := 1, cells := 0, slots := 0, locals := 15 } : Room) s m #[(.ref p0), (.ref p1)] below meth c s₁ [] 0 0 := Stand.of_body Bd
  have e0 : s₁.heap = h0 := by rw [← hh, Bd.state]; rfl
  have N0 := Fr.nil n0
  have K0 : Keep h0 h0 [p0, na] := Keep.refl h0 [p0, na]
  show own_G p.tables e below (s₁.setTop (entryFrame m #[(.ref p0), (.ref p1)] 2)) s ({ frames := 1, cells := 0, slots := 0, locals := 15 } : Room).cells ({ frames := 1, cells := 0, slots := 0, locals := 15 } : Room).slots (Q8c Z p0 p1 mc na kn el0 el1 h0 n0)
  refine own_go (fun _ k => castTop (ef_8a m p0 p1) k) ?_
  show own_G _ _ _ (s₁.setTop (mkF m 0 #[.val (.ref p0), .val (.ref p1)] [])) _ _ _ _
  refine own_go (fun _ k => XS.aloadN X0.here hx rfl (hb hby d8_0) rfl rfl k) ?_
  show own_G _ _ _ (s₁.setTop (mkF m 1 #[.val (.ref p0), .val (.ref p1)] [(.ref p0)])) _ _ _ _
  refine own_go (fun _ k => XS.dup X0.here hx rfl (hb hby d8_1) rfl rfl k) ?_
  show own_G _ _ _ (s₁.setTop (mkF m 2 #[.val (.ref p0), .val (.ref p1)] [(.ref p0), (.ref p0)])) _ _ _ _
  obtain ⟨T1, X1, e1, st1⟩ := getF X0 hx hZ hown (host := "") (Or.inl (hw _ (List.mem_of_getElem? (i := 58) rfl))) (Via.of (hw _ (List.mem_of_getElem? (i := 59) rfl))) e0 P_F_p0_modCount (g := (mkF m 2 #[.val (.ref p0), .val (.ref p1)] [(.ref p0), (.ref p0)])) rfl rfl (hb hby d8_2)
  refine own_go (fun _ k => st1 _ k) ?_
  show own_G _ _ _ (T1.setTop (mkF m 5 #[.val (.ref p0), .val (.ref p1)] [(.int mc), (.ref p0)])) _ _ _ _
  refine own_go (fun _ k => XS.iconst X1.here hx rfl (hb hby d8_5) k) ?_
  show own_G _ _ _ (T1.setTop (mkF m 6 #[.val (.ref p0), .val (.ref p1)] [(.int (1 : Int32)), (.int mc), (.ref p0)])) _ _ _ _
  refine own_go (fun _ k => XS.iadd X1.here hx rfl (hb hby d8_6) rfl k) ?_
  show own_G _ _ _ (T1.setTop (mkF m 7 #[.val (.ref p0), .val (.ref p1)] [(.int (mc + (1 : Int32))), (.ref p0)])) _ _ _ _
  obtain ⟨T2, h2, X2, e2, W2, st2⟩ := putF X1 hx hZ hown (host := "") (Or.inl (hw _ (List.mem_of_getElem? (i := 58) rfl))) (Via.of (hw _ (List.mem_of_getElem? (i := 59) rfl))) e1 P_F_p0_modCount P_E_p0 (Or.inl (hw _ (List.mem_of_getElem? (i := 26) rfl))) (hw _ (List.mem_of_getElem? (i := 5) rfl)) (ty := .int) (by decide) rfl rfl (g := (mkF m 7 #[.val (.ref p0), .val (.ref p1)] [(.int (mc + (1 : Int32))), (.ref p0)])) rfl rfl (hb hby d8_7)
  have N2 := Fr.snoc X2 N0 g_p0
  have Zs2 : n0 ≤ h2.size := Nat.le_trans Z0 (Keep.of_wr W2).1
  have K2_0 : Keep h0 h2 [p0, na] := K0.wr W2 (Or.inl (List.mem_of_getElem? (i := 0) rfl))
  have f3 : Exa Z h2 p0 "java/util/ArrayList" := P_E_p0.wr W2
  have f4 : Fld Z h2 p0 "java/util/AbstractList" "modCount" "I" (.int (mc + (1 : Int32))) := P_F_p0_modCount.same W2
  have f5 : Fld Z h2 p0 "java/util/ArrayList" "elementData" "[Ljava/lang/Object;" (.ref na) := P_F_p0_elementData.other W2 (Or.inr (slot_ne (Or.inl (hw _ (List.mem_of_getElem? (i := 29) rfl))) (Or.inl (hw _ (List.mem_of_getElem? (i := 26) rfl))) (by decide) (t := (.array (.object "java/lang/Object"))) (t' := .int) (by decide) (by decide)))
  have f6 : Fld Z h2 p0 "java/util/ArrayList" "size" "I" (.int (2 : Int32)) := P_F_p0_size.other W2 (Or.inr (slot_ne (Or.inl (hw _ (List.mem_of_getElem? (i := 42) rfl))) (Or.inl (hw _ (List.mem_of_getElem? (i := 26) rfl))) (by decide) (t := .int) (t' := .int) (by decide) (by decide)))
  have f7 : Arv Z h2 na kn (.object "java/lang/Object") (10 : Int32) [(.ref el0), (.ref el1), .null, .null, .null, .null, .null, .null, .null, .null] .null := P_V_na.other W2 (Ne.symm (by obtain ⟨c_, A_, -⟩ := P_V_na; exact ne_arr P_E_p0 (hw _ (List.mem_of_getElem? (i := 5) rfl)) A_))
  have f8 : Exa Z h2 p1 "java/lang/Integer" := P_E_p1.wr W2
  refine own_go (fun _ k => st2 _ k) ?_
  show own_G _ _ _ (T2.setTop (mkF m 10 #[.val (.ref p0), .val (.ref p1)] [])) _ _ _ _
  refine own_go (fun _ k => XS.aloadN X2.here hx rfl (hb hby d8_10) rfl rfl k) ?_
  show own_G _ _ _ (T2.setTop (mkF m 11 #[.val (.ref p0), .val (.ref p1)] [(.ref p0)])) _ _ _ _
  refine own_go (fun _ k => XS.aloadN X2.here hx rfl (hb hby d8_11) rfl rfl k) ?_
  show own_G _ _ _ (T2.setTop (mkF m 12 #[.val (.ref p0), .val (.ref p1)] [(.ref p1), (.ref p0)])) _ _ _ _
  refine own_go (fun _ k => XS.aloadN X2.here hx rfl (hb hby d8_12) rfl rfl k) ?_
  show own_G _ _ _ (T2.setTop (mkF m 13 #[.val (.ref p0), .val (.ref p1)] [(.ref p0), (.ref p1), (.ref p0)])) _ _ _ _
  obtain ⟨T9, X9, e9, st9⟩ := getF X2 hx hZ hown (host := "") (Or.inl (hw _ (List.mem_of_getElem? (i := 28) rfl))) Via.refl e2 f5 (g := (mkF m 13 #[.val (.ref p0), .val (.ref p1)] [(.ref p0), (.ref p1), (.ref p0)])) rfl rfl (hb hby d8_13)
  refine own_go (fun _ k => st9 _ k) ?_
  show own_G _ _ _ (T9.setTop (mkF m 16 #[.val (.ref p0), .val (.ref p1)] [(.ref na), (.ref p1), (.ref p0)])) _ _ _ _
  refine own_go (fun _ k => XS.aloadN X9.here hx rfl (hb hby d8_16) rfl rfl k) ?_
  show own_G _ _ _ (T9.setTop (mkF m 17 #[.val (.ref p0), .val (.ref p1)] [(.ref p0), (.ref na), (.ref p1), (.ref p0)])) _ _ _ _
  obtain ⟨T10, X10, e10, st10⟩ := getF X9 hx hZ hown (host := "") (Or.inl (hw _ (List.mem_of_getElem? (i := 41) rfl))) Via.refl e9 f6 (g := (mkF m 17 #[.val (.ref p0), .val (.ref p1)] [(.ref p0), (.ref na), (.ref p1), (.ref p0)])) rfl rfl (hb hby d8_17)
  refine own_go (fun _ k => st10 _ k) ?_
  show own_G _ _ _ (T10.setTop (mkF m 20 #[.val (.ref p0), .val (.ref p1)] [(.int (2 : Int32)), (.ref na), (.ref p1), (.ref p0)])) _ _ _ _
  obtain ⟨cq11, q11, q11'⟩ := f3.cell
  obtain ⟨_, _, ⟨T11, L11, k11, n11⟩, -, X11, ⟨Lc11, hQ11, l11, y11, z11⟩, st11⟩ := X10.privateBack hx (y := (⟨"java/util/ArrayList", "add", "(Ljava/lang/Object;[Ljava/lang/Object;I)V"⟩ : MethodName)) hown (mvT hZ (hw _ (List.mem_of_getElem? (i := 60) rfl))) (mvT hZ (hw _ (List.mem_of_getElem? (i := 61) rfl))) (mvT hZ (hw _ (List.mem_of_getElem? (i := 63) rfl))) (Cond.privateMethod_at (mvP hZ (hw _ (List.mem_of_getElem? (i := 62) rfl)) (args := #[]))) (mvT hZ (hw _ (List.mem_of_getElem? (i := 64) rfl))) (by decide) (backOf (W := 0) (rm9c l Z a0 hw [] p0 p1 na (mc + (1 : Int32)) kn el0 el1 h2 n0 Zs2 f3 f4 f5 f6 g_p0 g_na f7 P_O_kn f8) hZ (hw _ (List.mem_of_getElem? (i := 64) rfl)) (hw _ (List.mem_of_getElem? (i := 6) rfl)) (by decide) (by decide)) (g := (mkF m 20 #[.val (.ref p0), .val (.ref p1)] [(.int (2 : Int32)), (.ref na), (.ref p1), (.ref p0)])) rfl (by rw [hml]; rfl) (Steps.refl _) (a := p0) (by rw [e10]; exact q11) q11' (argsL := [(.ref p1), (.ref na), (.int (2 : Int32))]) (rest := []) (lenOf pd_5 rfl) rfl (by show 2 * 0 + _ ≤ _; exact Nat.le_of_eq rfl) (hb hby d8_20) (fun _ _ => ⟨rfl, e10, (by decide : 0 + 0 ≤ _), (by decide : 0 + 0 ≤ _)⟩)
  dsimp only [Pt.U, Pt.locs, Pt.cells, Pt.slots] at X11 l11 y11 z11 st11 hQ11
  subst l11 y11 z11
  obtain ⟨rfl, Nq11, Kq11, r11_0, r11_1, r11_2, r11_3, r11_4, r11_5⟩ := hQ11
  have N11 := Fr.app N2 Nq11
  have f12 : Exa Z T11.heap p0 "java/util/ArrayList" := f3.keep Kq11
  have f13 : Exa Z T11.heap p1 "java/lang/Integer" := f8.keep Kq11
  have Zs11 : n0 ≤ T11.heap.size := Nat.le_trans Zs2 Kq11.1
  have K11_0 : Keep h0 T11.heap [p0, na] := K2_0.trans Kq11 (allS (Or.inl (List.mem_of_getElem? (i := 0) rfl)) (allS (Or.inl (List.mem_of_getElem? (i := 1) rfl)) all0))
  refine own_tr st11 ?_
  show own_G _ _ _ (T11.setTop (mkF m 23 #[.val (.ref p0), .val (.ref p1)] [])) _ _ _ _
  refine own_go (fun _ k => XS.iconst X11.here hx rfl (hb hby d8_23) k) ?_
  show own_G _ _ _ (T11.setTop (mkF m 24 #[.val (.ref p0), .val (.ref p1)] [(.int (1 : Int32))])) _ _ _ _
  exact own_endN X11 hx hlk (t := .boolean) Bd.returns (by simp) (hb hby d8_24) (by decide) (by decide) (Q := (Q8c Z p0 p1 mc na kn el0 el1 h0 n0)) ⟨rfl, N11, K11_0, r11_0, r11_1, r11_2, r11_3, r11_4, r11_5⟩
theorem d15_0 : decode jdk_41_method_11_code 0 = .ok (.iload_n 0, 1) := by decide +kernel
theorem d15_1 : decode jdk_41_method_11_code 1 = .ok (.ifCond .lt 8, 3) := by decide +kernel
theorem d15_4 : decode jdk_41_method_11_code 4 = .ok (.iload_n 0, 1) := by decide +kernel
theorem d15_5 : decode jdk_41_method_11_code 5 = .ok (.iload_n 1, 1) := by decide +kernel
theorem d15_6 : decode jdk_41_method_11_code 6 = .ok (.if_icmp .lt 10, 3) := by decide +kernel
theorem d15_9 : decode jdk_41_method_11_code 9 = .ok (.aload_n 2, 1) := by decide +kernel
theorem d15_10 : decode jdk_41_method_11_code 10 = .ok (.iload_n 0, 1) := by decide +kernel
theorem d15_11 : decode jdk_41_method_11_code 11 = .ok (.iload_n 1, 1) := by decide +kernel
theorem d15_12 : decode jdk_41_method_11_code 12 = .ok (.invokestatic 95, 3) := by decide +kernel
theorem d15_15 : decode jdk_41_method_11_code 15 = .ok (.athrow, 1) := by decide +kernel
theorem d15_16 : decode jdk_41_method_11_code 16 = .ok (.iload_n 0, 1) := by decide +kernel
theorem d15_17 : decode jdk_41_method_11_code 17 = .ok (.ireturn, 1) := by decide +kernel
theorem pn_5 : plainName "jdk/internal/util/Preconditions" = true := by first | (simp [plainName, overriddenIn]; done) | decide +kernel
theorem ef_15 (m : MethodId) (p0 : Int32) (p1 : Int32) : entryFrame m #[(.int p0), (.int p1), .null] 3 = mkF m 0 #[.val (.int p0), .val (.int p1), .val .null] [] := by first | (simp [entryFrame, mkF, argsToLocals, Value.category]; done) | rfl
def Q15 (Z : State) (p0 : Int32) (p1 : Int32) (h0 : Heap) (n0 : Nat) (v : Option Value) (h : Heap) (L : List Loc) : Prop := v = some (.int p0) ∧ Fr n0 L ∧ h = h0
set_option maxRecDepth 65536 in
set_option maxHeartbeats 40000000 in
theorem rm15 (l : Launch) (Z : State) (a0 : Array Value) (hw : ∀ d ∈ tables_1, d.before a0 Z = true) (ws : List Jvm.Cond) (p0 : Int32) (p1 : Int32) (h0 : Heap) (n0 : Nat) (Z0 : n0 ≤ h0.size) (h1 : ¬ p0 < 0) (h2 : p0 < p1) :
    MetFree l (⟨"jdk/internal/util/Preconditions", "checkIndex", "(IILjava/util/function/BiFunction;)I"⟩ : MethodName) (head1 (Jvm.Cond.code (⟨"jdk/internal/util/Preconditions", "checkIndex", "(IILjava/util/function/BiFunction;)I"⟩ : MethodName) jdk_41_method_11_code 3 (some .int) :: ws) ({ frames := 0, cells := 0, slots := 0, locals := 0 } : Room)) (fun a U => a = #[(.int p0), (.int p1), .null] ∧ Z.Warmed39 U.vm ∧ U.heap = h0) (fun _ _ _ _ _ => True) (fun _ U o U' => ∃ v L, o = .returned v ∧ (Q15 Z p0 p1 h0 n0) v U'.heap L ∧ FrameEnd U o U' L ({ frames := 0, cells := 0, slots := 0, locals := 0 } : Room).cells ({ frames := 0, cells := 0, slots := 0, locals := 0 } : Room).slots) := by
  refine MetFree.of_bodySF (plainFor_of_name pn_5) hisR ?_
  intro p e s m args below meth c s₁ Bd hml0 hP hK
  obtain ⟨rfl, hZ, hh⟩ := hP
  have hx := Bd.exec
  have hby := Bd.bytes
  have hml : c.maxLocals = 3 := hml0
  have hown : s.vm.findClass "jdk/internal/util/Preconditions" = some m.cls := findClass_of_methodNamed Bd.named
  have hnm := (name_of_methodNamed Bd.named Bd.method).1
  have hlk : meth.locks = false := BodyLoose.notSynchronized Bd
  have X0 : Stand p l e ({ frames := 0, cells := 0, slots := 0, locals := 0 } : Room) s m #[(.int p0), (.int p1), .null] below meth c s₁ [] 0 0 := Stand.of_body Bd
  have e0 : s₁.heap = h0 := by rw [← hh, Bd.state]; rfl
  have N0 := Fr.nil n0
  show own_G p.tables e below (s₁.setTop (entryFrame m #[(.int p0), (.int p1), .null] 3)) s ({ frames := 0, cells := 0, slots := 0, locals := 0 } : Room).cells ({ frames := 0, cells := 0, slots := 0, locals := 0 } : Room).slots (Q15 Z p0 p1 h0 n0)
  refine own_go (fun _ k => castTop (ef_15 m p0 p1) k) ?_
  show own_G _ _ _ (s₁.setTop (mkF m 0 #[.val (.int p0), .val (.int p1), .val .null] [])) _ _ _ _
  refine own_go (fun _ k => XS.iloadN X0.here hx rfl (hb hby d15_0) rfl k) ?_
  show own_G _ _ _ (s₁.setTop (mkF m 1 #[.val (.int p0), .val (.int p1), .val .null] [(.int p0)])) _ _ _ _
  have hc1 : ¬ (p0 < (0 : Int32)) := h1
  refine own_go (fun _ k => XS.ifNo X0.here hx rfl (hb hby d15_1) rfl ((if0 _ _).trans (flt hc1).1) k) ?_
  show own_G _ _ _ (s₁.setTop (mkF m 4 #[.val (.int p0), .val (.int p1), .val .null] [])) _ _ _ _
  refine own_go (fun _ k => XS.iloadN X0.here hx rfl (hb hby d15_4) rfl k) ?_
  show own_G _ _ _ (s₁.setTop (mkF m 5 #[.val (.int p0), .val (.int p1), .val .null] [(.int p0)])) _ _ _ _
  refine own_go (fun _ k => XS.iloadN X0.here hx rfl (hb hby d15_5) rfl k) ?_
  show own_G _ _ _ (s₁.setTop (mkF m 6 #[.val (.int p0), .val (.int p1), .val .null] [(.int p1), (.int p0)])) _ _ _ _
  have hc2 : p0 < p1 := h2
  refine own_go (fun _ k => XS.icmpYes X0.here hx rfl (pc0 := 6) (pc' := 16) rfl (hb hby d15_6) rfl (tlt hc2).1 (by decide) (by decide) k) ?_
  show own_G _ _ _ (s₁.setTop (mkF m 16 #[.val (.int p0), .val (.int p1), .val .null] [])) _ _ _ _
  refine own_go (fun _ k => XS.iloadN X0.here hx rfl (hb hby d15_16) rfl k) ?_
  show own_G _ _ _ (s₁.setTop (mkF m 17 #[.val (.int p0), .val (.int p1), .val .null] [(.int p0)])) _ _ _ _
  exact own_endI X0 hx hlk Bd.returns (hb hby d15_17) (by decide) (by decide) (Q := (Q15 Z p0 p1 h0 n0)) (by rw [e0]; exact ⟨rfl, N0, rfl⟩)
theorem d14_0 : decode jdk_31_method_17_code 0 = .ok (.iload_n 0, 1) := by decide +kernel
theorem d14_1 : decode jdk_31_method_17_code 1 = .ok (.iload_n 1, 1) := by decide +kernel
theorem d14_2 : decode jdk_31_method_17_code 2 = .ok (.aconst_null, 1) := by decide +kernel
theorem d14_3 : decode jdk_31_method_17_code 3 = .ok (.invokestatic 105, 3) := by decide +kernel
theorem d14_6 : decode jdk_31_method_17_code 6 = .ok (.ireturn, 1) := by decide +kernel
theorem pd_6 : parseMethodDescriptor "(IILjava/util/function/BiFunction;)I" = some ⟨[.int, .int, (.object "java/util/function/BiFunction")], some .int⟩ := by decide +kernel
theorem pn_6 : plainName "java/util/Objects" = true := by first | (simp [plainName, overriddenIn]; done) | decide +kernel
theorem ef_14 (m : MethodId) (p0 : Int32) (p1 : Int32) : entryFrame m #[(.int p0), (.int p1)] 2 = mkF m 0 #[.val (.int p0), .val (.int p1)] [] := by first | (simp [entryFrame, mkF, argsToLocals, Value.category]; done) | rfl
def Q14 (Z : State) (p0 : Int32) (p1 : Int32) (h0 : Heap) (n0 : Nat) (v : Option Value) (h : Heap) (L : List Loc) : Prop := v = some (.int p0) ∧ Fr n0 L ∧ h = h0
set_option maxRecDepth 65536 in
set_option maxHeartbeats 40000000 in
theorem rm14 (l : Launch) (Z : State) (a0 : Array Value) (hw : ∀ d ∈ tables_1, d.before a0 Z = true) (ws : List Jvm.Cond) (p0 : Int32) (p1 : Int32) (h0 : Heap) (n0 : Nat) (Z0 : n0 ≤ h0.size) (h1 : ¬ p0 < 0) (h2 : p0 < p1) :
    MetFree l (⟨"java/util/Objects", "checkIndex", "(II)I"⟩ : MethodName) (head1 (Jvm.Cond.code (⟨"java/util/Objects", "checkIndex", "(II)I"⟩ : MethodName) jdk_31_method_17_code 2 (some .int) :: ws) ({ frames := 1, cells := 0, slots := 0, locals := 14 } : Room)) (fun a U => a = #[(.int p0), (.int p1)] ∧ Z.Warmed39 U.vm ∧ U.heap = h0) (fun _ _ _ _ _ => True) (fun _ U o U' => ∃ v L, o = .returned v ∧ (Q14 Z p0 p1 h0 n0) v U'.heap L ∧ FrameEnd U o U' L ({ frames := 1, cells := 0, slots := 0, locals := 14 } : Room).cells ({ frames := 1, cells := 0, slots := 0, locals := 14 } : Room).slots) := by
  refine MetFree.of_bodySF (plainFor_of_name pn_6) hisR ?_
  intro p e s m args below meth c s₁ Bd hml0 hP hK
  obtain ⟨rfl, hZ, hh⟩ := hP
  have hx := Bd.exec
  have hby := Bd.bytes
  have hml : c.maxLocals = 2 := hml0
  have hown : s.vm.findClass "java/util/Objects" = some m.cls := findClass_of_methodNamed Bd.named
  have hnm := (name_of_methodNamed Bd.named Bd.method).1
  have hlk : meth.locks = false := BodyLoose.notSynchronized Bd
  have X0 : Stand p l e ({ frames := 1, cells := 0, slots := 0, locals := 14 } : Room) s m #[(.int p0), (.int p1)] below meth c s₁ [] 0 0 := Stand.of_body Bd
  have e0 : s₁.heap = h0 := by rw [← hh, Bd.state]; rfl
  have N0 := Fr.nil n0
  show own_G p.tables e below (s₁.setTop (entryFrame m #[(.int p0), (.int p1)] 2)) s ({ frames := 1, cells := 0, slots := 0, locals := 14 } : Room).cells ({ frames := 1, cells := 0, slots := 0, locals := 14 } : Room).slots (Q14 Z p0 p1 h0 n0)
  refine own_go (fun _ k => castTop (ef_14 m p0 p1) k) ?_
  show own_G _ _ _ (s₁.setTop (mkF m 0 #[.val (.int p0), .val (.int p1)] [])) _ _ _ _
  refine own_go (fun _ k => XS.iloadN X0.here hx rfl (hb hby d14_0) rfl k) ?_
  show own_G _ _ _ (s₁.setTop (mkF m 1 #[.val (.int p0), .val (.int p1)] [(.int p0)])) _ _ _ _
  refine own_go (fun _ k => XS.iloadN X0.here hx rfl (hb hby d14_1) rfl k) ?_
  show own_G _ _ _ (s₁.setTop (mkF m 2 #[.val (.int p0), .val (.int p1)] [(.int p1), (.int p0)])) _ _ _ _
  refine own_go (fun _ k => XS.aconstNull X0.here hx rfl (hb hby d14_2) k) ?_
  show own_G _ _ _ (s₁.setTop (mkF m 3 #[.val (.int p0), .val (.int p1)] [.null, (.int p1), (.int p0)])) _ _ _ _
  obtain ⟨_, _, ⟨T1, L1, k1, n1⟩, -, X1, ⟨Lc1, hQ1, l1, y1, z1⟩, st1⟩ := Jvm.LawKit.callS X0 hx (y := (⟨"jdk/internal/util/Preconditions", "checkIndex", "(IILjava/util/function/BiFunction;)I"⟩ : MethodName)) hown (mvT hZ (hw _ (List.mem_of_getElem? (i := 94) rfl))) (mvT hZ (hw _ (List.mem_of_getElem? (i := 95) rfl))) (mvT hZ (hw _ (List.mem_of_getElem? (i := 96) rfl))) (mvT hZ (hw _ (List.mem_of_getElem? (i := 97) rfl))) (by decide) (backOf (W := 0) (rm15 l Z a0 hw [] p0 p1  h0 n0 Z0 (by assumption) (by assumption)) hZ (hw _ (List.mem_of_getElem? (i := 97) rfl)) (hw _ (List.mem_of_getElem? (i := 96) rfl)) (by decide) (by decide)) (g := (mkF m 3 #[.val (.int p0), .val (.int p1)] [.null, (.int p1), (.int p0)])) rfl (by rw [hml]; rfl) (argsL := [(.int p0), (.int p1), .null]) (rest := []) (lenOf pd_6 rfl) rfl (by show 2 * 0 + _ ≤ _; exact Nat.le_of_eq rfl) (hb hby d14_3) (fun _ _ => ⟨rfl, e0, (by decide : 0 + 0 ≤ _), (by decide : 0 + 0 ≤ _)⟩)
  dsimp only [Pt.U, Pt.locs, Pt.cells, Pt.slots] at X1 l1 y1 z1 st1 hQ1
  subst l1 y1 z1
  obtain ⟨rfl, Nq1, eh1⟩ := hQ1
  have N1 := Fr.app N0 Nq1
  refine own_go (fun _ k => st1 _ k) ?_
  show own_G _ _ _ (T1.setTop (mkF m 6 #[.val (.int p0), .val (.int p1)] [(.int p0)])) _ _ _ _
  exact own_endI X1 hx hlk Bd.returns (hb hby d14_6) (by decide) (by decide) (Q := (Q14 Z p0 p1 h0 n0)) (by rw [eh1]; exact ⟨rfl, N1, rfl⟩)
theorem d16_0 : decode jdk_38_method_18_code 0 = .ok (.aload_n 0, 1) := by decide +kernel
theorem d16_1 : decode jdk_38_method_18_code 1 = .ok (.getfield 9, 3) := by decide +kernel
theorem d16_4 : decode jdk_38_method_18_code 4 = .ok (.iload_n 1, 1) := by decide +kernel
theorem d16_5 : decode jdk_38_method_18_code 5 = .ok (.aaload, 1) := by decide +kernel
theorem d16_6 : decode jdk_38_method_18_code 6 = .ok (.areturn, 1) := by decide +kernel
theorem ef_16a (m : MethodId) (p0 : Addr) : entryFrame m #[(.ref p0), (.int (0 : Int32))] 2 = mkF m 0 #[.val (.ref p0), .val (.int (0 : Int32))] [] := by first | (simp [entryFrame, mkF, argsToLocals, Value.category]; done) | rfl
def Q16a (Z : State) (p0 : Addr) (na : Addr) (kn : ClassId) (el0 : Addr) (h0 : Heap) (n0 : Nat) (v : Option Value) (h : Heap) (L : List Loc) : Prop := v = some (.ref el0) ∧ Fr n0 L ∧ h = h0
set_option maxRecDepth 65536 in
set_option maxHeartbeats 40000000 in
theorem rm16a (l : Launch) (Z : State) (a0 : Array Value) (hw : ∀ d ∈ tables_1, d.before a0 Z = true) (ws : List Jvm.Cond) (p0 : Addr) (na : Addr) (kn : ClassId) (el0 : Addr) (h0 : Heap) (n0 : Nat) (Z0 : n0 ≤ h0.size) (P_E_p0 : Exa Z h0 p0 "java/util/ArrayList") (P_F_p0_elementData : Fld Z h0 p0 "java/util/ArrayList" "elementData" "[Ljava/lang/Object;" (.ref na)) (P_V_na : Arv Z h0 na kn (.object "java/lang/Object") (10 : Int32) [(.ref el0), .null, .null, .null, .null, .null, .null, .null, .null, .null] .null) :
    MetFree l (⟨"java/util/ArrayList", "elementData", "(I)Ljava/lang/Object;"⟩ : MethodName) (head1 (Jvm.Cond.code (⟨"java/util/ArrayList", "elementData", "(I)Ljava/lang/Object;"⟩ : MethodName) jdk_38_method_18_code 2 (some (.object "java/lang/Object")) :: ws) ({ frames := 0, cells := 0, slots := 0, locals := 0 } : Room)) (fun a U => a = #[(.ref p0), (.int (0 : Int32))] ∧ Z.Warmed39 U.vm ∧ U.heap = h0) (fun _ _ _ _ _ => True) (fun _ U o U' => ∃ v L, o = .returned v ∧ (Q16a Z p0 na kn el0 h0 n0) v U'.heap L ∧ FrameEnd U o U' L ({ frames := 0, cells := 0, slots := 0, locals := 0 } : Room).cells ({ frames := 0, cells := 0, slots := 0, locals := 0 } : Room).slots) := by
  refine MetFree.of_bodySF (plainFor_of_name pn_3) hisR ?_
  intro p e s m args below meth c s₁ Bd hml0 hP hK
  obtain ⟨rfl, hZ, hh⟩ := hP
  have hx := Bd.exec
  have hby := Bd.bytes
  have hml : c.maxLocals = 2 := hml0
  have hown : s.vm.findClass "java/util/ArrayList" = some m.cls := findClass_of_methodNamed Bd.named
  have hnm := (name_of_methodNamed Bd.named Bd.method).1
  have hlk : meth.locks = false := BodyLoose.notSynchronized Bd
  have X0 : Stand p l e ({ frames := 0, cells := 0, slots := 0, locals := 0 } : Room) s m #[(.ref p0), (.int (0 : Int32))] below meth c s₁ [] 0 0 := Stand.of_body Bd
  have e0 : s₁.heap = h0 := by rw [← hh, Bd.state]; rfl
  have N0 := Fr.nil n0
  show own_G p.tables e below (s₁.setTop (entryFrame m #[(.ref p0), (.int (0 : Int32))] 2)) s ({ frames := 0, cells := 0, slots := 0, locals := 0 } : Room).cells ({ frames := 0, cells := 0, slots := 0, locals := 0 } : Room).slots (Q16a Z p0 na kn el0 h0 n0)
  refine own_go (fun _ k => castTop (ef_16a m p0) k) ?_
  show own_G _ _ _ (s₁.setTop (mkF m 0 #[.val (.ref p0), .val (.int (0 : Int32))] [])) _ _ _ _
  refine own_go (fun _ k => XS.aloadN X0.here hx rfl (hb hby d16_0) rfl rfl k) ?_
  show own_G _ _ _ (s₁.setTop (mkF m 1 #[.val (.ref p0), .val (.int (0 : Int32))] [(.ref p0)])) _ _ _ _
  obtain ⟨T1, X1, e1, st1⟩ := getF X0 hx hZ hown (host := "") (Or.inl (hw _ (List.mem_of_getElem? (i := 28) rfl))) Via.refl e0 P_F_p0_elementData (g := (mkF m 1 #[.val (.ref p0), .val (.int (0 : Int32))] [(.ref p0)])) rfl rfl (hb hby d16_1)
  refine own_go (fun _ k => st1 _ k) ?_
  show own_G _ _ _ (T1.setTop (mkF m 4 #[.val (.ref p0), .val (.int (0 : Int32))] [(.ref na)])) _ _ _ _
  refine own_go (fun _ k => XS.iloadN X1.here hx rfl (hb hby d16_4) rfl k) ?_
  show own_G _ _ _ (T1.setTop (mkF m 5 #[.val (.ref p0), .val (.int (0 : Int32))] [(.int (0 : Int32)), (.ref na)])) _ _ _ _
  obtain ⟨cl2, Ar2, q2, S2, Ng2, H2, G2⟩ := id P_V_na
  have in2 : ¬ ((0 : Int32) < 0 ∨ cl2.slots.size ≤ ((0 : Int32)).toNatClampNeg) := inb_of S2 ⟨by decide, by decide⟩
  have at2 : cl2.slots[((0 : Int32)).toNatClampNeg]? = some (.ref el0) := H2.at in2 rfl
  refine own_go (fun _ k => X1.aaload hx (j := (0 : Int32)) (v := (.ref el0)) (by rw [e1]; exact Ar2.1) (State.isArrayOf_alike hZ.alike Ar2.2.1) rfl Ar2.2.2 in2 at2 (g := (mkF m 5 #[.val (.ref p0), .val (.int (0 : Int32))] [(.int (0 : Int32)), (.ref na)])) rfl rfl (hb hby d16_5) _ k) ?_
  show own_G _ _ _ (T1.setTop (mkF m 6 #[.val (.ref p0), .val (.int (0 : Int32))] [(.ref el0)])) _ _ _ _
  exact own_endR X1 hx hlk Bd.returns rfl rfl rfl (hb hby d16_6) (by decide) (by decide) (Q := (Q16a Z p0 na kn el0 h0 n0)) (by rw [e1]; exact ⟨rfl, N0, rfl⟩)
theorem d13_0 : decode jdk_38_method_20_code 0 = .ok (.iload_n 1, 1) := by decide +kernel
theorem d13_1 : decode jdk_38_method_20_code 1 = .ok (.aload_n 0, 1) := by decide +kernel
theorem d13_2 : decode jdk_38_method_20_code 2 = .ok (.getfield 48, 3) := by decide +kernel
theorem d13_5 : decode jdk_38_method_20_code 5 = .ok (.invokestatic 118, 3) := by decide +kernel
theorem d13_8 : decode jdk_38_method_20_code 8 = .ok (.pop, 1) := by decide +kernel
theorem d13_9 : decode jdk_38_method_20_code 9 = .ok (.aload_n 0, 1) := by decide +kernel
theorem d13_10 : decode jdk_38_method_20_code 10 = .ok (.iload_n 1, 1) := by decide +kernel
theorem d13_11 : decode jdk_38_method_20_code 11 = .ok (.invokevirtual 123, 3) := by decide +kernel
theorem d13_14 : decode jdk_38_method_20_code 14 = .ok (.areturn, 1) := by decide +kernel
theorem pd_7 : parseMethodDescriptor "(I)Ljava/lang/Object;" = some ⟨[.int], some (.object "java/lang/Object")⟩ := by decide +kernel
theorem ef_13a (m : MethodId) (p0 : Addr) : entryFrame m #[(.ref p0), (.int (0 : Int32))] 2 = mkF m 0 #[.val (.ref p0), .val (.int (0 : Int32))] [] := by first | (simp [entryFrame, mkF, argsToLocals, Value.category]; done) | rfl
def Q13a (Z : State) (p0 : Addr) (na : Addr) (kn : ClassId) (el0 : Addr) (h0 : Heap) (n0 : Nat) (v : Option Value) (h : Heap) (L : List Loc) : Prop := v = some (.ref el0) ∧ Fr n0 L ∧ h = h0
set_option maxRecDepth 65536 in
set_option maxHeartbeats 40000000 in
theorem rm13a (l : Launch) (Z : State) (a0 : Array Value) (hw : ∀ d ∈ tables_1, d.before a0 Z = true) (ws : List Jvm.Cond) (p0 : Addr) (na : Addr) (kn : ClassId) (el0 : Addr) (h0 : Heap) (n0 : Nat) (Z0 : n0 ≤ h0.size) (P_E_p0 : Exa Z h0 p0 "java/util/ArrayList") (P_F_p0_elementData : Fld Z h0 p0 "java/util/ArrayList" "elementData" "[Ljava/lang/Object;" (.ref na)) (P_V_na : Arv Z h0 na kn (.object "java/lang/Object") (10 : Int32) [(.ref el0), .null, .null, .null, .null, .null, .null, .null, .null, .null] .null) (P_F_p0_size : Fld Z h0 p0 "java/util/ArrayList" "size" "I" (.int (1 : Int32))) :
    MetFree l (⟨"java/util/ArrayList", "get", "(I)Ljava/lang/Object;"⟩ : MethodName) (head1 (Jvm.Cond.code (⟨"java/util/ArrayList", "get", "(I)Ljava/lang/Object;"⟩ : MethodName) jdk_38_method_20_code 2 (some (.object "java/lang/Object")) :: ws) ({ frames := 2, cells := 0, slots := 0, locals := 27 } : Room)) (fun a U => a = #[(.ref p0), (.int (0 : Int32))] ∧ Z.Warmed39 U.vm ∧ U.heap = h0) (fun _ _ _ _ _ => True) (fun _ U o U' => ∃ v L, o = .returned v ∧ (Q13a Z p0 na kn el0 h0 n0) v U'.heap L ∧ FrameEnd U o U' L ({ frames := 2, cells := 0, slots := 0, locals := 27 } : Room).cells ({ frames := 2, cells := 0, slots := 0, locals := 27 } : Room).slots) := by
  refine MetFree.of_bodySF (plainFor_of_name pn_3) hisR ?_
  intro p e s m args below meth c s₁ Bd hml0 hP hK
  obtain ⟨rfl, hZ, hh⟩ := hP
  have hx := Bd.exec
  have hby := Bd.bytes
  have hml : c.maxLocals = 2 := hml0
  have hown : s.vm.findClass "java/util/ArrayList" = some m.cls := findClass_of_methodNamed Bd.named
  have hnm := (name_of_methodNamed Bd.named Bd.method).1
  have hlk : meth.locks = false := BodyLoose.notSynchronized Bd
  have X0 : Stand p l e ({ frames := 2, cells := 0, slots := 0, locals := 27 } : Room) s m #[(.ref p0), (.int (0 : Int32))] below meth c s₁ [] 0 0 := Stand.of_body Bd
  have e0 : s₁.heap = h0 := by rw [← hh, Bd.state]; rfl
  have N0 := Fr.nil n0
  show own_G p.tables e below (s₁.setTop (entryFrame m #[(.ref p0), (.int (0 : Int32))] 2)) s ({ frames := 2, cells := 0, slots := 0, locals := 27 } : Room).cells ({ frames := 2, cells := 0, slots := 0, locals := 27 } : Room).slots (Q13a Z p0 na kn el0 h0 n0)
  refine own_go (fun _ k => castTop (ef_13a m p0) k) ?_
  show own_G _ _ _ (s₁.setTop (mkF m 0 #[.val (.ref p0), .val (.int (0 : Int32))] [])) _ _ _ _
  refine own_go (fun _ k => XS.iloadN X0.here hx rfl (hb hby d13_0) rfl k) ?_
  show own_G _ _ _ (s₁.setTop (mkF m 1 #[.val (.ref p0), .val (.int (0 : Int32))] [(.int (0 : Int32))])) _ _ _ _
  refine own_go (fun _ k => XS.aloadN X0.here hx rfl (hb hby d13_1) rfl rfl k) ?_
  show own_G _ _ _ (s₁.setTop (mkF m 2 #[.val (.ref p0), .val (.int (0 : Int32))] [(.ref p0), (.int (0 : Int32))])) _ _ _ _
  obtain ⟨T1, X1, e1, st1⟩ := getF X0 hx hZ hown (host := "") (Or.inl (hw _ (List.mem_of_getElem? (i := 41) rfl))) Via.refl e0 P_F_p0_size (g := (mkF m 2 #[.val (.ref p0), .val (.int (0 : Int32))] [(.ref p0), (.int (0 : Int32))])) rfl rfl (hb hby d13_2)
  refine own_go (fun _ k => st1 _ k) ?_
  show own_G _ _ _ (T1.setTop (mkF m 5 #[.val (.ref p0), .val (.int (0 : Int32))] [(.int (1 : Int32)), (.int (0 : Int32))])) _ _ _ _
  obtain ⟨_, _, ⟨T2, L2, k2, n2⟩, -, X2, ⟨Lc2, hQ2, l2, y2, z2⟩, st2⟩ := Jvm.LawKit.callS X1 hx (y := (⟨"java/util/Objects", "checkIndex", "(II)I"⟩ : MethodName)) hown (mvT hZ (hw _ (List.mem_of_getElem? (i := 90) rfl))) (mvT hZ (hw _ (List.mem_of_getElem? (i := 91) rfl))) (mvT hZ (hw _ (List.mem_of_getElem? (i := 92) rfl))) (mvT hZ (hw _ (List.mem_of_getElem? (i := 93) rfl))) (by decide) (backOf (W := 0) (rm14 l Z a0 hw [] (0 : Int32) (1 : Int32)  h0 n0 Z0 (by decide) (by decide)) hZ (hw _ (List.mem_of_getElem? (i := 93) rfl)) (hw _ (List.mem_of_getElem? (i := 92) rfl)) (by decide) (by decide)) (g := (mkF m 5 #[.val (.ref p0), .val (.int (0 : Int32))] [(.int (1 : Int32)), (.int (0 : Int32))])) rfl (by rw [hml]; rfl) (argsL := [(.int (0 : Int32)), (.int (1 : Int32))]) (rest := []) (lenOf pd_2 rfl) rfl (by show 2 * 0 + _ ≤ _; exact Nat.le_of_eq rfl) (hb hby d13_5) (fun _ _ => ⟨rfl, e1, (by decide : 0 + 0 ≤ _), (by decide : 0 + 0 ≤ _)⟩)
  dsimp only [Pt.U, Pt.locs, Pt.cells, Pt.slots] at X2 l2 y2 z2 st2 hQ2
  subst l2 y2 z2
  obtain ⟨rfl, Nq2, eh2⟩ := hQ2
  have N2 := Fr.app N0 Nq2
  refine own_go (fun _ k => st2 _ k) ?_
  show own_G _ _ _ (T2.setTop (mkF m 8 #[.val (.ref p0), .val (.int (0 : Int32))] [(.int (0 : Int32))])) _ _ _ _
  refine own_go (fun _ k => XS.pop X2.here hx rfl (hb hby d13_8) rfl rfl k) ?_
  show own_G _ _ _ (T2.setTop (mkF m 9 #[.val (.ref p0), .val (.int (0 : Int32))] [])) _ _ _ _
  refine own_go (fun _ k => XS.aloadN X2.here hx rfl (hb hby d13_9) rfl rfl k) ?_
  show own_G _ _ _ (T2.setTop (mkF m 10 #[.val (.ref p0), .val (.int (0 : Int32))] [(.ref p0)])) _ _ _ _
  refine own_go (fun _ k => XS.iloadN X2.here hx rfl (hb hby d13_10) rfl k) ?_
  show own_G _ _ _ (T2.setTop (mkF m 11 #[.val (.ref p0), .val (.int (0 : Int32))] [(.int (0 : Int32)), (.ref p0)])) _ _ _ _
  obtain ⟨cq3, kq3, q3a, q3b, q3c⟩ := isOf hZ eh2 P_E_p0
  obtain ⟨_, _, ⟨T3, L3, k3, n3⟩, -, X3, ⟨Lc3, hQ3, l3, y3, z3⟩, st3⟩ := X2.virtualBack hx (y := (⟨"java/util/ArrayList", "elementData", "(I)Ljava/lang/Object;"⟩ : MethodName)) (z := (⟨"java/util/ArrayList", "elementData", "(I)Ljava/lang/Object;"⟩ : MethodName)) hown (mvT hZ (hw _ (List.mem_of_getElem? (i := 98) rfl))) (mvT hZ (hw _ (List.mem_of_getElem? (i := 99) rfl))) (notFace_of_selects (args := #[]) (mvT hZ (hw _ (List.mem_of_getElem? (i := 101) rfl)))) (mvT hZ (hw _ (List.mem_of_getElem? (i := 101) rfl))) (mvT hZ (hw _ (List.mem_of_getElem? (i := 100) rfl))) (by decide) (backOf (W := 0) (rm16a l Z a0 hw [] p0 na kn el0 h0 n0 Z0 P_E_p0 P_F_p0_elementData P_V_na) hZ (hw _ (List.mem_of_getElem? (i := 102) rfl)) (hw _ (List.mem_of_getElem? (i := 6) rfl)) (by decide) (by decide)) q3a q3c (g := (mkF m 11 #[.val (.ref p0), .val (.int (0 : Int32))] [(.int (0 : Int32)), (.ref p0)])) rfl (by rw [hml]; rfl) (Steps.refl _) (argsL := [(.int (0 : Int32))]) (rest := []) (lenOf pd_7 rfl) rfl (by show 2 * 0 + _ ≤ _; exact Nat.le_of_eq rfl) (hb hby d13_11) (fun _ _ => ⟨rfl, eh2, (by decide : 0 + 0 ≤ _), (by decide : 0 + 0 ≤ _)⟩)
  dsimp only [Pt.U, Pt.locs, Pt.cells, Pt.slots] at X3 l3 y3 z3 st3 hQ3
  subst l3 y3 z3
  obtain ⟨rfl, Nq3, eh3⟩ := hQ3
  have N3 := Fr.app N2 Nq3
  refine own_tr st3 ?_
  show own_G _ _ _ (T3.setTop (mkF m 14 #[.val (.ref p0), .val (.int (0 : Int32))] [(.ref el0)])) _ _ _ _
  exact own_endR X3 hx hlk Bd.returns rfl rfl rfl (hb hby d13_14) (by decide) (by decide) (Q := (Q13a Z p0 na kn el0 h0 n0)) (by rw [eh3]; exact ⟨rfl, N3, rfl⟩)
def Q16b (Z : State) (p0 : Addr) (na : Addr) (kn : ClassId) (el0 : Addr) (el1 : Addr) (h0 : Heap) (n0 : Nat) (v : Option Value) (h : Heap) (L : List Loc) : Prop := v = some (.ref el0) ∧ Fr n0 L ∧ h = h0
set_option maxRecDepth 65536 in
set_option maxHeartbeats 40000000 in
theorem rm16b (l : Launch) (Z : State) (a0 : Array Value) (hw : ∀ d ∈ tables_1, d.before a0 Z = true) (ws : List Jvm.Cond) (p0 : Addr) (na : Addr) (kn : ClassId) (el0 : Addr) (el1 : Addr) (h0 : Heap) (n0 : Nat) (Z0 : n0 ≤ h0.size) (P_E_p0 : Exa Z h0 p0 "java/util/ArrayList") (P_F_p0_elementData : Fld Z h0 p0 "java/util/ArrayList" "elementData" "[Ljava/lang/Object;" (.ref na)) (P_V_na : Arv Z h0 na kn (.object "java/lang/Object") (10 : Int32) [(.ref el0), (.ref el1), .null, .null, .null, .null, .null, .null, .null, .null] .null) :
    MetFree l (⟨"java/util/ArrayList", "elementData", "(I)Ljava/lang/Object;"⟩ : MethodName) (head1 (Jvm.Cond.code (⟨"java/util/ArrayList", "elementData", "(I)Ljava/lang/Object;"⟩ : MethodName) jdk_38_method_18_code 2 (some (.object "java/lang/Object")) :: ws) ({ frames := 0, cells := 0, slots := 0, locals := 0 } : Room)) (fun a U => a = #[(.ref p0), (.int (0 : Int32))] ∧ Z.Warmed39 U.vm ∧ U.heap = h0) (fun _ _ _ _ _ => True) (fun _ U o U' => ∃ v L, o = .returned v ∧ (Q16b Z p0 na kn el0 el1 h0 n0) v U'.heap L ∧ FrameEnd U o U' L ({ frames := 0, cells := 0, slots := 0, locals := 0 } : Room).cells ({ frames := 0, cells := 0, slots := 0, locals := 0 } : Room).slots) := by
  refine MetFree.of_bodySF (plainFor_of_name pn_3) hisR ?_
  intro p e s m args below meth c s₁ Bd hml0 hP hK
  obtain ⟨rfl, hZ, hh⟩ := hP
  have hx := Bd.exec
  have hby := Bd.bytes
  have hml : c.maxLocals = 2 := hml0
  have hown : s.vm.findClass "java/util/ArrayList" = some m.cls := findClass_of_methodNamed Bd.named
  have hnm := (name_of_methodNamed Bd.named Bd.method).1
  have hlk : meth.locks = false := BodyLoose.notSynchronized Bd
  have X0 : Stand p l e ({ frames := 0, cells := 0, slots := 0, locals := 0 } : Room) s m #[(.ref p0), (.int (0 : Int32))] below meth c s₁ [] 0 0 := Stand.of_body Bd
  have e0 : s₁.heap = h0 := by rw [← hh, Bd.state]; rfl
  have N0 := Fr.nil n0
  show own_G p.tables e below (s₁.setTop (entryFrame m #[(.ref p0), (.int (0 : Int32))] 2)) s ({ frames := 0, cells := 0, slots := 0, locals := 0 } : Room).cells ({ frames := 0, cells := 0, slots := 0, locals := 0 } : Room).slots (Q16b Z p0 na kn el0 el1 h0 n0)
  refine own_go (fun _ k => castTop (ef_16a m p0) k) ?_
  show own_G _ _ _ (s₁.setTop (mkF m 0 #[.val (.ref p0), .val (.int (0 : Int32))] [])) _ _ _ _
  refine own_go (fun _ k => XS.aloadN X0.here hx rfl (hb hby d16_0) rfl rfl k) ?_
  show own_G _ _ _ (s₁.setTop (mkF m 1 #[.val (.ref p0), .val (.int (0 : Int32))] [(.ref p0)])) _ _ _ _
  obtain ⟨T1, X1, e1, st1⟩ := getF X0 hx hZ hown (host := "") (Or.inl (hw _ (List.mem_of_getElem? (i := 28) rfl))) Via.refl e0 P_F_p0_elementData (g := (mkF m 1 #[.val (.ref p0), .val (.int (0 : Int32))] [(.ref p0)])) rfl rfl (hb hby d16_1)
  refine own_go (fun _ k => st1 _ k) ?_
  show own_G _ _ _ (T1.setTop (mkF m 4 #[.val (.ref p0), .val (.int (0 : Int32))] [(.ref na)])) _ _ _ _
  refine own_go (fun _ k => XS.iloadN X1.here hx rfl (hb hby d16_4) rfl k) ?_
  show own_G _ _ _ (T1.setTop (mkF m 5 #[.val (.ref p0), .val (.int (0 : Int32))] [(.int (0 : Int32)), (.ref na)])) _ _ _ _
  obtain ⟨cl2, Ar2, q2, S2, Ng2, H2, G2⟩ := id P_V_na
  have in2 : ¬ ((0 : Int32) < 0 ∨ cl2.slots.size ≤ ((0 : Int32)).toNatClampNeg) := inb_of S2 ⟨by decide, by decide⟩
  have at2 : cl2.slots[((0 : Int32)).toNatClampNeg]? = some (.ref el0) := H2.at in2 rfl
  refine own_go (fun _ k => X1.aaload hx (j := (0 : Int32)) (v := (.ref el0)) (by rw [e1]; exact Ar2.1) (State.isArrayOf_alike hZ.alike Ar2.2.1) rfl Ar2.2.2 in2 at2 (g := (mkF m 5 #[.val (.ref p0), .val (.int (0 : Int32))] [(.int (0 : Int32)), (.ref na)])) rfl rfl (hb hby d16_5) _ k) ?_
  show own_G _ _ _ (T1.setTop (mkF m 6 #[.val (.ref p0), .val (.int (0 : Int32))] [(.ref el0)])) _ _ _ _
  exact own_endR X1 hx hlk Bd.returns rfl rfl rfl (hb hby d16_6) (by decide) (by decide) (Q := (Q16b Z p0 na kn el0 el1 h0 n0)) (by rw [e1]; exact ⟨rfl, N0, rfl⟩)
def Q13b (Z : State) (p0 : Addr) (na : Addr) (kn : ClassId) (el0 : Addr) (el1 : Addr) (h0 : Heap) (n0 : Nat) (v : Option Value) (h : Heap) (L : List Loc) : Prop := v = some (.ref el0) ∧ Fr n0 L ∧ h = h0
set_option maxRecDepth 65536 in
set_option maxHeartbeats 40000000 in
theorem rm13b (l : Launch) (Z : State) (a0 : Array Value) (hw : ∀ d ∈ tables_1, d.before a0 Z = true) (ws : List Jvm.Cond) (p0 : Addr) (na : Addr) (kn : ClassId) (el0 : Addr) (el1 : Addr) (h0 : Heap) (n0 : Nat) (Z0 : n0 ≤ h0.size) (P_E_p0 : Exa Z h0 p0 "java/util/ArrayList") (P_F_p0_elementData : Fld Z h0 p0 "java/util/ArrayList" "elementData" "[Ljava/lang/Object;" (.ref na)) (P_V_na : Arv Z h0 na kn (.object "java/lang/Object") (10 : Int32) [(.ref el0), (.ref el1), .null, .null, .null, .null, .null, .null, .null, .null] .null) (P_F_p0_size : Fld Z h0 p0 "java/util/ArrayList" "size" "I" (.int (2 : Int32))) :
    MetFree l (⟨"java/util/ArrayList", "get", "(I)Ljava/lang/Object;"⟩ : MethodName) (head1 (Jvm.Cond.code (⟨"java/util/ArrayList", "get", "(I)Ljava/lang/Object;"⟩ : MethodName) jdk_38_method_20_code 2 (some (.object "java/lang/Object")) :: ws) ({ frames := 2, cells := 0, slots := 0, locals := 27 } : Room)) (fun a U => a = #[(.ref p0), (.int (0 : Int32))] ∧ Z.Warmed39 U.vm ∧ U.heap = h0) (fun _ _ _ _ _ => True) (fun _ U o U' => ∃ v L, o = .returned v ∧ (Q13b Z p0 na kn el0 el1 h0 n0) v U'.heap L ∧ FrameEnd U o U' L ({ frames := 2, cells := 0, slots := 0, locals := 27 } : Room).cells ({ frames := 2, cells := 0, slots := 0, locals := 27 } : Room).slots) := by
  refine MetFree.of_bodySF (plainFor_of_name pn_3) hisR ?_
  intro p e s m args below meth c s₁ Bd hml0 hP hK
  obtain ⟨rfl, hZ, hh⟩ := hP
  have hx := Bd.exec
  have hby := Bd.bytes
  have hml : c.maxLocals = 2 := hml0
  have hown : s.vm.findClass "java/util/ArrayList" = some m.cls := findClass_of_methodNamed Bd.named
  have hnm := (name_of_methodNamed Bd.named Bd.method).1
  have hlk : meth.locks = false := BodyLoose.notSynchronized Bd
  have X0 : Stand p l e ({ frames := 2, cells := 0, slots := 0, locals := 27 } : Room) s m #[(.ref p0), (.int (0 : Int32))] below meth c s₁ [] 0 0 := Stand.of_body Bd
  have e0 : s₁.heap = h0 := by rw [← hh, Bd.state]; rfl
  have N0 := Fr.nil n0
  show own_G p.tables e below (s₁.setTop (entryFrame m #[(.ref p0), (.int (0 : Int32))] 2)) s ({ frames := 2, cells := 0, slots := 0, locals := 27 } : Room).cells ({ frames := 2, cells := 0, slots := 0, locals := 27 } : Room).slots (Q13b Z p0 na kn el0 el1 h0 n0)
  refine own_go (fun _ k => castTop (ef_13a m p0) k) ?_
  show own_G _ _ _ (s₁.setTop (mkF m 0 #[.val (.ref p0), .val (.int (0 : Int32))] [])) _ _ _ _
  refine own_go (fun _ k => XS.iloadN X0.here hx rfl (hb hby d13_0) rfl k) ?_
  show own_G _ _ _ (s₁.setTop (mkF m 1 #[.val (.ref p0), .val (.int (0 : Int32))] [(.int (0 : Int32))])) _ _ _ _
  refine own_go (fun _ k => XS.aloadN X0.here hx rfl (hb hby d13_1) rfl rfl k) ?_
  show own_G _ _ _ (s₁.setTop (mkF m 2 #[.val (.ref p0), .val (.int (0 : Int32))] [(.ref p0), (.int (0 : Int32))])) _ _ _ _
  obtain ⟨T1, X1, e1, st1⟩ := getF X0 hx hZ hown (host := "") (Or.inl (hw _ (List.mem_of_getElem? (i := 41) rfl))) Via.refl e0 P_F_p0_size (g := (mkF m 2 #[.val (.ref p0), .val (.int (0 : Int32))] [(.ref p0), (.int (0 : Int32))])) rfl rfl (hb hby d13_2)
  refine own_go (fun _ k => st1 _ k) ?_
  show own_G _ _ _ (T1.setTop (mkF m 5 #[.val (.ref p0), .val (.int (0 : Int32))] [(.int (2 : Int32)), (.int (0 : Int32))])) _ _ _ _
  obtain ⟨_, _, ⟨T2, L2, k2, n2⟩, -, X2, ⟨Lc2, hQ2, l2, y2, z2⟩, st2⟩ := Jvm.LawKit.callS X1 hx (y := (⟨"java/util/Objects", "checkIndex", "(II)I"⟩ : MethodName)) hown (mvT hZ (hw _ (List.mem_of_getElem? (i := 90) rfl))) (mvT hZ (hw _ (List.mem_of_getElem? (i := 91) rfl))) (mvT hZ (hw _ (List.mem_of_getElem? (i := 92) rfl))) (mvT hZ (hw _ (List.mem_of_getElem? (i := 93) rfl))) (by decide) (backOf (W := 0) (rm14 l Z a0 hw [] (0 : Int32) (2 : Int32)  h0 n0 Z0 (by decide) (by decide)) hZ (hw _ (List.mem_of_getElem? (i := 93) rfl)) (hw _ (List.mem_of_getElem? (i := 92) rfl)) (by decide) (by decide)) (g := (mkF m 5 #[.val (.ref p0), .val (.int (0 : Int32))] [(.int (2 : Int32)), (.int (0 : Int32))])) rfl (by rw [hml]; rfl) (argsL := [(.int (0 : Int32)), (.int (2 : Int32))]) (rest := []) (lenOf pd_2 rfl) rfl (by show 2 * 0 + _ ≤ _; exact Nat.le_of_eq rfl) (hb hby d13_5) (fun _ _ => ⟨rfl, e1, (by decide : 0 + 0 ≤ _), (by decide : 0 + 0 ≤ _)⟩)
  dsimp only [Pt.U, Pt.locs, Pt.cells, Pt.slots] at X2 l2 y2 z2 st2 hQ2
  subst l2 y2 z2
  obtain ⟨rfl, Nq2, eh2⟩ := hQ2
  have N2 := Fr.app N0 Nq2
  refine own_go (fun _ k => st2 _ k) ?_
  show own_G _ _ _ (T2.setTop (mkF m 8 #[.val (.ref p0), .val (.int (0 : Int32))] [(.int (0 : Int32))])) _ _ _ _
  refine own_go (fun _ k => XS.pop X2.here hx rfl (hb hby d13_8) rfl rfl k) ?_
  show own_G _ _ _ (T2.setTop (mkF m 9 #[.val (.ref p0), .val (.int (0 : Int32))] [])) _ _ _ _
  refine own_go (fun _ k => XS.aloadN X2.here hx rfl (hb hby d13_9) rfl rfl k) ?_
  show own_G _ _ _ (T2.setTop (mkF m 10 #[.val (.ref p0), .val (.int (0 : Int32))] [(.ref p0)])) _ _ _ _
  refine own_go (fun _ k => XS.iloadN X2.here hx rfl (hb hby d13_10) rfl k) ?_
  show own_G _ _ _ (T2.setTop (mkF m 11 #[.val (.ref p0), .val (.int (0 : Int32))] [(.int (0 : Int32)), (.ref p0)])) _ _ _ _
  obtain ⟨cq3, kq3, q3a, q3b, q3c⟩ := isOf hZ eh2 P_E_p0
  obtain ⟨_, _, ⟨T3, L3, k3, n3⟩, -, X3, ⟨Lc3, hQ3, l3, y3, z3⟩, st3⟩ := X2.virtualBack hx (y := (⟨"java/util/ArrayList", "elementData", "(I)Ljava/lang/Object;"⟩ : MethodName)) (z := (⟨"java/util/ArrayList", "elementData", "(I)Ljava/lang/Object;"⟩ : MethodName)) hown (mvT hZ (hw _ (List.mem_of_getElem? (i := 98) rfl))) (mvT hZ (hw _ (List.mem_of_getElem? (i := 99) rfl))) (notFace_of_selects (args := #[]) (mvT hZ (hw _ (List.mem_of_getElem? (i := 101) rfl)))) (mvT hZ (hw _ (List.mem_of_getElem? (i := 101) rfl))) (mvT hZ (hw _ (List.mem_of_getElem? (i := 100) rfl))) (by decide) (backOf (W := 0) (rm16b l Z a0 hw [] p0 na kn el0 el1 h0 n0 Z0 P_E_p0 P_F_p0_elementData P_V_na) hZ (hw _ (List.mem_of_getElem? (i := 102) rfl)) (hw _ (List.mem_of_getElem? (i := 6) rfl)) (by decide) (by decide)) q3a q3c (g := (mkF m 11 #[.val (.ref p0), .val (.int (0 : Int32))] [(.int (0 : Int32)), (.ref p0)])) rfl (by rw [hml]; rfl) (Steps.refl _) (argsL := [(.int (0 : Int32))]) (rest := []) (lenOf pd_7 rfl) rfl (by show 2 * 0 + _ ≤ _; exact Nat.le_of_eq rfl) (hb hby d13_11) (fun _ _ => ⟨rfl, eh2, (by decide : 0 + 0 ≤ _), (by decide : 0 + 0 ≤ _)⟩)
  dsimp only [Pt.U, Pt.locs, Pt.cells, Pt.slots] at X3 l3 y3 z3 st3 hQ3
  subst l3 y3 z3
  obtain ⟨rfl, Nq3, eh3⟩ := hQ3
  have N3 := Fr.app N2 Nq3
  refine own_tr st3 ?_
  show own_G _ _ _ (T3.setTop (mkF m 14 #[.val (.ref p0), .val (.int (0 : Int32))] [(.ref el0)])) _ _ _ _
  exact own_endR X3 hx hlk Bd.returns rfl rfl rfl (hb hby d13_14) (by decide) (by decide) (Q := (Q13b Z p0 na kn el0 el1 h0 n0)) (by rw [eh3]; exact ⟨rfl, N3, rfl⟩)
theorem ef_16c (m : MethodId) (p0 : Addr) : entryFrame m #[(.ref p0), (.int (1 : Int32))] 2 = mkF m 0 #[.val (.ref p0), .val (.int (1 : Int32))] [] := by first | (simp [entryFrame, mkF, argsToLocals, Value.category]; done) | rfl
def Q16c (Z : State) (p0 : Addr) (na : Addr) (kn : ClassId) (el0 : Addr) (el1 : Addr) (h0 : Heap) (n0 : Nat) (v : Option Value) (h : Heap) (L : List Loc) : Prop := v = some (.ref el1) ∧ Fr n0 L ∧ h = h0
set_option maxRecDepth 65536 in
set_option maxHeartbeats 40000000 in
theorem rm16c (l : Launch) (Z : State) (a0 : Array Value) (hw : ∀ d ∈ tables_1, d.before a0 Z = true) (ws : List Jvm.Cond) (p0 : Addr) (na : Addr) (kn : ClassId) (el0 : Addr) (el1 : Addr) (h0 : Heap) (n0 : Nat) (Z0 : n0 ≤ h0.size) (P_E_p0 : Exa Z h0 p0 "java/util/ArrayList") (P_F_p0_elementData : Fld Z h0 p0 "java/util/ArrayList" "elementData" "[Ljava/lang/Object;" (.ref na)) (P_V_na : Arv Z h0 na kn (.object "java/lang/Object") (10 : Int32) [(.ref el0), (.ref el1), .null, .null, .null, .null, .null, .null, .null, .null] .null) :
    MetFree l (⟨"java/util/ArrayList", "elementData", "(I)Ljava/lang/Object;"⟩ : MethodName) (head1 (Jvm.Cond.code (⟨"java/util/ArrayList", "elementData", "(I)Ljava/lang/Object;"⟩ : MethodName) jdk_38_method_18_code 2 (some (.object "java/lang/Object")) :: ws) ({ frames := 0, cells := 0, slots := 0, locals := 0 } : Room)) (fun a U => a = #[(.ref p0), (.int (1 : Int32))] ∧ Z.Warmed39 U.vm ∧ U.heap = h0) (fun _ _ _ _ _ => True) (fun _ U o U' => ∃ v L, o = .returned v ∧ (Q16c Z p0 na kn el0 el1 h0 n0) v U'.heap L ∧ FrameEnd U o U' L ({ frames := 0, cells := 0, slots := 0, locals := 0 } : Room).cells ({ frames := 0, cells := 0, slots := 0, locals := 0 } : Room).slots) := by
  refine MetFree.of_bodySF (plainFor_of_name pn_3) hisR ?_
  intro p e s m args below meth c s₁ Bd hml0 hP hK
  obtain ⟨rfl, hZ, hh⟩ := hP
  have hx := Bd.exec
  have hby := Bd.bytes
  have hml : c.maxLocals = 2 := hml0
  have hown : s.vm.findClass "java/util/ArrayList" = some m.cls := findClass_of_methodNamed Bd.named
  have hnm := (name_of_methodNamed Bd.named Bd.method).1
  have hlk : meth.locks = false := BodyLoose.notSynchronized Bd
  have X0 : Stand p l e ({ frames := 0, cells := 0, slots := 0, locals := 0 } : Room) s m #[(.ref p0), (.int (1 : Int32))] below meth c s₁ [] 0 0 := Stand.of_body Bd
  have e0 : s₁.heap = h0 := by rw [← hh, Bd.state]; rfl
  have N0 := Fr.nil n0
  show own_G p.tables e below (s₁.setTop (entryFrame m #[(.ref p0), (.int (1 : Int32))] 2)) s ({ frames := 0, cells := 0, slots := 0, locals := 0 } : Room).cells ({ frames := 0, cells := 0, slots := 0, locals := 0 } : Room).slots (Q16c Z p0 na kn el0 el1 h0 n0)
  refine own_go (fun _ k => castTop (ef_16c m p0) k) ?_
  show own_G _ _ _ (s₁.setTop (mkF m 0 #[.val (.ref p0), .val (.int (1 : Int32))] [])) _ _ _ _
  refine own_go (fun _ k => XS.aloadN X0.here hx rfl (hb hby d16_0) rfl rfl k) ?_
  show own_G _ _ _ (s₁.setTop (mkF m 1 #[.val (.ref p0), .val (.int (1 : Int32))] [(.ref p0)])) _ _ _ _
  obtain ⟨T1, X1, e1, st1⟩ := getF X0 hx hZ hown (host := "") (Or.inl (hw _ (List.mem_of_getElem? (i := 28) rfl))) Via.refl e0 P_F_p0_elementData (g := (mkF m 1 #[.val (.ref p0), .val (.int (1 : Int32))] [(.ref p0)])) rfl rfl (hb hby d16_1)
  refine own_go (fun _ k => st1 _ k) ?_
  show own_G _ _ _ (T1.setTop (mkF m 4 #[.val (.ref p0), .val (.int (1 : Int32))] [(.ref na)])) _ _ _ _
  refine own_go (fun _ k => XS.iloadN X1.here hx rfl (hb hby d16_4) rfl k) ?_
  show own_G _ _ _ (T1.setTop (mkF m 5 #[.val (.ref p0), .val (.int (1 : Int32))] [(.int (1 : Int32)), (.ref na)])) _ _ _ _
  obtain ⟨cl2, Ar2, q2, S2, Ng2, H2, G2⟩ := id P_V_na
  have in2 : ¬ ((1 : Int32) < 0 ∨ cl2.slots.size ≤ ((1 : Int32)).toNatClampNeg) := inb_of S2 ⟨by decide, by decide⟩
  have at2 : cl2.slots[((1 : Int32)).toNatClampNeg]? = some (.ref el1) := H2.at in2 rfl
  refine own_go (fun _ k => X1.aaload hx (j := (1 : Int32)) (v := (.ref el1)) (by rw [e1]; exact Ar2.1) (State.isArrayOf_alike hZ.alike Ar2.2.1) rfl Ar2.2.2 in2 at2 (g := (mkF m 5 #[.val (.ref p0), .val (.int (1 : Int32))] [(.int (1 : Int32)), (.ref na)])) rfl rfl (hb hby d16_5) _ k) ?_
  show own_G _ _ _ (T1.setTop (mkF m 6 #[.val (.ref p0), .val (.int (1 : Int32))] [(.ref el1)])) _ _ _ _
  exact own_endR X1 hx hlk Bd.returns rfl rfl rfl (hb hby d16_6) (by decide) (by decide) (Q := (Q16c Z p0 na kn el0 el1 h0 n0)) (by rw [e1]; exact ⟨rfl, N0, rfl⟩)
theorem ef_13c (m : MethodId) (p0 : Addr) : entryFrame m #[(.ref p0), (.int (1 : Int32))] 2 = mkF m 0 #[.val (.ref p0), .val (.int (1 : Int32))] [] := by first | (simp [entryFrame, mkF, argsToLocals, Value.category]; done) | rfl
def Q13c (Z : State) (p0 : Addr) (na : Addr) (kn : ClassId) (el0 : Addr) (el1 : Addr) (h0 : Heap) (n0 : Nat) (v : Option Value) (h : Heap) (L : List Loc) : Prop := v = some (.ref el1) ∧ Fr n0 L ∧ h = h0
set_option maxRecDepth 65536 in
set_option maxHeartbeats 40000000 in
theorem rm13c (l : Launch) (Z : State) (a0 : Array Value) (hw : ∀ d ∈ tables_1, d.before a0 Z = true) (ws : List Jvm.Cond) (p0 : Addr) (na : Addr) (kn : ClassId) (el0 : Addr) (el1 : Addr) (h0 : Heap) (n0 : Nat) (Z0 : n0 ≤ h0.size) (P_E_p0 : Exa Z h0 p0 "java/util/ArrayList") (P_F_p0_elementData : Fld Z h0 p0 "java/util/ArrayList" "elementData" "[Ljava/lang/Object;" (.ref na)) (P_V_na : Arv Z h0 na kn (.object "java/lang/Object") (10 : Int32) [(.ref el0), (.ref el1), .null, .null, .null, .null, .null, .null, .null, .null] .null) (P_F_p0_size : Fld Z h0 p0 "java/util/ArrayList" "size" "I" (.int (2 : Int32))) :
    MetFree l (⟨"java/util/ArrayList", "get", "(I)Ljava/lang/Object;"⟩ : MethodName) (head1 (Jvm.Cond.code (⟨"java/util/ArrayList", "get", "(I)Ljava/lang/Object;"⟩ : MethodName) jdk_38_method_20_code 2 (some (.object "java/lang/Object")) :: ws) ({ frames := 2, cells := 0, slots := 0, locals := 27 } : Room)) (fun a U => a = #[(.ref p0), (.int (1 : Int32))] ∧ Z.Warmed39 U.vm ∧ U.heap = h0) (fun _ _ _ _ _ => True) (fun _ U o U' => ∃ v L, o = .returned v ∧ (Q13c Z p0 na kn el0 el1 h0 n0) v U'.heap L ∧ FrameEnd U o U' L ({ frames := 2, cells := 0, slots := 0, locals := 27 } : Room).cells ({ frames := 2, cells := 0, slots := 0, locals := 27 } : Room).slots) := by
  refine MetFree.of_bodySF (plainFor_of_name pn_3) hisR ?_
  intro p e s m args below meth c s₁ Bd hml0 hP hK
  obtain ⟨rfl, hZ, hh⟩ := hP
  have hx := Bd.exec
  have hby := Bd.bytes
  have hml : c.maxLocals = 2 := hml0
  have hown : s.vm.findClass "java/util/ArrayList" = some m.cls := findClass_of_methodNamed Bd.named
  have hnm := (name_of_methodNamed Bd.named Bd.method).1
  have hlk : meth.locks = false := BodyLoose.notSynchronized Bd
  have X0 : Stand p l e ({ frames := 2, cells := 0, slots := 0, locals := 27 } : Room) s m #[(.ref p0), (.int (1 : Int32))] below meth c s₁ [] 0 0 := Stand.of_body Bd
  have e0 : s₁.heap = h0 := by rw [← hh, Bd.state]; rfl
  have N0 := Fr.nil n0
  show own_G p.tables e below (s₁.setTop (entryFrame m #[(.ref p0), (.int (1 : Int32))] 2)) s ({ frames := 2, cells := 0, slots := 0, locals := 27 } : Room).cells ({ frames := 2, cells := 0, slots := 0, locals := 27 } : Room).slots (Q13c Z p0 na kn el0 el1 h0 n0)
  refine own_go (fun _ k => castTop (ef_13c m p0) k) ?_
  show own_G _ _ _ (s₁.setTop (mkF m 0 #[.val (.ref p0), .val (.int (1 : Int32))] [])) _ _ _ _
  refine own_go (fun _ k => XS.iloadN X0.here hx rfl (hb hby d13_0) rfl k) ?_
  show own_G _ _ _ (s₁.setTop (mkF m 1 #[.val (.ref p0), .val (.int (1 : Int32))] [(.int (1 : Int32))])) _ _ _ _
  refine own_go (fun _ k => XS.aloadN X0.here hx rfl (hb hby d13_1) rfl rfl k) ?_
  show own_G _ _ _ (s₁.setTop (mkF m 2 #[.val (.ref p0), .val (.int (1 : Int32))] [(.ref p0), (.int (1 : Int32))])) _ _ _ _
  obtain ⟨T1, X1, e1, st1⟩ := getF X0 hx hZ hown (host := "") (Or.inl (hw _ (List.mem_of_getElem? (i := 41) rfl))) Via.refl e0 P_F_p0_size (g := (mkF m 2 #[.val (.ref p0), .val (.int (1 : Int32))] [(.ref p0), (.int (1 : Int32))])) rfl rfl (hb hby d13_2)
  refine own_go (fun _ k => st1 _ k) ?_
  show own_G _ _ _ (T1.setTop (mkF m 5 #[.val (.ref p0), .val (.int (1 : Int32))] [(.int (2 : Int32)), (.int (1 : Int32))])) _ _ _ _
  obtain ⟨_, _, ⟨T2, L2, k2, n2⟩, -, X2, ⟨Lc2, hQ2, l2, y2, z2⟩, st2⟩ := Jvm.LawKit.callS X1 hx (y := (⟨"java/util/Objects", "checkIndex", "(II)I"⟩ : MethodName)) hown (mvT hZ (hw _ (List.mem_of_getElem? (i := 90) rfl))) (mvT hZ (hw _ (List.mem_of_getElem? (i := 91) rfl))) (mvT hZ (hw _ (List.mem_of_getElem? (i := 92) rfl))) (mvT hZ (hw _ (List.mem_of_getElem? (i := 93) rfl))) (by decide) (backOf (W := 0) (rm14 l Z a0 hw [] (1 : Int32) (2 : Int32)  h0 n0 Z0 (by decide) (by decide)) hZ (hw _ (List.mem_of_getElem? (i := 93) rfl)) (hw _ (List.mem_of_getElem? (i := 92) rfl)) (by decide) (by decide)) (g := (mkF m 5 #[.val (.ref p0), .val (.int (1 : Int32))] [(.int (2 : Int32)), (.int (1 : Int32))])) rfl (by rw [hml]; rfl) (argsL := [(.int (1 : Int32)), (.int (2 : Int32))]) (rest := []) (lenOf pd_2 rfl) rfl (by show 2 * 0 + _ ≤ _; exact Nat.le_of_eq rfl) (hb hby d13_5) (fun _ _ => ⟨rfl, e1, (by decide : 0 + 0 ≤ _), (by decide : 0 + 0 ≤ _)⟩)
  dsimp only [Pt.U, Pt.locs, Pt.cells, Pt.slots] at X2 l2 y2 z2 st2 hQ2
  subst l2 y2 z2
  obtain ⟨rfl, Nq2, eh2⟩ := hQ2
  have N2 := Fr.app N0 Nq2
  refine own_go (fun _ k => st2 _ k) ?_
  show own_G _ _ _ (T2.setTop (mkF m 8 #[.val (.ref p0), .val (.int (1 : Int32))] [(.int (1 : Int32))])) _ _ _ _
  refine own_go (fun _ k => XS.pop X2.here hx rfl (hb hby d13_8) rfl rfl k) ?_
  show own_G _ _ _ (T2.setTop (mkF m 9 #[.val (.ref p0), .val (.int (1 : Int32))] [])) _ _ _ _
  refine own_go (fun _ k => XS.aloadN X2.here hx rfl (hb hby d13_9) rfl rfl k) ?_
  show own_G _ _ _ (T2.setTop (mkF m 10 #[.val (.ref p0), .val (.int (1 : Int32))] [(.ref p0)])) _ _ _ _
  refine own_go (fun _ k => XS.iloadN X2.here hx rfl (hb hby d13_10) rfl k) ?_
  show own_G _ _ _ (T2.setTop (mkF m 11 #[.val (.ref p0), .val (.int (1 : Int32))] [(.int (1 : Int32)), (.ref p0)])) _ _ _ _
  obtain ⟨cq3, kq3, q3a, q3b, q3c⟩ := isOf hZ eh2 P_E_p0
  obtain ⟨_, _, ⟨T3, L3, k3, n3⟩, -, X3, ⟨Lc3, hQ3, l3, y3, z3⟩, st3⟩ := X2.virtualBack hx (y := (⟨"java/util/ArrayList", "elementData", "(I)Ljava/lang/Object;"⟩ : MethodName)) (z := (⟨"java/util/ArrayList", "elementData", "(I)Ljava/lang/Object;"⟩ : MethodName)) hown (mvT hZ (hw _ (List.mem_of_getElem? (i := 98) rfl))) (mvT hZ (hw _ (List.mem_of_getElem? (i := 99) rfl))) (notFace_of_selects (args := #[]) (mvT hZ (hw _ (List.mem_of_getElem? (i := 101) rfl)))) (mvT hZ (hw _ (List.mem_of_getElem? (i := 101) rfl))) (mvT hZ (hw _ (List.mem_of_getElem? (i := 100) rfl))) (by decide) (backOf (W := 0) (rm16c l Z a0 hw [] p0 na kn el0 el1 h0 n0 Z0 P_E_p0 P_F_p0_elementData P_V_na) hZ (hw _ (List.mem_of_getElem? (i := 102) rfl)) (hw _ (List.mem_of_getElem? (i := 6) rfl)) (by decide) (by decide)) q3a q3c (g := (mkF m 11 #[.val (.ref p0), .val (.int (1 : Int32))] [(.int (1 : Int32)), (.ref p0)])) rfl (by rw [hml]; rfl) (Steps.refl _) (argsL := [(.int (1 : Int32))]) (rest := []) (lenOf pd_7 rfl) rfl (by show 2 * 0 + _ ≤ _; exact Nat.le_of_eq rfl) (hb hby d13_11) (fun _ _ => ⟨rfl, eh2, (by decide : 0 + 0 ≤ _), (by decide : 0 + 0 ≤ _)⟩)
  dsimp only [Pt.U, Pt.locs, Pt.cells, Pt.slots] at X3 l3 y3 z3 st3 hQ3
  subst l3 y3 z3
  obtain ⟨rfl, Nq3, eh3⟩ := hQ3
  have N3 := Fr.app N2 Nq3
  refine own_tr st3 ?_
  show own_G _ _ _ (T3.setTop (mkF m 14 #[.val (.ref p0), .val (.int (1 : Int32))] [(.ref el1)])) _ _ _ _
  exact own_endR X3 hx hlk Bd.returns rfl rfl rfl (hb hby d13_14) (by decide) (by decide) (Q := (Q13c Z p0 na kn el0 el1 h0 n0)) (by rw [eh3]; exact ⟨rfl, N3, rfl⟩)
def Q16d (Z : State) (p0 : Addr) (na : Addr) (kn : ClassId) (el0 : Addr) (el1 : Addr) (el2 : Addr) (h0 : Heap) (n0 : Nat) (v : Option Value) (h : Heap) (L : List Loc) : Prop := v = some (.ref el0) ∧ Fr n0 L ∧ h = h0
set_option maxRecDepth 65536 in
set_option maxHeartbeats 40000000 in
theorem rm16d (l : Launch) (Z : State) (a0 : Array Value) (hw : ∀ d ∈ tables_1, d.before a0 Z = true) (ws : List Jvm.Cond) (p0 : Addr) (na : Addr) (kn : ClassId) (el0 : Addr) (el1 : Addr) (el2 : Addr) (h0 : Heap) (n0 : Nat) (Z0 : n0 ≤ h0.size) (P_E_p0 : Exa Z h0 p0 "java/util/ArrayList") (P_F_p0_elementData : Fld Z h0 p0 "java/util/ArrayList" "elementData" "[Ljava/lang/Object;" (.ref na)) (P_V_na : Arv Z h0 na kn (.object "java/lang/Object") (10 : Int32) [(.ref el0), (.ref el1), (.ref el2), .null, .null, .null, .null, .null, .null, .null] .null) :
    MetFree l (⟨"java/util/ArrayList", "elementData", "(I)Ljava/lang/Object;"⟩ : MethodName) (head1 (Jvm.Cond.code (⟨"java/util/ArrayList", "elementData", "(I)Ljava/lang/Object;"⟩ : MethodName) jdk_38_method_18_code 2 (some (.object "java/lang/Object")) :: ws) ({ frames := 0, cells := 0, slots := 0, locals := 0 } : Room)) (fun a U => a = #[(.ref p0), (.int (0 : Int32))] ∧ Z.Warmed39 U.vm ∧ U.heap = h0) (fun _ _ _ _ _ => True) (fun _ U o U' => ∃ v L, o = .returned v ∧ (Q16d Z p0 na kn el0 el1 el2 h0 n0) v U'.heap L ∧ FrameEnd U o U' L ({ frames := 0, cells := 0, slots := 0, locals := 0 } : Room).cells ({ frames := 0, cells := 0, slots := 0, locals := 0 } : Room).slots) := by
  refine MetFree.of_bodySF (plainFor_of_name pn_3) hisR ?_
  intro p e s m args below meth c s₁ Bd hml0 hP hK
  obtain ⟨rfl, hZ, hh⟩ := hP
  have hx := Bd.exec
  have hby := Bd.bytes
  have hml : c.maxLocals = 2 := hml0
  have hown : s.vm.findClass "java/util/ArrayList" = some m.cls := findClass_of_methodNamed Bd.named
  have hnm := (name_of_methodNamed Bd.named Bd.method).1
  have hlk : meth.locks = false := BodyLoose.notSynchronized Bd
  have X0 : Stand p l e ({ frames := 0, cells := 0, slots := 0, locals := 0 } : Room) s m #[(.ref p0), (.int (0 : Int32))] below meth c s₁ [] 0 0 := Stand.of_body Bd
  have e0 : s₁.heap = h0 := by rw [← hh, Bd.state]; rfl
  have N0 := Fr.nil n0
  show own_G p.tables e below (s₁.setTop (entryFrame m #[(.ref p0), (.int (0 : Int32))] 2)) s ({ frames := 0, cells := 0, slots := 0, locals := 0 } : Room).cells ({ frames := 0, cells := 0, slots := 0, locals := 0 } : Room).slots (Q16d Z p0 na kn el0 el1 el2 h0 n0)
  refine own_go (fun _ k => castTop (ef_16a m p0) k) ?_
  show own_G _ _ _ (s₁.setTop (mkF m 0 #[.val (.ref p0), .val (.int (0 : Int32))] [])) _ _ _ _
  refine own_go (fun _ k => XS.aloadN X0.here hx rfl (hb hby d16_0) rfl rfl k) ?_
  show own_G _ _ _ (s₁.setTop (mkF m 1 #[.val (.ref p0), .val (.int (0 : Int32))] [(.ref p0)])) _ _ _ _
  obtain ⟨T1, X1, e1, st1⟩ := getF X0 hx hZ hown (host := "") (Or.inl (hw _ (List.mem_of_getElem? (i := 28) rfl))) Via.refl e0 P_F_p0_elementData (g := (mkF m 1 #[.val (.ref p0), .val (.int (0 : Int32))] [(.ref p0)])) rfl rfl (hb hby d16_1)
  refine own_go (fun _ k => st1 _ k) ?_
  show own_G _ _ _ (T1.setTop (mkF m 4 #[.val (.ref p0), .val (.int (0 : Int32))] [(.ref na)])) _ _ _ _
  refine own_go (fun _ k => XS.iloadN X1.here hx rfl (hb hby d16_4) rfl k) ?_
  show own_G _ _ _ (T1.setTop (mkF m 5 #[.val (.ref p0), .val (.int (0 : Int32))] [(.int (0 : Int32)), (.ref na)])) _ _ _ _
  obtain ⟨cl2, Ar2, q2, S2, Ng2, H2, G2⟩ := id P_V_na
  have in2 : ¬ ((0 : Int32) < 0 ∨ cl2.slots.size ≤ ((0 : Int32)).toNatClampNeg) := inb_of S2 ⟨by decide, by decide⟩
  have at2 : cl2.slots[((0 : Int32)).toNatClampNeg]? = some (.ref el0) := H2.at in2 rfl
  refine own_go (fun _ k => X1.aaload hx (j := (0 : Int32)) (v := (.ref el0)) (by rw [e1]; exact Ar2.1) (State.isArrayOf_alike hZ.alike Ar2.2.1) rfl Ar2.2.2 in2 at2 (g := (mkF m 5 #[.val (.ref p0), .val (.int (0 : Int32))] [(.int (0 : Int32)), (.ref na)])) rfl rfl (hb hby d16_5) _ k) ?_
  show own_G _ _ _ (T1.setTop (mkF m 6 #[.val (.ref p0), .val (.int (0 : Int32))] [(.ref el0)])) _ _ _ _
  exact own_endR X1 hx hlk Bd.returns rfl rfl rfl (hb hby d16_6) (by decide) (by decide) (Q := (Q16d Z p0 na kn el0 el1 el2 h0 n0)) (by rw [e1]; exact ⟨rfl, N0, rfl⟩)
def Q13d (Z : State) (p0 : Addr) (na : Addr) (kn : ClassId) (el0 : Addr) (el1 : Addr) (el2 : Addr) (h0 : Heap) (n0 : Nat) (v : Option Value) (h : Heap) (L : List Loc) : Prop := v = some (.ref el0) ∧ Fr n0 L ∧ h = h0
set_option maxRecDepth 65536 in
set_option maxHeartbeats 40000000 in
theorem rm13d (l : Launch) (Z : State) (a0 : Array Value) (hw : ∀ d ∈ tables_1, d.before a0 Z = true) (ws : List Jvm.Cond) (p0 : Addr) (na : Addr) (kn : ClassId) (el0 : Addr) (el1 : Addr) (el2 : Addr) (h0 : Heap) (n0 : Nat) (Z0 : n0 ≤ h0.size) (P_E_p0 : Exa Z h0 p0 "java/util/ArrayList") (P_F_p0_elementData : Fld Z h0 p0 "java/util/ArrayList" "elementData" "[Ljava/lang/Object;" (.ref na)) (P_V_na : Arv Z h0 na kn (.object "java/lang/Object") (10 : Int32) [(.ref el0), (.ref el1), (.ref el2), .null, .null, .null, .null, .null, .null, .null] .null) (P_F_p0_size : Fld Z h0 p0 "java/util/ArrayList" "size" "I" (.int (3 : Int32))) :
    MetFree l (⟨"java/util/ArrayList", "get", "(I)Ljava/lang/Object;"⟩ : MethodName) (head1 (Jvm.Cond.code (⟨"java/util/ArrayList", "get", "(I)Ljava/lang/Object;"⟩ : MethodName) jdk_38_method_20_code 2 (some (.object "java/lang/Object")) :: ws) ({ frames := 2, cells := 0, slots := 0, locals := 27 } : Room)) (fun a U => a = #[(.ref p0), (.int (0 : Int32))] ∧ Z.Warmed39 U.vm ∧ U.heap = h0) (fun _ _ _ _ _ => True) (fun _ U o U' => ∃ v L, o = .returned v ∧ (Q13d Z p0 na kn el0 el1 el2 h0 n0) v U'.heap L ∧ FrameEnd U o U' L ({ frames := 2, cells := 0, slots := 0, locals := 27 } : Room).cells ({ frames := 2, cells := 0, slots := 0, locals := 27 } : Room).slots) := by
  refine MetFree.of_bodySF (plainFor_of_name pn_3) hisR ?_
  intro p e s m args below meth c s₁ Bd hml0 hP hK
  obtain ⟨rfl, hZ, hh⟩ := hP
  have hx := Bd.exec
  have hby := Bd.bytes
  have hml : c.maxLocals = 2 := hml0
  have hown : s.vm.findClass "java/util/ArrayList" = some m.cls := findClass_of_methodNamed Bd.named
  have hnm := (name_of_methodNamed Bd.named Bd.method).1
  have hlk : meth.locks = false := BodyLoose.notSynchronized Bd
  have X0 : Stand p l e ({ frames := 2, cells := 0, slots := 0, locals := 27 } : Room) s m #[(.ref p0), (.int (0 : Int32))] below meth c s₁ [] 0 0 := Stand.of_body Bd
  have e0 : s₁.heap = h0 := by rw [← hh, Bd.state]; rfl
  have N0 := Fr.nil n0
  show own_G p.tables e below (s₁.setTop (entryFrame m #[(.ref p0), (.int (0 : Int32))] 2)) s ({ frames := 2, cells := 0, slots := 0, locals := 27 } : Room).cells ({ frames := 2, cells := 0, slots := 0, locals := 27 } : Room).slots (Q13d Z p0 na kn el0 el1 el2 h0 n0)
  refine own_go (fun _ k => castTop (ef_13a m p0) k) ?_
  show own_G _ _ _ (s₁.setTop (mkF m 0 #[.val (.ref p0), .val (.int (0 : Int32))] [])) _ _ _ _
  refine own_go (fun _ k => XS.iloadN X0.here hx rfl (hb hby d13_0) rfl k) ?_
  show own_G _ _ _ (s₁.setTop (mkF m 1 #[.val (.ref p0), .val (.int (0 : Int32))] [(.int (0 : Int32))])) _ _ _ _
  refine own_go (fun _ k => XS.aloadN X0.here hx rfl (hb hby d13_1) rfl rfl k) ?_
  show own_G _ _ _ (s₁.setTop (mkF m 2 #[.val (.ref p0), .val (.int (0 : Int32))] [(.ref p0), (.int (0 : Int32))])) _ _ _ _
  obtain ⟨T1, X1, e1, st1⟩ := getF X0 hx hZ hown (host := "") (Or.inl (hw _ (List.mem_of_getElem? (i := 41) rfl))) Via.refl e0 P_F_p0_size (g := (mkF m 2 #[.val (.ref p0), .val (.int (0 : Int32))] [(.ref p0), (.int (0 : Int32))])) rfl rfl (hb hby d13_2)
  refine own_go (fun _ k => st1 _ k) ?_
  show own_G _ _ _ (T1.setTop (mkF m 5 #[.val (.ref p0), .val (.int (0 : Int32))] [(.int (3 : Int32)), (.int (0 : Int32))])) _ _ _ _
  obtain ⟨_, _, ⟨T2, L2, k2, n2⟩, -, X2, ⟨Lc2, hQ2, l2, y2, z2⟩, st2⟩ := Jvm.LawKit.callS X1 hx (y := (⟨"java/util/Objects", "checkIndex", "(II)I"⟩ : MethodName)) hown (mvT hZ (hw _ (List.mem_of_getElem? (i := 90) rfl))) (mvT hZ (hw _ (List.mem_of_getElem? (i := 91) rfl))) (mvT hZ (hw _ (List.mem_of_getElem? (i := 92) rfl))) (mvT hZ (hw _ (List.mem_of_getElem? (i := 93) rfl))) (by decide) (backOf (W := 0) (rm14 l Z a0 hw [] (0 : Int32) (3 : Int32)  h0 n0 Z0 (by decide) (by decide)) hZ (hw _ (List.mem_of_getElem? (i := 93) rfl)) (hw _ (List.mem_of_getElem? (i := 92) rfl)) (by decide) (by decide)) (g := (mkF m 5 #[.val (.ref p0), .val (.int (0 : Int32))] [(.int (3 : Int32)), (.int (0 : Int32))])) rfl (by rw [hml]; rfl) (argsL := [(.int (0 : Int32)), (.int (3 : Int32))]) (rest := []) (lenOf pd_2 rfl) rfl (by show 2 * 0 + _ ≤ _; exact Nat.le_of_eq rfl) (hb hby d13_5) (fun _ _ => ⟨rfl, e1, (by decide : 0 + 0 ≤ _), (by decide : 0 + 0 ≤ _)⟩)
  dsimp only [Pt.U, Pt.locs, Pt.cells, Pt.slots] at X2 l2 y2 z2 st2 hQ2
  subst l2 y2 z2
  obtain ⟨rfl, Nq2, eh2⟩ := hQ2
  have N2 := Fr.app N0 Nq2
  refine own_go (fun _ k => st2 _ k) ?_
  show own_G _ _ _ (T2.setTop (mkF m 8 #[.val (.ref p0), .val (.int (0 : Int32))] [(.int (0 : Int32))])) _ _ _ _
  refine own_go (fun _ k => XS.pop X2.here hx rfl (hb hby d13_8) rfl rfl k) ?_
  show own_G _ _ _ (T2.setTop (mkF m 9 #[.val (.ref p0), .val (.int (0 : Int32))] [])) _ _ _ _
  refine own_go (fun _ k => XS.aloadN X2.here hx rfl (hb hby d13_9) rfl rfl k) ?_
  show own_G _ _ _ (T2.setTop (mkF m 10 #[.val (.ref p0), .val (.int (0 : Int32))] [(.ref p0)])) _ _ _ _
  refine own_go (fun _ k => XS.iloadN X2.here hx rfl (hb hby d13_10) rfl k) ?_
  show own_G _ _ _ (T2.setTop (mkF m 11 #[.val (.ref p0), .val (.int (0 : Int32))] [(.int (0 : Int32)), (.ref p0)])) _ _ _ _
  obtain ⟨cq3, kq3, q3a, q3b, q3c⟩ := isOf hZ eh2 P_E_p0
  obtain ⟨_, _, ⟨T3, L3, k3, n3⟩, -, X3, ⟨Lc3, hQ3, l3, y3, z3⟩, st3⟩ := X2.virtualBack hx (y := (⟨"java/util/ArrayList", "elementData", "(I)Ljava/lang/Object;"⟩ : MethodName)) (z := (⟨"java/util/ArrayList", "elementData", "(I)Ljava/lang/Object;"⟩ : MethodName)) hown (mvT hZ (hw _ (List.mem_of_getElem? (i := 98) rfl))) (mvT hZ (hw _ (List.mem_of_getElem? (i := 99) rfl))) (notFace_of_selects (args := #[]) (mvT hZ (hw _ (List.mem_of_getElem? (i := 101) rfl)))) (mvT hZ (hw _ (List.mem_of_getElem? (i := 101) rfl))) (mvT hZ (hw _ (List.mem_of_getElem? (i := 100) rfl))) (by decide) (backOf (W := 0) (rm16d l Z a0 hw [] p0 na kn el0 el1 el2 h0 n0 Z0 P_E_p0 P_F_p0_elementData P_V_na) hZ (hw _ (List.mem_of_getElem? (i := 102) rfl)) (hw _ (List.mem_of_getElem? (i := 6) rfl)) (by decide) (by decide)) q3a q3c (g := (mkF m 11 #[.val (.ref p0), .val (.int (0 : Int32))] [(.int (0 : Int32)), (.ref p0)])) rfl (by rw [hml]; rfl) (Steps.refl _) (argsL := [(.int (0 : Int32))]) (rest := []) (lenOf pd_7 rfl) rfl (by show 2 * 0 + _ ≤ _; exact Nat.le_of_eq rfl) (hb hby d13_11) (fun _ _ => ⟨rfl, eh2, (by decide : 0 + 0 ≤ _), (by decide : 0 + 0 ≤ _)⟩)
  dsimp only [Pt.U, Pt.locs, Pt.cells, Pt.slots] at X3 l3 y3 z3 st3 hQ3
  subst l3 y3 z3
  obtain ⟨rfl, Nq3, eh3⟩ := hQ3
  have N3 := Fr.app N2 Nq3
  refine own_tr st3 ?_
  show own_G _ _ _ (T3.setTop (mkF m 14 #[.val (.ref p0), .val (.int (0 : Int32))] [(.ref el0)])) _ _ _ _
  exact own_endR X3 hx hlk Bd.returns rfl rfl rfl (hb hby d13_14) (by decide) (by decide) (Q := (Q13d Z p0 na kn el0 el1 el2 h0 n0)) (by rw [eh3]; exact ⟨rfl, N3, rfl⟩)
def Q16e (Z : State) (p0 : Addr) (na : Addr) (kn : ClassId) (el0 : Addr) (el1 : Addr) (el2 : Addr) (h0 : Heap) (n0 : Nat) (v : Option Value) (h : Heap) (L : List Loc) : Prop := v = some (.ref el1) ∧ Fr n0 L ∧ h = h0
set_option maxRecDepth 65536 in
set_option maxHeartbeats 40000000 in
theorem rm16e (l : Launch) (Z : State) (a0 : Array Value) (hw : ∀ d ∈ tables_1, d.before a0 Z = true) (ws : List Jvm.Cond) (p0 : Addr) (na : Addr) (kn : ClassId) (el0 : Addr) (el1 : Addr) (el2 : Addr) (h0 : Heap) (n0 : Nat) (Z0 : n0 ≤ h0.size) (P_E_p0 : Exa Z h0 p0 "java/util/ArrayList") (P_F_p0_elementData : Fld Z h0 p0 "java/util/ArrayList" "elementData" "[Ljava/lang/Object;" (.ref na)) (P_V_na : Arv Z h0 na kn (.object "java/lang/Object") (10 : Int32) [(.ref el0), (.ref el1), (.ref el2), .null, .null, .null, .null, .null, .null, .null] .null) :
    MetFree l (⟨"java/util/ArrayList", "elementData", "(I)Ljava/lang/Object;"⟩ : MethodName) (head1 (Jvm.Cond.code (⟨"java/util/ArrayList", "elementData", "(I)Ljava/lang/Object;"⟩ : MethodName) jdk_38_method_18_code 2 (some (.object "java/lang/Object")) :: ws) ({ frames := 0, cells := 0, slots := 0, locals := 0 } : Room)) (fun a U => a = #[(.ref p0), (.int (1 : Int32))] ∧ Z.Warmed39 U.vm ∧ U.heap = h0) (fun _ _ _ _ _ => True) (fun _ U o U' => ∃ v L, o = .returned v ∧ (Q16e Z p0 na kn el0 el1 el2 h0 n0) v U'.heap L ∧ FrameEnd U o U' L ({ frames := 0, cells := 0, slots := 0, locals := 0 } : Room).cells ({ frames := 0, cells := 0, slots := 0, locals := 0 } : Room).slots) := by
  refine MetFree.of_bodySF (plainFor_of_name pn_3) hisR ?_
  intro p e s m args below meth c s₁ Bd hml0 hP hK
  obtain ⟨rfl, hZ, hh⟩ := hP
  have hx := Bd.exec
  have hby := Bd.bytes
  have hml : c.maxLocals = 2 := hml0
  have hown : s.vm.findClass "java/util/ArrayList" = some m.cls := findClass_of_methodNamed Bd.named
  have hnm := (name_of_methodNamed Bd.named Bd.method).1
  have hlk : meth.locks = false := BodyLoose.notSynchronized Bd
  have X0 : Stand p l e ({ frames := 0, cells := 0, slots := 0, locals := 0 } : Room) s m #[(.ref p0), (.int (1 : Int32))] below meth c s₁ [] 0 0 := Stand.of_body Bd
  have e0 : s₁.heap = h0 := by rw [← hh, Bd.state]; rfl
  have N0 := Fr.nil n0
  show own_G p.tables e below (s₁.setTop (entryFrame m #[(.ref p0), (.int (1 : Int32))] 2)) s ({ frames := 0, cells := 0, slots := 0, locals := 0 } : Room).cells ({ frames := 0, cells := 0, slots := 0, locals := 0 } : Room).slots (Q16e Z p0 na kn el0 el1 el2 h0 n0)
  refine own_go (fun _ k => castTop (ef_16c m p0) k) ?_
  show own_G _ _ _ (s₁.setTop (mkF m 0 #[.val (.ref p0), .val (.int (1 : Int32))] [])) _ _ _ _
  refine own_go (fun _ k => XS.aloadN X0.here hx rfl (hb hby d16_0) rfl rfl k) ?_
  show own_G _ _ _ (s₁.setTop (mkF m 1 #[.val (.ref p0), .val (.int (1 : Int32))] [(.ref p0)])) _ _ _ _
  obtain ⟨T1, X1, e1, st1⟩ := getF X0 hx hZ hown (host := "") (Or.inl (hw _ (List.mem_of_getElem? (i := 28) rfl))) Via.refl e0 P_F_p0_elementData (g := (mkF m 1 #[.val (.ref p0), .val (.int (1 : Int32))] [(.ref p0)])) rfl rfl (hb hby d16_1)
  refine own_go (fun _ k => st1 _ k) ?_
  show own_G _ _ _ (T1.setTop (mkF m 4 #[.val (.ref p0), .val (.int (1 : Int32))] [(.ref na)])) _ _ _ _
  refine own_go (fun _ k => XS.iloadN X1.here hx rfl (hb hby d16_4) rfl k) ?_
  show own_G _ _ _ (T1.setTop (mkF m 5 #[.val (.ref p0), .val (.int (1 : Int32))] [(.int (1 : Int32)), (.ref na)])) _ _ _ _
  obtain ⟨cl2, Ar2, q2, S2, Ng2, H2, G2⟩ := id P_V_na
  have in2 : ¬ ((1 : Int32) < 0 ∨ cl2.slots.size ≤ ((1 : Int32)).toNatClampNeg) := inb_of S2 ⟨by decide, by decide⟩
  have at2 : cl2.slots[((1 : Int32)).toNatClampNeg]? = some (.ref el1) := H2.at in2 rfl
  refine own_go (fun _ k => X1.aaload hx (j := (1 : Int32)) (v := (.ref el1)) (by rw [e1]; exact Ar2.1) (State.isArrayOf_alike hZ.alike Ar2.2.1) rfl Ar2.2.2 in2 at2 (g := (mkF m 5 #[.val (.ref p0), .val (.int (1 : Int32))] [(.int (1 : Int32)), (.ref na)])) rfl rfl (hb hby d16_5) _ k) ?_
  show own_G _ _ _ (T1.setTop (mkF m 6 #[.val (.ref p0), .val (.int (1 : Int32))] [(.ref el1)])) _ _ _ _
  exact own_endR X1 hx hlk Bd.returns rfl rfl rfl (hb hby d16_6) (by decide) (by decide) (Q := (Q16e Z p0 na kn el0 el1 el2 h0 n0)) (by rw [e1]; exact ⟨rfl, N0, rfl⟩)
def Q13e (Z : State) (p0 : Addr) (na : Addr) (kn : ClassId) (el0 : Addr) (el1 : Addr) (el2 : Addr) (h0 : Heap) (n0 : Nat) (v : Option Value) (h : Heap) (L : List Loc) : Prop := v = some (.ref el1) ∧ Fr n0 L ∧ h = h0
set_option maxRecDepth 65536 in
set_option maxHeartbeats 40000000 in
theorem rm13e (l : Launch) (Z : State) (a0 : Array Value) (hw : ∀ d ∈ tables_1, d.before a0 Z = true) (ws : List Jvm.Cond) (p0 : Addr) (na : Addr) (kn : ClassId) (el0 : Addr) (el1 : Addr) (el2 : Addr) (h0 : Heap) (n0 : Nat) (Z0 : n0 ≤ h0.size) (P_E_p0 : Exa Z h0 p0 "java/util/ArrayList") (P_F_p0_elementData : Fld Z h0 p0 "java/util/ArrayList" "elementData" "[Ljava/lang/Object;" (.ref na)) (P_V_na : Arv Z h0 na kn (.object "java/lang/Object") (10 : Int32) [(.ref el0), (.ref el1), (.ref el2), .null, .null, .null, .null, .null, .null, .null] .null) (P_F_p0_size : Fld Z h0 p0 "java/util/ArrayList" "size" "I" (.int (3 : Int32))) :
    MetFree l (⟨"java/util/ArrayList", "get", "(I)Ljava/lang/Object;"⟩ : MethodName) (head1 (Jvm.Cond.code (⟨"java/util/ArrayList", "get", "(I)Ljava/lang/Object;"⟩ : MethodName) jdk_38_method_20_code 2 (some (.object "java/lang/Object")) :: ws) ({ frames := 2, cells := 0, slots := 0, locals := 27 } : Room)) (fun a U => a = #[(.ref p0), (.int (1 : Int32))] ∧ Z.Warmed39 U.vm ∧ U.heap = h0) (fun _ _ _ _ _ => True) (fun _ U o U' => ∃ v L, o = .returned v ∧ (Q13e Z p0 na kn el0 el1 el2 h0 n0) v U'.heap L ∧ FrameEnd U o U' L ({ frames := 2, cells := 0, slots := 0, locals := 27 } : Room).cells ({ frames := 2, cells := 0, slots := 0, locals := 27 } : Room).slots) := by
  refine MetFree.of_bodySF (plainFor_of_name pn_3) hisR ?_
  intro p e s m args below meth c s₁ Bd hml0 hP hK
  obtain ⟨rfl, hZ, hh⟩ := hP
  have hx := Bd.exec
  have hby := Bd.bytes
  have hml : c.maxLocals = 2 := hml0
  have hown : s.vm.findClass "java/util/ArrayList" = some m.cls := findClass_of_methodNamed Bd.named
  have hnm := (name_of_methodNamed Bd.named Bd.method).1
  have hlk : meth.locks = false := BodyLoose.notSynchronized Bd
  have X0 : Stand p l e ({ frames := 2, cells := 0, slots := 0, locals := 27 } : Room) s m #[(.ref p0), (.int (1 : Int32))] below meth c s₁ [] 0 0 := Stand.of_body Bd
  have e0 : s₁.heap = h0 := by rw [← hh, Bd.state]; rfl
  have N0 := Fr.nil n0
  show own_G p.tables e below (s₁.setTop (entryFrame m #[(.ref p0), (.int (1 : Int32))] 2)) s ({ frames := 2, cells := 0, slots := 0, locals := 27 } : Room).cells ({ frames := 2, cells := 0, slots := 0, locals := 27 } : Room).slots (Q13e Z p0 na kn el0 el1 el2 h0 n0)
  refine own_go (fun _ k => castTop (ef_13c m p0) k) ?_
  show own_G _ _ _ (s₁.setTop (mkF m 0 #[.val (.ref p0), .val (.int (1 : Int32))] [])) _ _ _ _
  refine own_go (fun _ k => XS.iloadN X0.here hx rfl (hb hby d13_0) rfl k) ?_
  show own_G _ _ _ (s₁.setTop (mkF m 1 #[.val (.ref p0), .val (.int (1 : Int32))] [(.int (1 : Int32))])) _ _ _ _
  refine own_go (fun _ k => XS.aloadN X0.here hx rfl (hb hby d13_1) rfl rfl k) ?_
  show own_G _ _ _ (s₁.setTop (mkF m 2 #[.val (.ref p0), .val (.int (1 : Int32))] [(.ref p0), (.int (1 : Int32))])) _ _ _ _
  obtain ⟨T1, X1, e1, st1⟩ := getF X0 hx hZ hown (host := "") (Or.inl (hw _ (List.mem_of_getElem? (i := 41) rfl))) Via.refl e0 P_F_p0_size (g := (mkF m 2 #[.val (.ref p0), .val (.int (1 : Int32))] [(.ref p0), (.int (1 : Int32))])) rfl rfl (hb hby d13_2)
  refine own_go (fun _ k => st1 _ k) ?_
  show own_G _ _ _ (T1.setTop (mkF m 5 #[.val (.ref p0), .val (.int (1 : Int32))] [(.int (3 : Int32)), (.int (1 : Int32))])) _ _ _ _
  obtain ⟨_, _, ⟨T2, L2, k2, n2⟩, -, X2, ⟨Lc2, hQ2, l2, y2, z2⟩, st2⟩ := Jvm.LawKit.callS X1 hx (y := (⟨"java/util/Objects", "checkIndex", "(II)I"⟩ : MethodName)) hown (mvT hZ (hw _ (List.mem_of_getElem? (i := 90) rfl))) (mvT hZ (hw _ (List.mem_of_getElem? (i := 91) rfl))) (mvT hZ (hw _ (List.mem_of_getElem? (i := 92) rfl))) (mvT hZ (hw _ (List.mem_of_getElem? (i := 93) rfl))) (by decide) (backOf (W := 0) (rm14 l Z a0 hw [] (1 : Int32) (3 : Int32)  h0 n0 Z0 (by decide) (by decide)) hZ (hw _ (List.mem_of_getElem? (i := 93) rfl)) (hw _ (List.mem_of_getElem? (i := 92) rfl)) (by decide) (by decide)) (g := (mkF m 5 #[.val (.ref p0), .val (.int (1 : Int32))] [(.int (3 : Int32)), (.int (1 : Int32))])) rfl (by rw [hml]; rfl) (argsL := [(.int (1 : Int32)), (.int (3 : Int32))]) (rest := []) (lenOf pd_2 rfl) rfl (by show 2 * 0 + _ ≤ _; exact Nat.le_of_eq rfl) (hb hby d13_5) (fun _ _ => ⟨rfl, e1, (by decide : 0 + 0 ≤ _), (by decide : 0 + 0 ≤ _)⟩)
  dsimp only [Pt.U, Pt.locs, Pt.cells, Pt.slots] at X2 l2 y2 z2 st2 hQ2
  subst l2 y2 z2
  obtain ⟨rfl, Nq2, eh2⟩ := hQ2
  have N2 := Fr.app N0 Nq2
  refine own_go (fun _ k => st2 _ k) ?_
  show own_G _ _ _ (T2.setTop (mkF m 8 #[.val (.ref p0), .val (.int (1 : Int32))] [(.int (1 : Int32))])) _ _ _ _
  refine own_go (fun _ k => XS.pop X2.here hx rfl (hb hby d13_8) rfl rfl k) ?_
  show own_G _ _ _ (T2.setTop (mkF m 9 #[.val (.ref p0), .val (.int (1 : Int32))] [])) _ _ _ _
  refine own_go (fun _ k => XS.aloadN X2.here hx rfl (hb hby d13_9) rfl rfl k) ?_
  show own_G _ _ _ (T2.setTop (mkF m 10 #[.val (.ref p0), .val (.int (1 : Int32))] [(.ref p0)])) _ _ _ _
  refine own_go (fun _ k => XS.iloadN X2.here hx rfl (hb hby d13_10) rfl k) ?_
  show own_G _ _ _ (T2.setTop (mkF m 11 #[.val (.ref p0), .val (.int (1 : Int32))] [(.int (1 : Int32)), (.ref p0)])) _ _ _ _
  obtain ⟨cq3, kq3, q3a, q3b, q3c⟩ := isOf hZ eh2 P_E_p0
  obtain ⟨_, _, ⟨T3, L3, k3, n3⟩, -, X3, ⟨Lc3, hQ3, l3, y3, z3⟩, st3⟩ := X2.virtualBack hx (y := (⟨"java/util/ArrayList", "elementData", "(I)Ljava/lang/Object;"⟩ : MethodName)) (z := (⟨"java/util/ArrayList", "elementData", "(I)Ljava/lang/Object;"⟩ : MethodName)) hown (mvT hZ (hw _ (List.mem_of_getElem? (i := 98) rfl))) (mvT hZ (hw _ (List.mem_of_getElem? (i := 99) rfl))) (notFace_of_selects (args := #[]) (mvT hZ (hw _ (List.mem_of_getElem? (i := 101) rfl)))) (mvT hZ (hw _ (List.mem_of_getElem? (i := 101) rfl))) (mvT hZ (hw _ (List.mem_of_getElem? (i := 100) rfl))) (by decide) (backOf (W := 0) (rm16e l Z a0 hw [] p0 na kn el0 el1 el2 h0 n0 Z0 P_E_p0 P_F_p0_elementData P_V_na) hZ (hw _ (List.mem_of_getElem? (i := 102) rfl)) (hw _ (List.mem_of_getElem? (i := 6) rfl)) (by decide) (by decide)) q3a q3c (g := (mkF m 11 #[.val (.ref p0), .val (.int (1 : Int32))] [(.int (1 : Int32)), (.ref p0)])) rfl (by rw [hml]; rfl) (Steps.refl _) (argsL := [(.int (1 : Int32))]) (rest := []) (lenOf pd_7 rfl) rfl (by show 2 * 0 + _ ≤ _; exact Nat.le_of_eq rfl) (hb hby d13_11) (fun _ _ => ⟨rfl, eh2, (by decide : 0 + 0 ≤ _), (by decide : 0 + 0 ≤ _)⟩)
  dsimp only [Pt.U, Pt.locs, Pt.cells, Pt.slots] at X3 l3 y3 z3 st3 hQ3
  subst l3 y3 z3
  obtain ⟨rfl, Nq3, eh3⟩ := hQ3
  have N3 := Fr.app N2 Nq3
  refine own_tr st3 ?_
  show own_G _ _ _ (T3.setTop (mkF m 14 #[.val (.ref p0), .val (.int (1 : Int32))] [(.ref el1)])) _ _ _ _
  exact own_endR X3 hx hlk Bd.returns rfl rfl rfl (hb hby d13_14) (by decide) (by decide) (Q := (Q13e Z p0 na kn el0 el1 el2 h0 n0)) (by rw [eh3]; exact ⟨rfl, N3, rfl⟩)
theorem ef_16f (m : MethodId) (p0 : Addr) : entryFrame m #[(.ref p0), (.int (2 : Int32))] 2 = mkF m 0 #[.val (.ref p0), .val (.int (2 : Int32))] [] := by first | (simp [entryFrame, mkF, argsToLocals, Value.category]; done) | rfl
def Q16f (Z : State) (p0 : Addr) (na : Addr) (kn : ClassId) (el0 : Addr) (el1 : Addr) (el2 : Addr) (h0 : Heap) (n0 : Nat) (v : Option Value) (h : Heap) (L : List Loc) : Prop := v = some (.ref el2) ∧ Fr n0 L ∧ h = h0
set_option maxRecDepth 65536 in
set_option maxHeartbeats 40000000 in
theorem rm16f (l : Launch) (Z : State) (a0 : Array Value) (hw : ∀ d ∈ tables_1, d.before a0 Z = true) (ws : List Jvm.Cond) (p0 : Addr) (na : Addr) (kn : ClassId) (el0 : Addr) (el1 : Addr) (el2 : Addr) (h0 : Heap) (n0 : Nat) (Z0 : n0 ≤ h0.size) (P_E_p0 : Exa Z h0 p0 "java/util/ArrayList") (P_F_p0_elementData : Fld Z h0 p0 "java/util/ArrayList" "elementData" "[Ljava/lang/Object;" (.ref na)) (P_V_na : Arv Z h0 na kn (.object "java/lang/Object") (10 : Int32) [(.ref el0), (.ref el1), (.ref el2), .null, .null, .null, .null, .null, .null, .null] .null) :
    MetFree l (⟨"java/util/ArrayList", "elementData", "(I)Ljava/lang/Object;"⟩ : MethodName) (head1 (Jvm.Cond.code (⟨"java/util/ArrayList", "elementData", "(I)Ljava/lang/Object;"⟩ : MethodName) jdk_38_method_18_code 2 (some (.object "java/lang/Object")) :: ws) ({ frames := 0, cells := 0, slots := 0, locals := 0 } : Room)) (fun a U => a = #[(.ref p0), (.int (2 : Int32))] ∧ Z.Warmed39 U.vm ∧ U.heap = h0) (fun _ _ _ _ _ => True) (fun _ U o U' => ∃ v L, o = .returned v ∧ (Q16f Z p0 na kn el0 el1 el2 h0 n0) v U'.heap L ∧ FrameEnd U o U' L ({ frames := 0, cells := 0, slots := 0, locals := 0 } : Room).cells ({ frames := 0, cells := 0, slots := 0, locals := 0 } : Room).slots) := by
  refine MetFree.of_bodySF (plainFor_of_name pn_3) hisR ?_
  intro p e s m args below meth c s₁ Bd hml0 hP hK
  obtain ⟨rfl, hZ, hh⟩ := hP
  have hx := Bd.exec
  have hby := Bd.bytes
  have hml : c.maxLocals = 2 := hml0
  have hown : s.vm.findClass "java/util/ArrayList" = some m.cls := findClass_of_methodNamed Bd.named
  have hnm := (name_of_methodNamed Bd.named Bd.method).1
  have hlk : meth.locks = false := BodyLoose.notSynchronized Bd
  have X0 : Stand p l e ({ frames := 0, cells := 0, slots := 0, locals := 0 } : Room) s m #[(.ref p0), (.int (2 : Int32))] below meth c s₁ [] 0 0 := Stand.of_body Bd
  have e0 : s₁.heap = h0 := by rw [← hh, Bd.state]; rfl
  have N0 := Fr.nil n0
  show own_G p.tables e below (s₁.setTop (entryFrame m #[(.ref p0), (.int (2 : Int32))] 2)) s ({ frames := 0, cells := 0, slots := 0, locals := 0 } : Room).cells ({ frames := 0, cells := 0, slots := 0, locals := 0 } : Room).slots (Q16f Z p0 na kn el0 el1 el2 h0 n0)
  refine own_go (fun _ k => castTop (ef_16f m p0) k) ?_
  show own_G _ _ _ (s₁.setTop (mkF m 0 #[.val (.ref p0), .val (.int (2 : Int32))] [])) _ _ _ _
  refine own_go (fun _ k => XS.aloadN X0.here hx rfl (hb hby d16_0) rfl rfl k) ?_
  show own_G _ _ _ (s₁.setTop (mkF m 1 #[.val (.ref p0), .val (.int (2 : Int32))] [(.ref p0)])) _ _ _ _
  obtain ⟨T1, X1, e1, st1⟩ := getF X0 hx hZ hown (host := "") (Or.inl (hw _ (List.mem_of_getElem? (i := 28) rfl))) Via.refl e0 P_F_p0_elementData (g := (mkF m 1 #[.val (.ref p0), .val (.int (2 : Int32))] [(.ref p0)])) rfl rfl (hb hby d16_1)
  refine own_go (fun _ k => st1 _ k) ?_
  show own_G _ _ _ (T1.setTop (mkF m 4 #[.val (.ref p0), .val (.int (2 : Int32))] [(.ref na)])) _ _ _ _
  refine own_go (fun _ k => XS.iloadN X1.here hx rfl (hb hby d16_4) rfl k) ?_
  show own_G _ _ _ (T1.setTop (mkF m 5 #[.val (.ref p0), .val (.int (2 : Int32))] [(.int (2 : Int32)), (.ref na)])) _ _ _ _
  obtain ⟨cl2, Ar2, q2, S2, Ng2, H2, G2⟩ := id P_V_na
  have in2 : ¬ ((2 : Int32) < 0 ∨ cl2.slots.size ≤ ((2 : Int32)).toNatClampNeg) := inb_of S2 ⟨by decide, by decide⟩
  have at2 : cl2.slots[((2 : Int32)).toNatClampNeg]? = some (.ref el2) := H2.at in2 rfl
  refine own_go (fun _ k => X1.aaload hx (j := (2 : Int32)) (v := (.ref el2)) (by rw [e1]; exact Ar2.1) (State.isArrayOf_alike hZ.alike Ar2.2.1) rfl Ar2.2.2 in2 at2 (g := (mkF m 5 #[.val (.ref p0), .val (.int (2 : Int32))] [(.int (2 : Int32)), (.ref na)])) rfl rfl (hb hby d16_5) _ k) ?_
  show own_G _ _ _ (T1.setTop (mkF m 6 #[.val (.ref p0), .val (.int (2 : Int32))] [(.ref el2)])) _ _ _ _
  exact own_endR X1 hx hlk Bd.returns rfl rfl rfl (hb hby d16_6) (by decide) (by decide) (Q := (Q16f Z p0 na kn el0 el1 el2 h0 n0)) (by rw [e1]; exact ⟨rfl, N0, rfl⟩)
theorem ef_13f (m : MethodId) (p0 : Addr) : entryFrame m #[(.ref p0), (.int (2 : Int32))] 2 = mkF m 0 #[.val (.ref p0), .val (.int (2 : Int32))] [] := by first | (simp [entryFrame, mkF, argsToLocals, Value.category]; done) | rfl
def Q13f (Z : State) (p0 : Addr) (na : Addr) (kn : ClassId) (el0 : Addr) (el1 : Addr) (el2 : Addr) (h0 : Heap) (n0 : Nat) (v : Option Value) (h : Heap) (L : List Loc) : Prop := v = some (.ref el2) ∧ Fr n0 L ∧ h = h0
set_option maxRecDepth 65536 in
set_option maxHeartbeats 40000000 in
theorem rm13f (l : Launch) (Z : State) (a0 : Array Value) (hw : ∀ d ∈ tables_1, d.before a0 Z = true) (ws : List Jvm.Cond) (p0 : Addr) (na : Addr) (kn : ClassId) (el0 : Addr) (el1 : Addr) (el2 : Addr) (h0 : Heap) (n0 : Nat) (Z0 : n0 ≤ h0.size) (P_E_p0 : Exa Z h0 p0 "java/util/ArrayList") (P_F_p0_elementData : Fld Z h0 p0 "java/util/ArrayList" "elementData" "[Ljava/lang/Object;" (.ref na)) (P_V_na : Arv Z h0 na kn (.object "java/lang/Object") (10 : Int32) [(.ref el0), (.ref el1), (.ref el2), .null, .null, .null, .null, .null, .null, .null] .null) (P_F_p0_size : Fld Z h0 p0 "java/util/ArrayList" "size" "I" (.int (3 : Int32))) :
    MetFree l (⟨"java/util/ArrayList", "get", "(I)Ljava/lang/Object;"⟩ : MethodName) (head1 (Jvm.Cond.code (⟨"java/util/ArrayList", "get", "(I)Ljava/lang/Object;"⟩ : MethodName) jdk_38_method_20_code 2 (some (.object "java/lang/Object")) :: ws) ({ frames := 2, cells := 0, slots := 0, locals := 27 } : Room)) (fun a U => a = #[(.ref p0), (.int (2 : Int32))] ∧ Z.Warmed39 U.vm ∧ U.heap = h0) (fun _ _ _ _ _ => True) (fun _ U o U' => ∃ v L, o = .returned v ∧ (Q13f Z p0 na kn el0 el1 el2 h0 n0) v U'.heap L ∧ FrameEnd U o U' L ({ frames := 2, cells := 0, slots := 0, locals := 27 } : Room).cells ({ frames := 2, cells := 0, slots := 0, locals := 27 } : Room).slots) := by
  refine MetFree.of_bodySF (plainFor_of_name pn_3) hisR ?_
  intro p e s m args below meth c s₁ Bd hml0 hP hK
  obtain ⟨rfl, hZ, hh⟩ := hP
  have hx := Bd.exec
  have hby := Bd.bytes
  have hml : c.maxLocals = 2 := hml0
  have hown : s.vm.findClass "java/util/ArrayList" = some m.cls := findClass_of_methodNamed Bd.named
  have hnm := (name_of_methodNamed Bd.named Bd.method).1
  have hlk : meth.locks = false := BodyLoose.notSynchronized Bd
  have X0 : Stand p l e ({ frames := 2, cells := 0, slots := 0, locals := 27 } : Room) s m #[(.ref p0), (.int (2 : Int32))] below meth c s₁ [] 0 0 := Stand.of_body Bd
  have e0 : s₁.heap = h0 := by rw [← hh, Bd.state]; rfl
  have N0 := Fr.nil n0
  show own_G p.tables e below (s₁.setTop (entryFrame m #[(.ref p0), (.int (2 : Int32))] 2)) s ({ frames := 2, cells := 0, slots := 0, locals := 27 } : Room).cells ({ frames := 2, cells := 0, slots := 0, locals := 27 } : Room).slots (Q13f Z p0 na kn el0 el1 el2 h0 n0)
  refine own_go (fun _ k => castTop (ef_13f m p0) k) ?_
  show own_G _ _ _ (s₁.setTop (mkF m 0 #[.val (.ref p0), .val (.int (2 : Int32))] [])) _ _ _ _
  refine own_go (fun _ k => XS.iloadN X0.here hx rfl (hb hby d13_0) rfl k) ?_
  show own_G _ _ _ (s₁.setTop (mkF m 1 #[.val (.ref p0), .val (.int (2 : Int32))] [(.int (2 : Int32))])) _ _ _ _
  refine own_go (fun _ k => XS.aloadN X0.here hx rfl (hb hby d13_1) rfl rfl k) ?_
  show own_G _ _ _ (s₁.setTop (mkF m 2 #[.val (.ref p0), .val (.int (2 : Int32))] [(.ref p0), (.int (2 : Int32))])) _ _ _ _
  obtain ⟨T1, X1, e1, st1⟩ := getF X0 hx hZ hown (host := "") (Or.inl (hw _ (List.mem_of_getElem? (i := 41) rfl))) Via.refl e0 P_F_p0_size (g := (mkF m 2 #[.val (.ref p0), .val (.int (2 : Int32))] [(.ref p0), (.int (2 : Int32))])) rfl rfl (hb hby d13_2)
  refine own_go (fun _ k => st1 _ k) ?_
  show own_G _ _ _ (T1.setTop (mkF m 5 #[.val (.ref p0), .val (.int (2 : Int32))] [(.int (3 : Int32)), (.int (2 : Int32))])) _ _ _ _
  obtain ⟨_, _, ⟨T2, L2, k2, n2⟩, -, X2, ⟨Lc2, hQ2, l2, y2, z2⟩, st2⟩ := Jvm.LawKit.callS X1 hx (y := (⟨"java/util/Objects", "checkIndex", "(II)I"⟩ : MethodName)) hown (mvT hZ (hw _ (List.mem_of_getElem? (i := 90) rfl))) (mvT hZ (hw _ (List.mem_of_getElem? (i := 91) rfl))) (mvT hZ (hw _ (List.mem_of_getElem? (i := 92) rfl))) (mvT hZ (hw _ (List.mem_of_getElem? (i := 93) rfl))) (by decide) (backOf (W := 0) (rm14 l Z a0 hw [] (2 : Int32) (3 : Int32)  h0 n0 Z0 (by decide) (by decide)) hZ (hw _ (List.mem_of_getElem? (i := 93) rfl)) (hw _ (List.mem_of_getElem? (i := 92) rfl)) (by decide) (by decide)) (g := (mkF m 5 #[.val (.ref p0), .val (.int (2 : Int32))] [(.int (3 : Int32)), (.int (2 : Int32))])) rfl (by rw [hml]; rfl) (argsL := [(.int (2 : Int32)), (.int (3 : Int32))]) (rest := []) (lenOf pd_2 rfl) rfl (by show 2 * 0 + _ ≤ _; exact Nat.le_of_eq rfl) (hb hby d13_5) (fun _ _ => ⟨rfl, e1, (by decide : 0 + 0 ≤ _), (by decide : 0 + 0 ≤ _)⟩)
  dsimp only [Pt.U, Pt.locs, Pt.cells, Pt.slots] at X2 l2 y2 z2 st2 hQ2
  subst l2 y2 z2
  obtain ⟨rfl, Nq2, eh2⟩ := hQ2
  have N2 := Fr.app N0 Nq2
  refine own_go (fun _ k => st2 _ k) ?_
  show own_G _ _ _ (T2.setTop (mkF m 8 #[.val (.ref p0), .val (.int (2 : Int32))] [(.int (2 : Int32))])) _ _ _ _
  refine own_go (fun _ k => XS.pop X2.here hx rfl (hb hby d13_8) rfl rfl k) ?_
  show own_G _ _ _ (T2.setTop (mkF m 9 #[.val (.ref p0), .val (.int (2 : Int32))] [])) _ _ _ _
  refine own_go (fun _ k => XS.aloadN X2.here hx rfl (hb hby d13_9) rfl rfl k) ?_
  show own_G _ _ _ (T2.setTop (mkF m 10 #[.val (.ref p0), .val (.int (2 : Int32))] [(.ref p0)])) _ _ _ _
  refine own_go (fun _ k => XS.iloadN X2.here hx rfl (hb hby d13_10) rfl k) ?_
  show own_G _ _ _ (T2.setTop (mkF m 11 #[.val (.ref p0), .val (.int (2 : Int32))] [(.int (2 : Int32)), (.ref p0)])) _ _ _ _
  obtain ⟨cq3, kq3, q3a, q3b, q3c⟩ := isOf hZ eh2 P_E_p0
  obtain ⟨_, _, ⟨T3, L3, k3, n3⟩, -, X3, ⟨Lc3, hQ3, l3, y3, z3⟩, st3⟩ := X2.virtualBack hx (y := (⟨"java/util/ArrayList", "elementData", "(I)Ljava/lang/Object;"⟩ : MethodName)) (z := (⟨"java/util/ArrayList", "elementData", "(I)Ljava/lang/Object;"⟩ : MethodName)) hown (mvT hZ (hw _ (List.mem_of_getElem? (i := 98) rfl))) (mvT hZ (hw _ (List.mem_of_getElem? (i := 99) rfl))) (notFace_of_selects (args := #[]) (mvT hZ (hw _ (List.mem_of_getElem? (i := 101) rfl)))) (mvT hZ (hw _ (List.mem_of_getElem? (i := 101) rfl))) (mvT hZ (hw _ (List.mem_of_getElem? (i := 100) rfl))) (by decide) (backOf (W := 0) (rm16f l Z a0 hw [] p0 na kn el0 el1 el2 h0 n0 Z0 P_E_p0 P_F_p0_elementData P_V_na) hZ (hw _ (List.mem_of_getElem? (i := 102) rfl)) (hw _ (List.mem_of_getElem? (i := 6) rfl)) (by decide) (by decide)) q3a q3c (g := (mkF m 11 #[.val (.ref p0), .val (.int (2 : Int32))] [(.int (2 : Int32)), (.ref p0)])) rfl (by rw [hml]; rfl) (Steps.refl _) (argsL := [(.int (2 : Int32))]) (rest := []) (lenOf pd_7 rfl) rfl (by show 2 * 0 + _ ≤ _; exact Nat.le_of_eq rfl) (hb hby d13_11) (fun _ _ => ⟨rfl, eh2, (by decide : 0 + 0 ≤ _), (by decide : 0 + 0 ≤ _)⟩)
  dsimp only [Pt.U, Pt.locs, Pt.cells, Pt.slots] at X3 l3 y3 z3 st3 hQ3
  subst l3 y3 z3
  obtain ⟨rfl, Nq3, eh3⟩ := hQ3
  have N3 := Fr.app N2 Nq3
  refine own_tr st3 ?_
  show own_G _ _ _ (T3.setTop (mkF m 14 #[.val (.ref p0), .val (.int (2 : Int32))] [(.ref el2)])) _ _ _ _
  exact own_endR X3 hx hlk Bd.returns rfl rfl rfl (hb hby d13_14) (by decide) (by decide) (Q := (Q13f Z p0 na kn el0 el1 el2 h0 n0)) (by rw [eh3]; exact ⟨rfl, N3, rfl⟩)
theorem d1_0 : decode prog_1_method_3_code 0 = .ok (.new 23, 3) := by decide +kernel
theorem d1_3 : decode prog_1_method_3_code 3 = .ok (.dup, 1) := by decide +kernel
theorem d1_4 : decode prog_1_method_3_code 4 = .ok (.invokespecial 25, 3) := by decide +kernel
theorem d1_7 : decode prog_1_method_3_code 7 = .ok (.astore_n 1, 1) := by decide +kernel
theorem d1_8 : decode prog_1_method_3_code 8 = .ok (.getstatic 26, 3) := by decide +kernel
theorem d1_11 : decode prog_1_method_3_code 11 = .ok (.astore_n 2, 1) := by decide +kernel
theorem d1_12 : decode prog_1_method_3_code 12 = .ok (.aload_n 2, 1) := by decide +kernel
theorem d1_13 : decode prog_1_method_3_code 13 = .ok (.arraylength, 1) := by decide +kernel
theorem d1_14 : decode prog_1_method_3_code 14 = .ok (.istore_n 3, 1) := by decide +kernel
theorem d1_15 : decode prog_1_method_3_code 15 = .ok (.iconst 0, 1) := by decide +kernel
theorem d1_16 : decode prog_1_method_3_code 16 = .ok (.istore 4, 2) := by decide +kernel
theorem d1_18 : decode prog_1_method_3_code 18 = .ok (.iload 4, 2) := by decide +kernel
theorem d1_20 : decode prog_1_method_3_code 20 = .ok (.iload_n 3, 1) := by decide +kernel
theorem d1_21 : decode prog_1_method_3_code 21 = .ok (.if_icmp .ge 36, 3) := by decide +kernel
theorem d1_24 : decode prog_1_method_3_code 24 = .ok (.aload_n 2, 1) := by decide +kernel
theorem d1_25 : decode prog_1_method_3_code 25 = .ok (.iload 4, 2) := by decide +kernel
theorem d1_27 : decode prog_1_method_3_code 27 = .ok (.iaload, 1) := by decide +kernel
theorem d1_28 : decode prog_1_method_3_code 28 = .ok (.istore 5, 2) := by decide +kernel
theorem d1_30 : decode prog_1_method_3_code 30 = .ok (.iload_n 0, 1) := by decide +kernel
theorem d1_31 : decode prog_1_method_3_code 31 = .ok (.iload 5, 2) := by decide +kernel
theorem d1_33 : decode prog_1_method_3_code 33 = .ok (.isub, 1) := by decide +kernel
theorem d1_34 : decode prog_1_method_3_code 34 = .ok (.ifCond .lt 17, 3) := by decide +kernel
theorem d1_37 : decode prog_1_method_3_code 37 = .ok (.aload_n 1, 1) := by decide +kernel
theorem d1_38 : decode prog_1_method_3_code 38 = .ok (.iload_n 0, 1) := by decide +kernel
theorem d1_39 : decode prog_1_method_3_code 39 = .ok (.iload 5, 2) := by decide +kernel
theorem d1_41 : decode prog_1_method_3_code 41 = .ok (.isub, 1) := by decide +kernel
theorem d1_42 : decode prog_1_method_3_code 42 = .ok (.invokestatic 30, 3) := by decide +kernel
theorem d1_45 : decode prog_1_method_3_code 45 = .ok (.invokeinterface 34 2, 5) := by decide +kernel
theorem d1_50 : decode prog_1_method_3_code 50 = .ok (.pop, 1) := by decide +kernel
theorem d1_51 : decode prog_1_method_3_code 51 = .ok (.iinc 4 1, 3) := by decide +kernel
theorem d1_54 : decode prog_1_method_3_code 54 = .ok (.goto (-36), 3) := by decide +kernel
theorem d1_57 : decode prog_1_method_3_code 57 = .ok (.aload_n 1, 1) := by decide +kernel
theorem d1_58 : decode prog_1_method_3_code 58 = .ok (.areturn, 1) := by decide +kernel
theorem pn_7 : plainName "com/example/mini_wire/bench/Application" = true := by first | (simp [plainName, overriddenIn]; done) | decide +kernel
theorem ef_1a (m : MethodId) (p0 : Int32) : entryFrame m #[(.int p0)] 6 = mkF m 0 #[.val (.int p0), .unset, .unset, .unset, .unset, .unset] [] := by first | (simp [entryFrame, mkF, argsToLocals, Value.category]; done) | rfl
def Q1a (Z : State) (p0 : Int32) (d0 : Addr) (k0 : ClassId) (ca : Addr) (cc : Cell) (da : Addr) (kd : ClassId) (h0 : Heap) (n0 : Nat) (v : Option Value) (h : Heap) (L : List Loc) : Prop := ∃ (b : Addr), v = some (.ref b) ∧ Fr n0 L ∧ Keep h0 h [] ∧ Exa Z h b "java/util/ArrayList" ∧ Fld Z h b "java/util/ArrayList" "size" "I" (.int (0 : Int32))
set_option maxRecDepth 65536 in
set_option maxHeartbeats 40000000 in
theorem rm1a (l : Launch) (Z : State) (a0 : Array Value) (hw : ∀ d ∈ tables_1, d.before a0 Z = true) (ws : List Jvm.Cond) (p0 : Int32) (d0 : Addr) (k0 : ClassId) (ca : Addr) (cc : Cell) (da : Addr) (kd : ClassId) (h0 : Heap) (n0 : Nat) (Z0 : n0 ≤ h0.size) (P_Old : Old Z n0 h0) (P_ZS_java_util_ArrayList_DEFAULTCAPACITY_EMPTY_ELEMENTDATA : Sta Z Z.heap "java/util/ArrayList" "DEFAULTCAPACITY_EMPTY_ELEMENTDATA" "[Ljava/lang/Object;" (.ref d0)) (P_V_d0 : Arv Z h0 d0 k0 (.object "java/lang/Object") (0 : Int32) [] .null) (P_ZS_java_lang_Integer_IntegerCache_high : Sta Z Z.heap "java/lang/Integer$IntegerCache" "high" "I" (.int (127 : Int32))) (P_ZS_java_lang_Integer_IntegerCache_cache : Sta Z Z.heap "java/lang/Integer$IntegerCache" "cache" "[Ljava/lang/Integer;" (.ref ca)) (bx : Bxs Z ca cc "java/lang/Integer" "I" (256 : Int32) (fun j => .int (j - 128))) (P_ZS_com_example_mini_wire_bench_Application_DISTANCES : Sta Z Z.heap "com/example/mini_wire/bench/Application" "DISTANCES" "[I" (.ref da)) (P_V_da : Arv Z h0 da kd .int (3 : Int32) [(.int (1 : Int32)), (.int (7 : Int32)), (.int (31 : Int32))] (.int (0 : Int32))) (hn : 0 ≤ p0.toInt) (hq : p0 < 1) :
    MetFree l (⟨"com/example/mini_wire/bench/Application", "dependencies", "(I)Ljava/util/List;"⟩ : MethodName) (head1 (Jvm.Cond.code (⟨"com/example/mini_wire/bench/Application", "dependencies", "(I)Ljava/util/List;"⟩ : MethodName) prog_1_method_3_code 6 (some (.object "java/util/List")) :: ws) ({ frames := 4, cells := 1, slots := 3, locals := 49 } : Room)) (fun a U => a = #[(.int p0)] ∧ Z.Warmed39 U.vm ∧ U.heap = h0) (fun _ _ _ _ _ => True) (fun _ U o U' => ∃ v L, o = .returned v ∧ (Q1a Z p0 d0 k0 ca cc da kd h0 n0) v U'.heap L ∧ FrameEnd U o U' L ({ frames := 4, cells := 1, slots := 3, locals := 49 } : Room).cells ({ frames := 4, cells := 1, slots := 3, locals := 49 } : Room).slots) := by
  refine MetFree.of_bodySF (plainFor_of_name pn_7) hisR ?_
  intro p e s m args below meth c s₁ Bd hml0 hP hK
  obtain ⟨rfl, hZ, hh⟩ := hP
  have hx := Bd.exec
  have hby := Bd.bytes
  have hml : c.maxLocals = 6 := hml0
  have hown : s.vm.findClass "com/example/mini_wire/bench/Application" = some m.cls := findClass_of_methodNamed Bd.named
  have hnm := (name_of_methodNamed Bd.named Bd.method).1
  have hlk : meth.locks = false := BodyLoose.notSynchronized Bd
  have X0 : Stand p l e ({ frames := 4, cells := 1, slots := 3, locals := 49 } : Room) s m #[(.int p0)] below meth c s₁ [] 0 0 := Stand.of_body Bd
  have e0 : s₁.heap = h0 := by rw [← hh, Bd.state]; rfl
  have N0 := Fr.nil n0
  have K0 : Keep h0 h0 [] := Keep.refl h0 []
  show own_G p.tables e below (s₁.setTop (entryFrame m #[(.int p0)] 6)) s ({ frames := 4, cells := 1, slots := 3, locals := 49 } : Room).cells ({ frames := 4, cells := 1, slots := 3, locals := 49 } : Room).slots (Q1a Z p0 d0 k0 ca cc da kd h0 n0)
  refine own_go (fun _ k => castTop (ef_1a m p0) k) ?_
  show own_G _ _ _ (s₁.setTop (mkF m 0 #[.val (.int p0), .unset, .unset, .unset, .unset, .unset] [])) _ _ _ _
  obtain ⟨T1, h1, X1, e1, E1, A1, D1, -, st1⟩ := newO X0 hx hZ hown (hw _ (List.mem_of_getElem? (i := 4) rfl)) (hw _ (List.mem_of_getElem? (i := 5) rfl)) (hw _ (List.mem_of_getElem? (i := 6) rfl)) e0 (g := (mkF m 0 #[.val (.int p0), .unset, .unset, .unset, .unset, .unset] [])) rfl (hb hby d1_0) (by decide) (by decide)
  obtain ⟨b1, g1⟩ : ∃ z, z = h0.size := ⟨_, rfl⟩
  rw [← g1] at A1 D1 st1
  have ne2 : d0 ≠ b1 := Nat.ne_of_lt (Nat.lt_of_lt_of_le P_V_d0.lt (Nat.le_of_eq g1.symm))
  have ne3 : da ≠ b1 := Nat.ne_of_lt (Nat.lt_of_lt_of_le P_V_da.lt (Nat.le_of_eq g1.symm))
  have gg1 : n0 ≤ b1 := Nat.le_trans Z0 (Nat.le_of_eq g1.symm)
  have sz1_0 : h0.size ≤ b1 := Nat.le_trans K0.1 (Nat.le_of_eq g1.symm)
  have Zs1 : n0 ≤ h1.size := Nat.le_trans Z0 E1.1
  have K1_0 : Keep h0 h1 [] := K0.ext E1
  have f4 : Old Z n0 h1 := P_Old.ext E1
  have f5 : Arv Z h1 d0 k0 (.object "java/lang/Object") (0 : Int32) [] .null := P_V_d0.ext E1
  have f6 : Arv Z h1 da kd .int (3 : Int32) [(.int (1 : Int32)), (.int (7 : Int32)), (.int (31 : Int32))] (.int (0 : Int32)) := P_V_da.ext E1
  have f7 : Exa Z h1 b1 "java/util/ArrayList" := A1
  have f8 : Fld Z h1 b1 "java/util/AbstractList" "modCount" "I" (.int (0 : Int32)) := D1 (Or.inl (hw _ (List.mem_of_getElem? (i := 26) rfl))) (ty := .int) (by decide)
  have f9 : Fld Z h1 b1 "java/util/ArrayList" "elementData" "[Ljava/lang/Object;" .null := D1 (Or.inl (hw _ (List.mem_of_getElem? (i := 29) rfl))) (ty := (.array (.object "java/lang/Object"))) (by decide)
  have f10 : Fld Z h1 b1 "java/util/ArrayList" "size" "I" (.int (0 : Int32)) := D1 (Or.inl (hw _ (List.mem_of_getElem? (i := 42) rfl))) (ty := .int) (by decide)
  refine own_go (fun _ k => st1 _ k) ?_
  show own_G _ _ _ (T1.setTop (mkF m 3 #[.val (.int p0), .unset, .unset, .unset, .unset, .unset] [(.ref b1)])) _ _ _ _
  refine own_go (fun _ k => XS.dup X1.here hx rfl (hb hby d1_3) rfl rfl k) ?_
  show own_G _ _ _ (T1.setTop (mkF m 4 #[.val (.int p0), .unset, .unset, .unset, .unset, .unset] [(.ref b1), (.ref b1)])) _ _ _ _
  obtain ⟨_, _, ⟨T11, L11, k11, n11⟩, -, X11, ⟨Lc11, hQ11, l11, y11, z11⟩, st11⟩ := X1.specialBack hx (y := (⟨"java/util/ArrayList", "<init>", "()V"⟩ : MethodName)) rfl hown (mvT hZ (hw _ (List.mem_of_getElem? (i := 7) rfl))) (mvT hZ (hw _ (List.mem_of_getElem? (i := 8) rfl))) (mvT hZ (hw _ (List.mem_of_getElem? (i := 9) rfl))) (by decide) (backOf (W := 1) (rm2 l Z a0 hw [] b1 d0 h1 n0 Zs1 f7 f8 f9 f10 gg1 f4 P_ZS_java_util_ArrayList_DEFAULTCAPACITY_EMPTY_ELEMENTDATA) hZ (hw _ (List.mem_of_getElem? (i := 9) rfl)) (hw _ (List.mem_of_getElem? (i := 6) rfl)) (by decide) (by decide)) (g := (mkF m 4 #[.val (.int p0), .unset, .unset, .unset, .unset, .unset] [(.ref b1), (.ref b1)])) rfl (by rw [hml]; rfl) (Steps.refl _) (a := b1) (argsL := []) (rest := [(.ref b1)]) (lenOf pd_0 rfl) rfl (by show 2 * 0 + _ ≤ _; exact Nat.le_of_eq rfl) (hb hby d1_4) (fun _ _ => ⟨rfl, e1, (by decide : 1 + 0 ≤ _), (by decide : 3 + 0 ≤ _)⟩)
  dsimp only [Pt.U, Pt.locs, Pt.cells, Pt.slots] at X11 l11 y11 z11 st11 hQ11
  subst l11 y11 z11
  obtain ⟨rfl, Nq11, Kq11, r11_0, r11_1, r11_2, r11_3⟩ := hQ11
  have N11 := Fr.app N0 Nq11
  have f12 : Old Z n0 T11.heap := f4.keep Kq11 (allS gg1 all0)
  have f13 : Arv Z T11.heap d0 k0 (.object "java/lang/Object") (0 : Int32) [] .null := f5.keep Kq11 (ninS ne2 nin0)
  have f14 : Arv Z T11.heap da kd .int (3 : Int32) [(.int (1 : Int32)), (.int (7 : Int32)), (.int (31 : Int32))] (.int (0 : Int32)) := f6.keep Kq11 (ninS ne3 nin0)
  have f15 : Exa Z T11.heap b1 "java/util/ArrayList" := f7.keep Kq11
  have Zs11 : n0 ≤ T11.heap.size := Nat.le_trans Zs1 Kq11.1
  have K11_0 : Keep h0 T11.heap [] := K1_0.trans Kq11 (allS (Or.inr sz1_0) all0)
  refine own_tr st11 ?_
  show own_G _ _ _ (T11.setTop (mkF m 7 #[.val (.int p0), .unset, .unset, .unset, .unset, .unset] [(.ref b1)])) _ _ _ _
  refine own_go (fun _ k => XS.astoreN X11.here hx rfl (hb hby d1_7) rfl rfl (l' := #[.val (.int p0), .val (.ref b1), .unset, .unset, .unset, .unset]) rfl k) ?_
  show own_G _ _ _ (T11.setTop (mkF m 8 #[.val (.int p0), .val (.ref b1), .unset, .unset, .unset, .unset] [])) _ _ _ _
  obtain ⟨T16, X16, e16, st16⟩ := getS2 X11 hx hZ hown (host := "") (Or.inl (hw _ (List.mem_of_getElem? (i := 30) rfl))) Via.refl rfl (P_ZS_com_example_mini_wire_bench_Application_DISTANCES.ext f12.2) (g := (mkF m 8 #[.val (.int p0), .val (.ref b1), .unset, .unset, .unset, .unset] [])) rfl (hb hby d1_8)
  refine own_go (fun _ k => st16 _ k) ?_
  show own_G _ _ _ (T16.setTop (mkF m 11 #[.val (.int p0), .val (.ref b1), .unset, .unset, .unset, .unset] [(.ref da)])) _ _ _ _
  refine own_go (fun _ k => XS.astoreN X16.here hx rfl (hb hby d1_11) rfl rfl (l' := #[.val (.int p0), .val (.ref b1), .val (.ref da), .unset, .unset, .unset]) rfl k) ?_
  show own_G _ _ _ (T16.setTop (mkF m 12 #[.val (.int p0), .val (.ref b1), .val (.ref da), .unset, .unset, .unset] [])) _ _ _ _
  refine own_go (fun _ k => XS.aloadN X16.here hx rfl (hb hby d1_12) rfl rfl k) ?_
  show own_G _ _ _ (T16.setTop (mkF m 13 #[.val (.int p0), .val (.ref b1), .val (.ref da), .unset, .unset, .unset] [(.ref da)])) _ _ _ _
  obtain ⟨cl17, Ar17, -, S17, Ng17, -, -⟩ := id f14
  refine own_go (fun _ k => X16.arraylength hx (by rw [e16]; exact Ar17.1) (State.isArrayOf_alike hZ.alike Ar17.2.1) (g := (mkF m 13 #[.val (.int p0), .val (.ref b1), .val (.ref da), .unset, .unset, .unset] [(.ref da)])) rfl rfl (hb hby d1_13) _ k) ?_
  rw [len_of S17 Ng17]
  show own_G _ _ _ (T16.setTop (mkF m 14 #[.val (.int p0), .val (.ref b1), .val (.ref da), .unset, .unset, .unset] [(.int (3 : Int32))])) _ _ _ _
  refine own_go (fun _ k => XS.istoreN X16.here hx rfl (hb hby d1_14) rfl (l' := #[.val (.int p0), .val (.ref b1), .val (.ref da), .val (.int (3 : Int32)), .unset, .unset]) rfl k) ?_
  show own_G _ _ _ (T16.setTop (mkF m 15 #[.val (.int p0), .val (.ref b1), .val (.ref da), .val (.int (3 : Int32)), .unset, .unset] [])) _ _ _ _
  refine own_go (fun _ k => XS.iconst X16.here hx rfl (hb hby d1_15) k) ?_
  show own_G _ _ _ (T16.setTop (mkF m 16 #[.val (.int p0), .val (.ref b1), .val (.ref da), .val (.int (3 : Int32)), .unset, .unset] [(.int (0 : Int32))])) _ _ _ _
  refine own_go (fun _ k => XS.istore X16.here hx rfl (hb hby d1_16) rfl (l' := #[.val (.int p0), .val (.ref b1), .val (.ref da), .val (.int (3 : Int32)), .val (.int (0 : Int32)), .unset]) rfl k) ?_
  show own_G _ _ _ (T16.setTop (mkF m 18 #[.val (.int p0), .val (.ref b1), .val (.ref da), .val (.int (3 : Int32)), .val (.int (0 : Int32)), .unset] [])) _ _ _ _
  refine own_go (fun _ k => XS.iload X16.here hx rfl (hb hby d1_18) rfl k) ?_
  show own_G _ _ _ (T16.setTop (mkF m 20 #[.val (.int p0), .val (.ref b1), .val (.ref da), .val (.int (3 : Int32)), .val (.int (0 : Int32)), .unset] [(.int (0 : Int32))])) _ _ _ _
  refine own_go (fun _ k => XS.iloadN X16.here hx rfl (hb hby d1_20) rfl k) ?_
  show own_G _ _ _ (T16.setTop (mkF m 21 #[.val (.int p0), .val (.ref b1), .val (.ref da), .val (.int (3 : Int32)), .val (.int (0 : Int32)), .unset] [(.int (3 : Int32)), (.int (0 : Int32))])) _ _ _ _
  have hc18 : (0 : Int32) < (3 : Int32) := (by decide)
  refine own_go (fun _ k => XS.icmpNo X16.here hx rfl (hb hby d1_21) rfl (tlt hc18).2.1 k) ?_
  show own_G _ _ _ (T16.setTop (mkF m 24 #[.val (.int p0), .val (.ref b1), .val (.ref da), .val (.int (3 : Int32)), .val (.int (0 : Int32)), .unset] [])) _ _ _ _
  refine own_go (fun _ k => XS.aloadN X16.here hx rfl (hb hby d1_24) rfl rfl k) ?_
  show own_G _ _ _ (T16.setTop (mkF m 25 #[.val (.int p0), .val (.ref b1), .val (.ref da), .val (.int (3 : Int32)), .val (.int (0 : Int32)), .unset] [(.ref da)])) _ _ _ _
  refine own_go (fun _ k => XS.iload X16.here hx rfl (hb hby d1_25) rfl k) ?_
  show own_G _ _ _ (T16.setTop (mkF m 27 #[.val (.int p0), .val (.ref b1), .val (.ref da), .val (.int (3 : Int32)), .val (.int (0 : Int32)), .unset] [(.int (0 : Int32)), (.ref da)])) _ _ _ _
  obtain ⟨cl19, Ar19, q19, S19, Ng19, H19, G19⟩ := id f14
  have in19 : ¬ ((0 : Int32) < 0 ∨ cl19.slots.size ≤ ((0 : Int32)).toNatClampNeg) := inb_of S19 ⟨by decide, by decide⟩
  have at19 : cl19.slots[((0 : Int32)).toNatClampNeg]? = some (.int (1 : Int32)) := H19.at in19 rfl
  refine own_go (fun _ k => X16.iaload hx (j := (0 : Int32)) (v := (.int (1 : Int32))) (by rw [e16]; exact Ar19.1) (State.isArrayOf_alike hZ.alike Ar19.2.1) Ar19.2.2 in19 at19 (g := (mkF m 27 #[.val (.int p0), .val (.ref b1), .val (.ref da), .val (.int (3 : Int32)), .val (.int (0 : Int32)), .unset] [(.int (0 : Int32)), (.ref da)])) rfl rfl (hb hby d1_27) _ k) ?_
  show own_G _ _ _ (T16.setTop (mkF m 28 #[.val (.int p0), .val (.ref b1), .val (.ref da), .val (.int (3 : Int32)), .val (.int (0 : Int32)), .unset] [(.int (1 : Int32))])) _ _ _ _
  refine own_go (fun _ k => XS.istore X16.here hx rfl (hb hby d1_28) rfl (l' := #[.val (.int p0), .val (.ref b1), .val (.ref da), .val (.int (3 : Int32)), .val (.int (0 : Int32)), .val (.int (1 : Int32))]) rfl k) ?_
  show own_G _ _ _ (T16.setTop (mkF m 30 #[.val (.int p0), .val (.ref b1), .val (.ref da), .val (.int (3 : Int32)), .val (.int (0 : Int32)), .val (.int (1 : Int32))] [])) _ _ _ _
  refine own_go (fun _ k => XS.iloadN X16.here hx rfl (hb hby d1_30) rfl k) ?_
  show own_G _ _ _ (T16.setTop (mkF m 31 #[.val (.int p0), .val (.ref b1), .val (.ref da), .val (.int (3 : Int32)), .val (.int (0 : Int32)), .val (.int (1 : Int32))] [(.int p0)])) _ _ _ _
  refine own_go (fun _ k => XS.iload X16.here hx rfl (hb hby d1_31) rfl k) ?_
  show own_G _ _ _ (T16.setTop (mkF m 33 #[.val (.int p0), .val (.ref b1), .val (.ref da), .val (.int (3 : Int32)), .val (.int (0 : Int32)), .val (.int (1 : Int32))] [(.int (1 : Int32)), (.int p0)])) _ _ _ _
  refine own_go (fun _ k => XS.isub X16.here hx rfl (hb hby d1_33) rfl k) ?_
  show own_G _ _ _ (T16.setTop (mkF m 34 #[.val (.int p0), .val (.ref b1), .val (.ref da), .val (.int (3 : Int32)), .val (.int (0 : Int32)), .val (.int (1 : Int32))] [(.int (p0 - (1 : Int32)))])) _ _ _ _
  have hc20 : (p0 - (1 : Int32)) < (0 : Int32) := own_neg p0 (1 : Int32) hn (by decide) (own_lt p0 (1 : Int32) (1 : Int32) hq (by decide))
  refine own_go (fun _ k => XS.ifYes X16.here hx rfl (pc0 := 34) (pc' := 51) rfl (hb hby d1_34) rfl ((if0 _ _).trans (tlt hc20).1) (by decide) (by decide) k) ?_
  show own_G _ _ _ (T16.setTop (mkF m 51 #[.val (.int p0), .val (.ref b1), .val (.ref da), .val (.int (3 : Int32)), .val (.int (0 : Int32)), .val (.int (1 : Int32))] [])) _ _ _ _
  refine own_go (fun _ k => XS.iinc X16.here hx rfl (hb hby d1_51) rfl (l' := #[.val (.int p0), .val (.ref b1), .val (.ref da), .val (.int (3 : Int32)), .val (.int (1 : Int32)), .val (.int (1 : Int32))]) rfl k) ?_
  show own_G _ _ _ (T16.setTop (mkF m 54 #[.val (.int p0), .val (.ref b1), .val (.ref da), .val (.int (3 : Int32)), .val (.int (1 : Int32)), .val (.int (1 : Int32))] [])) _ _ _ _
  refine own_go (fun _ k => XS.goto X16.here hx rfl (pc0 := 54) (pc' := 18) rfl (hb hby d1_54) (by decide) (by decide) k) ?_
  show own_G _ _ _ (T16.setTop (mkF m 18 #[.val (.int p0), .val (.ref b1), .val (.ref da), .val (.int (3 : Int32)), .val (.int (1 : Int32)), .val (.int (1 : Int32))] [])) _ _ _ _
  refine own_go (fun _ k => XS.iload X16.here hx rfl (hb hby d1_18) rfl k) ?_
  show own_G _ _ _ (T16.setTop (mkF m 20 #[.val (.int p0), .val (.ref b1), .val (.ref da), .val (.int (3 : Int32)), .val (.int (1 : Int32)), .val (.int (1 : Int32))] [(.int (1 : Int32))])) _ _ _ _
  refine own_go (fun _ k => XS.iloadN X16.here hx rfl (hb hby d1_20) rfl k) ?_
  show own_G _ _ _ (T16.setTop (mkF m 21 #[.val (.int p0), .val (.ref b1), .val (.ref da), .val (.int (3 : Int32)), .val (.int (1 : Int32)), .val (.int (1 : Int32))] [(.int (3 : Int32)), (.int (1 : Int32))])) _ _ _ _
  have hc21 : (1 : Int32) < (3 : Int32) := (by decide)
  refine own_go (fun _ k => XS.icmpNo X16.here hx rfl (hb hby d1_21) rfl (tlt hc21).2.1 k) ?_
  show own_G _ _ _ (T16.setTop (mkF m 24 #[.val (.int p0), .val (.ref b1), .val (.ref da), .val (.int (3 : Int32)), .val (.int (1 : Int32)), .val (.int (1 : Int32))] [])) _ _ _ _
  refine own_go (fun _ k => XS.aloadN X16.here hx rfl (hb hby d1_24) rfl rfl k) ?_
  show own_G _ _ _ (T16.setTop (mkF m 25 #[.val (.int p0), .val (.ref b1), .val (.ref da), .val (.int (3 : Int32)), .val (.int (1 : Int32)), .val (.int (1 : Int32))] [(.ref da)])) _ _ _ _
  refine own_go (fun _ k => XS.iload X16.here hx rfl (hb hby d1_25) rfl k) ?_
  show own_G _ _ _ (T16.setTop (mkF m 27 #[.val (.int p0), .val (.ref b1), .val (.ref da), .val (.int (3 : Int32)), .val (.int (1 : Int32)), .val (.int (1 : Int32))] [(.int (1 : Int32)), (.ref da)])) _ _ _ _
  obtain ⟨cl22, Ar22, q22, S22, Ng22, H22, G22⟩ := id f14
  have in22 : ¬ ((1 : Int32) < 0 ∨ cl22.slots.size ≤ ((1 : Int32)).toNatClampNeg) := inb_of S22 ⟨by decide, by decide⟩
  have at22 : cl22.slots[((1 : Int32)).toNatClampNeg]? = some (.int (7 : Int32)) := H22.at in22 rfl
  refine own_go (fun _ k => X16.iaload hx (j := (1 : Int32)) (v := (.int (7 : Int32))) (by rw [e16]; exact Ar22.1) (State.isArrayOf_alike hZ.alike Ar22.2.1) Ar22.2.2 in22 at22 (g := (mkF m 27 #[.val (.int p0), .val (.ref b1), .val (.ref da), .val (.int (3 : Int32)), .val (.int (1 : Int32)), .val (.int (1 : Int32))] [(.int (1 : Int32)), (.ref da)])) rfl rfl (hb hby d1_27) _ k) ?_
  show own_G _ _ _ (T16.setTop (mkF m 28 #[.val (.int p0), .val (.ref b1), .val (.ref da), .val (.int (3 : Int32)), .val (.int (1 : Int32)), .val (.int (1 : Int32))] [(.int (7 : Int32))])) _ _ _ _
  refine own_go (fun _ k => XS.istore X16.here hx rfl (hb hby d1_28) rfl (l' := #[.val (.int p0), .val (.ref b1), .val (.ref da), .val (.int (3 : Int32)), .val (.int (1 : Int32)), .val (.int (7 : Int32))]) rfl k) ?_
  show own_G _ _ _ (T16.setTop (mkF m 30 #[.val (.int p0), .val (.ref b1), .val (.ref da), .val (.int (3 : Int32)), .val (.int (1 : Int32)), .val (.int (7 : Int32))] [])) _ _ _ _
  refine own_go (fun _ k => XS.iloadN X16.here hx rfl (hb hby d1_30) rfl k) ?_
  show own_G _ _ _ (T16.setTop (mkF m 31 #[.val (.int p0), .val (.ref b1), .val (.ref da), .val (.int (3 : Int32)), .val (.int (1 : Int32)), .val (.int (7 : Int32))] [(.int p0)])) _ _ _ _
  refine own_go (fun _ k => XS.iload X16.here hx rfl (hb hby d1_31) rfl k) ?_
  show own_G _ _ _ (T16.setTop (mkF m 33 #[.val (.int p0), .val (.ref b1), .val (.ref da), .val (.int (3 : Int32)), .val (.int (1 : Int32)), .val (.int (7 : Int32))] [(.int (7 : Int32)), (.int p0)])) _ _ _ _
  refine own_go (fun _ k => XS.isub X16.here hx rfl (hb hby d1_33) rfl k) ?_
  show own_G _ _ _ (T16.setTop (mkF m 34 #[.val (.int p0), .val (.ref b1), .val (.ref da), .val (.int (3 : Int32)), .val (.int (1 : Int32)), .val (.int (7 : Int32))] [(.int (p0 - (7 : Int32)))])) _ _ _ _
  have hc23 : (p0 - (7 : Int32)) < (0 : Int32) := own_neg p0 (7 : Int32) hn (by decide) (own_lt p0 (1 : Int32) (7 : Int32) hq (by decide))
  refine own_go (fun _ k => XS.ifYes X16.here hx rfl (pc0 := 34) (pc' := 51) rfl (hb hby d1_34) rfl ((if0 _ _).trans (tlt hc23).1) (by decide) (by decide) k) ?_
  show own_G _ _ _ (T16.setTop (mkF m 51 #[.val (.int p0), .val (.ref b1), .val (.ref da), .val (.int (3 : Int32)), .val (.int (1 : Int32)), .val (.int (7 : Int32))] [])) _ _ _ _
  refine own_go (fun _ k => XS.iinc X16.here hx rfl (hb hby d1_51) rfl (l' := #[.val (.int p0), .val (.ref b1), .val (.ref da), .val (.int (3 : Int32)), .val (.int (2 : Int32)), .val (.int (7 : Int32))]) rfl k) ?_
  show own_G _ _ _ (T16.setTop (mkF m 54 #[.val (.int p0), .val (.ref b1), .val (.ref da), .val (.int (3 : Int32)), .val (.int (2 : Int32)), .val (.int (7 : Int32))] [])) _ _ _ _
  refine own_go (fun _ k => XS.goto X16.here hx rfl (pc0 := 54) (pc' := 18) rfl (hb hby d1_54) (by decide) (by decide) k) ?_
  show own_G _ _ _ (T16.setTop (mkF m 18 #[.val (.int p0), .val (.ref b1), .val (.ref da), .val (.int (3 : Int32)), .val (.int (2 : Int32)), .val (.int (7 : Int32))] [])) _ _ _ _
  refine own_go (fun _ k => XS.iload X16.here hx rfl (hb hby d1_18) rfl k) ?_
  show own_G _ _ _ (T16.setTop (mkF m 20 #[.val (.int p0), .val (.ref b1), .val (.ref da), .val (.int (3 : Int32)), .val (.int (2 : Int32)), .val (.int (7 : Int32))] [(.int (2 : Int32))])) _ _ _ _
  refine own_go (fun _ k => XS.iloadN X16.here hx rfl (hb hby d1_20) rfl k) ?_
  show own_G _ _ _ (T16.setTop (mkF m 21 #[.val (.int p0), .val (.ref b1), .val (.ref da), .val (.int (3 : Int32)), .val (.int (2 : Int32)), .val (.int (7 : Int32))] [(.int (3 : Int32)), (.int (2 : Int32))])) _ _ _ _
  have hc24 : (2 : Int32) < (3 : Int32) := (by decide)
  refine own_go (fun _ k => XS.icmpNo X16.here hx rfl (hb hby d1_21) rfl (tlt hc24).2.1 k) ?_
  show own_G _ _ _ (T16.setTop (mkF m 24 #[.val (.int p0), .val (.ref b1), .val (.ref da), .val (.int (3 : Int32)), .val (.int (2 : Int32)), .val (.int (7 : Int32))] [])) _ _ _ _
  refine own_go (fun _ k => XS.aloadN X16.here hx rfl (hb hby d1_24) rfl rfl k) ?_
  show own_G _ _ _ (T16.setTop (mkF m 25 #[.val (.int p0), .val (.ref b1), .val (.ref da), .val (.int (3 : Int32)), .val (.int (2 : Int32)), .val (.int (7 : Int32))] [(.ref da)])) _ _ _ _
  refine own_go (fun _ k => XS.iload X16.here hx rfl (hb hby d1_25) rfl k) ?_
  show own_G _ _ _ (T16.setTop (mkF m 27 #[.val (.int p0), .val (.ref b1), .val (.ref da), .val (.int (3 : Int32)), .val (.int (2 : Int32)), .val (.int (7 : Int32))] [(.int (2 : Int32)), (.ref da)])) _ _ _ _
  obtain ⟨cl25, Ar25, q25, S25, Ng25, H25, G25⟩ := id f14
  have in25 : ¬ ((2 : Int32) < 0 ∨ cl25.slots.size ≤ ((2 : Int32)).toNatClampNeg) := inb_of S25 ⟨by decide, by decide⟩
  have at25 : cl25.slots[((2 : Int32)).toNatClampNeg]? = some (.int (31 : Int32)) := H25.at in25 rfl
  refine own_go (fun _ k => X16.iaload hx (j := (2 : Int32)) (v := (.int (31 : Int32))) (by rw [e16]; exact Ar25.1) (State.isArrayOf_alike hZ.alike Ar25.2.1) Ar25.2.2 in25 at25 (g := (mkF m 27 #[.val (.int p0), .val (.ref b1), .val (.ref da), .val (.int (3 : Int32)), .val (.int (2 : Int32)), .val (.int (7 : Int32))] [(.int (2 : Int32)), (.ref da)])) rfl rfl (hb hby d1_27) _ k) ?_
  show own_G _ _ _ (T16.setTop (mkF m 28 #[.val (.int p0), .val (.ref b1), .val (.ref da), .val (.int (3 : Int32)), .val (.int (2 : Int32)), .val (.int (7 : Int32))] [(.int (31 : Int32))])) _ _ _ _
  refine own_go (fun _ k => XS.istore X16.here hx rfl (hb hby d1_28) rfl (l' := #[.val (.int p0), .val (.ref b1), .val (.ref da), .val (.int (3 : Int32)), .val (.int (2 : Int32)), .val (.int (31 : Int32))]) rfl k) ?_
  show own_G _ _ _ (T16.setTop (mkF m 30 #[.val (.int p0), .val (.ref b1), .val (.ref da), .val (.int (3 : Int32)), .val (.int (2 : Int32)), .val (.int (31 : Int32))] [])) _ _ _ _
  refine own_go (fun _ k => XS.iloadN X16.here hx rfl (hb hby d1_30) rfl k) ?_
  show own_G _ _ _ (T16.setTop (mkF m 31 #[.val (.int p0), .val (.ref b1), .val (.ref da), .val (.int (3 : Int32)), .val (.int (2 : Int32)), .val (.int (31 : Int32))] [(.int p0)])) _ _ _ _
  refine own_go (fun _ k => XS.iload X16.here hx rfl (hb hby d1_31) rfl k) ?_
  show own_G _ _ _ (T16.setTop (mkF m 33 #[.val (.int p0), .val (.ref b1), .val (.ref da), .val (.int (3 : Int32)), .val (.int (2 : Int32)), .val (.int (31 : Int32))] [(.int (31 : Int32)), (.int p0)])) _ _ _ _
  refine own_go (fun _ k => XS.isub X16.here hx rfl (hb hby d1_33) rfl k) ?_
  show own_G _ _ _ (T16.setTop (mkF m 34 #[.val (.int p0), .val (.ref b1), .val (.ref da), .val (.int (3 : Int32)), .val (.int (2 : Int32)), .val (.int (31 : Int32))] [(.int (p0 - (31 : Int32)))])) _ _ _ _
  have hc26 : (p0 - (31 : Int32)) < (0 : Int32) := own_neg p0 (31 : Int32) hn (by decide) (own_lt p0 (1 : Int32) (31 : Int32) hq (by decide))
  refine own_go (fun _ k => XS.ifYes X16.here hx rfl (pc0 := 34) (pc' := 51) rfl (hb hby d1_34) rfl ((if0 _ _).trans (tlt hc26).1) (by decide) (by decide) k) ?_
  show own_G _ _ _ (T16.setTop (mkF m 51 #[.val (.int p0), .val (.ref b1), .val (.ref da), .val (.int (3 : Int32)), .val (.int (2 : Int32)), .val (.int (31 : Int32))] [])) _ _ _ _
  refine own_go (fun _ k => XS.iinc X16.here hx rfl (hb hby d1_51) rfl (l' := #[.val (.int p0), .val (.ref b1), .val (.ref da), .val (.int (3 : Int32)), .val (.int (3 : Int32)), .val (.int (31 : Int32))]) rfl k) ?_
  show own_G _ _ _ (T16.setTop (mkF m 54 #[.val (.int p0), .val (.ref b1), .val (.ref da), .val (.int (3 : Int32)), .val (.int (3 : Int32)), .val (.int (31 : Int32))] [])) _ _ _ _
  refine own_go (fun _ k => XS.goto X16.here hx rfl (pc0 := 54) (pc' := 18) rfl (hb hby d1_54) (by decide) (by decide) k) ?_
  show own_G _ _ _ (T16.setTop (mkF m 18 #[.val (.int p0), .val (.ref b1), .val (.ref da), .val (.int (3 : Int32)), .val (.int (3 : Int32)), .val (.int (31 : Int32))] [])) _ _ _ _
  refine own_go (fun _ k => XS.iload X16.here hx rfl (hb hby d1_18) rfl k) ?_
  show own_G _ _ _ (T16.setTop (mkF m 20 #[.val (.int p0), .val (.ref b1), .val (.ref da), .val (.int (3 : Int32)), .val (.int (3 : Int32)), .val (.int (31 : Int32))] [(.int (3 : Int32))])) _ _ _ _
  refine own_go (fun _ k => XS.iloadN X16.here hx rfl (hb hby d1_20) rfl k) ?_
  show own_G _ _ _ (T16.setTop (mkF m 21 #[.val (.int p0), .val (.ref b1), .val (.ref da), .val (.int (3 : Int32)), .val (.int (3 : Int32)), .val (.int (31 : Int32))] [(.int (3 : Int32)), (.int (3 : Int32))])) _ _ _ _
  have hc27 : ¬ ((3 : Int32) < (3 : Int32)) := (by decide)
  refine own_go (fun _ k => XS.icmpYes X16.here hx rfl (pc0 := 21) (pc' := 57) rfl (hb hby d1_21) rfl (flt hc27).2.1 (by decide) (by decide) k) ?_
  show own_G _ _ _ (T16.setTop (mkF m 57 #[.val (.int p0), .val (.ref b1), .val (.ref da), .val (.int (3 : Int32)), .val (.int (3 : Int32)), .val (.int (31 : Int32))] [])) _ _ _ _
  refine own_go (fun _ k => XS.aloadN X16.here hx rfl (hb hby d1_57) rfl rfl k) ?_
  show own_G _ _ _ (T16.setTop (mkF m 58 #[.val (.int p0), .val (.ref b1), .val (.ref da), .val (.int (3 : Int32)), .val (.int (3 : Int32)), .val (.int (31 : Int32))] [(.ref b1)])) _ _ _ _
  exact own_endR X16 hx hlk Bd.returns rfl rfl rfl (hb hby d1_58) (by decide) (by decide) (Q := (Q1a Z p0 d0 k0 ca cc da kd h0 n0)) (by rw [e16]; exact ⟨b1, rfl, N11, K11_0, r11_0, r11_3⟩)
theorem pd_8 : parseMethodDescriptor "(I)Ljava/lang/Integer;" = some ⟨[.int], some (.object "java/lang/Integer")⟩ := by decide +kernel
theorem pd_9 : parseMethodDescriptor "(Ljava/lang/Object;)Z" = some ⟨[(.object "java/lang/Object")], some .boolean⟩ := by decide +kernel
def Q1b (Z : State) (p0 : Int32) (d0 : Addr) (k0 : ClassId) (ca : Addr) (cc : Cell) (da : Addr) (kd : ClassId) (h0 : Heap) (n0 : Nat) (v : Option Value) (h : Heap) (L : List Loc) : Prop := ∃ (b : Addr) (na : Addr) (kn : ClassId) (el0 : Addr), v = some (.ref b) ∧ Fr n0 L ∧ Keep h0 h [] ∧ Exa Z h b "java/util/ArrayList" ∧ Fld Z h b "java/util/ArrayList" "size" "I" (.int (1 : Int32)) ∧ Fld Z h b "java/util/ArrayList" "elementData" "[Ljava/lang/Object;" (.ref na) ∧ Arv Z h na kn (.object "java/lang/Object") (10 : Int32) [(.ref el0), .null, .null, .null, .null, .null, .null, .null, .null, .null] .null ∧ Exa Z h el0 "java/lang/Integer" ∧ Fld Z h el0 "java/lang/Integer" "value" "I" (.int (p0 - (1 : Int32)))
set_option maxRecDepth 65536 in
set_option maxHeartbeats 40000000 in
theorem rm1b (l : Launch) (Z : State) (a0 : Array Value) (hw : ∀ d ∈ tables_1, d.before a0 Z = true) (ws : List Jvm.Cond) (p0 : Int32) (d0 : Addr) (k0 : ClassId) (ca : Addr) (cc : Cell) (da : Addr) (kd : ClassId) (h0 : Heap) (n0 : Nat) (Z0 : n0 ≤ h0.size) (P_Old : Old Z n0 h0) (P_ZS_java_util_ArrayList_DEFAULTCAPACITY_EMPTY_ELEMENTDATA : Sta Z Z.heap "java/util/ArrayList" "DEFAULTCAPACITY_EMPTY_ELEMENTDATA" "[Ljava/lang/Object;" (.ref d0)) (P_V_d0 : Arv Z h0 d0 k0 (.object "java/lang/Object") (0 : Int32) [] .null) (P_ZS_java_lang_Integer_IntegerCache_high : Sta Z Z.heap "java/lang/Integer$IntegerCache" "high" "I" (.int (127 : Int32))) (P_ZS_java_lang_Integer_IntegerCache_cache : Sta Z Z.heap "java/lang/Integer$IntegerCache" "cache" "[Ljava/lang/Integer;" (.ref ca)) (bx : Bxs Z ca cc "java/lang/Integer" "I" (256 : Int32) (fun j => .int (j - 128))) (P_ZS_com_example_mini_wire_bench_Application_DISTANCES : Sta Z Z.heap "com/example/mini_wire/bench/Application" "DISTANCES" "[I" (.ref da)) (P_V_da : Arv Z h0 da kd .int (3 : Int32) [(.int (1 : Int32)), (.int (7 : Int32)), (.int (31 : Int32))] (.int (0 : Int32))) (hn : 0 ≤ p0.toInt) (hq : ¬ p0 < 1 ∧ p0 < 7) :
    MetFree l (⟨"com/example/mini_wire/bench/Application", "dependencies", "(I)Ljava/util/List;"⟩ : MethodName) (head1 (Jvm.Cond.code (⟨"com/example/mini_wire/bench/Application", "dependencies", "(I)Ljava/util/List;"⟩ : MethodName) prog_1_method_3_code 6 (some (.object "java/util/List")) :: ws) ({ frames := 5, cells := 3, slots := 14, locals := 69 } : Room)) (fun a U => a = #[(.int p0)] ∧ Z.Warmed39 U.vm ∧ U.heap = h0) (fun _ _ _ _ _ => True) (fun _ U o U' => ∃ v L, o = .returned v ∧ (Q1b Z p0 d0 k0 ca cc da kd h0 n0) v U'.heap L ∧ FrameEnd U o U' L ({ frames := 5, cells := 3, slots := 14, locals := 69 } : Room).cells ({ frames := 5, cells := 3, slots := 14, locals := 69 } : Room).slots) := by
  refine MetFree.of_bodySF (plainFor_of_name pn_7) hisR ?_
  intro p e s m args below meth c s₁ Bd hml0 hP hK
  obtain ⟨rfl, hZ, hh⟩ := hP
  have hx := Bd.exec
  have hby := Bd.bytes
  have hml : c.maxLocals = 6 := hml0
  have hown : s.vm.findClass "com/example/mini_wire/bench/Application" = some m.cls := findClass_of_methodNamed Bd.named
  have hnm := (name_of_methodNamed Bd.named Bd.method).1
  have hlk : meth.locks = false := BodyLoose.notSynchronized Bd
  have X0 : Stand p l e ({ frames := 5, cells := 3, slots := 14, locals := 69 } : Room) s m #[(.int p0)] below meth c s₁ [] 0 0 := Stand.of_body Bd
  have e0 : s₁.heap = h0 := by rw [← hh, Bd.state]; rfl
  have N0 := Fr.nil n0
  have K0 : Keep h0 h0 [] := Keep.refl h0 []
  show own_G p.tables e below (s₁.setTop (entryFrame m #[(.int p0)] 6)) s ({ frames := 5, cells := 3, slots := 14, locals := 69 } : Room).cells ({ frames := 5, cells := 3, slots := 14, locals := 69 } : Room).slots (Q1b Z p0 d0 k0 ca cc da kd h0 n0)
  refine own_go (fun _ k => castTop (ef_1a m p0) k) ?_
  show own_G _ _ _ (s₁.setTop (mkF m 0 #[.val (.int p0), .unset, .unset, .unset, .unset, .unset] [])) _ _ _ _
  obtain ⟨T1, h1, X1, e1, E1, A1, D1, -, st1⟩ := newO X0 hx hZ hown (hw _ (List.mem_of_getElem? (i := 4) rfl)) (hw _ (List.mem_of_getElem? (i := 5) rfl)) (hw _ (List.mem_of_getElem? (i := 6) rfl)) e0 (g := (mkF m 0 #[.val (.int p0), .unset, .unset, .unset, .unset, .unset] [])) rfl (hb hby d1_0) (by decide) (by decide)
  obtain ⟨b1, g1⟩ : ∃ z, z = h0.size := ⟨_, rfl⟩
  rw [← g1] at A1 D1 st1
  have ne2 : d0 ≠ b1 := Nat.ne_of_lt (Nat.lt_of_lt_of_le P_V_d0.lt (Nat.le_of_eq g1.symm))
  have ne3 : da ≠ b1 := Nat.ne_of_lt (Nat.lt_of_lt_of_le P_V_da.lt (Nat.le_of_eq g1.symm))
  have gg1 : n0 ≤ b1 := Nat.le_trans Z0 (Nat.le_of_eq g1.symm)
  have sz1_0 : h0.size ≤ b1 := Nat.le_trans K0.1 (Nat.le_of_eq g1.symm)
  have Zs1 : n0 ≤ h1.size := Nat.le_trans Z0 E1.1
  have K1_0 : Keep h0 h1 [] := K0.ext E1
  have f4 : Old Z n0 h1 := P_Old.ext E1
  have f5 : Arv Z h1 d0 k0 (.object "java/lang/Object") (0 : Int32) [] .null := P_V_d0.ext E1
  have f6 : Arv Z h1 da kd .int (3 : Int32) [(.int (1 : Int32)), (.int (7 : Int32)), (.int (31 : Int32))] (.int (0 : Int32)) := P_V_da.ext E1
  have f7 : Exa Z h1 b1 "java/util/ArrayList" := A1
  have f8 : Fld Z h1 b1 "java/util/AbstractList" "modCount" "I" (.int (0 : Int32)) := D1 (Or.inl (hw _ (List.mem_of_getElem? (i := 26) rfl))) (ty := .int) (by decide)
  have f9 : Fld Z h1 b1 "java/util/ArrayList" "elementData" "[Ljava/lang/Object;" .null := D1 (Or.inl (hw _ (List.mem_of_getElem? (i := 29) rfl))) (ty := (.array (.object "java/lang/Object"))) (by decide)
  have f10 : Fld Z h1 b1 "java/util/ArrayList" "size" "I" (.int (0 : Int32)) := D1 (Or.inl (hw _ (List.mem_of_getElem? (i := 42) rfl))) (ty := .int) (by decide)
  refine own_go (fun _ k => st1 _ k) ?_
  show own_G _ _ _ (T1.setTop (mkF m 3 #[.val (.int p0), .unset, .unset, .unset, .unset, .unset] [(.ref b1)])) _ _ _ _
  refine own_go (fun _ k => XS.dup X1.here hx rfl (hb hby d1_3) rfl rfl k) ?_
  show own_G _ _ _ (T1.setTop (mkF m 4 #[.val (.int p0), .unset, .unset, .unset, .unset, .unset] [(.ref b1), (.ref b1)])) _ _ _ _
  obtain ⟨_, _, ⟨T11, L11, k11, n11⟩, -, X11, ⟨Lc11, hQ11, l11, y11, z11⟩, st11⟩ := X1.specialBack hx (y := (⟨"java/util/ArrayList", "<init>", "()V"⟩ : MethodName)) rfl hown (mvT hZ (hw _ (List.mem_of_getElem? (i := 7) rfl))) (mvT hZ (hw _ (List.mem_of_getElem? (i := 8) rfl))) (mvT hZ (hw _ (List.mem_of_getElem? (i := 9) rfl))) (by decide) (backOf (W := 1) (rm2 l Z a0 hw [] b1 d0 h1 n0 Zs1 f7 f8 f9 f10 gg1 f4 P_ZS_java_util_ArrayList_DEFAULTCAPACITY_EMPTY_ELEMENTDATA) hZ (hw _ (List.mem_of_getElem? (i := 9) rfl)) (hw _ (List.mem_of_getElem? (i := 6) rfl)) (by decide) (by decide)) (g := (mkF m 4 #[.val (.int p0), .unset, .unset, .unset, .unset, .unset] [(.ref b1), (.ref b1)])) rfl (by rw [hml]; rfl) (Steps.refl _) (a := b1) (argsL := []) (rest := [(.ref b1)]) (lenOf pd_0 rfl) rfl (by show 2 * 0 + _ ≤ _; exact Nat.le_of_eq rfl) (hb hby d1_4) (fun _ _ => ⟨rfl, e1, (by decide : 1 + 0 ≤ _), (by decide : 3 + 0 ≤ _)⟩)
  dsimp only [Pt.U, Pt.locs, Pt.cells, Pt.slots] at X11 l11 y11 z11 st11 hQ11
  subst l11 y11 z11
  obtain ⟨rfl, Nq11, Kq11, r11_0, r11_1, r11_2, r11_3⟩ := hQ11
  have N11 := Fr.app N0 Nq11
  have f12 : Old Z n0 T11.heap := f4.keep Kq11 (allS gg1 all0)
  have f13 : Arv Z T11.heap d0 k0 (.object "java/lang/Object") (0 : Int32) [] .null := f5.keep Kq11 (ninS ne2 nin0)
  have f14 : Arv Z T11.heap da kd .int (3 : Int32) [(.int (1 : Int32)), (.int (7 : Int32)), (.int (31 : Int32))] (.int (0 : Int32)) := f6.keep Kq11 (ninS ne3 nin0)
  have f15 : Exa Z T11.heap b1 "java/util/ArrayList" := f7.keep Kq11
  have Zs11 : n0 ≤ T11.heap.size := Nat.le_trans Zs1 Kq11.1
  have K11_0 : Keep h0 T11.heap [] := K1_0.trans Kq11 (allS (Or.inr sz1_0) all0)
  refine own_tr st11 ?_
  show own_G _ _ _ (T11.setTop (mkF m 7 #[.val (.int p0), .unset, .unset, .unset, .unset, .unset] [(.ref b1)])) _ _ _ _
  refine own_go (fun _ k => XS.astoreN X11.here hx rfl (hb hby d1_7) rfl rfl (l' := #[.val (.int p0), .val (.ref b1), .unset, .unset, .unset, .unset]) rfl k) ?_
  show own_G _ _ _ (T11.setTop (mkF m 8 #[.val (.int p0), .val (.ref b1), .unset, .unset, .unset, .unset] [])) _ _ _ _
  obtain ⟨T16, X16, e16, st16⟩ := getS2 X11 hx hZ hown (host := "") (Or.inl (hw _ (List.mem_of_getElem? (i := 30) rfl))) Via.refl rfl (P_ZS_com_example_mini_wire_bench_Application_DISTANCES.ext f12.2) (g := (mkF m 8 #[.val (.int p0), .val (.ref b1), .unset, .unset, .unset, .unset] [])) rfl (hb hby d1_8)
  refine own_go (fun _ k => st16 _ k) ?_
  show own_G _ _ _ (T16.setTop (mkF m 11 #[.val (.int p0), .val (.ref b1), .unset, .unset, .unset, .unset] [(.ref da)])) _ _ _ _
  refine own_go (fun _ k => XS.astoreN X16.here hx rfl (hb hby d1_11) rfl rfl (l' := #[.val (.int p0), .val (.ref b1), .val (.ref da), .unset, .unset, .unset]) rfl k) ?_
  show own_G _ _ _ (T16.setTop (mkF m 12 #[.val (.int p0), .val (.ref b1), .val (.ref da), .unset, .unset, .unset] [])) _ _ _ _
  refine own_go (fun _ k => XS.aloadN X16.here hx rfl (hb hby d1_12) rfl rfl k) ?_
  show own_G _ _ _ (T16.setTop (mkF m 13 #[.val (.int p0), .val (.ref b1), .val (.ref da), .unset, .unset, .unset] [(.ref da)])) _ _ _ _
  obtain ⟨cl17, Ar17, -, S17, Ng17, -, -⟩ := id f14
  refine own_go (fun _ k => X16.arraylength hx (by rw [e16]; exact Ar17.1) (State.isArrayOf_alike hZ.alike Ar17.2.1) (g := (mkF m 13 #[.val (.int p0), .val (.ref b1), .val (.ref da), .unset, .unset, .unset] [(.ref da)])) rfl rfl (hb hby d1_13) _ k) ?_
  rw [len_of S17 Ng17]
  show own_G _ _ _ (T16.setTop (mkF m 14 #[.val (.int p0), .val (.ref b1), .val (.ref da), .unset, .unset, .unset] [(.int (3 : Int32))])) _ _ _ _
  refine own_go (fun _ k => XS.istoreN X16.here hx rfl (hb hby d1_14) rfl (l' := #[.val (.int p0), .val (.ref b1), .val (.ref da), .val (.int (3 : Int32)), .unset, .unset]) rfl k) ?_
  show own_G _ _ _ (T16.setTop (mkF m 15 #[.val (.int p0), .val (.ref b1), .val (.ref da), .val (.int (3 : Int32)), .unset, .unset] [])) _ _ _ _
  refine own_go (fun _ k => XS.iconst X16.here hx rfl (hb hby d1_15) k) ?_
  show own_G _ _ _ (T16.setTop (mkF m 16 #[.val (.int p0), .val (.ref b1), .val (.ref da), .val (.int (3 : Int32)), .unset, .unset] [(.int (0 : Int32))])) _ _ _ _
  refine own_go (fun _ k => XS.istore X16.here hx rfl (hb hby d1_16) rfl (l' := #[.val (.int p0), .val (.ref b1), .val (.ref da), .val (.int (3 : Int32)), .val (.int (0 : Int32)), .unset]) rfl k) ?_
  show own_G _ _ _ (T16.setTop (mkF m 18 #[.val (.int p0), .val (.ref b1), .val (.ref da), .val (.int (3 : Int32)), .val (.int (0 : Int32)), .unset] [])) _ _ _ _
  refine own_go (fun _ k => XS.iload X16.here hx rfl (hb hby d1_18) rfl k) ?_
  show own_G _ _ _ (T16.setTop (mkF m 20 #[.val (.int p0), .val (.ref b1), .val (.ref da), .val (.int (3 : Int32)), .val (.int (0 : Int32)), .unset] [(.int (0 : Int32))])) _ _ _ _
  refine own_go (fun _ k => XS.iloadN X16.here hx rfl (hb hby d1_20) rfl k) ?_
  show own_G _ _ _ (T16.setTop (mkF m 21 #[.val (.int p0), .val (.ref b1), .val (.ref da), .val (.int (3 : Int32)), .val (.int (0 : Int32)), .unset] [(.int (3 : Int32)), (.int (0 : Int32))])) _ _ _ _
  have hc18 : (0 : Int32) < (3 : Int32) := (by decide)
  refine own_go (fun _ k => XS.icmpNo X16.here hx rfl (hb hby d1_21) rfl (tlt hc18).2.1 k) ?_
  show own_G _ _ _ (T16.setTop (mkF m 24 #[.val (.int p0), .val (.ref b1), .val (.ref da), .val (.int (3 : Int32)), .val (.int (0 : Int32)), .unset] [])) _ _ _ _
  refine own_go (fun _ k => XS.aloadN X16.here hx rfl (hb hby d1_24) rfl rfl k) ?_
  show own_G _ _ _ (T16.setTop (mkF m 25 #[.val (.int p0), .val (.ref b1), .val (.ref da), .val (.int (3 : Int32)), .val (.int (0 : Int32)), .unset] [(.ref da)])) _ _ _ _
  refine own_go (fun _ k => XS.iload X16.here hx rfl (hb hby d1_25) rfl k) ?_
  show own_G _ _ _ (T16.setTop (mkF m 27 #[.val (.int p0), .val (.ref b1), .val (.ref da), .val (.int (3 : Int32)), .val (.int (0 : Int32)), .unset] [(.int (0 : Int32)), (.ref da)])) _ _ _ _
  obtain ⟨cl19, Ar19, q19, S19, Ng19, H19, G19⟩ := id f14
  have in19 : ¬ ((0 : Int32) < 0 ∨ cl19.slots.size ≤ ((0 : Int32)).toNatClampNeg) := inb_of S19 ⟨by decide, by decide⟩
  have at19 : cl19.slots[((0 : Int32)).toNatClampNeg]? = some (.int (1 : Int32)) := H19.at in19 rfl
  refine own_go (fun _ k => X16.iaload hx (j := (0 : Int32)) (v := (.int (1 : Int32))) (by rw [e16]; exact Ar19.1) (State.isArrayOf_alike hZ.alike Ar19.2.1) Ar19.2.2 in19 at19 (g := (mkF m 27 #[.val (.int p0), .val (.ref b1), .val (.ref da), .val (.int (3 : Int32)), .val (.int (0 : Int32)), .unset] [(.int (0 : Int32)), (.ref da)])) rfl rfl (hb hby d1_27) _ k) ?_
  show own_G _ _ _ (T16.setTop (mkF m 28 #[.val (.int p0), .val (.ref b1), .val (.ref da), .val (.int (3 : Int32)), .val (.int (0 : Int32)), .unset] [(.int (1 : Int32))])) _ _ _ _
  refine own_go (fun _ k => XS.istore X16.here hx rfl (hb hby d1_28) rfl (l' := #[.val (.int p0), .val (.ref b1), .val (.ref da), .val (.int (3 : Int32)), .val (.int (0 : Int32)), .val (.int (1 : Int32))]) rfl k) ?_
  show own_G _ _ _ (T16.setTop (mkF m 30 #[.val (.int p0), .val (.ref b1), .val (.ref da), .val (.int (3 : Int32)), .val (.int (0 : Int32)), .val (.int (1 : Int32))] [])) _ _ _ _
  refine own_go (fun _ k => XS.iloadN X16.here hx rfl (hb hby d1_30) rfl k) ?_
  show own_G _ _ _ (T16.setTop (mkF m 31 #[.val (.int p0), .val (.ref b1), .val (.ref da), .val (.int (3 : Int32)), .val (.int (0 : Int32)), .val (.int (1 : Int32))] [(.int p0)])) _ _ _ _
  refine own_go (fun _ k => XS.iload X16.here hx rfl (hb hby d1_31) rfl k) ?_
  show own_G _ _ _ (T16.setTop (mkF m 33 #[.val (.int p0), .val (.ref b1), .val (.ref da), .val (.int (3 : Int32)), .val (.int (0 : Int32)), .val (.int (1 : Int32))] [(.int (1 : Int32)), (.int p0)])) _ _ _ _
  refine own_go (fun _ k => XS.isub X16.here hx rfl (hb hby d1_33) rfl k) ?_
  show own_G _ _ _ (T16.setTop (mkF m 34 #[.val (.int p0), .val (.ref b1), .val (.ref da), .val (.int (3 : Int32)), .val (.int (0 : Int32)), .val (.int (1 : Int32))] [(.int (p0 - (1 : Int32)))])) _ _ _ _
  have hc20 : ¬ ((p0 - (1 : Int32)) < (0 : Int32)) := own_pos p0 (1 : Int32) hn (by decide) (own_nlt p0 (1 : Int32) (1 : Int32) hq.1 (by decide))
  refine own_go (fun _ k => XS.ifNo X16.here hx rfl (hb hby d1_34) rfl ((if0 _ _).trans (flt hc20).1) k) ?_
  show own_G _ _ _ (T16.setTop (mkF m 37 #[.val (.int p0), .val (.ref b1), .val (.ref da), .val (.int (3 : Int32)), .val (.int (0 : Int32)), .val (.int (1 : Int32))] [])) _ _ _ _
  refine own_go (fun _ k => XS.aloadN X16.here hx rfl (hb hby d1_37) rfl rfl k) ?_
  show own_G _ _ _ (T16.setTop (mkF m 38 #[.val (.int p0), .val (.ref b1), .val (.ref da), .val (.int (3 : Int32)), .val (.int (0 : Int32)), .val (.int (1 : Int32))] [(.ref b1)])) _ _ _ _
  refine own_go (fun _ k => XS.iloadN X16.here hx rfl (hb hby d1_38) rfl k) ?_
  show own_G _ _ _ (T16.setTop (mkF m 39 #[.val (.int p0), .val (.ref b1), .val (.ref da), .val (.int (3 : Int32)), .val (.int (0 : Int32)), .val (.int (1 : Int32))] [(.int p0), (.ref b1)])) _ _ _ _
  refine own_go (fun _ k => XS.iload X16.here hx rfl (hb hby d1_39) rfl k) ?_
  show own_G _ _ _ (T16.setTop (mkF m 41 #[.val (.int p0), .val (.ref b1), .val (.ref da), .val (.int (3 : Int32)), .val (.int (0 : Int32)), .val (.int (1 : Int32))] [(.int (1 : Int32)), (.int p0), (.ref b1)])) _ _ _ _
  refine own_go (fun _ k => XS.isub X16.here hx rfl (hb hby d1_41) rfl k) ?_
  show own_G _ _ _ (T16.setTop (mkF m 42 #[.val (.int p0), .val (.ref b1), .val (.ref da), .val (.int (3 : Int32)), .val (.int (0 : Int32)), .val (.int (1 : Int32))] [(.int (p0 - (1 : Int32))), (.ref b1)])) _ _ _ _
  obtain ⟨_, _, ⟨T21, L21, k21, n21⟩, -, X21, ⟨Lc21, hQ21, l21, y21, z21⟩, st21⟩ := Jvm.LawKit.callS X16 hx (y := (⟨"java/lang/Integer", "valueOf", "(I)Ljava/lang/Integer;"⟩ : MethodName)) hown (mvT hZ (hw _ (List.mem_of_getElem? (i := 43) rfl))) (mvT hZ (hw _ (List.mem_of_getElem? (i := 44) rfl))) (mvT hZ (hw _ (List.mem_of_getElem? (i := 45) rfl))) (mvT hZ (hw _ (List.mem_of_getElem? (i := 46) rfl))) (by decide) (backOf (W := 1) (rm7 l Z a0 hw [] (p0 - (1 : Int32)) ca cc T11.heap n0 Zs11 f12 P_ZS_java_lang_Integer_IntegerCache_high P_ZS_java_lang_Integer_IntegerCache_cache bx (own_pos p0 (1 : Int32) hn (by decide) (own_nlt p0 (1 : Int32) (1 : Int32) hq.1 (by decide)))) hZ (hw _ (List.mem_of_getElem? (i := 46) rfl)) (hw _ (List.mem_of_getElem? (i := 45) rfl)) (by decide) (by decide)) (g := (mkF m 42 #[.val (.int p0), .val (.ref b1), .val (.ref da), .val (.int (3 : Int32)), .val (.int (0 : Int32)), .val (.int (1 : Int32))] [(.int (p0 - (1 : Int32))), (.ref b1)])) rfl (by rw [hml]; rfl) (argsL := [(.int (p0 - (1 : Int32)))]) (rest := [(.ref b1)]) (lenOf pd_8 rfl) rfl (by show 2 * 0 + _ ≤ _; exact Nat.le_of_eq rfl) (hb hby d1_42) (fun _ _ => ⟨rfl, e16, (by decide : 1 + 1 ≤ _), (by decide : 3 + 1 ≤ _)⟩)
  dsimp only [Pt.U, Pt.locs, Pt.cells, Pt.slots] at X21 l21 y21 z21 st21 hQ21
  subst l21 y21 z21
  obtain ⟨b21, rfl, Nq21, Kq21, r21_0, r21_1⟩ := hQ21
  have N21 := Fr.app N11 Nq21
  have f22 : Old Z n0 T21.heap := f12.keep Kq21 all0
  have f23 : Arv Z T21.heap d0 k0 (.object "java/lang/Object") (0 : Int32) [] .null := f13.keep Kq21 nin0
  have f24 : Arv Z T21.heap da kd .int (3 : Int32) [(.int (1 : Int32)), (.int (7 : Int32)), (.int (31 : Int32))] (.int (0 : Int32)) := f14.keep Kq21 nin0
  have f25 : Exa Z T21.heap b1 "java/util/ArrayList" := r11_0.keep Kq21
  have f26 : Fld Z T21.heap b1 "java/util/AbstractList" "modCount" "I" (.int (0 : Int32)) := r11_1.keep Kq21 nin0
  have f27 : Fld Z T21.heap b1 "java/util/ArrayList" "elementData" "[Ljava/lang/Object;" (.ref d0) := r11_2.keep Kq21 nin0
  have f28 : Fld Z T21.heap b1 "java/util/ArrayList" "size" "I" (.int (0 : Int32)) := r11_3.keep Kq21 nin0
  have Zs21 : n0 ≤ T21.heap.size := Nat.le_trans Zs11 Kq21.1
  have K21_0 : Keep h0 T21.heap [] := K11_0.trans Kq21 all0
  refine own_go (fun _ k => st21 _ k) ?_
  show own_G _ _ _ (T21.setTop (mkF m 45 #[.val (.int p0), .val (.ref b1), .val (.ref da), .val (.int (3 : Int32)), .val (.int (0 : Int32)), .val (.int (1 : Int32))] [(.ref b21), (.ref b1)])) _ _ _ _
  obtain ⟨cq29, kq29, q29a, q29b, q29c⟩ := isOf hZ rfl f25
  obtain ⟨_, _, ⟨T29, L29, k29, n29⟩, -, X29, ⟨Lc29, hQ29, l29, y29, z29⟩, st29⟩ := X21.interfaceBack hx (xi := (⟨"java/util/List", "add", "(Ljava/lang/Object;)Z"⟩ : MethodName)) (y := (⟨"java/util/ArrayList", "add", "(Ljava/lang/Object;)Z"⟩ : MethodName)) hown (mvT hZ (hw _ (List.mem_of_getElem? (i := 50) rfl))) (mvT hZ (hw _ (List.mem_of_getElem? (i := 51) rfl))) (mvT hZ (hw _ (List.mem_of_getElem? (i := 52) rfl))) (mvT hZ (hw _ (List.mem_of_getElem? (i := 53) rfl))) (mvT hZ (hw _ (List.mem_of_getElem? (i := 54) rfl))) (mvT hZ (hw _ (List.mem_of_getElem? (i := 55) rfl))) (mvT hZ (hw _ (List.mem_of_getElem? (i := 56) rfl))) (mvT hZ (hw _ (List.mem_of_getElem? (i := 39) rfl))) (by decide) (backOf (W := 0) (rm8a l Z a0 hw [] b1 b21 (0 : Int32) d0 k0 T21.heap n0 Zs21 f25 f26 f27 f28 gg1 f22 P_ZS_java_util_ArrayList_DEFAULTCAPACITY_EMPTY_ELEMENTDATA f23 r21_0) hZ (hw _ (List.mem_of_getElem? (i := 57) rfl)) (hw _ (List.mem_of_getElem? (i := 6) rfl)) (by decide) (by decide)) q29a q29b q29c (g := (mkF m 45 #[.val (.int p0), .val (.ref b1), .val (.ref da), .val (.int (3 : Int32)), .val (.int (0 : Int32)), .val (.int (1 : Int32))] [(.ref b21), (.ref b1)])) rfl (by rw [hml]; rfl) (Steps.refl _) (argsL := [(.ref b21)]) (rest := []) (lenOf pd_9 rfl) rfl (by show 2 * 0 + _ ≤ _; exact Nat.le_of_eq rfl) (hb hby d1_45) (fun _ _ => ⟨rfl, rfl, (by decide : 2 + 1 ≤ _), (by decide : 4 + 10 ≤ _)⟩)
  dsimp only [Pt.U, Pt.locs, Pt.cells, Pt.slots] at X29 l29 y29 z29 st29 hQ29
  subst l29 y29 z29
  obtain ⟨na29, kn29, rfl, Nq29, Kq29, r29_0, r29_1, r29_2, r29_3, r29_4, r29_5, r29_6⟩ := hQ29
  have N29 := Fr.app N21 Nq29
  have ne30 : d0 ≠ na29 := Nat.ne_of_lt (Nat.lt_of_lt_of_le f23.lt r29_0)
  have ne31 : da ≠ na29 := Nat.ne_of_lt (Nat.lt_of_lt_of_le f24.lt r29_0)
  have ne32 : b1 ≠ na29 := Nat.ne_of_lt (Nat.lt_of_lt_of_le f25.lt r29_0)
  have ne33 : b21 ≠ na29 := Nat.ne_of_lt (Nat.lt_of_lt_of_le r21_0.lt r29_0)
  have gg_na29 : n0 ≤ na29 := Nat.le_trans Zs21 r29_0
  have sz_na29_0 : h0.size ≤ na29 := Nat.le_trans K21_0.1 r29_0
  have f34 : Old Z n0 T29.heap := f22.keep Kq29 (allS gg1 all0)
  have f35 : Arv Z T29.heap d0 k0 (.object "java/lang/Object") (0 : Int32) [] .null := f23.keep Kq29 (ninS ne2 nin0)
  have f36 : Arv Z T29.heap da kd .int (3 : Int32) [(.int (1 : Int32)), (.int (7 : Int32)), (.int (31 : Int32))] (.int (0 : Int32)) := f24.keep Kq29 (ninS ne3 nin0)
  have f37 : Exa Z T29.heap b1 "java/util/ArrayList" := f25.keep Kq29
  have f38 : Exa Z T29.heap b21 "java/lang/Integer" := r21_0.keep Kq29
  have f39 : Fld Z T29.heap b21 "java/lang/Integer" "value" "I" (.int (p0 - (1 : Int32))) := r21_1.keep Kq29 (ninS (ne_exa r21_0 f25 (by decide)) nin0)
  have Zs29 : n0 ≤ T29.heap.size := Nat.le_trans Zs21 Kq29.1
  have K29_0 : Keep h0 T29.heap [] := K21_0.trans Kq29 (allS (Or.inr sz1_0) all0)
  have r29_2' : Fld Z T29.heap b1 "java/util/AbstractList" "modCount" "I" (.int (1 : Int32)) := r29_2
  refine own_tr st29 ?_
  show own_G _ _ _ (T29.setTop (mkF m 50 #[.val (.int p0), .val (.ref b1), .val (.ref da), .val (.int (3 : Int32)), .val (.int (0 : Int32)), .val (.int (1 : Int32))] [(.int (1 : Int32))])) _ _ _ _
  refine own_go (fun _ k => XS.pop X29.here hx rfl (hb hby d1_50) rfl rfl k) ?_
  show own_G _ _ _ (T29.setTop (mkF m 51 #[.val (.int p0), .val (.ref b1), .val (.ref da), .val (.int (3 : Int32)), .val (.int (0 : Int32)), .val (.int (1 : Int32))] [])) _ _ _ _
  refine own_go (fun _ k => XS.iinc X29.here hx rfl (hb hby d1_51) rfl (l' := #[.val (.int p0), .val (.ref b1), .val (.ref da), .val (.int (3 : Int32)), .val (.int (1 : Int32)), .val (.int (1 : Int32))]) rfl k) ?_
  show own_G _ _ _ (T29.setTop (mkF m 54 #[.val (.int p0), .val (.ref b1), .val (.ref da), .val (.int (3 : Int32)), .val (.int (1 : Int32)), .val (.int (1 : Int32))] [])) _ _ _ _
  refine own_go (fun _ k => XS.goto X29.here hx rfl (pc0 := 54) (pc' := 18) rfl (hb hby d1_54) (by decide) (by decide) k) ?_
  show own_G _ _ _ (T29.setTop (mkF m 18 #[.val (.int p0), .val (.ref b1), .val (.ref da), .val (.int (3 : Int32)), .val (.int (1 : Int32)), .val (.int (1 : Int32))] [])) _ _ _ _
  refine own_go (fun _ k => XS.iload X29.here hx rfl (hb hby d1_18) rfl k) ?_
  show own_G _ _ _ (T29.setTop (mkF m 20 #[.val (.int p0), .val (.ref b1), .val (.ref da), .val (.int (3 : Int32)), .val (.int (1 : Int32)), .val (.int (1 : Int32))] [(.int (1 : Int32))])) _ _ _ _
  refine own_go (fun _ k => XS.iloadN X29.here hx rfl (hb hby d1_20) rfl k) ?_
  show own_G _ _ _ (T29.setTop (mkF m 21 #[.val (.int p0), .val (.ref b1), .val (.ref da), .val (.int (3 : Int32)), .val (.int (1 : Int32)), .val (.int (1 : Int32))] [(.int (3 : Int32)), (.int (1 : Int32))])) _ _ _ _
  have hc40 : (1 : Int32) < (3 : Int32) := (by decide)
  refine own_go (fun _ k => XS.icmpNo X29.here hx rfl (hb hby d1_21) rfl (tlt hc40).2.1 k) ?_
  show own_G _ _ _ (T29.setTop (mkF m 24 #[.val (.int p0), .val (.ref b1), .val (.ref da), .val (.int (3 : Int32)), .val (.int (1 : Int32)), .val (.int (1 : Int32))] [])) _ _ _ _
  refine own_go (fun _ k => XS.aloadN X29.here hx rfl (hb hby d1_24) rfl rfl k) ?_
  show own_G _ _ _ (T29.setTop (mkF m 25 #[.val (.int p0), .val (.ref b1), .val (.ref da), .val (.int (3 : Int32)), .val (.int (1 : Int32)), .val (.int (1 : Int32))] [(.ref da)])) _ _ _ _
  refine own_go (fun _ k => XS.iload X29.here hx rfl (hb hby d1_25) rfl k) ?_
  show own_G _ _ _ (T29.setTop (mkF m 27 #[.val (.int p0), .val (.ref b1), .val (.ref da), .val (.int (3 : Int32)), .val (.int (1 : Int32)), .val (.int (1 : Int32))] [(.int (1 : Int32)), (.ref da)])) _ _ _ _
  obtain ⟨cl41, Ar41, q41, S41, Ng41, H41, G41⟩ := id f36
  have in41 : ¬ ((1 : Int32) < 0 ∨ cl41.slots.size ≤ ((1 : Int32)).toNatClampNeg) := inb_of S41 ⟨by decide, by decide⟩
  have at41 : cl41.slots[((1 : Int32)).toNatClampNeg]? = some (.int (7 : Int32)) := H41.at in41 rfl
  refine own_go (fun _ k => X29.iaload hx (j := (1 : Int32)) (v := (.int (7 : Int32))) (by exact Ar41.1) (State.isArrayOf_alike hZ.alike Ar41.2.1) Ar41.2.2 in41 at41 (g := (mkF m 27 #[.val (.int p0), .val (.ref b1), .val (.ref da), .val (.int (3 : Int32)), .val (.int (1 : Int32)), .val (.int (1 : Int32))] [(.int (1 : Int32)), (.ref da)])) rfl rfl (hb hby d1_27) _ k) ?_
  show own_G _ _ _ (T29.setTop (mkF m 28 #[.val (.int p0), .val (.ref b1), .val (.ref da), .val (.int (3 : Int32)), .val (.int (1 : Int32)), .val (.int (1 : Int32))] [(.int (7 : Int32))])) _ _ _ _
  refine own_go (fun _ k => XS.istore X29.here hx rfl (hb hby d1_28) rfl (l' := #[.val (.int p0), .val (.ref b1), .val (.ref da), .val (.int (3 : Int32)), .val (.int (1 : Int32)), .val (.int (7 : Int32))]) rfl k) ?_
  show own_G _ _ _ (T29.setTop (mkF m 30 #[.val (.int p0), .val (.ref b1), .val (.ref da), .val (.int (3 : Int32)), .val (.int (1 : Int32)), .val (.int (7 : Int32))] [])) _ _ _ _
  refine own_go (fun _ k => XS.iloadN X29.here hx rfl (hb hby d1_30) rfl k) ?_
  show own_G _ _ _ (T29.setTop (mkF m 31 #[.val (.int p0), .val (.ref b1), .val (.ref da), .val (.int (3 : Int32)), .val (.int (1 : Int32)), .val (.int (7 : Int32))] [(.int p0)])) _ _ _ _
  refine own_go (fun _ k => XS.iload X29.here hx rfl (hb hby d1_31) rfl k) ?_
  show own_G _ _ _ (T29.setTop (mkF m 33 #[.val (.int p0), .val (.ref b1), .val (.ref da), .val (.int (3 : Int32)), .val (.int (1 : Int32)), .val (.int (7 : Int32))] [(.int (7 : Int32)), (.int p0)])) _ _ _ _
  refine own_go (fun _ k => XS.isub X29.here hx rfl (hb hby d1_33) rfl k) ?_
  show own_G _ _ _ (T29.setTop (mkF m 34 #[.val (.int p0), .val (.ref b1), .val (.ref da), .val (.int (3 : Int32)), .val (.int (1 : Int32)), .val (.int (7 : Int32))] [(.int (p0 - (7 : Int32)))])) _ _ _ _
  have hc42 : (p0 - (7 : Int32)) < (0 : Int32) := own_neg p0 (7 : Int32) hn (by decide) (own_lt p0 (7 : Int32) (7 : Int32) hq.2 (by decide))
  refine own_go (fun _ k => XS.ifYes X29.here hx rfl (pc0 := 34) (pc' := 51) rfl (hb hby d1_34) rfl ((if0 _ _).trans (tlt hc42).1) (by decide) (by decide) k) ?_
  show own_G _ _ _ (T29.setTop (mkF m 51 #[.val (.int p0), .val (.ref b1), .val (.ref da), .val (.int (3 : Int32)), .val (.int (1 : Int32)), .val (.int (7 : Int32))] [])) _ _ _ _
  refine own_go (fun _ k => XS.iinc X29.here hx rfl (hb hby d1_51) rfl (l' := #[.val (.int p0), .val (.ref b1), .val (.ref da), .val (.int (3 : Int32)), .val (.int (2 : Int32)), .val (.int (7 : Int32))]) rfl k) ?_
  show own_G _ _ _ (T29.setTop (mkF m 54 #[.val (.int p0), .val (.ref b1), .val (.ref da), .val (.int (3 : Int32)), .val (.int (2 : Int32)), .val (.int (7 : Int32))] [])) _ _ _ _
  refine own_go (fun _ k => XS.goto X29.here hx rfl (pc0 := 54) (pc' := 18) rfl (hb hby d1_54) (by decide) (by decide) k) ?_
  show own_G _ _ _ (T29.setTop (mkF m 18 #[.val (.int p0), .val (.ref b1), .val (.ref da), .val (.int (3 : Int32)), .val (.int (2 : Int32)), .val (.int (7 : Int32))] [])) _ _ _ _
  refine own_go (fun _ k => XS.iload X29.here hx rfl (hb hby d1_18) rfl k) ?_
  show own_G _ _ _ (T29.setTop (mkF m 20 #[.val (.int p0), .val (.ref b1), .val (.ref da), .val (.int (3 : Int32)), .val (.int (2 : Int32)), .val (.int (7 : Int32))] [(.int (2 : Int32))])) _ _ _ _
  refine own_go (fun _ k => XS.iloadN X29.here hx rfl (hb hby d1_20) rfl k) ?_
  show own_G _ _ _ (T29.setTop (mkF m 21 #[.val (.int p0), .val (.ref b1), .val (.ref da), .val (.int (3 : Int32)), .val (.int (2 : Int32)), .val (.int (7 : Int32))] [(.int (3 : Int32)), (.int (2 : Int32))])) _ _ _ _
  have hc43 : (2 : Int32) < (3 : Int32) := (by decide)
  refine own_go (fun _ k => XS.icmpNo X29.here hx rfl (hb hby d1_21) rfl (tlt hc43).2.1 k) ?_
  show own_G _ _ _ (T29.setTop (mkF m 24 #[.val (.int p0), .val (.ref b1), .val (.ref da), .val (.int (3 : Int32)), .val (.int (2 : Int32)), .val (.int (7 : Int32))] [])) _ _ _ _
  refine own_go (fun _ k => XS.aloadN X29.here hx rfl (hb hby d1_24) rfl rfl k) ?_
  show own_G _ _ _ (T29.setTop (mkF m 25 #[.val (.int p0), .val (.ref b1), .val (.ref da), .val (.int (3 : Int32)), .val (.int (2 : Int32)), .val (.int (7 : Int32))] [(.ref da)])) _ _ _ _
  refine own_go (fun _ k => XS.iload X29.here hx rfl (hb hby d1_25) rfl k) ?_
  show own_G _ _ _ (T29.setTop (mkF m 27 #[.val (.int p0), .val (.ref b1), .val (.ref da), .val (.int (3 : Int32)), .val (.int (2 : Int32)), .val (.int (7 : Int32))] [(.int (2 : Int32)), (.ref da)])) _ _ _ _
  obtain ⟨cl44, Ar44, q44, S44, Ng44, H44, G44⟩ := id f36
  have in44 : ¬ ((2 : Int32) < 0 ∨ cl44.slots.size ≤ ((2 : Int32)).toNatClampNeg) := inb_of S44 ⟨by decide, by decide⟩
  have at44 : cl44.slots[((2 : Int32)).toNatClampNeg]? = some (.int (31 : Int32)) := H44.at in44 rfl
  refine own_go (fun _ k => X29.iaload hx (j := (2 : Int32)) (v := (.int (31 : Int32))) (by exact Ar44.1) (State.isArrayOf_alike hZ.alike Ar44.2.1) Ar44.2.2 in44 at44 (g := (mkF m 27 #[.val (.int p0), .val (.ref b1), .val (.ref da), .val (.int (3 : Int32)), .val (.int (2 : Int32)), .val (.int (7 : Int32))] [(.int (2 : Int32)), (.ref da)])) rfl rfl (hb hby d1_27) _ k) ?_
  show own_G _ _ _ (T29.setTop (mkF m 28 #[.val (.int p0), .val (.ref b1), .val (.ref da), .val (.int (3 : Int32)), .val (.int (2 : Int32)), .val (.int (7 : Int32))] [(.int (31 : Int32))])) _ _ _ _
  refine own_go (fun _ k => XS.istore X29.here hx rfl (hb hby d1_28) rfl (l' := #[.val (.int p0), .val (.ref b1), .val (.ref da), .val (.int (3 : Int32)), .val (.int (2 : Int32)), .val (.int (31 : Int32))]) rfl k) ?_
  show own_G _ _ _ (T29.setTop (mkF m 30 #[.val (.int p0), .val (.ref b1), .val (.ref da), .val (.int (3 : Int32)), .val (.int (2 : Int32)), .val (.int (31 : Int32))] [])) _ _ _ _
  refine own_go (fun _ k => XS.iloadN X29.here hx rfl (hb hby d1_30) rfl k) ?_
  show own_G _ _ _ (T29.setTop (mkF m 31 #[.val (.int p0), .val (.ref b1), .val (.ref da), .val (.int (3 : Int32)), .val (.int (2 : Int32)), .val (.int (31 : Int32))] [(.int p0)])) _ _ _ _
  refine own_go (fun _ k => XS.iload X29.here hx rfl (hb hby d1_31) rfl k) ?_
  show own_G _ _ _ (T29.setTop (mkF m 33 #[.val (.int p0), .val (.ref b1), .val (.ref da), .val (.int (3 : Int32)), .val (.int (2 : Int32)), .val (.int (31 : Int32))] [(.int (31 : Int32)), (.int p0)])) _ _ _ _
  refine own_go (fun _ k => XS.isub X29.here hx rfl (hb hby d1_33) rfl k) ?_
  show own_G _ _ _ (T29.setTop (mkF m 34 #[.val (.int p0), .val (.ref b1), .val (.ref da), .val (.int (3 : Int32)), .val (.int (2 : Int32)), .val (.int (31 : Int32))] [(.int (p0 - (31 : Int32)))])) _ _ _ _
  have hc45 : (p0 - (31 : Int32)) < (0 : Int32) := own_neg p0 (31 : Int32) hn (by decide) (own_lt p0 (7 : Int32) (31 : Int32) hq.2 (by decide))
  refine own_go (fun _ k => XS.ifYes X29.here hx rfl (pc0 := 34) (pc' := 51) rfl (hb hby d1_34) rfl ((if0 _ _).trans (tlt hc45).1) (by decide) (by decide) k) ?_
  show own_G _ _ _ (T29.setTop (mkF m 51 #[.val (.int p0), .val (.ref b1), .val (.ref da), .val (.int (3 : Int32)), .val (.int (2 : Int32)), .val (.int (31 : Int32))] [])) _ _ _ _
  refine own_go (fun _ k => XS.iinc X29.here hx rfl (hb hby d1_51) rfl (l' := #[.val (.int p0), .val (.ref b1), .val (.ref da), .val (.int (3 : Int32)), .val (.int (3 : Int32)), .val (.int (31 : Int32))]) rfl k) ?_
  show own_G _ _ _ (T29.setTop (mkF m 54 #[.val (.int p0), .val (.ref b1), .val (.ref da), .val (.int (3 : Int32)), .val (.int (3 : Int32)), .val (.int (31 : Int32))] [])) _ _ _ _
  refine own_go (fun _ k => XS.goto X29.here hx rfl (pc0 := 54) (pc' := 18) rfl (hb hby d1_54) (by decide) (by decide) k) ?_
  show own_G _ _ _ (T29.setTop (mkF m 18 #[.val (.int p0), .val (.ref b1), .val (.ref da), .val (.int (3 : Int32)), .val (.int (3 : Int32)), .val (.int (31 : Int32))] [])) _ _ _ _
  refine own_go (fun _ k => XS.iload X29.here hx rfl (hb hby d1_18) rfl k) ?_
  show own_G _ _ _ (T29.setTop (mkF m 20 #[.val (.int p0), .val (.ref b1), .val (.ref da), .val (.int (3 : Int32)), .val (.int (3 : Int32)), .val (.int (31 : Int32))] [(.int (3 : Int32))])) _ _ _ _
  refine own_go (fun _ k => XS.iloadN X29.here hx rfl (hb hby d1_20) rfl k) ?_
  show own_G _ _ _ (T29.setTop (mkF m 21 #[.val (.int p0), .val (.ref b1), .val (.ref da), .val (.int (3 : Int32)), .val (.int (3 : Int32)), .val (.int (31 : Int32))] [(.int (3 : Int32)), (.int (3 : Int32))])) _ _ _ _
  have hc46 : ¬ ((3 : Int32) < (3 : Int32)) := (by decide)
  refine own_go (fun _ k => XS.icmpYes X29.here hx rfl (pc0 := 21) (pc' := 57) rfl (hb hby d1_21) rfl (flt hc46).2.1 (by decide) (by decide) k) ?_
  show own_G _ _ _ (T29.setTop (mkF m 57 #[.val (.int p0), .val (.ref b1), .val (.ref da), .val (.int (3 : Int32)), .val (.int (3 : Int32)), .val (.int (31 : Int32))] [])) _ _ _ _
  refine own_go (fun _ k => XS.aloadN X29.here hx rfl (hb hby d1_57) rfl rfl k) ?_
  show own_G _ _ _ (T29.setTop (mkF m 58 #[.val (.int p0), .val (.ref b1), .val (.ref da), .val (.int (3 : Int32)), .val (.int (3 : Int32)), .val (.int (31 : Int32))] [(.ref b1)])) _ _ _ _
  exact own_endR X29 hx hlk Bd.returns rfl rfl rfl (hb hby d1_58) (by decide) (by decide) (Q := (Q1b Z p0 d0 k0 ca cc da kd h0 n0)) ⟨b1, na29, kn29, b21, rfl, N29, K29_0, r29_1, r29_4, r29_3, r29_5, f38, f39⟩
def Q1c (Z : State) (p0 : Int32) (d0 : Addr) (k0 : ClassId) (ca : Addr) (cc : Cell) (da : Addr) (kd : ClassId) (h0 : Heap) (n0 : Nat) (v : Option Value) (h : Heap) (L : List Loc) : Prop := ∃ (b : Addr) (na : Addr) (kn : ClassId) (el0 : Addr) (el1 : Addr), v = some (.ref b) ∧ Fr n0 L ∧ Keep h0 h [] ∧ Exa Z h b "java/util/ArrayList" ∧ Fld Z h b "java/util/ArrayList" "size" "I" (.int (2 : Int32)) ∧ Fld Z h b "java/util/ArrayList" "elementData" "[Ljava/lang/Object;" (.ref na) ∧ Arv Z h na kn (.object "java/lang/Object") (10 : Int32) [(.ref el0), (.ref el1), .null, .null, .null, .null, .null, .null, .null, .null] .null ∧ Exa Z h el0 "java/lang/Integer" ∧ Fld Z h el0 "java/lang/Integer" "value" "I" (.int (p0 - (1 : Int32))) ∧ Exa Z h el1 "java/lang/Integer" ∧ Fld Z h el1 "java/lang/Integer" "value" "I" (.int (p0 - (7 : Int32)))
set_option maxRecDepth 65536 in
set_option maxHeartbeats 40000000 in
theorem rm1c (l : Launch) (Z : State) (a0 : Array Value) (hw : ∀ d ∈ tables_1, d.before a0 Z = true) (ws : List Jvm.Cond) (p0 : Int32) (d0 : Addr) (k0 : ClassId) (ca : Addr) (cc : Cell) (da : Addr) (kd : ClassId) (h0 : Heap) (n0 : Nat) (Z0 : n0 ≤ h0.size) (P_Old : Old Z n0 h0) (P_ZS_java_util_ArrayList_DEFAULTCAPACITY_EMPTY_ELEMENTDATA : Sta Z Z.heap "java/util/ArrayList" "DEFAULTCAPACITY_EMPTY_ELEMENTDATA" "[Ljava/lang/Object;" (.ref d0)) (P_V_d0 : Arv Z h0 d0 k0 (.object "java/lang/Object") (0 : Int32) [] .null) (P_ZS_java_lang_Integer_IntegerCache_high : Sta Z Z.heap "java/lang/Integer$IntegerCache" "high" "I" (.int (127 : Int32))) (P_ZS_java_lang_Integer_IntegerCache_cache : Sta Z Z.heap "java/lang/Integer$IntegerCache" "cache" "[Ljava/lang/Integer;" (.ref ca)) (bx : Bxs Z ca cc "java/lang/Integer" "I" (256 : Int32) (fun j => .int (j - 128))) (P_ZS_com_example_mini_wire_bench_Application_DISTANCES : Sta Z Z.heap "com/example/mini_wire/bench/Application" "DISTANCES" "[I" (.ref da)) (P_V_da : Arv Z h0 da kd .int (3 : Int32) [(.int (1 : Int32)), (.int (7 : Int32)), (.int (31 : Int32))] (.int (0 : Int32))) (hn : 0 ≤ p0.toInt) (hq : ¬ p0 < 7 ∧ p0 < 31) :
    MetFree l (⟨"com/example/mini_wire/bench/Application", "dependencies", "(I)Ljava/util/List;"⟩ : MethodName) (head1 (Jvm.Cond.code (⟨"com/example/mini_wire/bench/Application", "dependencies", "(I)Ljava/util/List;"⟩ : MethodName) prog_1_method_3_code 6 (some (.object "java/util/List")) :: ws) ({ frames := 5, cells := 4, slots := 15, locals := 69 } : Room)) (fun a U => a = #[(.int p0)] ∧ Z.Warmed39 U.vm ∧ U.heap = h0) (fun _ _ _ _ _ => True) (fun _ U o U' => ∃ v L, o = .returned v ∧ (Q1c Z p0 d0 k0 ca cc da kd h0 n0) v U'.heap L ∧ FrameEnd U o U' L ({ frames := 5, cells := 4, slots := 15, locals := 69 } : Room).cells ({ frames := 5, cells := 4, slots := 15, locals := 69 } : Room).slots) := by
  refine MetFree.of_bodySF (plainFor_of_name pn_7) hisR ?_
  intro p e s m args below meth c s₁ Bd hml0 hP hK
  obtain ⟨rfl, hZ, hh⟩ := hP
  have hx := Bd.exec
  have hby := Bd.bytes
  have hml : c.maxLocals = 6 := hml0
  have hown : s.vm.findClass "com/example/mini_wire/bench/Application" = some m.cls := findClass_of_methodNamed Bd.named
  have hnm := (name_of_methodNamed Bd.named Bd.method).1
  have hlk : meth.locks = false := BodyLoose.notSynchronized Bd
  have X0 : Stand p l e ({ frames := 5, cells := 4, slots := 15, locals := 69 } : Room) s m #[(.int p0)] below meth c s₁ [] 0 0 := Stand.of_body Bd
  have e0 : s₁.heap = h0 := by rw [← hh, Bd.state]; rfl
  have N0 := Fr.nil n0
  have K0 : Keep h0 h0 [] := Keep.refl h0 []
  show own_G p.tables e below (s₁.setTop (entryFrame m #[(.int p0)] 6)) s ({ frames := 5, cells := 4, slots := 15, locals := 69 } : Room).cells ({ frames := 5, cells := 4, slots := 15, locals := 69 } : Room).slots (Q1c Z p0 d0 k0 ca cc da kd h0 n0)
  refine own_go (fun _ k => castTop (ef_1a m p0) k) ?_
  show own_G _ _ _ (s₁.setTop (mkF m 0 #[.val (.int p0), .unset, .unset, .unset, .unset, .unset] [])) _ _ _ _
  obtain ⟨T1, h1, X1, e1, E1, A1, D1, -, st1⟩ := newO X0 hx hZ hown (hw _ (List.mem_of_getElem? (i := 4) rfl)) (hw _ (List.mem_of_getElem? (i := 5) rfl)) (hw _ (List.mem_of_getElem? (i := 6) rfl)) e0 (g := (mkF m 0 #[.val (.int p0), .unset, .unset, .unset, .unset, .unset] [])) rfl (hb hby d1_0) (by decide) (by decide)
  obtain ⟨b1, g1⟩ : ∃ z, z = h0.size := ⟨_, rfl⟩
  rw [← g1] at A1 D1 st1
  have ne2 : d0 ≠ b1 := Nat.ne_of_lt (Nat.lt_of_lt_of_le P_V_d0.lt (Nat.le_of_eq g1.symm))
  have ne3 : da ≠ b1 := Nat.ne_of_lt (Nat.lt_of_lt_of_le P_V_da.lt (Nat.le_of_eq g1.symm))
  have gg1 : n0 ≤ b1 := Nat.le_trans Z0 (Nat.le_of_eq g1.symm)
  have sz1_0 : h0.size ≤ b1 := Nat.le_trans K0.1 (Nat.le_of_eq g1.symm)
  have Zs1 : n0 ≤ h1.size := Nat.le_trans Z0 E1.1
  have K1_0 : Keep h0 h1 [] := K0.ext E1
  have f4 : Old Z n0 h1 := P_Old.ext E1
  have f5 : Arv Z h1 d0 k0 (.object "java/lang/Object") (0 : Int32) [] .null := P_V_d0.ext E1
  have f6 : Arv Z h1 da kd .int (3 : Int32) [(.int (1 : Int32)), (.int (7 : Int32)), (.int (31 : Int32))] (.int (0 : Int32)) := P_V_da.ext E1
  have f7 : Exa Z h1 b1 "java/util/ArrayList" := A1
  have f8 : Fld Z h1 b1 "java/util/AbstractList" "modCount" "I" (.int (0 : Int32)) := D1 (Or.inl (hw _ (List.mem_of_getElem? (i := 26) rfl))) (ty := .int) (by decide)
  have f9 : Fld Z h1 b1 "java/util/ArrayList" "elementData" "[Ljava/lang/Object;" .null := D1 (Or.inl (hw _ (List.mem_of_getElem? (i := 29) rfl))) (ty := (.array (.object "java/lang/Object"))) (by decide)
  have f10 : Fld Z h1 b1 "java/util/ArrayList" "size" "I" (.int (0 : Int32)) := D1 (Or.inl (hw _ (List.mem_of_getElem? (i := 42) rfl))) (ty := .int) (by decide)
  refine own_go (fun _ k => st1 _ k) ?_
  show own_G _ _ _ (T1.setTop (mkF m 3 #[.val (.int p0), .unset, .unset, .unset, .unset, .unset] [(.ref b1)])) _ _ _ _
  refine own_go (fun _ k => XS.dup X1.here hx rfl (hb hby d1_3) rfl rfl k) ?_
  show own_G _ _ _ (T1.setTop (mkF m 4 #[.val (.int p0), .unset, .unset, .unset, .unset, .unset] [(.ref b1), (.ref b1)])) _ _ _ _
  obtain ⟨_, _, ⟨T11, L11, k11, n11⟩, -, X11, ⟨Lc11, hQ11, l11, y11, z11⟩, st11⟩ := X1.specialBack hx (y := (⟨"java/util/ArrayList", "<init>", "()V"⟩ : MethodName)) rfl hown (mvT hZ (hw _ (List.mem_of_getElem? (i := 7) rfl))) (mvT hZ (hw _ (List.mem_of_getElem? (i := 8) rfl))) (mvT hZ (hw _ (List.mem_of_getElem? (i := 9) rfl))) (by decide) (backOf (W := 1) (rm2 l Z a0 hw [] b1 d0 h1 n0 Zs1 f7 f8 f9 f10 gg1 f4 P_ZS_java_util_ArrayList_DEFAULTCAPACITY_EMPTY_ELEMENTDATA) hZ (hw _ (List.mem_of_getElem? (i := 9) rfl)) (hw _ (List.mem_of_getElem? (i := 6) rfl)) (by decide) (by decide)) (g := (mkF m 4 #[.val (.int p0), .unset, .unset, .unset, .unset, .unset] [(.ref b1), (.ref b1)])) rfl (by rw [hml]; rfl) (Steps.refl _) (a := b1) (argsL := []) (rest := [(.ref b1)]) (lenOf pd_0 rfl) rfl (by show 2 * 0 + _ ≤ _; exact Nat.le_of_eq rfl) (hb hby d1_4) (fun _ _ => ⟨rfl, e1, (by decide : 1 + 0 ≤ _), (by decide : 3 + 0 ≤ _)⟩)
  dsimp only [Pt.U, Pt.locs, Pt.cells, Pt.slots] at X11 l11 y11 z11 st11 hQ11
  subst l11 y11 z11
  obtain ⟨rfl, Nq11, Kq11, r11_0, r11_1, r11_2, r11_3⟩ := hQ11
  have N11 := Fr.app N0 Nq11
  have f12 : Old Z n0 T11.heap := f4.keep Kq11 (allS gg1 all0)
  have f13 : Arv Z T11.heap d0 k0 (.object "java/lang/Object") (0 : Int32) [] .null := f5.keep Kq11 (ninS ne2 nin0)
  have f14 : Arv Z T11.heap da kd .int (3 : Int32) [(.int (1 : Int32)), (.int (7 : Int32)), (.int (31 : Int32))] (.int (0 : Int32)) := f6.keep Kq11 (ninS ne3 nin0)
  have f15 : Exa Z T11.heap b1 "java/util/ArrayList" := f7.keep Kq11
  have Zs11 : n0 ≤ T11.heap.size := Nat.le_trans Zs1 Kq11.1
  have K11_0 : Keep h0 T11.heap [] := K1_0.trans Kq11 (allS (Or.inr sz1_0) all0)
  refine own_tr st11 ?_
  show own_G _ _ _ (T11.setTop (mkF m 7 #[.val (.int p0), .unset, .unset, .unset, .unset, .unset] [(.ref b1)])) _ _ _ _
  refine own_go (fun _ k => XS.astoreN X11.here hx rfl (hb hby d1_7) rfl rfl (l' := #[.val (.int p0), .val (.ref b1), .unset, .unset, .unset, .unset]) rfl k) ?_
  show own_G _ _ _ (T11.setTop (mkF m 8 #[.val (.int p0), .val (.ref b1), .unset, .unset, .unset, .unset] [])) _ _ _ _
  obtain ⟨T16, X16, e16, st16⟩ := getS2 X11 hx hZ hown (host := "") (Or.inl (hw _ (List.mem_of_getElem? (i := 30) rfl))) Via.refl rfl (P_ZS_com_example_mini_wire_bench_Application_DISTANCES.ext f12.2) (g := (mkF m 8 #[.val (.int p0), .val (.ref b1), .unset, .unset, .unset, .unset] [])) rfl (hb hby d1_8)
  refine own_go (fun _ k => st16 _ k) ?_
  show own_G _ _ _ (T16.setTop (mkF m 11 #[.val (.int p0), .val (.ref b1), .unset, .unset, .unset, .unset] [(.ref da)])) _ _ _ _
  refine own_go (fun _ k => XS.astoreN X16.here hx rfl (hb hby d1_11) rfl rfl (l' := #[.val (.int p0), .val (.ref b1), .val (.ref da), .unset, .unset, .unset]) rfl k) ?_
  show own_G _ _ _ (T16.setTop (mkF m 12 #[.val (.int p0), .val (.ref b1), .val (.ref da), .unset, .unset, .unset] [])) _ _ _ _
  refine own_go (fun _ k => XS.aloadN X16.here hx rfl (hb hby d1_12) rfl rfl k) ?_
  show own_G _ _ _ (T16.setTop (mkF m 13 #[.val (.int p0), .val (.ref b1), .val (.ref da), .unset, .unset, .unset] [(.ref da)])) _ _ _ _
  obtain ⟨cl17, Ar17, -, S17, Ng17, -, -⟩ := id f14
  refine own_go (fun _ k => X16.arraylength hx (by rw [e16]; exact Ar17.1) (State.isArrayOf_alike hZ.alike Ar17.2.1) (g := (mkF m 13 #[.val (.int p0), .val (.ref b1), .val (.ref da), .unset, .unset, .unset] [(.ref da)])) rfl rfl (hb hby d1_13) _ k) ?_
  rw [len_of S17 Ng17]
  show own_G _ _ _ (T16.setTop (mkF m 14 #[.val (.int p0), .val (.ref b1), .val (.ref da), .unset, .unset, .unset] [(.int (3 : Int32))])) _ _ _ _
  refine own_go (fun _ k => XS.istoreN X16.here hx rfl (hb hby d1_14) rfl (l' := #[.val (.int p0), .val (.ref b1), .val (.ref da), .val (.int (3 : Int32)), .unset, .unset]) rfl k) ?_
  show own_G _ _ _ (T16.setTop (mkF m 15 #[.val (.int p0), .val (.ref b1), .val (.ref da), .val (.int (3 : Int32)), .unset, .unset] [])) _ _ _ _
  refine own_go (fun _ k => XS.iconst X16.here hx rfl (hb hby d1_15) k) ?_
  show own_G _ _ _ (T16.setTop (mkF m 16 #[.val (.int p0), .val (.ref b1), .val (.ref da), .val (.int (3 : Int32)), .unset, .unset] [(.int (0 : Int32))])) _ _ _ _
  refine own_go (fun _ k => XS.istore X16.here hx rfl (hb hby d1_16) rfl (l' := #[.val (.int p0), .val (.ref b1), .val (.ref da), .val (.int (3 : Int32)), .val (.int (0 : Int32)), .unset]) rfl k) ?_
  show own_G _ _ _ (T16.setTop (mkF m 18 #[.val (.int p0), .val (.ref b1), .val (.ref da), .val (.int (3 : Int32)), .val (.int (0 : Int32)), .unset] [])) _ _ _ _
  refine own_go (fun _ k => XS.iload X16.here hx rfl (hb hby d1_18) rfl k) ?_
  show own_G _ _ _ (T16.setTop (mkF m 20 #[.val (.int p0), .val (.ref b1), .val (.ref da), .val (.int (3 : Int32)), .val (.int (0 : Int32)), .unset] [(.int (0 : Int32))])) _ _ _ _
  refine own_go (fun _ k => XS.iloadN X16.here hx rfl (hb hby d1_20) rfl k) ?_
  show own_G _ _ _ (T16.setTop (mkF m 21 #[.val (.int p0), .val (.ref b1), .val (.ref da), .val (.int (3 : Int32)), .val (.int (0 : Int32)), .unset] [(.int (3 : Int32)), (.int (0 : Int32))])) _ _ _ _
  have hc18 : (0 : Int32) < (3 : Int32) := (by decide)
  refine own_go (fun _ k => XS.icmpNo X16.here hx rfl (hb hby d1_21) rfl (tlt hc18).2.1 k) ?_
  show own_G _ _ _ (T16.setTop (mkF m 24 #[.val (.int p0), .val (.ref b1), .val (.ref da), .val (.int (3 : Int32)), .val (.int (0 : Int32)), .unset] [])) _ _ _ _
  refine own_go (fun _ k => XS.aloadN X16.here hx rfl (hb hby d1_24) rfl rfl k) ?_
  show own_G _ _ _ (T16.setTop (mkF m 25 #[.val (.int p0), .val (.ref b1), .val (.ref da), .val (.int (3 : Int32)), .val (.int (0 : Int32)), .unset] [(.ref da)])) _ _ _ _
  refine own_go (fun _ k => XS.iload X16.here hx rfl (hb hby d1_25) rfl k) ?_
  show own_G _ _ _ (T16.setTop (mkF m 27 #[.val (.int p0), .val (.ref b1), .val (.ref da), .val (.int (3 : Int32)), .val (.int (0 : Int32)), .unset] [(.int (0 : Int32)), (.ref da)])) _ _ _ _
  obtain ⟨cl19, Ar19, q19, S19, Ng19, H19, G19⟩ := id f14
  have in19 : ¬ ((0 : Int32) < 0 ∨ cl19.slots.size ≤ ((0 : Int32)).toNatClampNeg) := inb_of S19 ⟨by decide, by decide⟩
  have at19 : cl19.slots[((0 : Int32)).toNatClampNeg]? = some (.int (1 : Int32)) := H19.at in19 rfl
  refine own_go (fun _ k => X16.iaload hx (j := (0 : Int32)) (v := (.int (1 : Int32))) (by rw [e16]; exact Ar19.1) (State.isArrayOf_alike hZ.alike Ar19.2.1) Ar19.2.2 in19 at19 (g := (mkF m 27 #[.val (.int p0), .val (.ref b1), .val (.ref da), .val (.int (3 : Int32)), .val (.int (0 : Int32)), .unset] [(.int (0 : Int32)), (.ref da)])) rfl rfl (hb hby d1_27) _ k) ?_
  show own_G _ _ _ (T16.setTop (mkF m 28 #[.val (.int p0), .val (.ref b1), .val (.ref da), .val (.int (3 : Int32)), .val (.int (0 : Int32)), .unset] [(.int (1 : Int32))])) _ _ _ _
  refine own_go (fun _ k => XS.istore X16.here hx rfl (hb hby d1_28) rfl (l' := #[.val (.int p0), .val (.ref b1), .val (.ref da), .val (.int (3 : Int32)), .val (.int (0 : Int32)), .val (.int (1 : Int32))]) rfl k) ?_
  show own_G _ _ _ (T16.setTop (mkF m 30 #[.val (.int p0), .val (.ref b1), .val (.ref da), .val (.int (3 : Int32)), .val (.int (0 : Int32)), .val (.int (1 : Int32))] [])) _ _ _ _
  refine own_go (fun _ k => XS.iloadN X16.here hx rfl (hb hby d1_30) rfl k) ?_
  show own_G _ _ _ (T16.setTop (mkF m 31 #[.val (.int p0), .val (.ref b1), .val (.ref da), .val (.int (3 : Int32)), .val (.int (0 : Int32)), .val (.int (1 : Int32))] [(.int p0)])) _ _ _ _
  refine own_go (fun _ k => XS.iload X16.here hx rfl (hb hby d1_31) rfl k) ?_
  show own_G _ _ _ (T16.setTop (mkF m 33 #[.val (.int p0), .val (.ref b1), .val (.ref da), .val (.int (3 : Int32)), .val (.int (0 : Int32)), .val (.int (1 : Int32))] [(.int (1 : Int32)), (.int p0)])) _ _ _ _
  refine own_go (fun _ k => XS.isub X16.here hx rfl (hb hby d1_33) rfl k) ?_
  show own_G _ _ _ (T16.setTop (mkF m 34 #[.val (.int p0), .val (.ref b1), .val (.ref da), .val (.int (3 : Int32)), .val (.int (0 : Int32)), .val (.int (1 : Int32))] [(.int (p0 - (1 : Int32)))])) _ _ _ _
  have hc20 : ¬ ((p0 - (1 : Int32)) < (0 : Int32)) := own_pos p0 (1 : Int32) hn (by decide) (own_nlt p0 (1 : Int32) (7 : Int32) hq.1 (by decide))
  refine own_go (fun _ k => XS.ifNo X16.here hx rfl (hb hby d1_34) rfl ((if0 _ _).trans (flt hc20).1) k) ?_
  show own_G _ _ _ (T16.setTop (mkF m 37 #[.val (.int p0), .val (.ref b1), .val (.ref da), .val (.int (3 : Int32)), .val (.int (0 : Int32)), .val (.int (1 : Int32))] [])) _ _ _ _
  refine own_go (fun _ k => XS.aloadN X16.here hx rfl (hb hby d1_37) rfl rfl k) ?_
  show own_G _ _ _ (T16.setTop (mkF m 38 #[.val (.int p0), .val (.ref b1), .val (.ref da), .val (.int (3 : Int32)), .val (.int (0 : Int32)), .val (.int (1 : Int32))] [(.ref b1)])) _ _ _ _
  refine own_go (fun _ k => XS.iloadN X16.here hx rfl (hb hby d1_38) rfl k) ?_
  show own_G _ _ _ (T16.setTop (mkF m 39 #[.val (.int p0), .val (.ref b1), .val (.ref da), .val (.int (3 : Int32)), .val (.int (0 : Int32)), .val (.int (1 : Int32))] [(.int p0), (.ref b1)])) _ _ _ _
  refine own_go (fun _ k => XS.iload X16.here hx rfl (hb hby d1_39) rfl k) ?_
  show own_G _ _ _ (T16.setTop (mkF m 41 #[.val (.int p0), .val (.ref b1), .val (.ref da), .val (.int (3 : Int32)), .val (.int (0 : Int32)), .val (.int (1 : Int32))] [(.int (1 : Int32)), (.int p0), (.ref b1)])) _ _ _ _
  refine own_go (fun _ k => XS.isub X16.here hx rfl (hb hby d1_41) rfl k) ?_
  show own_G _ _ _ (T16.setTop (mkF m 42 #[.val (.int p0), .val (.ref b1), .val (.ref da), .val (.int (3 : Int32)), .val (.int (0 : Int32)), .val (.int (1 : Int32))] [(.int (p0 - (1 : Int32))), (.ref b1)])) _ _ _ _
  obtain ⟨_, _, ⟨T21, L21, k21, n21⟩, -, X21, ⟨Lc21, hQ21, l21, y21, z21⟩, st21⟩ := Jvm.LawKit.callS X16 hx (y := (⟨"java/lang/Integer", "valueOf", "(I)Ljava/lang/Integer;"⟩ : MethodName)) hown (mvT hZ (hw _ (List.mem_of_getElem? (i := 43) rfl))) (mvT hZ (hw _ (List.mem_of_getElem? (i := 44) rfl))) (mvT hZ (hw _ (List.mem_of_getElem? (i := 45) rfl))) (mvT hZ (hw _ (List.mem_of_getElem? (i := 46) rfl))) (by decide) (backOf (W := 1) (rm7 l Z a0 hw [] (p0 - (1 : Int32)) ca cc T11.heap n0 Zs11 f12 P_ZS_java_lang_Integer_IntegerCache_high P_ZS_java_lang_Integer_IntegerCache_cache bx (own_pos p0 (1 : Int32) hn (by decide) (own_nlt p0 (1 : Int32) (7 : Int32) hq.1 (by decide)))) hZ (hw _ (List.mem_of_getElem? (i := 46) rfl)) (hw _ (List.mem_of_getElem? (i := 45) rfl)) (by decide) (by decide)) (g := (mkF m 42 #[.val (.int p0), .val (.ref b1), .val (.ref da), .val (.int (3 : Int32)), .val (.int (0 : Int32)), .val (.int (1 : Int32))] [(.int (p0 - (1 : Int32))), (.ref b1)])) rfl (by rw [hml]; rfl) (argsL := [(.int (p0 - (1 : Int32)))]) (rest := [(.ref b1)]) (lenOf pd_8 rfl) rfl (by show 2 * 0 + _ ≤ _; exact Nat.le_of_eq rfl) (hb hby d1_42) (fun _ _ => ⟨rfl, e16, (by decide : 1 + 1 ≤ _), (by decide : 3 + 1 ≤ _)⟩)
  dsimp only [Pt.U, Pt.locs, Pt.cells, Pt.slots] at X21 l21 y21 z21 st21 hQ21
  subst l21 y21 z21
  obtain ⟨b21, rfl, Nq21, Kq21, r21_0, r21_1⟩ := hQ21
  have N21 := Fr.app N11 Nq21
  have f22 : Old Z n0 T21.heap := f12.keep Kq21 all0
  have f23 : Arv Z T21.heap d0 k0 (.object "java/lang/Object") (0 : Int32) [] .null := f13.keep Kq21 nin0
  have f24 : Arv Z T21.heap da kd .int (3 : Int32) [(.int (1 : Int32)), (.int (7 : Int32)), (.int (31 : Int32))] (.int (0 : Int32)) := f14.keep Kq21 nin0
  have f25 : Exa Z T21.heap b1 "java/util/ArrayList" := r11_0.keep Kq21
  have f26 : Fld Z T21.heap b1 "java/util/AbstractList" "modCount" "I" (.int (0 : Int32)) := r11_1.keep Kq21 nin0
  have f27 : Fld Z T21.heap b1 "java/util/ArrayList" "elementData" "[Ljava/lang/Object;" (.ref d0) := r11_2.keep Kq21 nin0
  have f28 : Fld Z T21.heap b1 "java/util/ArrayList" "size" "I" (.int (0 : Int32)) := r11_3.keep Kq21 nin0
  have Zs21 : n0 ≤ T21.heap.size := Nat.le_trans Zs11 Kq21.1
  have K21_0 : Keep h0 T21.heap [] := K11_0.trans Kq21 all0
  refine own_go (fun _ k => st21 _ k) ?_
  show own_G _ _ _ (T21.setTop (mkF m 45 #[.val (.int p0), .val (.ref b1), .val (.ref da), .val (.int (3 : Int32)), .val (.int (0 : Int32)), .val (.int (1 : Int32))] [(.ref b21), (.ref b1)])) _ _ _ _
  obtain ⟨cq29, kq29, q29a, q29b, q29c⟩ := isOf hZ rfl f25
  obtain ⟨_, _, ⟨T29, L29, k29, n29⟩, -, X29, ⟨Lc29, hQ29, l29, y29, z29⟩, st29⟩ := X21.interfaceBack hx (xi := (⟨"java/util/List", "add", "(Ljava/lang/Object;)Z"⟩ : MethodName)) (y := (⟨"java/util/ArrayList", "add", "(Ljava/lang/Object;)Z"⟩ : MethodName)) hown (mvT hZ (hw _ (List.mem_of_getElem? (i := 50) rfl))) (mvT hZ (hw _ (List.mem_of_getElem? (i := 51) rfl))) (mvT hZ (hw _ (List.mem_of_getElem? (i := 52) rfl))) (mvT hZ (hw _ (List.mem_of_getElem? (i := 53) rfl))) (mvT hZ (hw _ (List.mem_of_getElem? (i := 54) rfl))) (mvT hZ (hw _ (List.mem_of_getElem? (i := 55) rfl))) (mvT hZ (hw _ (List.mem_of_getElem? (i := 56) rfl))) (mvT hZ (hw _ (List.mem_of_getElem? (i := 39) rfl))) (by decide) (backOf (W := 0) (rm8a l Z a0 hw [] b1 b21 (0 : Int32) d0 k0 T21.heap n0 Zs21 f25 f26 f27 f28 gg1 f22 P_ZS_java_util_ArrayList_DEFAULTCAPACITY_EMPTY_ELEMENTDATA f23 r21_0) hZ (hw _ (List.mem_of_getElem? (i := 57) rfl)) (hw _ (List.mem_of_getElem? (i := 6) rfl)) (by decide) (by decide)) q29a q29b q29c (g := (mkF m 45 #[.val (.int p0), .val (.ref b1), .val (.ref da), .val (.int (3 : Int32)), .val (.int (0 : Int32)), .val (.int (1 : Int32))] [(.ref b21), (.ref b1)])) rfl (by rw [hml]; rfl) (Steps.refl _) (argsL := [(.ref b21)]) (rest := []) (lenOf pd_9 rfl) rfl (by show 2 * 0 + _ ≤ _; exact Nat.le_of_eq rfl) (hb hby d1_45) (fun _ _ => ⟨rfl, rfl, (by decide : 2 + 1 ≤ _), (by decide : 4 + 10 ≤ _)⟩)
  dsimp only [Pt.U, Pt.locs, Pt.cells, Pt.slots] at X29 l29 y29 z29 st29 hQ29
  subst l29 y29 z29
  obtain ⟨na29, kn29, rfl, Nq29, Kq29, r29_0, r29_1, r29_2, r29_3, r29_4, r29_5, r29_6⟩ := hQ29
  have N29 := Fr.app N21 Nq29
  have ne30 : d0 ≠ na29 := Nat.ne_of_lt (Nat.lt_of_lt_of_le f23.lt r29_0)
  have ne31 : da ≠ na29 := Nat.ne_of_lt (Nat.lt_of_lt_of_le f24.lt r29_0)
  have ne32 : b1 ≠ na29 := Nat.ne_of_lt (Nat.lt_of_lt_of_le f25.lt r29_0)
  have ne33 : b21 ≠ na29 := Nat.ne_of_lt (Nat.lt_of_lt_of_le r21_0.lt r29_0)
  have gg_na29 : n0 ≤ na29 := Nat.le_trans Zs21 r29_0
  have sz_na29_0 : h0.size ≤ na29 := Nat.le_trans K21_0.1 r29_0
  have f34 : Old Z n0 T29.heap := f22.keep Kq29 (allS gg1 all0)
  have f35 : Arv Z T29.heap d0 k0 (.object "java/lang/Object") (0 : Int32) [] .null := f23.keep Kq29 (ninS ne2 nin0)
  have f36 : Arv Z T29.heap da kd .int (3 : Int32) [(.int (1 : Int32)), (.int (7 : Int32)), (.int (31 : Int32))] (.int (0 : Int32)) := f24.keep Kq29 (ninS ne3 nin0)
  have f37 : Exa Z T29.heap b1 "java/util/ArrayList" := f25.keep Kq29
  have f38 : Exa Z T29.heap b21 "java/lang/Integer" := r21_0.keep Kq29
  have f39 : Fld Z T29.heap b21 "java/lang/Integer" "value" "I" (.int (p0 - (1 : Int32))) := r21_1.keep Kq29 (ninS (ne_exa r21_0 f25 (by decide)) nin0)
  have Zs29 : n0 ≤ T29.heap.size := Nat.le_trans Zs21 Kq29.1
  have K29_0 : Keep h0 T29.heap [] := K21_0.trans Kq29 (allS (Or.inr sz1_0) all0)
  have r29_2' : Fld Z T29.heap b1 "java/util/AbstractList" "modCount" "I" (.int (1 : Int32)) := r29_2
  refine own_tr st29 ?_
  show own_G _ _ _ (T29.setTop (mkF m 50 #[.val (.int p0), .val (.ref b1), .val (.ref da), .val (.int (3 : Int32)), .val (.int (0 : Int32)), .val (.int (1 : Int32))] [(.int (1 : Int32))])) _ _ _ _
  refine own_go (fun _ k => XS.pop X29.here hx rfl (hb hby d1_50) rfl rfl k) ?_
  show own_G _ _ _ (T29.setTop (mkF m 51 #[.val (.int p0), .val (.ref b1), .val (.ref da), .val (.int (3 : Int32)), .val (.int (0 : Int32)), .val (.int (1 : Int32))] [])) _ _ _ _
  refine own_go (fun _ k => XS.iinc X29.here hx rfl (hb hby d1_51) rfl (l' := #[.val (.int p0), .val (.ref b1), .val (.ref da), .val (.int (3 : Int32)), .val (.int (1 : Int32)), .val (.int (1 : Int32))]) rfl k) ?_
  show own_G _ _ _ (T29.setTop (mkF m 54 #[.val (.int p0), .val (.ref b1), .val (.ref da), .val (.int (3 : Int32)), .val (.int (1 : Int32)), .val (.int (1 : Int32))] [])) _ _ _ _
  refine own_go (fun _ k => XS.goto X29.here hx rfl (pc0 := 54) (pc' := 18) rfl (hb hby d1_54) (by decide) (by decide) k) ?_
  show own_G _ _ _ (T29.setTop (mkF m 18 #[.val (.int p0), .val (.ref b1), .val (.ref da), .val (.int (3 : Int32)), .val (.int (1 : Int32)), .val (.int (1 : Int32))] [])) _ _ _ _
  refine own_go (fun _ k => XS.iload X29.here hx rfl (hb hby d1_18) rfl k) ?_
  show own_G _ _ _ (T29.setTop (mkF m 20 #[.val (.int p0), .val (.ref b1), .val (.ref da), .val (.int (3 : Int32)), .val (.int (1 : Int32)), .val (.int (1 : Int32))] [(.int (1 : Int32))])) _ _ _ _
  refine own_go (fun _ k => XS.iloadN X29.here hx rfl (hb hby d1_20) rfl k) ?_
  show own_G _ _ _ (T29.setTop (mkF m 21 #[.val (.int p0), .val (.ref b1), .val (.ref da), .val (.int (3 : Int32)), .val (.int (1 : Int32)), .val (.int (1 : Int32))] [(.int (3 : Int32)), (.int (1 : Int32))])) _ _ _ _
  have hc40 : (1 : Int32) < (3 : Int32) := (by decide)
  refine own_go (fun _ k => XS.icmpNo X29.here hx rfl (hb hby d1_21) rfl (tlt hc40).2.1 k) ?_
  show own_G _ _ _ (T29.setTop (mkF m 24 #[.val (.int p0), .val (.ref b1), .val (.ref da), .val (.int (3 : Int32)), .val (.int (1 : Int32)), .val (.int (1 : Int32))] [])) _ _ _ _
  refine own_go (fun _ k => XS.aloadN X29.here hx rfl (hb hby d1_24) rfl rfl k) ?_
  show own_G _ _ _ (T29.setTop (mkF m 25 #[.val (.int p0), .val (.ref b1), .val (.ref da), .val (.int (3 : Int32)), .val (.int (1 : Int32)), .val (.int (1 : Int32))] [(.ref da)])) _ _ _ _
  refine own_go (fun _ k => XS.iload X29.here hx rfl (hb hby d1_25) rfl k) ?_
  show own_G _ _ _ (T29.setTop (mkF m 27 #[.val (.int p0), .val (.ref b1), .val (.ref da), .val (.int (3 : Int32)), .val (.int (1 : Int32)), .val (.int (1 : Int32))] [(.int (1 : Int32)), (.ref da)])) _ _ _ _
  obtain ⟨cl41, Ar41, q41, S41, Ng41, H41, G41⟩ := id f36
  have in41 : ¬ ((1 : Int32) < 0 ∨ cl41.slots.size ≤ ((1 : Int32)).toNatClampNeg) := inb_of S41 ⟨by decide, by decide⟩
  have at41 : cl41.slots[((1 : Int32)).toNatClampNeg]? = some (.int (7 : Int32)) := H41.at in41 rfl
  refine own_go (fun _ k => X29.iaload hx (j := (1 : Int32)) (v := (.int (7 : Int32))) (by exact Ar41.1) (State.isArrayOf_alike hZ.alike Ar41.2.1) Ar41.2.2 in41 at41 (g := (mkF m 27 #[.val (.int p0), .val (.ref b1), .val (.ref da), .val (.int (3 : Int32)), .val (.int (1 : Int32)), .val (.int (1 : Int32))] [(.int (1 : Int32)), (.ref da)])) rfl rfl (hb hby d1_27) _ k) ?_
  show own_G _ _ _ (T29.setTop (mkF m 28 #[.val (.int p0), .val (.ref b1), .val (.ref da), .val (.int (3 : Int32)), .val (.int (1 : Int32)), .val (.int (1 : Int32))] [(.int (7 : Int32))])) _ _ _ _
  refine own_go (fun _ k => XS.istore X29.here hx rfl (hb hby d1_28) rfl (l' := #[.val (.int p0), .val (.ref b1), .val (.ref da), .val (.int (3 : Int32)), .val (.int (1 : Int32)), .val (.int (7 : Int32))]) rfl k) ?_
  show own_G _ _ _ (T29.setTop (mkF m 30 #[.val (.int p0), .val (.ref b1), .val (.ref da), .val (.int (3 : Int32)), .val (.int (1 : Int32)), .val (.int (7 : Int32))] [])) _ _ _ _
  refine own_go (fun _ k => XS.iloadN X29.here hx rfl (hb hby d1_30) rfl k) ?_
  show own_G _ _ _ (T29.setTop (mkF m 31 #[.val (.int p0), .val (.ref b1), .val (.ref da), .val (.int (3 : Int32)), .val (.int (1 : Int32)), .val (.int (7 : Int32))] [(.int p0)])) _ _ _ _
  refine own_go (fun _ k => XS.iload X29.here hx rfl (hb hby d1_31) rfl k) ?_
  show own_G _ _ _ (T29.setTop (mkF m 33 #[.val (.int p0), .val (.ref b1), .val (.ref da), .val (.int (3 : Int32)), .val (.int (1 : Int32)), .val (.int (7 : Int32))] [(.int (7 : Int32)), (.int p0)])) _ _ _ _
  refine own_go (fun _ k => XS.isub X29.here hx rfl (hb hby d1_33) rfl k) ?_
  show own_G _ _ _ (T29.setTop (mkF m 34 #[.val (.int p0), .val (.ref b1), .val (.ref da), .val (.int (3 : Int32)), .val (.int (1 : Int32)), .val (.int (7 : Int32))] [(.int (p0 - (7 : Int32)))])) _ _ _ _
  have hc42 : ¬ ((p0 - (7 : Int32)) < (0 : Int32)) := own_pos p0 (7 : Int32) hn (by decide) (own_nlt p0 (7 : Int32) (7 : Int32) hq.1 (by decide))
  refine own_go (fun _ k => XS.ifNo X29.here hx rfl (hb hby d1_34) rfl ((if0 _ _).trans (flt hc42).1) k) ?_
  show own_G _ _ _ (T29.setTop (mkF m 37 #[.val (.int p0), .val (.ref b1), .val (.ref da), .val (.int (3 : Int32)), .val (.int (1 : Int32)), .val (.int (7 : Int32))] [])) _ _ _ _
  refine own_go (fun _ k => XS.aloadN X29.here hx rfl (hb hby d1_37) rfl rfl k) ?_
  show own_G _ _ _ (T29.setTop (mkF m 38 #[.val (.int p0), .val (.ref b1), .val (.ref da), .val (.int (3 : Int32)), .val (.int (1 : Int32)), .val (.int (7 : Int32))] [(.ref b1)])) _ _ _ _
  refine own_go (fun _ k => XS.iloadN X29.here hx rfl (hb hby d1_38) rfl k) ?_
  show own_G _ _ _ (T29.setTop (mkF m 39 #[.val (.int p0), .val (.ref b1), .val (.ref da), .val (.int (3 : Int32)), .val (.int (1 : Int32)), .val (.int (7 : Int32))] [(.int p0), (.ref b1)])) _ _ _ _
  refine own_go (fun _ k => XS.iload X29.here hx rfl (hb hby d1_39) rfl k) ?_
  show own_G _ _ _ (T29.setTop (mkF m 41 #[.val (.int p0), .val (.ref b1), .val (.ref da), .val (.int (3 : Int32)), .val (.int (1 : Int32)), .val (.int (7 : Int32))] [(.int (7 : Int32)), (.int p0), (.ref b1)])) _ _ _ _
  refine own_go (fun _ k => XS.isub X29.here hx rfl (hb hby d1_41) rfl k) ?_
  show own_G _ _ _ (T29.setTop (mkF m 42 #[.val (.int p0), .val (.ref b1), .val (.ref da), .val (.int (3 : Int32)), .val (.int (1 : Int32)), .val (.int (7 : Int32))] [(.int (p0 - (7 : Int32))), (.ref b1)])) _ _ _ _
  obtain ⟨_, _, ⟨T43, L43, k43, n43⟩, -, X43, ⟨Lc43, hQ43, l43, y43, z43⟩, st43⟩ := Jvm.LawKit.callS X29 hx (y := (⟨"java/lang/Integer", "valueOf", "(I)Ljava/lang/Integer;"⟩ : MethodName)) hown (mvT hZ (hw _ (List.mem_of_getElem? (i := 43) rfl))) (mvT hZ (hw _ (List.mem_of_getElem? (i := 44) rfl))) (mvT hZ (hw _ (List.mem_of_getElem? (i := 45) rfl))) (mvT hZ (hw _ (List.mem_of_getElem? (i := 46) rfl))) (by decide) (backOf (W := 1) (rm7 l Z a0 hw [] (p0 - (7 : Int32)) ca cc T29.heap n0 Zs29 f34 P_ZS_java_lang_Integer_IntegerCache_high P_ZS_java_lang_Integer_IntegerCache_cache bx (own_pos p0 (7 : Int32) hn (by decide) (own_nlt p0 (7 : Int32) (7 : Int32) hq.1 (by decide)))) hZ (hw _ (List.mem_of_getElem? (i := 46) rfl)) (hw _ (List.mem_of_getElem? (i := 45) rfl)) (by decide) (by decide)) (g := (mkF m 42 #[.val (.int p0), .val (.ref b1), .val (.ref da), .val (.int (3 : Int32)), .val (.int (1 : Int32)), .val (.int (7 : Int32))] [(.int (p0 - (7 : Int32))), (.ref b1)])) rfl (by rw [hml]; rfl) (argsL := [(.int (p0 - (7 : Int32)))]) (rest := [(.ref b1)]) (lenOf pd_8 rfl) rfl (by show 2 * 0 + _ ≤ _; exact Nat.le_of_eq rfl) (hb hby d1_42) (fun _ _ => ⟨rfl, rfl, (by decide : 3 + 1 ≤ _), (by decide : 14 + 1 ≤ _)⟩)
  dsimp only [Pt.U, Pt.locs, Pt.cells, Pt.slots] at X43 l43 y43 z43 st43 hQ43
  subst l43 y43 z43
  obtain ⟨b43, rfl, Nq43, Kq43, r43_0, r43_1⟩ := hQ43
  have N43 := Fr.app N29 Nq43
  have f44 : Old Z n0 T43.heap := f34.keep Kq43 all0
  have f45 : Arv Z T43.heap d0 k0 (.object "java/lang/Object") (0 : Int32) [] .null := f35.keep Kq43 nin0
  have f46 : Arv Z T43.heap da kd .int (3 : Int32) [(.int (1 : Int32)), (.int (7 : Int32)), (.int (31 : Int32))] (.int (0 : Int32)) := f36.keep Kq43 nin0
  have f47 : Exa Z T43.heap b1 "java/util/ArrayList" := r29_1.keep Kq43
  have f48 : Exa Z T43.heap b21 "java/lang/Integer" := f38.keep Kq43
  have f49 : Fld Z T43.heap b21 "java/lang/Integer" "value" "I" (.int (p0 - (1 : Int32))) := f39.keep Kq43 nin0
  have f50 : Fld Z T43.heap b1 "java/util/AbstractList" "modCount" "I" (.int (1 : Int32)) := r29_2'.keep Kq43 nin0
  have f51 : Fld Z T43.heap b1 "java/util/ArrayList" "elementData" "[Ljava/lang/Object;" (.ref na29) := r29_3.keep Kq43 nin0
  have f52 : Fld Z T43.heap b1 "java/util/ArrayList" "size" "I" (.int (1 : Int32)) := r29_4.keep Kq43 nin0
  have f53 : Arv Z T43.heap na29 kn29 (.object "java/lang/Object") (10 : Int32) [(.ref b21), .null, .null, .null, .null, .null, .null, .null, .null, .null] .null := r29_5.keep Kq43 nin0
  have Zs43 : n0 ≤ T43.heap.size := Nat.le_trans Zs29 Kq43.1
  have K43_0 : Keep h0 T43.heap [] := K29_0.trans Kq43 all0
  refine own_go (fun _ k => st43 _ k) ?_
  show own_G _ _ _ (T43.setTop (mkF m 45 #[.val (.int p0), .val (.ref b1), .val (.ref da), .val (.int (3 : Int32)), .val (.int (1 : Int32)), .val (.int (7 : Int32))] [(.ref b43), (.ref b1)])) _ _ _ _
  obtain ⟨cq54, kq54, q54a, q54b, q54c⟩ := isOf hZ rfl f47
  obtain ⟨_, _, ⟨T54, L54, k54, n54⟩, -, X54, ⟨Lc54, hQ54, l54, y54, z54⟩, st54⟩ := X43.interfaceBack hx (xi := (⟨"java/util/List", "add", "(Ljava/lang/Object;)Z"⟩ : MethodName)) (y := (⟨"java/util/ArrayList", "add", "(Ljava/lang/Object;)Z"⟩ : MethodName)) hown (mvT hZ (hw _ (List.mem_of_getElem? (i := 50) rfl))) (mvT hZ (hw _ (List.mem_of_getElem? (i := 51) rfl))) (mvT hZ (hw _ (List.mem_of_getElem? (i := 52) rfl))) (mvT hZ (hw _ (List.mem_of_getElem? (i := 53) rfl))) (mvT hZ (hw _ (List.mem_of_getElem? (i := 54) rfl))) (mvT hZ (hw _ (List.mem_of_getElem? (i := 55) rfl))) (mvT hZ (hw _ (List.mem_of_getElem? (i := 56) rfl))) (mvT hZ (hw _ (List.mem_of_getElem? (i := 39) rfl))) (by decide) (backOf (W := 0) (rm8b l Z a0 hw [] b1 b43 (1 : Int32) na29 kn29 b21 T43.heap n0 Zs43 f47 f50 f51 f52 gg1 gg_na29 f53 r29_6 r43_0) hZ (hw _ (List.mem_of_getElem? (i := 57) rfl)) (hw _ (List.mem_of_getElem? (i := 6) rfl)) (by decide) (by decide)) q54a q54b q54c (g := (mkF m 45 #[.val (.int p0), .val (.ref b1), .val (.ref da), .val (.int (3 : Int32)), .val (.int (1 : Int32)), .val (.int (7 : Int32))] [(.ref b43), (.ref b1)])) rfl (by rw [hml]; rfl) (Steps.refl _) (argsL := [(.ref b43)]) (rest := []) (lenOf pd_9 rfl) rfl (by show 2 * 0 + _ ≤ _; exact Nat.le_of_eq rfl) (hb hby d1_45) (fun _ _ => ⟨rfl, rfl, (by decide : 4 + 0 ≤ _), (by decide : 15 + 0 ≤ _)⟩)
  dsimp only [Pt.U, Pt.locs, Pt.cells, Pt.slots] at X54 l54 y54 z54 st54 hQ54
  subst l54 y54 z54
  obtain ⟨rfl, Nq54, Kq54, r54_0, r54_1, r54_2, r54_3, r54_4, r54_5⟩ := hQ54
  have N54 := Fr.app N43 Nq54
  have f55 : Old Z n0 T54.heap := f44.keep Kq54 (allS gg1 (allS gg_na29 all0))
  have f56 : Arv Z T54.heap d0 k0 (.object "java/lang/Object") (0 : Int32) [] .null := f45.keep Kq54 (ninS ne2 (ninS ne30 nin0))
  have f57 : Arv Z T54.heap da kd .int (3 : Int32) [(.int (1 : Int32)), (.int (7 : Int32)), (.int (31 : Int32))] (.int (0 : Int32)) := f46.keep Kq54 (ninS ne3 (ninS ne31 nin0))
  have f58 : Exa Z T54.heap b1 "java/util/ArrayList" := f47.keep Kq54
  have f59 : Exa Z T54.heap b21 "java/lang/Integer" := f48.keep Kq54
  have f60 : Fld Z T54.heap b21 "java/lang/Integer" "value" "I" (.int (p0 - (1 : Int32))) := f49.keep Kq54 (ninS (ne_exa f48 f47 (by decide)) (ninS ne33 nin0))
  have f61 : Exa Z T54.heap b43 "java/lang/Integer" := r43_0.keep Kq54
  have f62 : Fld Z T54.heap b43 "java/lang/Integer" "value" "I" (.int (p0 - (7 : Int32))) := r43_1.keep Kq54 (ninS (ne_exa r43_0 f47 (by decide)) (ninS (by obtain ⟨c_, A_, -⟩ := f53; exact ne_arr r43_0 (hw _ (List.mem_of_getElem? (i := 114) rfl)) A_) nin0))
  have Zs54 : n0 ≤ T54.heap.size := Nat.le_trans Zs43 Kq54.1
  have K54_0 : Keep h0 T54.heap [] := K43_0.trans Kq54 (allS (Or.inr sz1_0) (allS (Or.inr sz_na29_0) all0))
  have r54_1' : Fld Z T54.heap b1 "java/util/AbstractList" "modCount" "I" (.int (2 : Int32)) := r54_1
  refine own_tr st54 ?_
  show own_G _ _ _ (T54.setTop (mkF m 50 #[.val (.int p0), .val (.ref b1), .val (.ref da), .val (.int (3 : Int32)), .val (.int (1 : Int32)), .val (.int (7 : Int32))] [(.int (1 : Int32))])) _ _ _ _
  refine own_go (fun _ k => XS.pop X54.here hx rfl (hb hby d1_50) rfl rfl k) ?_
  show own_G _ _ _ (T54.setTop (mkF m 51 #[.val (.int p0), .val (.ref b1), .val (.ref da), .val (.int (3 : Int32)), .val (.int (1 : Int32)), .val (.int (7 : Int32))] [])) _ _ _ _
  refine own_go (fun _ k => XS.iinc X54.here hx rfl (hb hby d1_51) rfl (l' := #[.val (.int p0), .val (.ref b1), .val (.ref da), .val (.int (3 : Int32)), .val (.int (2 : Int32)), .val (.int (7 : Int32))]) rfl k) ?_
  show own_G _ _ _ (T54.setTop (mkF m 54 #[.val (.int p0), .val (.ref b1), .val (.ref da), .val (.int (3 : Int32)), .val (.int (2 : Int32)), .val (.int (7 : Int32))] [])) _ _ _ _
  refine own_go (fun _ k => XS.goto X54.here hx rfl (pc0 := 54) (pc' := 18) rfl (hb hby d1_54) (by decide) (by decide) k) ?_
  show own_G _ _ _ (T54.setTop (mkF m 18 #[.val (.int p0), .val (.ref b1), .val (.ref da), .val (.int (3 : Int32)), .val (.int (2 : Int32)), .val (.int (7 : Int32))] [])) _ _ _ _
  refine own_go (fun _ k => XS.iload X54.here hx rfl (hb hby d1_18) rfl k) ?_
  show own_G _ _ _ (T54.setTop (mkF m 20 #[.val (.int p0), .val (.ref b1), .val (.ref da), .val (.int (3 : Int32)), .val (.int (2 : Int32)), .val (.int (7 : Int32))] [(.int (2 : Int32))])) _ _ _ _
  refine own_go (fun _ k => XS.iloadN X54.here hx rfl (hb hby d1_20) rfl k) ?_
  show own_G _ _ _ (T54.setTop (mkF m 21 #[.val (.int p0), .val (.ref b1), .val (.ref da), .val (.int (3 : Int32)), .val (.int (2 : Int32)), .val (.int (7 : Int32))] [(.int (3 : Int32)), (.int (2 : Int32))])) _ _ _ _
  have hc63 : (2 : Int32) < (3 : Int32) := (by decide)
  refine own_go (fun _ k => XS.icmpNo X54.here hx rfl (hb hby d1_21) rfl (tlt hc63).2.1 k) ?_
  show own_G _ _ _ (T54.setTop (mkF m 24 #[.val (.int p0), .val (.ref b1), .val (.ref da), .val (.int (3 : Int32)), .val (.int (2 : Int32)), .val (.int (7 : Int32))] [])) _ _ _ _
  refine own_go (fun _ k => XS.aloadN X54.here hx rfl (hb hby d1_24) rfl rfl k) ?_
  show own_G _ _ _ (T54.setTop (mkF m 25 #[.val (.int p0), .val (.ref b1), .val (.ref da), .val (.int (3 : Int32)), .val (.int (2 : Int32)), .val (.int (7 : Int32))] [(.ref da)])) _ _ _ _
  refine own_go (fun _ k => XS.iload X54.here hx rfl (hb hby d1_25) rfl k) ?_
  show own_G _ _ _ (T54.setTop (mkF m 27 #[.val (.int p0), .val (.ref b1), .val (.ref da), .val (.int (3 : Int32)), .val (.int (2 : Int32)), .val (.int (7 : Int32))] [(.int (2 : Int32)), (.ref da)])) _ _ _ _
  obtain ⟨cl64, Ar64, q64, S64, Ng64, H64, G64⟩ := id f57
  have in64 : ¬ ((2 : Int32) < 0 ∨ cl64.slots.size ≤ ((2 : Int32)).toNatClampNeg) := inb_of S64 ⟨by decide, by decide⟩
  have at64 : cl64.slots[((2 : Int32)).toNatClampNeg]? = some (.int (31 : Int32)) := H64.at in64 rfl
  refine own_go (fun _ k => X54.iaload hx (j := (2 : Int32)) (v := (.int (31 : Int32))) (by exact Ar64.1) (State.isArrayOf_alike hZ.alike Ar64.2.1) Ar64.2.2 in64 at64 (g := (mkF m 27 #[.val (.int p0), .val (.ref b1), .val (.ref da), .val (.int (3 : Int32)), .val (.int (2 : Int32)), .val (.int (7 : Int32))] [(.int (2 : Int32)), (.ref da)])) rfl rfl (hb hby d1_27) _ k) ?_
  show own_G _ _ _ (T54.setTop (mkF m 28 #[.val (.int p0), .val (.ref b1), .val (.ref da), .val (.int (3 : Int32)), .val (.int (2 : Int32)), .val (.int (7 : Int32))] [(.int (31 : Int32))])) _ _ _ _
  refine own_go (fun _ k => XS.istore X54.here hx rfl (hb hby d1_28) rfl (l' := #[.val (.int p0), .val (.ref b1), .val (.ref da), .val (.int (3 : Int32)), .val (.int (2 : Int32)), .val (.int (31 : Int32))]) rfl k) ?_
  show own_G _ _ _ (T54.setTop (mkF m 30 #[.val (.int p0), .val (.ref b1), .val (.ref da), .val (.int (3 : Int32)), .val (.int (2 : Int32)), .val (.int (31 : Int32))] [])) _ _ _ _
  refine own_go (fun _ k => XS.iloadN X54.here hx rfl (hb hby d1_30) rfl k) ?_
  show own_G _ _ _ (T54.setTop (mkF m 31 #[.val (.int p0), .val (.ref b1), .val (.ref da), .val (.int (3 : Int32)), .val (.int (2 : Int32)), .val (.int (31 : Int32))] [(.int p0)])) _ _ _ _
  refine own_go (fun _ k => XS.iload X54.here hx rfl (hb hby d1_31) rfl k) ?_
  show own_G _ _ _ (T54.setTop (mkF m 33 #[.val (.int p0), .val (.ref b1), .val (.ref da), .val (.int (3 : Int32)), .val (.int (2 : Int32)), .val (.int (31 : Int32))] [(.int (31 : Int32)), (.int p0)])) _ _ _ _
  refine own_go (fun _ k => XS.isub X54.here hx rfl (hb hby d1_33) rfl k) ?_
  show own_G _ _ _ (T54.setTop (mkF m 34 #[.val (.int p0), .val (.ref b1), .val (.ref da), .val (.int (3 : Int32)), .val (.int (2 : Int32)), .val (.int (31 : Int32))] [(.int (p0 - (31 : Int32)))])) _ _ _ _
  have hc65 : (p0 - (31 : Int32)) < (0 : Int32) := own_neg p0 (31 : Int32) hn (by decide) (own_lt p0 (31 : Int32) (31 : Int32) hq.2 (by decide))
  refine own_go (fun _ k => XS.ifYes X54.here hx rfl (pc0 := 34) (pc' := 51) rfl (hb hby d1_34) rfl ((if0 _ _).trans (tlt hc65).1) (by decide) (by decide) k) ?_
  show own_G _ _ _ (T54.setTop (mkF m 51 #[.val (.int p0), .val (.ref b1), .val (.ref da), .val (.int (3 : Int32)), .val (.int (2 : Int32)), .val (.int (31 : Int32))] [])) _ _ _ _
  refine own_go (fun _ k => XS.iinc X54.here hx rfl (hb hby d1_51) rfl (l' := #[.val (.int p0), .val (.ref b1), .val (.ref da), .val (.int (3 : Int32)), .val (.int (3 : Int32)), .val (.int (31 : Int32))]) rfl k) ?_
  show own_G _ _ _ (T54.setTop (mkF m 54 #[.val (.int p0), .val (.ref b1), .val (.ref da), .val (.int (3 : Int32)), .val (.int (3 : Int32)), .val (.int (31 : Int32))] [])) _ _ _ _
  refine own_go (fun _ k => XS.goto X54.here hx rfl (pc0 := 54) (pc' := 18) rfl (hb hby d1_54) (by decide) (by decide) k) ?_
  show own_G _ _ _ (T54.setTop (mkF m 18 #[.val (.int p0), .val (.ref b1), .val (.ref da), .val (.int (3 : Int32)), .val (.int (3 : Int32)), .val (.int (31 : Int32))] [])) _ _ _ _
  refine own_go (fun _ k => XS.iload X54.here hx rfl (hb hby d1_18) rfl k) ?_
  show own_G _ _ _ (T54.setTop (mkF m 20 #[.val (.int p0), .val (.ref b1), .val (.ref da), .val (.int (3 : Int32)), .val (.int (3 : Int32)), .val (.int (31 : Int32))] [(.int (3 : Int32))])) _ _ _ _
  refine own_go (fun _ k => XS.iloadN X54.here hx rfl (hb hby d1_20) rfl k) ?_
  show own_G _ _ _ (T54.setTop (mkF m 21 #[.val (.int p0), .val (.ref b1), .val (.ref da), .val (.int (3 : Int32)), .val (.int (3 : Int32)), .val (.int (31 : Int32))] [(.int (3 : Int32)), (.int (3 : Int32))])) _ _ _ _
  have hc66 : ¬ ((3 : Int32) < (3 : Int32)) := (by decide)
  refine own_go (fun _ k => XS.icmpYes X54.here hx rfl (pc0 := 21) (pc' := 57) rfl (hb hby d1_21) rfl (flt hc66).2.1 (by decide) (by decide) k) ?_
  show own_G _ _ _ (T54.setTop (mkF m 57 #[.val (.int p0), .val (.ref b1), .val (.ref da), .val (.int (3 : Int32)), .val (.int (3 : Int32)), .val (.int (31 : Int32))] [])) _ _ _ _
  refine own_go (fun _ k => XS.aloadN X54.here hx rfl (hb hby d1_57) rfl rfl k) ?_
  show own_G _ _ _ (T54.setTop (mkF m 58 #[.val (.int p0), .val (.ref b1), .val (.ref da), .val (.int (3 : Int32)), .val (.int (3 : Int32)), .val (.int (31 : Int32))] [(.ref b1)])) _ _ _ _
  exact own_endR X54 hx hlk Bd.returns rfl rfl rfl (hb hby d1_58) (by decide) (by decide) (Q := (Q1c Z p0 d0 k0 ca cc da kd h0 n0)) ⟨b1, na29, kn29, b21, b43, rfl, N54, K54_0, r54_0, r54_3, r54_2, r54_4, f59, f60, f61, f62⟩
def Q1d (Z : State) (p0 : Int32) (d0 : Addr) (k0 : ClassId) (ca : Addr) (cc : Cell) (da : Addr) (kd : ClassId) (h0 : Heap) (n0 : Nat) (v : Option Value) (h : Heap) (L : List Loc) : Prop := ∃ (b : Addr) (na : Addr) (kn : ClassId) (el0 : Addr) (el1 : Addr) (el2 : Addr), v = some (.ref b) ∧ Fr n0 L ∧ Keep h0 h [] ∧ Exa Z h b "java/util/ArrayList" ∧ Fld Z h b "java/util/ArrayList" "size" "I" (.int (3 : Int32)) ∧ Fld Z h b "java/util/ArrayList" "elementData" "[Ljava/lang/Object;" (.ref na) ∧ Arv Z h na kn (.object "java/lang/Object") (10 : Int32) [(.ref el0), (.ref el1), (.ref el2), .null, .null, .null, .null, .null, .null, .null] .null ∧ Exa Z h el0 "java/lang/Integer" ∧ Fld Z h el0 "java/lang/Integer" "value" "I" (.int (p0 - (1 : Int32))) ∧ Exa Z h el1 "java/lang/Integer" ∧ Fld Z h el1 "java/lang/Integer" "value" "I" (.int (p0 - (7 : Int32))) ∧ Exa Z h el2 "java/lang/Integer" ∧ Fld Z h el2 "java/lang/Integer" "value" "I" (.int (p0 - (31 : Int32)))
set_option maxRecDepth 65536 in
set_option maxHeartbeats 40000000 in
theorem rm1d (l : Launch) (Z : State) (a0 : Array Value) (hw : ∀ d ∈ tables_1, d.before a0 Z = true) (ws : List Jvm.Cond) (p0 : Int32) (d0 : Addr) (k0 : ClassId) (ca : Addr) (cc : Cell) (da : Addr) (kd : ClassId) (h0 : Heap) (n0 : Nat) (Z0 : n0 ≤ h0.size) (P_Old : Old Z n0 h0) (P_ZS_java_util_ArrayList_DEFAULTCAPACITY_EMPTY_ELEMENTDATA : Sta Z Z.heap "java/util/ArrayList" "DEFAULTCAPACITY_EMPTY_ELEMENTDATA" "[Ljava/lang/Object;" (.ref d0)) (P_V_d0 : Arv Z h0 d0 k0 (.object "java/lang/Object") (0 : Int32) [] .null) (P_ZS_java_lang_Integer_IntegerCache_high : Sta Z Z.heap "java/lang/Integer$IntegerCache" "high" "I" (.int (127 : Int32))) (P_ZS_java_lang_Integer_IntegerCache_cache : Sta Z Z.heap "java/lang/Integer$IntegerCache" "cache" "[Ljava/lang/Integer;" (.ref ca)) (bx : Bxs Z ca cc "java/lang/Integer" "I" (256 : Int32) (fun j => .int (j - 128))) (P_ZS_com_example_mini_wire_bench_Application_DISTANCES : Sta Z Z.heap "com/example/mini_wire/bench/Application" "DISTANCES" "[I" (.ref da)) (P_V_da : Arv Z h0 da kd .int (3 : Int32) [(.int (1 : Int32)), (.int (7 : Int32)), (.int (31 : Int32))] (.int (0 : Int32))) (hn : 0 ≤ p0.toInt) (hq : ¬ p0 < 31) :
    MetFree l (⟨"com/example/mini_wire/bench/Application", "dependencies", "(I)Ljava/util/List;"⟩ : MethodName) (head1 (Jvm.Cond.code (⟨"com/example/mini_wire/bench/Application", "dependencies", "(I)Ljava/util/List;"⟩ : MethodName) prog_1_method_3_code 6 (some (.object "java/util/List")) :: ws) ({ frames := 5, cells := 5, slots := 16, locals := 69 } : Room)) (fun a U => a = #[(.int p0)] ∧ Z.Warmed39 U.vm ∧ U.heap = h0) (fun _ _ _ _ _ => True) (fun _ U o U' => ∃ v L, o = .returned v ∧ (Q1d Z p0 d0 k0 ca cc da kd h0 n0) v U'.heap L ∧ FrameEnd U o U' L ({ frames := 5, cells := 5, slots := 16, locals := 69 } : Room).cells ({ frames := 5, cells := 5, slots := 16, locals := 69 } : Room).slots) := by
  refine MetFree.of_bodySF (plainFor_of_name pn_7) hisR ?_
  intro p e s m args below meth c s₁ Bd hml0 hP hK
  obtain ⟨rfl, hZ, hh⟩ := hP
  have hx := Bd.exec
  have hby := Bd.bytes
  have hml : c.maxLocals = 6 := hml0
  have hown : s.vm.findClass "com/example/mini_wire/bench/Application" = some m.cls := findClass_of_methodNamed Bd.named
  have hnm := (name_of_methodNamed Bd.named Bd.method).1
  have hlk : meth.locks = false := BodyLoose.notSynchronized Bd
  have X0 : Stand p l e ({ frames := 5, cells := 5, slots := 16, locals := 69 } : Room) s m #[(.int p0)] below meth c s₁ [] 0 0 := Stand.of_body Bd
  have e0 : s₁.heap = h0 := by rw [← hh, Bd.state]; rfl
  have N0 := Fr.nil n0
  have K0 : Keep h0 h0 [] := Keep.refl h0 []
  show own_G p.tables e below (s₁.setTop (entryFrame m #[(.int p0)] 6)) s ({ frames := 5, cells := 5, slots := 16, locals := 69 } : Room).cells ({ frames := 5, cells := 5, slots := 16, locals := 69 } : Room).slots (Q1d Z p0 d0 k0 ca cc da kd h0 n0)
  refine own_go (fun _ k => castTop (ef_1a m p0) k) ?_
  show own_G _ _ _ (s₁.setTop (mkF m 0 #[.val (.int p0), .unset, .unset, .unset, .unset, .unset] [])) _ _ _ _
  obtain ⟨T1, h1, X1, e1, E1, A1, D1, -, st1⟩ := newO X0 hx hZ hown (hw _ (List.mem_of_getElem? (i := 4) rfl)) (hw _ (List.mem_of_getElem? (i := 5) rfl)) (hw _ (List.mem_of_getElem? (i := 6) rfl)) e0 (g := (mkF m 0 #[.val (.int p0), .unset, .unset, .unset, .unset, .unset] [])) rfl (hb hby d1_0) (by decide) (by decide)
  obtain ⟨b1, g1⟩ : ∃ z, z = h0.size := ⟨_, rfl⟩
  rw [← g1] at A1 D1 st1
  have ne2 : d0 ≠ b1 := Nat.ne_of_lt (Nat.lt_of_lt_of_le P_V_d0.lt (Nat.le_of_eq g1.symm))
  have ne3 : da ≠ b1 := Nat.ne_of_lt (Nat.lt_of_lt_of_le P_V_da.lt (Nat.le_of_eq g1.symm))
  have gg1 : n0 ≤ b1 := Nat.le_trans Z0 (Nat.le_of_eq g1.symm)
  have sz1_0 : h0.size ≤ b1 := Nat.le_trans K0.1 (Nat.le_of_eq g1.symm)
  have Zs1 : n0 ≤ h1.size := Nat.le_trans Z0 E1.1
  have K1_0 : Keep h0 h1 [] := K0.ext E1
  have f4 : Old Z n0 h1 := P_Old.ext E1
  have f5 : Arv Z h1 d0 k0 (.object "java/lang/Object") (0 : Int32) [] .null := P_V_d0.ext E1
  have f6 : Arv Z h1 da kd .int (3 : Int32) [(.int (1 : Int32)), (.int (7 : Int32)), (.int (31 : Int32))] (.int (0 : Int32)) := P_V_da.ext E1
  have f7 : Exa Z h1 b1 "java/util/ArrayList" := A1
  have f8 : Fld Z h1 b1 "java/util/AbstractList" "modCount" "I" (.int (0 : Int32)) := D1 (Or.inl (hw _ (List.mem_of_getElem? (i := 26) rfl))) (ty := .int) (by decide)
  have f9 : Fld Z h1 b1 "java/util/ArrayList" "elementData" "[Ljava/lang/Object;" .null := D1 (Or.inl (hw _ (List.mem_of_getElem? (i := 29) rfl))) (ty := (.array (.object "java/lang/Object"))) (by decide)
  have f10 : Fld Z h1 b1 "java/util/ArrayList" "size" "I" (.int (0 : Int32)) := D1 (Or.inl (hw _ (List.mem_of_getElem? (i := 42) rfl))) (ty := .int) (by decide)
  refine own_go (fun _ k => st1 _ k) ?_
  show own_G _ _ _ (T1.setTop (mkF m 3 #[.val (.int p0), .unset, .unset, .unset, .unset, .unset] [(.ref b1)])) _ _ _ _
  refine own_go (fun _ k => XS.dup X1.here hx rfl (hb hby d1_3) rfl rfl k) ?_
  show own_G _ _ _ (T1.setTop (mkF m 4 #[.val (.int p0), .unset, .unset, .unset, .unset, .unset] [(.ref b1), (.ref b1)])) _ _ _ _
  obtain ⟨_, _, ⟨T11, L11, k11, n11⟩, -, X11, ⟨Lc11, hQ11, l11, y11, z11⟩, st11⟩ := X1.specialBack hx (y := (⟨"java/util/ArrayList", "<init>", "()V"⟩ : MethodName)) rfl hown (mvT hZ (hw _ (List.mem_of_getElem? (i := 7) rfl))) (mvT hZ (hw _ (List.mem_of_getElem? (i := 8) rfl))) (mvT hZ (hw _ (List.mem_of_getElem? (i := 9) rfl))) (by decide) (backOf (W := 1) (rm2 l Z a0 hw [] b1 d0 h1 n0 Zs1 f7 f8 f9 f10 gg1 f4 P_ZS_java_util_ArrayList_DEFAULTCAPACITY_EMPTY_ELEMENTDATA) hZ (hw _ (List.mem_of_getElem? (i := 9) rfl)) (hw _ (List.mem_of_getElem? (i := 6) rfl)) (by decide) (by decide)) (g := (mkF m 4 #[.val (.int p0), .unset, .unset, .unset, .unset, .unset] [(.ref b1), (.ref b1)])) rfl (by rw [hml]; rfl) (Steps.refl _) (a := b1) (argsL := []) (rest := [(.ref b1)]) (lenOf pd_0 rfl) rfl (by show 2 * 0 + _ ≤ _; exact Nat.le_of_eq rfl) (hb hby d1_4) (fun _ _ => ⟨rfl, e1, (by decide : 1 + 0 ≤ _), (by decide : 3 + 0 ≤ _)⟩)
  dsimp only [Pt.U, Pt.locs, Pt.cells, Pt.slots] at X11 l11 y11 z11 st11 hQ11
  subst l11 y11 z11
  obtain ⟨rfl, Nq11, Kq11, r11_0, r11_1, r11_2, r11_3⟩ := hQ11
  have N11 := Fr.app N0 Nq11
  have f12 : Old Z n0 T11.heap := f4.keep Kq11 (allS gg1 all0)
  have f13 : Arv Z T11.heap d0 k0 (.object "java/lang/Object") (0 : Int32) [] .null := f5.keep Kq11 (ninS ne2 nin0)
  have f14 : Arv Z T11.heap da kd .int (3 : Int32) [(.int (1 : Int32)), (.int (7 : Int32)), (.int (31 : Int32))] (.int (0 : Int32)) := f6.keep Kq11 (ninS ne3 nin0)
  have f15 : Exa Z T11.heap b1 "java/util/ArrayList" := f7.keep Kq11
  have Zs11 : n0 ≤ T11.heap.size := Nat.le_trans Zs1 Kq11.1
  have K11_0 : Keep h0 T11.heap [] := K1_0.trans Kq11 (allS (Or.inr sz1_0) all0)
  refine own_tr st11 ?_
  show own_G _ _ _ (T11.setTop (mkF m 7 #[.val (.int p0), .unset, .unset, .unset, .unset, .unset] [(.ref b1)])) _ _ _ _
  refine own_go (fun _ k => XS.astoreN X11.here hx rfl (hb hby d1_7) rfl rfl (l' := #[.val (.int p0), .val (.ref b1), .unset, .unset, .unset, .unset]) rfl k) ?_
  show own_G _ _ _ (T11.setTop (mkF m 8 #[.val (.int p0), .val (.ref b1), .unset, .unset, .unset, .unset] [])) _ _ _ _
  obtain ⟨T16, X16, e16, st16⟩ := getS2 X11 hx hZ hown (host := "") (Or.inl (hw _ (List.mem_of_getElem? (i := 30) rfl))) Via.refl rfl (P_ZS_com_example_mini_wire_bench_Application_DISTANCES.ext f12.2) (g := (mkF m 8 #[.val (.int p0), .val (.ref b1), .unset, .unset, .unset, .unset] [])) rfl (hb hby d1_8)
  refine own_go (fun _ k => st16 _ k) ?_
  show own_G _ _ _ (T16.setTop (mkF m 11 #[.val (.int p0), .val (.ref b1), .unset, .unset, .unset, .unset] [(.ref da)])) _ _ _ _
  refine own_go (fun _ k => XS.astoreN X16.here hx rfl (hb hby d1_11) rfl rfl (l' := #[.val (.int p0), .val (.ref b1), .val (.ref da), .unset, .unset, .unset]) rfl k) ?_
  show own_G _ _ _ (T16.setTop (mkF m 12 #[.val (.int p0), .val (.ref b1), .val (.ref da), .unset, .unset, .unset] [])) _ _ _ _
  refine own_go (fun _ k => XS.aloadN X16.here hx rfl (hb hby d1_12) rfl rfl k) ?_
  show own_G _ _ _ (T16.setTop (mkF m 13 #[.val (.int p0), .val (.ref b1), .val (.ref da), .unset, .unset, .unset] [(.ref da)])) _ _ _ _
  obtain ⟨cl17, Ar17, -, S17, Ng17, -, -⟩ := id f14
  refine own_go (fun _ k => X16.arraylength hx (by rw [e16]; exact Ar17.1) (State.isArrayOf_alike hZ.alike Ar17.2.1) (g := (mkF m 13 #[.val (.int p0), .val (.ref b1), .val (.ref da), .unset, .unset, .unset] [(.ref da)])) rfl rfl (hb hby d1_13) _ k) ?_
  rw [len_of S17 Ng17]
  show own_G _ _ _ (T16.setTop (mkF m 14 #[.val (.int p0), .val (.ref b1), .val (.ref da), .unset, .unset, .unset] [(.int (3 : Int32))])) _ _ _ _
  refine own_go (fun _ k => XS.istoreN X16.here hx rfl (hb hby d1_14) rfl (l' := #[.val (.int p0), .val (.ref b1), .val (.ref da), .val (.int (3 : Int32)), .unset, .unset]) rfl k) ?_
  show own_G _ _ _ (T16.setTop (mkF m 15 #[.val (.int p0), .val (.ref b1), .val (.ref da), .val (.int (3 : Int32)), .unset, .unset] [])) _ _ _ _
  refine own_go (fun _ k => XS.iconst X16.here hx rfl (hb hby d1_15) k) ?_
  show own_G _ _ _ (T16.setTop (mkF m 16 #[.val (.int p0), .val (.ref b1), .val (.ref da), .val (.int (3 : Int32)), .unset, .unset] [(.int (0 : Int32))])) _ _ _ _
  refine own_go (fun _ k => XS.istore X16.here hx rfl (hb hby d1_16) rfl (l' := #[.val (.int p0), .val (.ref b1), .val (.ref da), .val (.int (3 : Int32)), .val (.int (0 : Int32)), .unset]) rfl k) ?_
  show own_G _ _ _ (T16.setTop (mkF m 18 #[.val (.int p0), .val (.ref b1), .val (.ref da), .val (.int (3 : Int32)), .val (.int (0 : Int32)), .unset] [])) _ _ _ _
  refine own_go (fun _ k => XS.iload X16.here hx rfl (hb hby d1_18) rfl k) ?_
  show own_G _ _ _ (T16.setTop (mkF m 20 #[.val (.int p0), .val (.ref b1), .val (.ref da), .val (.int (3 : Int32)), .val (.int (0 : Int32)), .unset] [(.int (0 : Int32))])) _ _ _ _
  refine own_go (fun _ k => XS.iloadN X16.here hx rfl (hb hby d1_20) rfl k) ?_
  show own_G _ _ _ (T16.setTop (mkF m 21 #[.val (.int p0), .val (.ref b1), .val (.ref da), .val (.int (3 : Int32)), .val (.int (0 : Int32)), .unset] [(.int (3 : Int32)), (.int (0 : Int32))])) _ _ _ _
  have hc18 : (0 : Int32) < (3 : Int32) := (by decide)
  refine own_go (fun _ k => XS.icmpNo X16.here hx rfl (hb hby d1_21) rfl (tlt hc18).2.1 k) ?_
  show own_G _ _ _ (T16.setTop (mkF m 24 #[.val (.int p0), .val (.ref b1), .val (.ref da), .val (.int (3 : Int32)), .val (.int (0 : Int32)), .unset] [])) _ _ _ _
  refine own_go (fun _ k => XS.aloadN X16.here hx rfl (hb hby d1_24) rfl rfl k) ?_
  show own_G _ _ _ (T16.setTop (mkF m 25 #[.val (.int p0), .val (.ref b1), .val (.ref da), .val (.int (3 : Int32)), .val (.int (0 : Int32)), .unset] [(.ref da)])) _ _ _ _
  refine own_go (fun _ k => XS.iload X16.here hx rfl (hb hby d1_25) rfl k) ?_
  show own_G _ _ _ (T16.setTop (mkF m 27 #[.val (.int p0), .val (.ref b1), .val (.ref da), .val (.int (3 : Int32)), .val (.int (0 : Int32)), .unset] [(.int (0 : Int32)), (.ref da)])) _ _ _ _
  obtain ⟨cl19, Ar19, q19, S19, Ng19, H19, G19⟩ := id f14
  have in19 : ¬ ((0 : Int32) < 0 ∨ cl19.slots.size ≤ ((0 : Int32)).toNatClampNeg) := inb_of S19 ⟨by decide, by decide⟩
  have at19 : cl19.slots[((0 : Int32)).toNatClampNeg]? = some (.int (1 : Int32)) := H19.at in19 rfl
  refine own_go (fun _ k => X16.iaload hx (j := (0 : Int32)) (v := (.int (1 : Int32))) (by rw [e16]; exact Ar19.1) (State.isArrayOf_alike hZ.alike Ar19.2.1) Ar19.2.2 in19 at19 (g := (mkF m 27 #[.val (.int p0), .val (.ref b1), .val (.ref da), .val (.int (3 : Int32)), .val (.int (0 : Int32)), .unset] [(.int (0 : Int32)), (.ref da)])) rfl rfl (hb hby d1_27) _ k) ?_
  show own_G _ _ _ (T16.setTop (mkF m 28 #[.val (.int p0), .val (.ref b1), .val (.ref da), .val (.int (3 : Int32)), .val (.int (0 : Int32)), .unset] [(.int (1 : Int32))])) _ _ _ _
  refine own_go (fun _ k => XS.istore X16.here hx rfl (hb hby d1_28) rfl (l' := #[.val (.int p0), .val (.ref b1), .val (.ref da), .val (.int (3 : Int32)), .val (.int (0 : Int32)), .val (.int (1 : Int32))]) rfl k) ?_
  show own_G _ _ _ (T16.setTop (mkF m 30 #[.val (.int p0), .val (.ref b1), .val (.ref da), .val (.int (3 : Int32)), .val (.int (0 : Int32)), .val (.int (1 : Int32))] [])) _ _ _ _
  refine own_go (fun _ k => XS.iloadN X16.here hx rfl (hb hby d1_30) rfl k) ?_
  show own_G _ _ _ (T16.setTop (mkF m 31 #[.val (.int p0), .val (.ref b1), .val (.ref da), .val (.int (3 : Int32)), .val (.int (0 : Int32)), .val (.int (1 : Int32))] [(.int p0)])) _ _ _ _
  refine own_go (fun _ k => XS.iload X16.here hx rfl (hb hby d1_31) rfl k) ?_
  show own_G _ _ _ (T16.setTop (mkF m 33 #[.val (.int p0), .val (.ref b1), .val (.ref da), .val (.int (3 : Int32)), .val (.int (0 : Int32)), .val (.int (1 : Int32))] [(.int (1 : Int32)), (.int p0)])) _ _ _ _
  refine own_go (fun _ k => XS.isub X16.here hx rfl (hb hby d1_33) rfl k) ?_
  show own_G _ _ _ (T16.setTop (mkF m 34 #[.val (.int p0), .val (.ref b1), .val (.ref da), .val (.int (3 : Int32)), .val (.int (0 : Int32)), .val (.int (1 : Int32))] [(.int (p0 - (1 : Int32)))])) _ _ _ _
  have hc20 : ¬ ((p0 - (1 : Int32)) < (0 : Int32)) := own_pos p0 (1 : Int32) hn (by decide) (own_nlt p0 (1 : Int32) (31 : Int32) hq (by decide))
  refine own_go (fun _ k => XS.ifNo X16.here hx rfl (hb hby d1_34) rfl ((if0 _ _).trans (flt hc20).1) k) ?_
  show own_G _ _ _ (T16.setTop (mkF m 37 #[.val (.int p0), .val (.ref b1), .val (.ref da), .val (.int (3 : Int32)), .val (.int (0 : Int32)), .val (.int (1 : Int32))] [])) _ _ _ _
  refine own_go (fun _ k => XS.aloadN X16.here hx rfl (hb hby d1_37) rfl rfl k) ?_
  show own_G _ _ _ (T16.setTop (mkF m 38 #[.val (.int p0), .val (.ref b1), .val (.ref da), .val (.int (3 : Int32)), .val (.int (0 : Int32)), .val (.int (1 : Int32))] [(.ref b1)])) _ _ _ _
  refine own_go (fun _ k => XS.iloadN X16.here hx rfl (hb hby d1_38) rfl k) ?_
  show own_G _ _ _ (T16.setTop (mkF m 39 #[.val (.int p0), .val (.ref b1), .val (.ref da), .val (.int (3 : Int32)), .val (.int (0 : Int32)), .val (.int (1 : Int32))] [(.int p0), (.ref b1)])) _ _ _ _
  refine own_go (fun _ k => XS.iload X16.here hx rfl (hb hby d1_39) rfl k) ?_
  show own_G _ _ _ (T16.setTop (mkF m 41 #[.val (.int p0), .val (.ref b1), .val (.ref da), .val (.int (3 : Int32)), .val (.int (0 : Int32)), .val (.int (1 : Int32))] [(.int (1 : Int32)), (.int p0), (.ref b1)])) _ _ _ _
  refine own_go (fun _ k => XS.isub X16.here hx rfl (hb hby d1_41) rfl k) ?_
  show own_G _ _ _ (T16.setTop (mkF m 42 #[.val (.int p0), .val (.ref b1), .val (.ref da), .val (.int (3 : Int32)), .val (.int (0 : Int32)), .val (.int (1 : Int32))] [(.int (p0 - (1 : Int32))), (.ref b1)])) _ _ _ _
  obtain ⟨_, _, ⟨T21, L21, k21, n21⟩, -, X21, ⟨Lc21, hQ21, l21, y21, z21⟩, st21⟩ := Jvm.LawKit.callS X16 hx (y := (⟨"java/lang/Integer", "valueOf", "(I)Ljava/lang/Integer;"⟩ : MethodName)) hown (mvT hZ (hw _ (List.mem_of_getElem? (i := 43) rfl))) (mvT hZ (hw _ (List.mem_of_getElem? (i := 44) rfl))) (mvT hZ (hw _ (List.mem_of_getElem? (i := 45) rfl))) (mvT hZ (hw _ (List.mem_of_getElem? (i := 46) rfl))) (by decide) (backOf (W := 1) (rm7 l Z a0 hw [] (p0 - (1 : Int32)) ca cc T11.heap n0 Zs11 f12 P_ZS_java_lang_Integer_IntegerCache_high P_ZS_java_lang_Integer_IntegerCache_cache bx (own_pos p0 (1 : Int32) hn (by decide) (own_nlt p0 (1 : Int32) (31 : Int32) hq (by decide)))) hZ (hw _ (List.mem_of_getElem? (i := 46) rfl)) (hw _ (List.mem_of_getElem? (i := 45) rfl)) (by decide) (by decide)) (g := (mkF m 42 #[.val (.int p0), .val (.ref b1), .val (.ref da), .val (.int (3 : Int32)), .val (.int (0 : Int32)), .val (.int (1 : Int32))] [(.int (p0 - (1 : Int32))), (.ref b1)])) rfl (by rw [hml]; rfl) (argsL := [(.int (p0 - (1 : Int32)))]) (rest := [(.ref b1)]) (lenOf pd_8 rfl) rfl (by show 2 * 0 + _ ≤ _; exact Nat.le_of_eq rfl) (hb hby d1_42) (fun _ _ => ⟨rfl, e16, (by decide : 1 + 1 ≤ _), (by decide : 3 + 1 ≤ _)⟩)
  dsimp only [Pt.U, Pt.locs, Pt.cells, Pt.slots] at X21 l21 y21 z21 st21 hQ21
  subst l21 y21 z21
  obtain ⟨b21, rfl, Nq21, Kq21, r21_0, r21_1⟩ := hQ21
  have N21 := Fr.app N11 Nq21
  have f22 : Old Z n0 T21.heap := f12.keep Kq21 all0
  have f23 : Arv Z T21.heap d0 k0 (.object "java/lang/Object") (0 : Int32) [] .null := f13.keep Kq21 nin0
  have f24 : Arv Z T21.heap da kd .int (3 : Int32) [(.int (1 : Int32)), (.int (7 : Int32)), (.int (31 : Int32))] (.int (0 : Int32)) := f14.keep Kq21 nin0
  have f25 : Exa Z T21.heap b1 "java/util/ArrayList" := r11_0.keep Kq21
  have f26 : Fld Z T21.heap b1 "java/util/AbstractList" "modCount" "I" (.int (0 : Int32)) := r11_1.keep Kq21 nin0
  have f27 : Fld Z T21.heap b1 "java/util/ArrayList" "elementData" "[Ljava/lang/Object;" (.ref d0) := r11_2.keep Kq21 nin0
  have f28 : Fld Z T21.heap b1 "java/util/ArrayList" "size" "I" (.int (0 : Int32)) := r11_3.keep Kq21 nin0
  have Zs21 : n0 ≤ T21.heap.size := Nat.le_trans Zs11 Kq21.1
  have K21_0 : Keep h0 T21.heap [] := K11_0.trans Kq21 all0
  refine own_go (fun _ k => st21 _ k) ?_
  show own_G _ _ _ (T21.setTop (mkF m 45 #[.val (.int p0), .val (.ref b1), .val (.ref da), .val (.int (3 : Int32)), .val (.int (0 : Int32)), .val (.int (1 : Int32))] [(.ref b21), (.ref b1)])) _ _ _ _
  obtain ⟨cq29, kq29, q29a, q29b, q29c⟩ := isOf hZ rfl f25
  obtain ⟨_, _, ⟨T29, L29, k29, n29⟩, -, X29, ⟨Lc29, hQ29, l29, y29, z29⟩, st29⟩ := X21.interfaceBack hx (xi := (⟨"java/util/List", "add", "(Ljava/lang/Object;)Z"⟩ : MethodName)) (y := (⟨"java/util/ArrayList", "add", "(Ljava/lang/Object;)Z"⟩ : MethodName)) hown (mvT hZ (hw _ (List.mem_of_getElem? (i := 50) rfl))) (mvT hZ (hw _ (List.mem_of_getElem? (i := 51) rfl))) (mvT hZ (hw _ (List.mem_of_getElem? (i := 52) rfl))) (mvT hZ (hw _ (List.mem_of_getElem? (i := 53) rfl))) (mvT hZ (hw _ (List.mem_of_getElem? (i := 54) rfl))) (mvT hZ (hw _ (List.mem_of_getElem? (i := 55) rfl))) (mvT hZ (hw _ (List.mem_of_getElem? (i := 56) rfl))) (mvT hZ (hw _ (List.mem_of_getElem? (i := 39) rfl))) (by decide) (backOf (W := 0) (rm8a l Z a0 hw [] b1 b21 (0 : Int32) d0 k0 T21.heap n0 Zs21 f25 f26 f27 f28 gg1 f22 P_ZS_java_util_ArrayList_DEFAULTCAPACITY_EMPTY_ELEMENTDATA f23 r21_0) hZ (hw _ (List.mem_of_getElem? (i := 57) rfl)) (hw _ (List.mem_of_getElem? (i := 6) rfl)) (by decide) (by decide)) q29a q29b q29c (g := (mkF m 45 #[.val (.int p0), .val (.ref b1), .val (.ref da), .val (.int (3 : Int32)), .val (.int (0 : Int32)), .val (.int (1 : Int32))] [(.ref b21), (.ref b1)])) rfl (by rw [hml]; rfl) (Steps.refl _) (argsL := [(.ref b21)]) (rest := []) (lenOf pd_9 rfl) rfl (by show 2 * 0 + _ ≤ _; exact Nat.le_of_eq rfl) (hb hby d1_45) (fun _ _ => ⟨rfl, rfl, (by decide : 2 + 1 ≤ _), (by decide : 4 + 10 ≤ _)⟩)
  dsimp only [Pt.U, Pt.locs, Pt.cells, Pt.slots] at X29 l29 y29 z29 st29 hQ29
  subst l29 y29 z29
  obtain ⟨na29, kn29, rfl, Nq29, Kq29, r29_0, r29_1, r29_2, r29_3, r29_4, r29_5, r29_6⟩ := hQ29
  have N29 := Fr.app N21 Nq29
  have ne30 : d0 ≠ na29 := Nat.ne_of_lt (Nat.lt_of_lt_of_le f23.lt r29_0)
  have ne31 : da ≠ na29 := Nat.ne_of_lt (Nat.lt_of_lt_of_le f24.lt r29_0)
  have ne32 : b1 ≠ na29 := Nat.ne_of_lt (Nat.lt_of_lt_of_le f25.lt r29_0)
  have ne33 : b21 ≠ na29 := Nat.ne_of_lt (Nat.lt_of_lt_of_le r21_0.lt r29_0)
  have gg_na29 : n0 ≤ na29 := Nat.le_trans Zs21 r29_0
  have sz_na29_0 : h0.size ≤ na29 := Nat.le_trans K21_0.1 r29_0
  have f34 : Old Z n0 T29.heap := f22.keep Kq29 (allS gg1 all0)
  have f35 : Arv Z T29.heap d0 k0 (.object "java/lang/Object") (0 : Int32) [] .null := f23.keep Kq29 (ninS ne2 nin0)
  have f36 : Arv Z T29.heap da kd .int (3 : Int32) [(.int (1 : Int32)), (.int (7 : Int32)), (.int (31 : Int32))] (.int (0 : Int32)) := f24.keep Kq29 (ninS ne3 nin0)
  have f37 : Exa Z T29.heap b1 "java/util/ArrayList" := f25.keep Kq29
  have f38 : Exa Z T29.heap b21 "java/lang/Integer" := r21_0.keep Kq29
  have f39 : Fld Z T29.heap b21 "java/lang/Integer" "value" "I" (.int (p0 - (1 : Int32))) := r21_1.keep Kq29 (ninS (ne_exa r21_0 f25 (by decide)) nin0)
  have Zs29 : n0 ≤ T29.heap.size := Nat.le_trans Zs21 Kq29.1
  have K29_0 : Keep h0 T29.heap [] := K21_0.trans Kq29 (allS (Or.inr sz1_0) all0)
  have r29_2' : Fld Z T29.heap b1 "java/util/AbstractList" "modCount" "I" (.int (1 : Int32)) := r29_2
  refine own_tr st29 ?_
  show own_G _ _ _ (T29.setTop (mkF m 50 #[.val (.int p0), .val (.ref b1), .val (.ref da), .val (.int (3 : Int32)), .val (.int (0 : Int32)), .val (.int (1 : Int32))] [(.int (1 : Int32))])) _ _ _ _
  refine own_go (fun _ k => XS.pop X29.here hx rfl (hb hby d1_50) rfl rfl k) ?_
  show own_G _ _ _ (T29.setTop (mkF m 51 #[.val (.int p0), .val (.ref b1), .val (.ref da), .val (.int (3 : Int32)), .val (.int (0 : Int32)), .val (.int (1 : Int32))] [])) _ _ _ _
  refine own_go (fun _ k => XS.iinc X29.here hx rfl (hb hby d1_51) rfl (l' := #[.val (.int p0), .val (.ref b1), .val (.ref da), .val (.int (3 : Int32)), .val (.int (1 : Int32)), .val (.int (1 : Int32))]) rfl k) ?_
  show own_G _ _ _ (T29.setTop (mkF m 54 #[.val (.int p0), .val (.ref b1), .val (.ref da), .val (.int (3 : Int32)), .val (.int (1 : Int32)), .val (.int (1 : Int32))] [])) _ _ _ _
  refine own_go (fun _ k => XS.goto X29.here hx rfl (pc0 := 54) (pc' := 18) rfl (hb hby d1_54) (by decide) (by decide) k) ?_
  show own_G _ _ _ (T29.setTop (mkF m 18 #[.val (.int p0), .val (.ref b1), .val (.ref da), .val (.int (3 : Int32)), .val (.int (1 : Int32)), .val (.int (1 : Int32))] [])) _ _ _ _
  refine own_go (fun _ k => XS.iload X29.here hx rfl (hb hby d1_18) rfl k) ?_
  show own_G _ _ _ (T29.setTop (mkF m 20 #[.val (.int p0), .val (.ref b1), .val (.ref da), .val (.int (3 : Int32)), .val (.int (1 : Int32)), .val (.int (1 : Int32))] [(.int (1 : Int32))])) _ _ _ _
  refine own_go (fun _ k => XS.iloadN X29.here hx rfl (hb hby d1_20) rfl k) ?_
  show own_G _ _ _ (T29.setTop (mkF m 21 #[.val (.int p0), .val (.ref b1), .val (.ref da), .val (.int (3 : Int32)), .val (.int (1 : Int32)), .val (.int (1 : Int32))] [(.int (3 : Int32)), (.int (1 : Int32))])) _ _ _ _
  have hc40 : (1 : Int32) < (3 : Int32) := (by decide)
  refine own_go (fun _ k => XS.icmpNo X29.here hx rfl (hb hby d1_21) rfl (tlt hc40).2.1 k) ?_
  show own_G _ _ _ (T29.setTop (mkF m 24 #[.val (.int p0), .val (.ref b1), .val (.ref da), .val (.int (3 : Int32)), .val (.int (1 : Int32)), .val (.int (1 : Int32))] [])) _ _ _ _
  refine own_go (fun _ k => XS.aloadN X29.here hx rfl (hb hby d1_24) rfl rfl k) ?_
  show own_G _ _ _ (T29.setTop (mkF m 25 #[.val (.int p0), .val (.ref b1), .val (.ref da), .val (.int (3 : Int32)), .val (.int (1 : Int32)), .val (.int (1 : Int32))] [(.ref da)])) _ _ _ _
  refine own_go (fun _ k => XS.iload X29.here hx rfl (hb hby d1_25) rfl k) ?_
  show own_G _ _ _ (T29.setTop (mkF m 27 #[.val (.int p0), .val (.ref b1), .val (.ref da), .val (.int (3 : Int32)), .val (.int (1 : Int32)), .val (.int (1 : Int32))] [(.int (1 : Int32)), (.ref da)])) _ _ _ _
  obtain ⟨cl41, Ar41, q41, S41, Ng41, H41, G41⟩ := id f36
  have in41 : ¬ ((1 : Int32) < 0 ∨ cl41.slots.size ≤ ((1 : Int32)).toNatClampNeg) := inb_of S41 ⟨by decide, by decide⟩
  have at41 : cl41.slots[((1 : Int32)).toNatClampNeg]? = some (.int (7 : Int32)) := H41.at in41 rfl
  refine own_go (fun _ k => X29.iaload hx (j := (1 : Int32)) (v := (.int (7 : Int32))) (by exact Ar41.1) (State.isArrayOf_alike hZ.alike Ar41.2.1) Ar41.2.2 in41 at41 (g := (mkF m 27 #[.val (.int p0), .val (.ref b1), .val (.ref da), .val (.int (3 : Int32)), .val (.int (1 : Int32)), .val (.int (1 : Int32))] [(.int (1 : Int32)), (.ref da)])) rfl rfl (hb hby d1_27) _ k) ?_
  show own_G _ _ _ (T29.setTop (mkF m 28 #[.val (.int p0), .val (.ref b1), .val (.ref da), .val (.int (3 : Int32)), .val (.int (1 : Int32)), .val (.int (1 : Int32))] [(.int (7 : Int32))])) _ _ _ _
  refine own_go (fun _ k => XS.istore X29.here hx rfl (hb hby d1_28) rfl (l' := #[.val (.int p0), .val (.ref b1), .val (.ref da), .val (.int (3 : Int32)), .val (.int (1 : Int32)), .val (.int (7 : Int32))]) rfl k) ?_
  show own_G _ _ _ (T29.setTop (mkF m 30 #[.val (.int p0), .val (.ref b1), .val (.ref da), .val (.int (3 : Int32)), .val (.int (1 : Int32)), .val (.int (7 : Int32))] [])) _ _ _ _
  refine own_go (fun _ k => XS.iloadN X29.here hx rfl (hb hby d1_30) rfl k) ?_
  show own_G _ _ _ (T29.setTop (mkF m 31 #[.val (.int p0), .val (.ref b1), .val (.ref da), .val (.int (3 : Int32)), .val (.int (1 : Int32)), .val (.int (7 : Int32))] [(.int p0)])) _ _ _ _
  refine own_go (fun _ k => XS.iload X29.here hx rfl (hb hby d1_31) rfl k) ?_
  show own_G _ _ _ (T29.setTop (mkF m 33 #[.val (.int p0), .val (.ref b1), .val (.ref da), .val (.int (3 : Int32)), .val (.int (1 : Int32)), .val (.int (7 : Int32))] [(.int (7 : Int32)), (.int p0)])) _ _ _ _
  refine own_go (fun _ k => XS.isub X29.here hx rfl (hb hby d1_33) rfl k) ?_
  show own_G _ _ _ (T29.setTop (mkF m 34 #[.val (.int p0), .val (.ref b1), .val (.ref da), .val (.int (3 : Int32)), .val (.int (1 : Int32)), .val (.int (7 : Int32))] [(.int (p0 - (7 : Int32)))])) _ _ _ _
  have hc42 : ¬ ((p0 - (7 : Int32)) < (0 : Int32)) := own_pos p0 (7 : Int32) hn (by decide) (own_nlt p0 (7 : Int32) (31 : Int32) hq (by decide))
  refine own_go (fun _ k => XS.ifNo X29.here hx rfl (hb hby d1_34) rfl ((if0 _ _).trans (flt hc42).1) k) ?_
  show own_G _ _ _ (T29.setTop (mkF m 37 #[.val (.int p0), .val (.ref b1), .val (.ref da), .val (.int (3 : Int32)), .val (.int (1 : Int32)), .val (.int (7 : Int32))] [])) _ _ _ _
  refine own_go (fun _ k => XS.aloadN X29.here hx rfl (hb hby d1_37) rfl rfl k) ?_
  show own_G _ _ _ (T29.setTop (mkF m 38 #[.val (.int p0), .val (.ref b1), .val (.ref da), .val (.int (3 : Int32)), .val (.int (1 : Int32)), .val (.int (7 : Int32))] [(.ref b1)])) _ _ _ _
  refine own_go (fun _ k => XS.iloadN X29.here hx rfl (hb hby d1_38) rfl k) ?_
  show own_G _ _ _ (T29.setTop (mkF m 39 #[.val (.int p0), .val (.ref b1), .val (.ref da), .val (.int (3 : Int32)), .val (.int (1 : Int32)), .val (.int (7 : Int32))] [(.int p0), (.ref b1)])) _ _ _ _
  refine own_go (fun _ k => XS.iload X29.here hx rfl (hb hby d1_39) rfl k) ?_
  show own_G _ _ _ (T29.setTop (mkF m 41 #[.val (.int p0), .val (.ref b1), .val (.ref da), .val (.int (3 : Int32)), .val (.int (1 : Int32)), .val (.int (7 : Int32))] [(.int (7 : Int32)), (.int p0), (.ref b1)])) _ _ _ _
  refine own_go (fun _ k => XS.isub X29.here hx rfl (hb hby d1_41) rfl k) ?_
  show own_G _ _ _ (T29.setTop (mkF m 42 #[.val (.int p0), .val (.ref b1), .val (.ref da), .val (.int (3 : Int32)), .val (.int (1 : Int32)), .val (.int (7 : Int32))] [(.int (p0 - (7 : Int32))), (.ref b1)])) _ _ _ _
  obtain ⟨_, _, ⟨T43, L43, k43, n43⟩, -, X43, ⟨Lc43, hQ43, l43, y43, z43⟩, st43⟩ := Jvm.LawKit.callS X29 hx (y := (⟨"java/lang/Integer", "valueOf", "(I)Ljava/lang/Integer;"⟩ : MethodName)) hown (mvT hZ (hw _ (List.mem_of_getElem? (i := 43) rfl))) (mvT hZ (hw _ (List.mem_of_getElem? (i := 44) rfl))) (mvT hZ (hw _ (List.mem_of_getElem? (i := 45) rfl))) (mvT hZ (hw _ (List.mem_of_getElem? (i := 46) rfl))) (by decide) (backOf (W := 1) (rm7 l Z a0 hw [] (p0 - (7 : Int32)) ca cc T29.heap n0 Zs29 f34 P_ZS_java_lang_Integer_IntegerCache_high P_ZS_java_lang_Integer_IntegerCache_cache bx (own_pos p0 (7 : Int32) hn (by decide) (own_nlt p0 (7 : Int32) (31 : Int32) hq (by decide)))) hZ (hw _ (List.mem_of_getElem? (i := 46) rfl)) (hw _ (List.mem_of_getElem? (i := 45) rfl)) (by decide) (by decide)) (g := (mkF m 42 #[.val (.int p0), .val (.ref b1), .val (.ref da), .val (.int (3 : Int32)), .val (.int (1 : Int32)), .val (.int (7 : Int32))] [(.int (p0 - (7 : Int32))), (.ref b1)])) rfl (by rw [hml]; rfl) (argsL := [(.int (p0 - (7 : Int32)))]) (rest := [(.ref b1)]) (lenOf pd_8 rfl) rfl (by show 2 * 0 + _ ≤ _; exact Nat.le_of_eq rfl) (hb hby d1_42) (fun _ _ => ⟨rfl, rfl, (by decide : 3 + 1 ≤ _), (by decide : 14 + 1 ≤ _)⟩)
  dsimp only [Pt.U, Pt.locs, Pt.cells, Pt.slots] at X43 l43 y43 z43 st43 hQ43
  subst l43 y43 z43
  obtain ⟨b43, rfl, Nq43, Kq43, r43_0, r43_1⟩ := hQ43
  have N43 := Fr.app N29 Nq43
  have f44 : Old Z n0 T43.heap := f34.keep Kq43 all0
  have f45 : Arv Z T43.heap d0 k0 (.object "java/lang/Object") (0 : Int32) [] .null := f35.keep Kq43 nin0
  have f46 : Arv Z T43.heap da kd .int (3 : Int32) [(.int (1 : Int32)), (.int (7 : Int32)), (.int (31 : Int32))] (.int (0 : Int32)) := f36.keep Kq43 nin0
  have f47 : Exa Z T43.heap b1 "java/util/ArrayList" := r29_1.keep Kq43
  have f48 : Exa Z T43.heap b21 "java/lang/Integer" := f38.keep Kq43
  have f49 : Fld Z T43.heap b21 "java/lang/Integer" "value" "I" (.int (p0 - (1 : Int32))) := f39.keep Kq43 nin0
  have f50 : Fld Z T43.heap b1 "java/util/AbstractList" "modCount" "I" (.int (1 : Int32)) := r29_2'.keep Kq43 nin0
  have f51 : Fld Z T43.heap b1 "java/util/ArrayList" "elementData" "[Ljava/lang/Object;" (.ref na29) := r29_3.keep Kq43 nin0
  have f52 : Fld Z T43.heap b1 "java/util/ArrayList" "size" "I" (.int (1 : Int32)) := r29_4.keep Kq43 nin0
  have f53 : Arv Z T43.heap na29 kn29 (.object "java/lang/Object") (10 : Int32) [(.ref b21), .null, .null, .null, .null, .null, .null, .null, .null, .null] .null := r29_5.keep Kq43 nin0
  have Zs43 : n0 ≤ T43.heap.size := Nat.le_trans Zs29 Kq43.1
  have K43_0 : Keep h0 T43.heap [] := K29_0.trans Kq43 all0
  refine own_go (fun _ k => st43 _ k) ?_
  show own_G _ _ _ (T43.setTop (mkF m 45 #[.val (.int p0), .val (.ref b1), .val (.ref da), .val (.int (3 : Int32)), .val (.int (1 : Int32)), .val (.int (7 : Int32))] [(.ref b43), (.ref b1)])) _ _ _ _
  obtain ⟨cq54, kq54, q54a, q54b, q54c⟩ := isOf hZ rfl f47
  obtain ⟨_, _, ⟨T54, L54, k54, n54⟩, -, X54, ⟨Lc54, hQ54, l54, y54, z54⟩, st54⟩ := X43.interfaceBack hx (xi := (⟨"java/util/List", "add", "(Ljava/lang/Object;)Z"⟩ : MethodName)) (y := (⟨"java/util/ArrayList", "add", "(Ljava/lang/Object;)Z"⟩ : MethodName)) hown (mvT hZ (hw _ (List.mem_of_getElem? (i := 50) rfl))) (mvT hZ (hw _ (List.mem_of_getElem? (i := 51) rfl))) (mvT hZ (hw _ (List.mem_of_getElem? (i := 52) rfl))) (mvT hZ (hw _ (List.mem_of_getElem? (i := 53) rfl))) (mvT hZ (hw _ (List.mem_of_getElem? (i := 54) rfl))) (mvT hZ (hw _ (List.mem_of_getElem? (i := 55) rfl))) (mvT hZ (hw _ (List.mem_of_getElem? (i := 56) rfl))) (mvT hZ (hw _ (List.mem_of_getElem? (i := 39) rfl))) (by decide) (backOf (W := 0) (rm8b l Z a0 hw [] b1 b43 (1 : Int32) na29 kn29 b21 T43.heap n0 Zs43 f47 f50 f51 f52 gg1 gg_na29 f53 r29_6 r43_0) hZ (hw _ (List.mem_of_getElem? (i := 57) rfl)) (hw _ (List.mem_of_getElem? (i := 6) rfl)) (by decide) (by decide)) q54a q54b q54c (g := (mkF m 45 #[.val (.int p0), .val (.ref b1), .val (.ref da), .val (.int (3 : Int32)), .val (.int (1 : Int32)), .val (.int (7 : Int32))] [(.ref b43), (.ref b1)])) rfl (by rw [hml]; rfl) (Steps.refl _) (argsL := [(.ref b43)]) (rest := []) (lenOf pd_9 rfl) rfl (by show 2 * 0 + _ ≤ _; exact Nat.le_of_eq rfl) (hb hby d1_45) (fun _ _ => ⟨rfl, rfl, (by decide : 4 + 0 ≤ _), (by decide : 15 + 0 ≤ _)⟩)
  dsimp only [Pt.U, Pt.locs, Pt.cells, Pt.slots] at X54 l54 y54 z54 st54 hQ54
  subst l54 y54 z54
  obtain ⟨rfl, Nq54, Kq54, r54_0, r54_1, r54_2, r54_3, r54_4, r54_5⟩ := hQ54
  have N54 := Fr.app N43 Nq54
  have f55 : Old Z n0 T54.heap := f44.keep Kq54 (allS gg1 (allS gg_na29 all0))
  have f56 : Arv Z T54.heap d0 k0 (.object "java/lang/Object") (0 : Int32) [] .null := f45.keep Kq54 (ninS ne2 (ninS ne30 nin0))
  have f57 : Arv Z T54.heap da kd .int (3 : Int32) [(.int (1 : Int32)), (.int (7 : Int32)), (.int (31 : Int32))] (.int (0 : Int32)) := f46.keep Kq54 (ninS ne3 (ninS ne31 nin0))
  have f58 : Exa Z T54.heap b1 "java/util/ArrayList" := f47.keep Kq54
  have f59 : Exa Z T54.heap b21 "java/lang/Integer" := f48.keep Kq54
  have f60 : Fld Z T54.heap b21 "java/lang/Integer" "value" "I" (.int (p0 - (1 : Int32))) := f49.keep Kq54 (ninS (ne_exa f48 f47 (by decide)) (ninS ne33 nin0))
  have f61 : Exa Z T54.heap b43 "java/lang/Integer" := r43_0.keep Kq54
  have f62 : Fld Z T54.heap b43 "java/lang/Integer" "value" "I" (.int (p0 - (7 : Int32))) := r43_1.keep Kq54 (ninS (ne_exa r43_0 f47 (by decide)) (ninS (by obtain ⟨c_, A_, -⟩ := f53; exact ne_arr r43_0 (hw _ (List.mem_of_getElem? (i := 114) rfl)) A_) nin0))
  have Zs54 : n0 ≤ T54.heap.size := Nat.le_trans Zs43 Kq54.1
  have K54_0 : Keep h0 T54.heap [] := K43_0.trans Kq54 (allS (Or.inr sz1_0) (allS (Or.inr sz_na29_0) all0))
  have r54_1' : Fld Z T54.heap b1 "java/util/AbstractList" "modCount" "I" (.int (2 : Int32)) := r54_1
  refine own_tr st54 ?_
  show own_G _ _ _ (T54.setTop (mkF m 50 #[.val (.int p0), .val (.ref b1), .val (.ref da), .val (.int (3 : Int32)), .val (.int (1 : Int32)), .val (.int (7 : Int32))] [(.int (1 : Int32))])) _ _ _ _
  refine own_go (fun _ k => XS.pop X54.here hx rfl (hb hby d1_50) rfl rfl k) ?_
  show own_G _ _ _ (T54.setTop (mkF m 51 #[.val (.int p0), .val (.ref b1), .val (.ref da), .val (.int (3 : Int32)), .val (.int (1 : Int32)), .val (.int (7 : Int32))] [])) _ _ _ _
  refine own_go (fun _ k => XS.iinc X54.here hx rfl (hb hby d1_51) rfl (l' := #[.val (.int p0), .val (.ref b1), .val (.ref da), .val (.int (3 : Int32)), .val (.int (2 : Int32)), .val (.int (7 : Int32))]) rfl k) ?_
  show own_G _ _ _ (T54.setTop (mkF m 54 #[.val (.int p0), .val (.ref b1), .val (.ref da), .val (.int (3 : Int32)), .val (.int (2 : Int32)), .val (.int (7 : Int32))] [])) _ _ _ _
  refine own_go (fun _ k => XS.goto X54.here hx rfl (pc0 := 54) (pc' := 18) rfl (hb hby d1_54) (by decide) (by decide) k) ?_
  show own_G _ _ _ (T54.setTop (mkF m 18 #[.val (.int p0), .val (.ref b1), .val (.ref da), .val (.int (3 : Int32)), .val (.int (2 : Int32)), .val (.int (7 : Int32))] [])) _ _ _ _
  refine own_go (fun _ k => XS.iload X54.here hx rfl (hb hby d1_18) rfl k) ?_
  show own_G _ _ _ (T54.setTop (mkF m 20 #[.val (.int p0), .val (.ref b1), .val (.ref da), .val (.int (3 : Int32)), .val (.int (2 : Int32)), .val (.int (7 : Int32))] [(.int (2 : Int32))])) _ _ _ _
  refine own_go (fun _ k => XS.iloadN X54.here hx rfl (hb hby d1_20) rfl k) ?_
  show own_G _ _ _ (T54.setTop (mkF m 21 #[.val (.int p0), .val (.ref b1), .val (.ref da), .val (.int (3 : Int32)), .val (.int (2 : Int32)), .val (.int (7 : Int32))] [(.int (3 : Int32)), (.int (2 : Int32))])) _ _ _ _
  have hc63 : (2 : Int32) < (3 : Int32) := (by decide)
  refine own_go (fun _ k => XS.icmpNo X54.here hx rfl (hb hby d1_21) rfl (tlt hc63).2.1 k) ?_
  show own_G _ _ _ (T54.setTop (mkF m 24 #[.val (.int p0), .val (.ref b1), .val (.ref da), .val (.int (3 : Int32)), .val (.int (2 : Int32)), .val (.int (7 : Int32))] [])) _ _ _ _
  refine own_go (fun _ k => XS.aloadN X54.here hx rfl (hb hby d1_24) rfl rfl k) ?_
  show own_G _ _ _ (T54.setTop (mkF m 25 #[.val (.int p0), .val (.ref b1), .val (.ref da), .val (.int (3 : Int32)), .val (.int (2 : Int32)), .val (.int (7 : Int32))] [(.ref da)])) _ _ _ _
  refine own_go (fun _ k => XS.iload X54.here hx rfl (hb hby d1_25) rfl k) ?_
  show own_G _ _ _ (T54.setTop (mkF m 27 #[.val (.int p0), .val (.ref b1), .val (.ref da), .val (.int (3 : Int32)), .val (.int (2 : Int32)), .val (.int (7 : Int32))] [(.int (2 : Int32)), (.ref da)])) _ _ _ _
  obtain ⟨cl64, Ar64, q64, S64, Ng64, H64, G64⟩ := id f57
  have in64 : ¬ ((2 : Int32) < 0 ∨ cl64.slots.size ≤ ((2 : Int32)).toNatClampNeg) := inb_of S64 ⟨by decide, by decide⟩
  have at64 : cl64.slots[((2 : Int32)).toNatClampNeg]? = some (.int (31 : Int32)) := H64.at in64 rfl
  refine own_go (fun _ k => X54.iaload hx (j := (2 : Int32)) (v := (.int (31 : Int32))) (by exact Ar64.1) (State.isArrayOf_alike hZ.alike Ar64.2.1) Ar64.2.2 in64 at64 (g := (mkF m 27 #[.val (.int p0), .val (.ref b1), .val (.ref da), .val (.int (3 : Int32)), .val (.int (2 : Int32)), .val (.int (7 : Int32))] [(.int (2 : Int32)), (.ref da)])) rfl rfl (hb hby d1_27) _ k) ?_
  show own_G _ _ _ (T54.setTop (mkF m 28 #[.val (.int p0), .val (.ref b1), .val (.ref da), .val (.int (3 : Int32)), .val (.int (2 : Int32)), .val (.int (7 : Int32))] [(.int (31 : Int32))])) _ _ _ _
  refine own_go (fun _ k => XS.istore X54.here hx rfl (hb hby d1_28) rfl (l' := #[.val (.int p0), .val (.ref b1), .val (.ref da), .val (.int (3 : Int32)), .val (.int (2 : Int32)), .val (.int (31 : Int32))]) rfl k) ?_
  show own_G _ _ _ (T54.setTop (mkF m 30 #[.val (.int p0), .val (.ref b1), .val (.ref da), .val (.int (3 : Int32)), .val (.int (2 : Int32)), .val (.int (31 : Int32))] [])) _ _ _ _
  refine own_go (fun _ k => XS.iloadN X54.here hx rfl (hb hby d1_30) rfl k) ?_
  show own_G _ _ _ (T54.setTop (mkF m 31 #[.val (.int p0), .val (.ref b1), .val (.ref da), .val (.int (3 : Int32)), .val (.int (2 : Int32)), .val (.int (31 : Int32))] [(.int p0)])) _ _ _ _
  refine own_go (fun _ k => XS.iload X54.here hx rfl (hb hby d1_31) rfl k) ?_
  show own_G _ _ _ (T54.setTop (mkF m 33 #[.val (.int p0), .val (.ref b1), .val (.ref da), .val (.int (3 : Int32)), .val (.int (2 : Int32)), .val (.int (31 : Int32))] [(.int (31 : Int32)), (.int p0)])) _ _ _ _
  refine own_go (fun _ k => XS.isub X54.here hx rfl (hb hby d1_33) rfl k) ?_
  show own_G _ _ _ (T54.setTop (mkF m 34 #[.val (.int p0), .val (.ref b1), .val (.ref da), .val (.int (3 : Int32)), .val (.int (2 : Int32)), .val (.int (31 : Int32))] [(.int (p0 - (31 : Int32)))])) _ _ _ _
  have hc65 : ¬ ((p0 - (31 : Int32)) < (0 : Int32)) := own_pos p0 (31 : Int32) hn (by decide) (own_nlt p0 (31 : Int32) (31 : Int32) hq (by decide))
  refine own_go (fun _ k => XS.ifNo X54.here hx rfl (hb hby d1_34) rfl ((if0 _ _).trans (flt hc65).1) k) ?_
  show own_G _ _ _ (T54.setTop (mkF m 37 #[.val (.int p0), .val (.ref b1), .val (.ref da), .val (.int (3 : Int32)), .val (.int (2 : Int32)), .val (.int (31 : Int32))] [])) _ _ _ _
  refine own_go (fun _ k => XS.aloadN X54.here hx rfl (hb hby d1_37) rfl rfl k) ?_
  show own_G _ _ _ (T54.setTop (mkF m 38 #[.val (.int p0), .val (.ref b1), .val (.ref da), .val (.int (3 : Int32)), .val (.int (2 : Int32)), .val (.int (31 : Int32))] [(.ref b1)])) _ _ _ _
  refine own_go (fun _ k => XS.iloadN X54.here hx rfl (hb hby d1_38) rfl k) ?_
  show own_G _ _ _ (T54.setTop (mkF m 39 #[.val (.int p0), .val (.ref b1), .val (.ref da), .val (.int (3 : Int32)), .val (.int (2 : Int32)), .val (.int (31 : Int32))] [(.int p0), (.ref b1)])) _ _ _ _
  refine own_go (fun _ k => XS.iload X54.here hx rfl (hb hby d1_39) rfl k) ?_
  show own_G _ _ _ (T54.setTop (mkF m 41 #[.val (.int p0), .val (.ref b1), .val (.ref da), .val (.int (3 : Int32)), .val (.int (2 : Int32)), .val (.int (31 : Int32))] [(.int (31 : Int32)), (.int p0), (.ref b1)])) _ _ _ _
  refine own_go (fun _ k => XS.isub X54.here hx rfl (hb hby d1_41) rfl k) ?_
  show own_G _ _ _ (T54.setTop (mkF m 42 #[.val (.int p0), .val (.ref b1), .val (.ref da), .val (.int (3 : Int32)), .val (.int (2 : Int32)), .val (.int (31 : Int32))] [(.int (p0 - (31 : Int32))), (.ref b1)])) _ _ _ _
  obtain ⟨_, _, ⟨T66, L66, k66, n66⟩, -, X66, ⟨Lc66, hQ66, l66, y66, z66⟩, st66⟩ := Jvm.LawKit.callS X54 hx (y := (⟨"java/lang/Integer", "valueOf", "(I)Ljava/lang/Integer;"⟩ : MethodName)) hown (mvT hZ (hw _ (List.mem_of_getElem? (i := 43) rfl))) (mvT hZ (hw _ (List.mem_of_getElem? (i := 44) rfl))) (mvT hZ (hw _ (List.mem_of_getElem? (i := 45) rfl))) (mvT hZ (hw _ (List.mem_of_getElem? (i := 46) rfl))) (by decide) (backOf (W := 1) (rm7 l Z a0 hw [] (p0 - (31 : Int32)) ca cc T54.heap n0 Zs54 f55 P_ZS_java_lang_Integer_IntegerCache_high P_ZS_java_lang_Integer_IntegerCache_cache bx (own_pos p0 (31 : Int32) hn (by decide) (own_nlt p0 (31 : Int32) (31 : Int32) hq (by decide)))) hZ (hw _ (List.mem_of_getElem? (i := 46) rfl)) (hw _ (List.mem_of_getElem? (i := 45) rfl)) (by decide) (by decide)) (g := (mkF m 42 #[.val (.int p0), .val (.ref b1), .val (.ref da), .val (.int (3 : Int32)), .val (.int (2 : Int32)), .val (.int (31 : Int32))] [(.int (p0 - (31 : Int32))), (.ref b1)])) rfl (by rw [hml]; rfl) (argsL := [(.int (p0 - (31 : Int32)))]) (rest := [(.ref b1)]) (lenOf pd_8 rfl) rfl (by show 2 * 0 + _ ≤ _; exact Nat.le_of_eq rfl) (hb hby d1_42) (fun _ _ => ⟨rfl, rfl, (by decide : 4 + 1 ≤ _), (by decide : 15 + 1 ≤ _)⟩)
  dsimp only [Pt.U, Pt.locs, Pt.cells, Pt.slots] at X66 l66 y66 z66 st66 hQ66
  subst l66 y66 z66
  obtain ⟨b66, rfl, Nq66, Kq66, r66_0, r66_1⟩ := hQ66
  have N66 := Fr.app N54 Nq66
  have f67 : Old Z n0 T66.heap := f55.keep Kq66 all0
  have f68 : Arv Z T66.heap d0 k0 (.object "java/lang/Object") (0 : Int32) [] .null := f56.keep Kq66 nin0
  have f69 : Arv Z T66.heap da kd .int (3 : Int32) [(.int (1 : Int32)), (.int (7 : Int32)), (.int (31 : Int32))] (.int (0 : Int32)) := f57.keep Kq66 nin0
  have f70 : Exa Z T66.heap b1 "java/util/ArrayList" := r54_0.keep Kq66
  have f71 : Exa Z T66.heap b21 "java/lang/Integer" := f59.keep Kq66
  have f72 : Fld Z T66.heap b21 "java/lang/Integer" "value" "I" (.int (p0 - (1 : Int32))) := f60.keep Kq66 nin0
  have f73 : Exa Z T66.heap b43 "java/lang/Integer" := f61.keep Kq66
  have f74 : Fld Z T66.heap b43 "java/lang/Integer" "value" "I" (.int (p0 - (7 : Int32))) := f62.keep Kq66 nin0
  have f75 : Fld Z T66.heap b1 "java/util/AbstractList" "modCount" "I" (.int (2 : Int32)) := r54_1'.keep Kq66 nin0
  have f76 : Fld Z T66.heap b1 "java/util/ArrayList" "elementData" "[Ljava/lang/Object;" (.ref na29) := r54_2.keep Kq66 nin0
  have f77 : Fld Z T66.heap b1 "java/util/ArrayList" "size" "I" (.int (2 : Int32)) := r54_3.keep Kq66 nin0
  have f78 : Arv Z T66.heap na29 kn29 (.object "java/lang/Object") (10 : Int32) [(.ref b21), (.ref b43), .null, .null, .null, .null, .null, .null, .null, .null] .null := r54_4.keep Kq66 nin0
  have Zs66 : n0 ≤ T66.heap.size := Nat.le_trans Zs54 Kq66.1
  have K66_0 : Keep h0 T66.heap [] := K54_0.trans Kq66 all0
  refine own_go (fun _ k => st66 _ k) ?_
  show own_G _ _ _ (T66.setTop (mkF m 45 #[.val (.int p0), .val (.ref b1), .val (.ref da), .val (.int (3 : Int32)), .val (.int (2 : Int32)), .val (.int (31 : Int32))] [(.ref b66), (.ref b1)])) _ _ _ _
  obtain ⟨cq79, kq79, q79a, q79b, q79c⟩ := isOf hZ rfl f70
  obtain ⟨_, _, ⟨T79, L79, k79, n79⟩, -, X79, ⟨Lc79, hQ79, l79, y79, z79⟩, st79⟩ := X66.interfaceBack hx (xi := (⟨"java/util/List", "add", "(Ljava/lang/Object;)Z"⟩ : MethodName)) (y := (⟨"java/util/ArrayList", "add", "(Ljava/lang/Object;)Z"⟩ : MethodName)) hown (mvT hZ (hw _ (List.mem_of_getElem? (i := 50) rfl))) (mvT hZ (hw _ (List.mem_of_getElem? (i := 51) rfl))) (mvT hZ (hw _ (List.mem_of_getElem? (i := 52) rfl))) (mvT hZ (hw _ (List.mem_of_getElem? (i := 53) rfl))) (mvT hZ (hw _ (List.mem_of_getElem? (i := 54) rfl))) (mvT hZ (hw _ (List.mem_of_getElem? (i := 55) rfl))) (mvT hZ (hw _ (List.mem_of_getElem? (i := 56) rfl))) (mvT hZ (hw _ (List.mem_of_getElem? (i := 39) rfl))) (by decide) (backOf (W := 0) (rm8c l Z a0 hw [] b1 b66 (2 : Int32) na29 kn29 b21 b43 T66.heap n0 Zs66 f70 f75 f76 f77 gg1 gg_na29 f78 r54_5 r66_0) hZ (hw _ (List.mem_of_getElem? (i := 57) rfl)) (hw _ (List.mem_of_getElem? (i := 6) rfl)) (by decide) (by decide)) q79a q79b q79c (g := (mkF m 45 #[.val (.int p0), .val (.ref b1), .val (.ref da), .val (.int (3 : Int32)), .val (.int (2 : Int32)), .val (.int (31 : Int32))] [(.ref b66), (.ref b1)])) rfl (by rw [hml]; rfl) (Steps.refl _) (argsL := [(.ref b66)]) (rest := []) (lenOf pd_9 rfl) rfl (by show 2 * 0 + _ ≤ _; exact Nat.le_of_eq rfl) (hb hby d1_45) (fun _ _ => ⟨rfl, rfl, (by decide : 5 + 0 ≤ _), (by decide : 16 + 0 ≤ _)⟩)
  dsimp only [Pt.U, Pt.locs, Pt.cells, Pt.slots] at X79 l79 y79 z79 st79 hQ79
  subst l79 y79 z79
  obtain ⟨rfl, Nq79, Kq79, r79_0, r79_1, r79_2, r79_3, r79_4, r79_5⟩ := hQ79
  have N79 := Fr.app N66 Nq79
  have f80 : Old Z n0 T79.heap := f67.keep Kq79 (allS gg1 (allS gg_na29 all0))
  have f81 : Arv Z T79.heap d0 k0 (.object "java/lang/Object") (0 : Int32) [] .null := f68.keep Kq79 (ninS ne2 (ninS ne30 nin0))
  have f82 : Arv Z T79.heap da kd .int (3 : Int32) [(.int (1 : Int32)), (.int (7 : Int32)), (.int (31 : Int32))] (.int (0 : Int32)) := f69.keep Kq79 (ninS ne3 (ninS ne31 nin0))
  have f83 : Exa Z T79.heap b1 "java/util/ArrayList" := f70.keep Kq79
  have f84 : Exa Z T79.heap b21 "java/lang/Integer" := f71.keep Kq79
  have f85 : Fld Z T79.heap b21 "java/lang/Integer" "value" "I" (.int (p0 - (1 : Int32))) := f72.keep Kq79 (ninS (ne_exa f71 f70 (by decide)) (ninS ne33 nin0))
  have f86 : Exa Z T79.heap b43 "java/lang/Integer" := f73.keep Kq79
  have f87 : Fld Z T79.heap b43 "java/lang/Integer" "value" "I" (.int (p0 - (7 : Int32))) := f74.keep Kq79 (ninS (ne_exa f73 f70 (by decide)) (ninS (by obtain ⟨c_, A_, -⟩ := f78; exact ne_arr f73 (hw _ (List.mem_of_getElem? (i := 114) rfl)) A_) nin0))
  have f88 : Exa Z T79.heap b66 "java/lang/Integer" := r66_0.keep Kq79
  have f89 : Fld Z T79.heap b66 "java/lang/Integer" "value" "I" (.int (p0 - (31 : Int32))) := r66_1.keep Kq79 (ninS (ne_exa r66_0 f70 (by decide)) (ninS (by obtain ⟨c_, A_, -⟩ := f78; exact ne_arr r66_0 (hw _ (List.mem_of_getElem? (i := 114) rfl)) A_) nin0))
  have Zs79 : n0 ≤ T79.heap.size := Nat.le_trans Zs66 Kq79.1
  have K79_0 : Keep h0 T79.heap [] := K66_0.trans Kq79 (allS (Or.inr sz1_0) (allS (Or.inr sz_na29_0) all0))
  have r79_1' : Fld Z T79.heap b1 "java/util/AbstractList" "modCount" "I" (.int (3 : Int32)) := r79_1
  refine own_tr st79 ?_
  show own_G _ _ _ (T79.setTop (mkF m 50 #[.val (.int p0), .val (.ref b1), .val (.ref da), .val (.int (3 : Int32)), .val (.int (2 : Int32)), .val (.int (31 : Int32))] [(.int (1 : Int32))])) _ _ _ _
  refine own_go (fun _ k => XS.pop X79.here hx rfl (hb hby d1_50) rfl rfl k) ?_
  show own_G _ _ _ (T79.setTop (mkF m 51 #[.val (.int p0), .val (.ref b1), .val (.ref da), .val (.int (3 : Int32)), .val (.int (2 : Int32)), .val (.int (31 : Int32))] [])) _ _ _ _
  refine own_go (fun _ k => XS.iinc X79.here hx rfl (hb hby d1_51) rfl (l' := #[.val (.int p0), .val (.ref b1), .val (.ref da), .val (.int (3 : Int32)), .val (.int (3 : Int32)), .val (.int (31 : Int32))]) rfl k) ?_
  show own_G _ _ _ (T79.setTop (mkF m 54 #[.val (.int p0), .val (.ref b1), .val (.ref da), .val (.int (3 : Int32)), .val (.int (3 : Int32)), .val (.int (31 : Int32))] [])) _ _ _ _
  refine own_go (fun _ k => XS.goto X79.here hx rfl (pc0 := 54) (pc' := 18) rfl (hb hby d1_54) (by decide) (by decide) k) ?_
  show own_G _ _ _ (T79.setTop (mkF m 18 #[.val (.int p0), .val (.ref b1), .val (.ref da), .val (.int (3 : Int32)), .val (.int (3 : Int32)), .val (.int (31 : Int32))] [])) _ _ _ _
  refine own_go (fun _ k => XS.iload X79.here hx rfl (hb hby d1_18) rfl k) ?_
  show own_G _ _ _ (T79.setTop (mkF m 20 #[.val (.int p0), .val (.ref b1), .val (.ref da), .val (.int (3 : Int32)), .val (.int (3 : Int32)), .val (.int (31 : Int32))] [(.int (3 : Int32))])) _ _ _ _
  refine own_go (fun _ k => XS.iloadN X79.here hx rfl (hb hby d1_20) rfl k) ?_
  show own_G _ _ _ (T79.setTop (mkF m 21 #[.val (.int p0), .val (.ref b1), .val (.ref da), .val (.int (3 : Int32)), .val (.int (3 : Int32)), .val (.int (31 : Int32))] [(.int (3 : Int32)), (.int (3 : Int32))])) _ _ _ _
  have hc90 : ¬ ((3 : Int32) < (3 : Int32)) := (by decide)
  refine own_go (fun _ k => XS.icmpYes X79.here hx rfl (pc0 := 21) (pc' := 57) rfl (hb hby d1_21) rfl (flt hc90).2.1 (by decide) (by decide) k) ?_
  show own_G _ _ _ (T79.setTop (mkF m 57 #[.val (.int p0), .val (.ref b1), .val (.ref da), .val (.int (3 : Int32)), .val (.int (3 : Int32)), .val (.int (31 : Int32))] [])) _ _ _ _
  refine own_go (fun _ k => XS.aloadN X79.here hx rfl (hb hby d1_57) rfl rfl k) ?_
  show own_G _ _ _ (T79.setTop (mkF m 58 #[.val (.int p0), .val (.ref b1), .val (.ref da), .val (.int (3 : Int32)), .val (.int (3 : Int32)), .val (.int (31 : Int32))] [(.ref b1)])) _ _ _ _
  exact own_endR X79 hx hlk Bd.returns rfl rfl rfl (hb hby d1_58) (by decide) (by decide) (Q := (Q1d Z p0 d0 k0 ca cc da kd h0 n0)) ⟨b1, na29, kn29, b21, b43, b66, rfl, N79, K79_0, r79_0, r79_3, r79_2, r79_4, f84, f85, f86, f87, f88, f89⟩
theorem pd_10 : parseMethodDescriptor "(I)Ljava/util/List;" = some ⟨[.int], some (.object "java/util/List")⟩ := by decide +kernel
theorem pd_11 : parseMethodDescriptor "()I" = some ⟨[], some .int⟩ := by decide +kernel
theorem pn_8 : plainName "com/example/mini_wire/bench/ApplicationDependenciesPinLaw" = true := by first | (simp [plainName, overriddenIn]; done) | decide +kernel
theorem ef_0 (m : MethodId) (p0 : Int32) (p1 : Int32) : entryFrame m #[(.int p0), (.int p1)] maxLocals = mkF m 0 #[.val (.int p0), .val (.int p1), .unset, .unset, .unset] [] := by first | (simp [entryFrame, mkF, argsToLocals, Value.category, maxLocals]; done) | rfl
def Q0 (Z : State) (p0 : Int32) (p1 : Int32) (d0 : Addr) (k0 : ClassId) (ca : Addr) (cc : Cell) (da : Addr) (kd : ClassId) (h0 : Heap) (n0 : Nat) (v : Option Value) (h : Heap) (L : List Loc) : Prop := v = some (.int (1 : Int32)) ∧ Fr n0 L ∧ Keep h0 h []
set_option maxRecDepth 65536 in
set_option maxHeartbeats 40000000 in
theorem rm0 (l : Launch) (Z : State) (a0 : Array Value) (hw : ∀ d ∈ tables_1, d.before a0 Z = true) (ws : List Jvm.Cond) (p0 : Int32) (p1 : Int32) (d0 : Addr) (k0 : ClassId) (ca : Addr) (cc : Cell) (da : Addr) (kd : ClassId) (h0 : Heap) (n0 : Nat) (Z0 : n0 ≤ h0.size) (P_Old : Old Z n0 h0) (P_ZS_java_util_ArrayList_DEFAULTCAPACITY_EMPTY_ELEMENTDATA : Sta Z Z.heap "java/util/ArrayList" "DEFAULTCAPACITY_EMPTY_ELEMENTDATA" "[Ljava/lang/Object;" (.ref d0)) (P_V_d0 : Arv Z h0 d0 k0 (.object "java/lang/Object") (0 : Int32) [] .null) (P_ZS_java_lang_Integer_IntegerCache_high : Sta Z Z.heap "java/lang/Integer$IntegerCache" "high" "I" (.int (127 : Int32))) (P_ZS_java_lang_Integer_IntegerCache_cache : Sta Z Z.heap "java/lang/Integer$IntegerCache" "cache" "[Ljava/lang/Integer;" (.ref ca)) (bx : Bxs Z ca cc "java/lang/Integer" "I" (256 : Int32) (fun j => .int (j - 128))) (P_ZS_com_example_mini_wire_bench_Application_DISTANCES : Sta Z Z.heap "com/example/mini_wire/bench/Application" "DISTANCES" "[I" (.ref da)) (P_V_da : Arv Z h0 da kd .int (3 : Int32) [(.int (1 : Int32)), (.int (7 : Int32)), (.int (31 : Int32))] (.int (0 : Int32))) :
    MetFree l x (head1 (Jvm.Cond.code x code maxLocals ret :: ws) room_1) (fun a U => a = #[(.int p0), (.int p1)] ∧ Z.Warmed39 U.vm ∧ U.heap = h0) (fun _ _ _ _ _ => True) (fun _ U o U' => ∃ v L, o = .returned v ∧ (Q0 Z p0 p1 d0 k0 ca cc da kd h0 n0) v U'.heap L ∧ FrameEnd U o U' L room_1.cells room_1.slots) := by
  refine MetFree.of_bodySF (plainFor_of_name pn_8) hisR ?_
  intro p e s m args below meth c s₁ Bd hml0 hP hK
  obtain ⟨rfl, hZ, hh⟩ := hP
  have hx := Bd.exec
  have hby := Bd.bytes
  have hml : c.maxLocals = 5 := hml0
  have hown : s.vm.findClass "com/example/mini_wire/bench/ApplicationDependenciesPinLaw" = some m.cls := findClass_of_methodNamed Bd.named
  have hnm := (name_of_methodNamed Bd.named Bd.method).1
  have hlk : meth.locks = false := BodyLoose.notSynchronized Bd
  have X0 : Stand p l e room_1 s m #[(.int p0), (.int p1)] below meth c s₁ [] 0 0 := Stand.of_body Bd
  have e0 : s₁.heap = h0 := by rw [← hh, Bd.state]; rfl
  have N0 := Fr.nil n0
  have K0 : Keep h0 h0 [] := Keep.refl h0 []
  show own_G p.tables e below (s₁.setTop (entryFrame m #[(.int p0), (.int p1)] maxLocals)) s room_1.cells room_1.slots (Q0 Z p0 p1 d0 k0 ca cc da kd h0 n0)
  refine own_go (fun _ k => castTop (ef_0 m p0 p1) k) ?_
  show own_G _ _ _ (s₁.setTop (mkF m 0 #[.val (.int p0), .val (.int p1), .unset, .unset, .unset] [])) _ _ _ _
  refine own_go (fun _ k => XS.iloadN X0.here hx rfl (hb hby at_0) rfl k) ?_
  show own_G _ _ _ (s₁.setTop (mkF m 1 #[.val (.int p0), .val (.int p1), .unset, .unset, .unset] [(.int p1)])) _ _ _ _
  refine own_go (fun _ k => XS.iconst X0.here hx rfl (hb hby at_1) k) ?_
  show own_G _ _ _ (s₁.setTop (mkF m 2 #[.val (.int p0), .val (.int p1), .unset, .unset, .unset] [(.int (1 : Int32)), (.int p1)])) _ _ _ _
  refine own_go (fun _ k => XS.iand X0.here hx rfl (hb hby at_2) rfl k) ?_
  show own_G _ _ _ (s₁.setTop (mkF m 3 #[.val (.int p0), .val (.int p1), .unset, .unset, .unset] [(.int (p1 &&& (1 : Int32)))])) _ _ _ _
  by_cases hc1 : (p1 &&& (1 : Int32)) = (0 : Int32)
  · refine own_go (fun _ k => XS.ifYes X0.here hx rfl (pc0 := 3) (pc' := 13) rfl (hb hby at_3) rfl ((if0 _ _).trans (teq hc1).1) (by decide) (by decide) k) ?_
    show own_G _ _ _ (s₁.setTop (mkF m 13 #[.val (.int p0), .val (.int p1), .unset, .unset, .unset] [])) _ _ _ _
    refine own_go (fun _ k => XS.iloadN X0.here hx rfl (hb hby at_13) rfl k) ?_
    show own_G _ _ _ (s₁.setTop (mkF m 14 #[.val (.int p0), .val (.int p1), .unset, .unset, .unset] [(.int p0)])) _ _ _ _
    refine own_go (fun _ k => X0.ldcInt hx hown (mvT hZ (hw _ (List.mem_of_getElem? (i := 112) rfl))) (g := (mkF m 14 #[.val (.int p0), .val (.int p1), .unset, .unset, .unset] [(.int p0)])) rfl (hb hby at_14) _ k) ?_
    show own_G _ _ _ (s₁.setTop (mkF m 16 #[.val (.int p0), .val (.int p1), .unset, .unset, .unset] [(.int (2147483647 : Int32)), (.int p0)])) _ _ _ _
    refine own_go (fun _ k => XS.iand X0.here hx rfl (hb hby at_16) rfl k) ?_
    show own_G _ _ _ (s₁.setTop (mkF m 17 #[.val (.int p0), .val (.int p1), .unset, .unset, .unset] [(.int (p0 &&& (2147483647 : Int32)))])) _ _ _ _
    obtain ⟨i, hi⟩ : ∃ z : Int32, z = (p0 &&& (2147483647 : Int32)) := ⟨_, rfl⟩
    · rw [← hi]
      have hn : 0 ≤ i.toInt := by rw [hi]; exact own_m2 p0
      show own_G _ _ _ (s₁.setTop (mkF m 17 #[.val (.int p0), .val (.int p1), .unset, .unset, .unset] [(.int i)])) _ _ _ _
      refine own_go (fun _ k => XS.istoreN X0.here hx rfl (hb hby at_17) rfl (l' := #[.val (.int p0), .val (.int p1), .val (.int i), .unset, .unset]) rfl k) ?_
      show own_G _ _ _ (s₁.setTop (mkF m 18 #[.val (.int p0), .val (.int p1), .val (.int i), .unset, .unset] [])) _ _ _ _
      rcases own_cases i hn with hq | hq | hq | hq
      · skip
        refine own_go (fun _ k => XS.iloadN X0.here hx rfl (hb hby at_18) rfl k) ?_
        show own_G _ _ _ (s₁.setTop (mkF m 19 #[.val (.int p0), .val (.int p1), .val (.int i), .unset, .unset] [(.int i)])) _ _ _ _
        obtain ⟨_, _, ⟨T2, L2, k2, n2⟩, -, X2, ⟨Lc2, hQ2, l2, y2, z2⟩, st2⟩ := Jvm.LawKit.callS X0 hx (y := (⟨"com/example/mini_wire/bench/Application", "dependencies", "(I)Ljava/util/List;"⟩ : MethodName)) hown (mvT hZ (hw _ (List.mem_of_getElem? (i := 0) rfl))) (mvT hZ (hw _ (List.mem_of_getElem? (i := 1) rfl))) (mvT hZ (hw _ (List.mem_of_getElem? (i := 2) rfl))) (mvT hZ (hw _ (List.mem_of_getElem? (i := 3) rfl))) (by decide) (backOf (W := 0) (rm1a l Z a0 hw [] i d0 k0 ca cc da kd h0 n0 Z0 P_Old P_ZS_java_util_ArrayList_DEFAULTCAPACITY_EMPTY_ELEMENTDATA P_V_d0 P_ZS_java_lang_Integer_IntegerCache_high P_ZS_java_lang_Integer_IntegerCache_cache bx P_ZS_com_example_mini_wire_bench_Application_DISTANCES P_V_da hn hq) hZ (hw _ (List.mem_of_getElem? (i := 3) rfl)) (hw _ (List.mem_of_getElem? (i := 2) rfl)) (by decide) (by decide)) (g := (mkF m 19 #[.val (.int p0), .val (.int p1), .val (.int i), .unset, .unset] [(.int i)])) rfl (by rw [hml]; rfl) (argsL := [(.int i)]) (rest := []) (lenOf pd_10 rfl) rfl (by show 2 * 0 + _ ≤ _; exact Nat.le_of_eq rfl) (hb hby at_19) (fun _ _ => ⟨rfl, e0, (by decide : 0 + 1 ≤ _), (by decide : 0 + 3 ≤ _)⟩)
        dsimp only [Pt.U, Pt.locs, Pt.cells, Pt.slots] at X2 l2 y2 z2 st2 hQ2
        subst l2 y2 z2
        obtain ⟨b2, rfl, Nq2, Kq2, r2_0, r2_1⟩ := hQ2
        have N2 := Fr.app N0 Nq2
        have f3 : Old Z n0 T2.heap := P_Old.keep Kq2 all0
        have f4 : Arv Z T2.heap d0 k0 (.object "java/lang/Object") (0 : Int32) [] .null := P_V_d0.keep Kq2 nin0
        have f5 : Arv Z T2.heap da kd .int (3 : Int32) [(.int (1 : Int32)), (.int (7 : Int32)), (.int (31 : Int32))] (.int (0 : Int32)) := P_V_da.keep Kq2 nin0
        have Zs2 : n0 ≤ T2.heap.size := Nat.le_trans Z0 Kq2.1
        have K2_0 : Keep h0 T2.heap [] := K0.trans Kq2 all0
        refine own_go (fun _ k => st2 _ k) ?_
        show own_G _ _ _ (T2.setTop (mkF m 22 #[.val (.int p0), .val (.int p1), .val (.int i), .unset, .unset] [(.ref b2)])) _ _ _ _
        refine own_go (fun _ k => XS.astoreN X2.here hx rfl (hb hby at_22) rfl rfl (l' := #[.val (.int p0), .val (.int p1), .val (.int i), .val (.ref b2), .unset]) rfl k) ?_
        show own_G _ _ _ (T2.setTop (mkF m 23 #[.val (.int p0), .val (.int p1), .val (.int i), .val (.ref b2), .unset] [])) _ _ _ _
        refine own_go (fun _ k => XS.aloadN X2.here hx rfl (hb hby at_23) rfl rfl k) ?_
        show own_G _ _ _ (T2.setTop (mkF m 24 #[.val (.int p0), .val (.int p1), .val (.int i), .val (.ref b2), .unset] [(.ref b2)])) _ _ _ _
        refine own_go (fun _ k => XS.ifnonnullYes X2.here hx rfl (pc0 := 24) (pc' := 29) rfl (hb hby at_24) rfl (by decide) (by decide) k) ?_
        show own_G _ _ _ (T2.setTop (mkF m 29 #[.val (.int p0), .val (.int p1), .val (.int i), .val (.ref b2), .unset] [])) _ _ _ _
        refine own_go (fun _ k => XS.iconst X2.here hx rfl (hb hby at_29) k) ?_
        show own_G _ _ _ (T2.setTop (mkF m 30 #[.val (.int p0), .val (.int p1), .val (.int i), .val (.ref b2), .unset] [(.int (0 : Int32))])) _ _ _ _
        refine own_go (fun _ k => XS.istore X2.here hx rfl (hb hby at_30) rfl (l' := #[.val (.int p0), .val (.int p1), .val (.int i), .val (.ref b2), .val (.int (0 : Int32))]) rfl k) ?_
        show own_G _ _ _ (T2.setTop (mkF m 32 #[.val (.int p0), .val (.int p1), .val (.int i), .val (.ref b2), .val (.int (0 : Int32))] [])) _ _ _ _
        refine own_go (fun _ k => XS.iloadN X2.here hx rfl (hb hby at_32) rfl k) ?_
        show own_G _ _ _ (T2.setTop (mkF m 33 #[.val (.int p0), .val (.int p1), .val (.int i), .val (.ref b2), .val (.int (0 : Int32))] [(.int i)])) _ _ _ _
        refine own_go (fun _ k => XS.iconst X2.here hx rfl (hb hby at_33) k) ?_
        show own_G _ _ _ (T2.setTop (mkF m 34 #[.val (.int p0), .val (.int p1), .val (.int i), .val (.ref b2), .val (.int (0 : Int32))] [(.int (1 : Int32)), (.int i)])) _ _ _ _
        have hc6 : i < (1 : Int32) := own_lt i (1 : Int32) (1 : Int32) hq (by decide)
        refine own_go (fun _ k => XS.icmpYes X2.here hx rfl (pc0 := 34) (pc' := 40) rfl (hb hby at_34) rfl (tlt hc6).1 (by decide) (by decide) k) ?_
        show own_G _ _ _ (T2.setTop (mkF m 40 #[.val (.int p0), .val (.int p1), .val (.int i), .val (.ref b2), .val (.int (0 : Int32))] [])) _ _ _ _
        refine own_go (fun _ k => XS.iloadN X2.here hx rfl (hb hby at_40) rfl k) ?_
        show own_G _ _ _ (T2.setTop (mkF m 41 #[.val (.int p0), .val (.int p1), .val (.int i), .val (.ref b2), .val (.int (0 : Int32))] [(.int i)])) _ _ _ _
        refine own_go (fun _ k => XS.bipush X2.here hx rfl (hb hby at_41) k) ?_
        show own_G _ _ _ (T2.setTop (mkF m 43 #[.val (.int p0), .val (.int p1), .val (.int i), .val (.ref b2), .val (.int (0 : Int32))] [(.int (7 : Int32)), (.int i)])) _ _ _ _
        have hc7 : i < (7 : Int32) := own_lt i (1 : Int32) (7 : Int32) hq (by decide)
        refine own_go (fun _ k => XS.icmpYes X2.here hx rfl (pc0 := 43) (pc' := 49) rfl (hb hby at_43) rfl (tlt hc7).1 (by decide) (by decide) k) ?_
        show own_G _ _ _ (T2.setTop (mkF m 49 #[.val (.int p0), .val (.int p1), .val (.int i), .val (.ref b2), .val (.int (0 : Int32))] [])) _ _ _ _
        refine own_go (fun _ k => XS.iloadN X2.here hx rfl (hb hby at_49) rfl k) ?_
        show own_G _ _ _ (T2.setTop (mkF m 50 #[.val (.int p0), .val (.int p1), .val (.int i), .val (.ref b2), .val (.int (0 : Int32))] [(.int i)])) _ _ _ _
        refine own_go (fun _ k => XS.bipush X2.here hx rfl (hb hby at_50) k) ?_
        show own_G _ _ _ (T2.setTop (mkF m 52 #[.val (.int p0), .val (.int p1), .val (.int i), .val (.ref b2), .val (.int (0 : Int32))] [(.int (31 : Int32)), (.int i)])) _ _ _ _
        have hc8 : i < (31 : Int32) := own_lt i (1 : Int32) (31 : Int32) hq (by decide)
        refine own_go (fun _ k => XS.icmpYes X2.here hx rfl (pc0 := 52) (pc' := 58) rfl (hb hby at_52) rfl (tlt hc8).1 (by decide) (by decide) k) ?_
        show own_G _ _ _ (T2.setTop (mkF m 58 #[.val (.int p0), .val (.int p1), .val (.int i), .val (.ref b2), .val (.int (0 : Int32))] [])) _ _ _ _
        refine own_go (fun _ k => XS.aloadN X2.here hx rfl (hb hby at_58) rfl rfl k) ?_
        show own_G _ _ _ (T2.setTop (mkF m 59 #[.val (.int p0), .val (.int p1), .val (.int i), .val (.ref b2), .val (.int (0 : Int32))] [(.ref b2)])) _ _ _ _
        obtain ⟨cq9, kq9, q9a, q9b, q9c⟩ := isOf hZ rfl r2_0
        obtain ⟨_, _, ⟨T9, L9, k9, n9⟩, -, X9, ⟨Lc9, hQ9, l9, y9, z9⟩, st9⟩ := X2.interfaceBack hx (xi := (⟨"java/util/List", "size", "()I"⟩ : MethodName)) (y := (⟨"java/util/ArrayList", "size", "()I"⟩ : MethodName)) hown (mvT hZ (hw _ (List.mem_of_getElem? (i := 32) rfl))) (mvT hZ (hw _ (List.mem_of_getElem? (i := 33) rfl))) (mvT hZ (hw _ (List.mem_of_getElem? (i := 34) rfl))) (mvT hZ (hw _ (List.mem_of_getElem? (i := 35) rfl))) (mvT hZ (hw _ (List.mem_of_getElem? (i := 36) rfl))) (mvT hZ (hw _ (List.mem_of_getElem? (i := 37) rfl))) (mvT hZ (hw _ (List.mem_of_getElem? (i := 38) rfl))) (mvT hZ (hw _ (List.mem_of_getElem? (i := 39) rfl))) (by decide) (backOf (W := 0) (rm6 l Z a0 hw [] b2 (0 : Int32) T2.heap n0 Zs2 r2_1) hZ (hw _ (List.mem_of_getElem? (i := 40) rfl)) (hw _ (List.mem_of_getElem? (i := 6) rfl)) (by decide) (by decide)) q9a q9b q9c (g := (mkF m 59 #[.val (.int p0), .val (.int p1), .val (.int i), .val (.ref b2), .val (.int (0 : Int32))] [(.ref b2)])) rfl (by rw [hml]; rfl) (Steps.refl _) (argsL := []) (rest := []) (lenOf pd_11 rfl) rfl (by show 2 * 0 + _ ≤ _; exact Nat.le_of_eq rfl) (hb hby at_59) (fun _ _ => ⟨rfl, rfl, (by decide : 1 + 0 ≤ _), (by decide : 3 + 0 ≤ _)⟩)
        dsimp only [Pt.U, Pt.locs, Pt.cells, Pt.slots] at X9 l9 y9 z9 st9 hQ9
        subst l9 y9 z9
        obtain ⟨rfl, Nq9, eh9⟩ := hQ9
        have N9 := Fr.app N2 Nq9
        refine own_tr st9 ?_
        show own_G _ _ _ (T9.setTop (mkF m 64 #[.val (.int p0), .val (.int p1), .val (.int i), .val (.ref b2), .val (.int (0 : Int32))] [(.int (0 : Int32))])) _ _ _ _
        refine own_go (fun _ k => XS.iload X9.here hx rfl (hb hby at_64) rfl k) ?_
        show own_G _ _ _ (T9.setTop (mkF m 66 #[.val (.int p0), .val (.int p1), .val (.int i), .val (.ref b2), .val (.int (0 : Int32))] [(.int (0 : Int32)), (.int (0 : Int32))])) _ _ _ _
        have hc10 : (0 : Int32) = (0 : Int32) := (by decide)
        refine own_go (fun _ k => XS.icmpYes X9.here hx rfl (pc0 := 66) (pc' := 71) rfl (hb hby at_66) rfl (teq hc10).1 (by decide) (by decide) k) ?_
        show own_G _ _ _ (T9.setTop (mkF m 71 #[.val (.int p0), .val (.int p1), .val (.int i), .val (.ref b2), .val (.int (0 : Int32))] [])) _ _ _ _
        refine own_go (fun _ k => XS.iload X9.here hx rfl (hb hby at_71) rfl k) ?_
        show own_G _ _ _ (T9.setTop (mkF m 73 #[.val (.int p0), .val (.int p1), .val (.int i), .val (.ref b2), .val (.int (0 : Int32))] [(.int (0 : Int32))])) _ _ _ _
        refine own_go (fun _ k => XS.iconst X9.here hx rfl (hb hby at_73) k) ?_
        show own_G _ _ _ (T9.setTop (mkF m 74 #[.val (.int p0), .val (.int p1), .val (.int i), .val (.ref b2), .val (.int (0 : Int32))] [(.int (1 : Int32)), (.int (0 : Int32))])) _ _ _ _
        have hc11 : (0 : Int32) < (1 : Int32) := (by decide)
        refine own_go (fun _ k => XS.icmpYes X9.here hx rfl (pc0 := 74) (pc' := 98) rfl (hb hby at_74) rfl (tlt hc11).1 (by decide) (by decide) k) ?_
        show own_G _ _ _ (T9.setTop (mkF m 98 #[.val (.int p0), .val (.int p1), .val (.int i), .val (.ref b2), .val (.int (0 : Int32))] [])) _ _ _ _
        refine own_go (fun _ k => XS.iload X9.here hx rfl (hb hby at_98) rfl k) ?_
        show own_G _ _ _ (T9.setTop (mkF m 100 #[.val (.int p0), .val (.int p1), .val (.int i), .val (.ref b2), .val (.int (0 : Int32))] [(.int (0 : Int32))])) _ _ _ _
        refine own_go (fun _ k => XS.iconst X9.here hx rfl (hb hby at_100) k) ?_
        show own_G _ _ _ (T9.setTop (mkF m 101 #[.val (.int p0), .val (.int p1), .val (.int i), .val (.ref b2), .val (.int (0 : Int32))] [(.int (2 : Int32)), (.int (0 : Int32))])) _ _ _ _
        have hc12 : (0 : Int32) < (2 : Int32) := (by decide)
        refine own_go (fun _ k => XS.icmpYes X9.here hx rfl (pc0 := 101) (pc' := 126) rfl (hb hby at_101) rfl (tlt hc12).1 (by decide) (by decide) k) ?_
        show own_G _ _ _ (T9.setTop (mkF m 126 #[.val (.int p0), .val (.int p1), .val (.int i), .val (.ref b2), .val (.int (0 : Int32))] [])) _ _ _ _
        refine own_go (fun _ k => XS.iload X9.here hx rfl (hb hby at_126) rfl k) ?_
        show own_G _ _ _ (T9.setTop (mkF m 128 #[.val (.int p0), .val (.int p1), .val (.int i), .val (.ref b2), .val (.int (0 : Int32))] [(.int (0 : Int32))])) _ _ _ _
        refine own_go (fun _ k => XS.iconst X9.here hx rfl (hb hby at_128) k) ?_
        show own_G _ _ _ (T9.setTop (mkF m 129 #[.val (.int p0), .val (.int p1), .val (.int i), .val (.ref b2), .val (.int (0 : Int32))] [(.int (3 : Int32)), (.int (0 : Int32))])) _ _ _ _
        have hc13 : (0 : Int32) < (3 : Int32) := (by decide)
        refine own_go (fun _ k => XS.icmpYes X9.here hx rfl (pc0 := 129) (pc' := 154) rfl (hb hby at_129) rfl (tlt hc13).1 (by decide) (by decide) k) ?_
        show own_G _ _ _ (T9.setTop (mkF m 154 #[.val (.int p0), .val (.int p1), .val (.int i), .val (.ref b2), .val (.int (0 : Int32))] [])) _ _ _ _
        refine own_go (fun _ k => XS.iconst X9.here hx rfl (hb hby at_154) k) ?_
        show own_G _ _ _ (T9.setTop (mkF m 155 #[.val (.int p0), .val (.int p1), .val (.int i), .val (.ref b2), .val (.int (0 : Int32))] [(.int (1 : Int32))])) _ _ _ _
        exact own_endN X9 hx hlk (t := .boolean) Bd.returns (by simp) (hb hby at_155) (by decide) (by decide) (Q := (Q0 Z p0 p1 d0 k0 ca cc da kd h0 n0)) (by rw [eh9]; exact ⟨rfl, N9, K2_0⟩)
      · skip
        refine own_go (fun _ k => XS.iloadN X0.here hx rfl (hb hby at_18) rfl k) ?_
        show own_G _ _ _ (s₁.setTop (mkF m 19 #[.val (.int p0), .val (.int p1), .val (.int i), .unset, .unset] [(.int i)])) _ _ _ _
        obtain ⟨_, _, ⟨T14, L14, k14, n14⟩, -, X14, ⟨Lc14, hQ14, l14, y14, z14⟩, st14⟩ := Jvm.LawKit.callS X0 hx (y := (⟨"com/example/mini_wire/bench/Application", "dependencies", "(I)Ljava/util/List;"⟩ : MethodName)) hown (mvT hZ (hw _ (List.mem_of_getElem? (i := 0) rfl))) (mvT hZ (hw _ (List.mem_of_getElem? (i := 1) rfl))) (mvT hZ (hw _ (List.mem_of_getElem? (i := 2) rfl))) (mvT hZ (hw _ (List.mem_of_getElem? (i := 3) rfl))) (by decide) (backOf (W := 0) (rm1b l Z a0 hw [] i d0 k0 ca cc da kd h0 n0 Z0 P_Old P_ZS_java_util_ArrayList_DEFAULTCAPACITY_EMPTY_ELEMENTDATA P_V_d0 P_ZS_java_lang_Integer_IntegerCache_high P_ZS_java_lang_Integer_IntegerCache_cache bx P_ZS_com_example_mini_wire_bench_Application_DISTANCES P_V_da hn hq) hZ (hw _ (List.mem_of_getElem? (i := 3) rfl)) (hw _ (List.mem_of_getElem? (i := 2) rfl)) (by decide) (by decide)) (g := (mkF m 19 #[.val (.int p0), .val (.int p1), .val (.int i), .unset, .unset] [(.int i)])) rfl (by rw [hml]; rfl) (argsL := [(.int i)]) (rest := []) (lenOf pd_10 rfl) rfl (by show 2 * 0 + _ ≤ _; exact Nat.le_of_eq rfl) (hb hby at_19) (fun _ _ => ⟨rfl, e0, (by decide : 0 + 3 ≤ _), (by decide : 0 + 14 ≤ _)⟩)
        dsimp only [Pt.U, Pt.locs, Pt.cells, Pt.slots] at X14 l14 y14 z14 st14 hQ14
        subst l14 y14 z14
        obtain ⟨b14, na14, kn14, el014, rfl, Nq14, Kq14, r14_0, r14_1, r14_2, r14_3, r14_4, r14_5⟩ := hQ14
        have N14 := Fr.app N0 Nq14
        have f15 : Old Z n0 T14.heap := P_Old.keep Kq14 all0
        have f16 : Arv Z T14.heap d0 k0 (.object "java/lang/Object") (0 : Int32) [] .null := P_V_d0.keep Kq14 nin0
        have f17 : Arv Z T14.heap da kd .int (3 : Int32) [(.int (1 : Int32)), (.int (7 : Int32)), (.int (31 : Int32))] (.int (0 : Int32)) := P_V_da.keep Kq14 nin0
        have Zs14 : n0 ≤ T14.heap.size := Nat.le_trans Z0 Kq14.1
        have K14_0 : Keep h0 T14.heap [] := K0.trans Kq14 all0
        refine own_go (fun _ k => st14 _ k) ?_
        show own_G _ _ _ (T14.setTop (mkF m 22 #[.val (.int p0), .val (.int p1), .val (.int i), .unset, .unset] [(.ref b14)])) _ _ _ _
        refine own_go (fun _ k => XS.astoreN X14.here hx rfl (hb hby at_22) rfl rfl (l' := #[.val (.int p0), .val (.int p1), .val (.int i), .val (.ref b14), .unset]) rfl k) ?_
        show own_G _ _ _ (T14.setTop (mkF m 23 #[.val (.int p0), .val (.int p1), .val (.int i), .val (.ref b14), .unset] [])) _ _ _ _
        refine own_go (fun _ k => XS.aloadN X14.here hx rfl (hb hby at_23) rfl rfl k) ?_
        show own_G _ _ _ (T14.setTop (mkF m 24 #[.val (.int p0), .val (.int p1), .val (.int i), .val (.ref b14), .unset] [(.ref b14)])) _ _ _ _
        refine own_go (fun _ k => XS.ifnonnullYes X14.here hx rfl (pc0 := 24) (pc' := 29) rfl (hb hby at_24) rfl (by decide) (by decide) k) ?_
        show own_G _ _ _ (T14.setTop (mkF m 29 #[.val (.int p0), .val (.int p1), .val (.int i), .val (.ref b14), .unset] [])) _ _ _ _
        refine own_go (fun _ k => XS.iconst X14.here hx rfl (hb hby at_29) k) ?_
        show own_G _ _ _ (T14.setTop (mkF m 30 #[.val (.int p0), .val (.int p1), .val (.int i), .val (.ref b14), .unset] [(.int (0 : Int32))])) _ _ _ _
        refine own_go (fun _ k => XS.istore X14.here hx rfl (hb hby at_30) rfl (l' := #[.val (.int p0), .val (.int p1), .val (.int i), .val (.ref b14), .val (.int (0 : Int32))]) rfl k) ?_
        show own_G _ _ _ (T14.setTop (mkF m 32 #[.val (.int p0), .val (.int p1), .val (.int i), .val (.ref b14), .val (.int (0 : Int32))] [])) _ _ _ _
        refine own_go (fun _ k => XS.iloadN X14.here hx rfl (hb hby at_32) rfl k) ?_
        show own_G _ _ _ (T14.setTop (mkF m 33 #[.val (.int p0), .val (.int p1), .val (.int i), .val (.ref b14), .val (.int (0 : Int32))] [(.int i)])) _ _ _ _
        refine own_go (fun _ k => XS.iconst X14.here hx rfl (hb hby at_33) k) ?_
        show own_G _ _ _ (T14.setTop (mkF m 34 #[.val (.int p0), .val (.int p1), .val (.int i), .val (.ref b14), .val (.int (0 : Int32))] [(.int (1 : Int32)), (.int i)])) _ _ _ _
        have hc18 : ¬ (i < (1 : Int32)) := own_nlt i (1 : Int32) (1 : Int32) hq.1 (by decide)
        refine own_go (fun _ k => XS.icmpNo X14.here hx rfl (hb hby at_34) rfl (flt hc18).1 k) ?_
        show own_G _ _ _ (T14.setTop (mkF m 37 #[.val (.int p0), .val (.int p1), .val (.int i), .val (.ref b14), .val (.int (0 : Int32))] [])) _ _ _ _
        refine own_go (fun _ k => XS.iconst X14.here hx rfl (hb hby at_37) k) ?_
        show own_G _ _ _ (T14.setTop (mkF m 38 #[.val (.int p0), .val (.int p1), .val (.int i), .val (.ref b14), .val (.int (0 : Int32))] [(.int (1 : Int32))])) _ _ _ _
        refine own_go (fun _ k => XS.istore X14.here hx rfl (hb hby at_38) rfl (l' := #[.val (.int p0), .val (.int p1), .val (.int i), .val (.ref b14), .val (.int (1 : Int32))]) rfl k) ?_
        show own_G _ _ _ (T14.setTop (mkF m 40 #[.val (.int p0), .val (.int p1), .val (.int i), .val (.ref b14), .val (.int (1 : Int32))] [])) _ _ _ _
        refine own_go (fun _ k => XS.iloadN X14.here hx rfl (hb hby at_40) rfl k) ?_
        show own_G _ _ _ (T14.setTop (mkF m 41 #[.val (.int p0), .val (.int p1), .val (.int i), .val (.ref b14), .val (.int (1 : Int32))] [(.int i)])) _ _ _ _
        refine own_go (fun _ k => XS.bipush X14.here hx rfl (hb hby at_41) k) ?_
        show own_G _ _ _ (T14.setTop (mkF m 43 #[.val (.int p0), .val (.int p1), .val (.int i), .val (.ref b14), .val (.int (1 : Int32))] [(.int (7 : Int32)), (.int i)])) _ _ _ _
        have hc19 : i < (7 : Int32) := own_lt i (7 : Int32) (7 : Int32) hq.2 (by decide)
        refine own_go (fun _ k => XS.icmpYes X14.here hx rfl (pc0 := 43) (pc' := 49) rfl (hb hby at_43) rfl (tlt hc19).1 (by decide) (by decide) k) ?_
        show own_G _ _ _ (T14.setTop (mkF m 49 #[.val (.int p0), .val (.int p1), .val (.int i), .val (.ref b14), .val (.int (1 : Int32))] [])) _ _ _ _
        refine own_go (fun _ k => XS.iloadN X14.here hx rfl (hb hby at_49) rfl k) ?_
        show own_G _ _ _ (T14.setTop (mkF m 50 #[.val (.int p0), .val (.int p1), .val (.int i), .val (.ref b14), .val (.int (1 : Int32))] [(.int i)])) _ _ _ _
        refine own_go (fun _ k => XS.bipush X14.here hx rfl (hb hby at_50) k) ?_
        show own_G _ _ _ (T14.setTop (mkF m 52 #[.val (.int p0), .val (.int p1), .val (.int i), .val (.ref b14), .val (.int (1 : Int32))] [(.int (31 : Int32)), (.int i)])) _ _ _ _
        have hc20 : i < (31 : Int32) := own_lt i (7 : Int32) (31 : Int32) hq.2 (by decide)
        refine own_go (fun _ k => XS.icmpYes X14.here hx rfl (pc0 := 52) (pc' := 58) rfl (hb hby at_52) rfl (tlt hc20).1 (by decide) (by decide) k) ?_
        show own_G _ _ _ (T14.setTop (mkF m 58 #[.val (.int p0), .val (.int p1), .val (.int i), .val (.ref b14), .val (.int (1 : Int32))] [])) _ _ _ _
        refine own_go (fun _ k => XS.aloadN X14.here hx rfl (hb hby at_58) rfl rfl k) ?_
        show own_G _ _ _ (T14.setTop (mkF m 59 #[.val (.int p0), .val (.int p1), .val (.int i), .val (.ref b14), .val (.int (1 : Int32))] [(.ref b14)])) _ _ _ _
        obtain ⟨cq21, kq21, q21a, q21b, q21c⟩ := isOf hZ rfl r14_0
        obtain ⟨_, _, ⟨T21, L21, k21, n21⟩, -, X21, ⟨Lc21, hQ21, l21, y21, z21⟩, st21⟩ := X14.interfaceBack hx (xi := (⟨"java/util/List", "size", "()I"⟩ : MethodName)) (y := (⟨"java/util/ArrayList", "size", "()I"⟩ : MethodName)) hown (mvT hZ (hw _ (List.mem_of_getElem? (i := 32) rfl))) (mvT hZ (hw _ (List.mem_of_getElem? (i := 33) rfl))) (mvT hZ (hw _ (List.mem_of_getElem? (i := 34) rfl))) (mvT hZ (hw _ (List.mem_of_getElem? (i := 35) rfl))) (mvT hZ (hw _ (List.mem_of_getElem? (i := 36) rfl))) (mvT hZ (hw _ (List.mem_of_getElem? (i := 37) rfl))) (mvT hZ (hw _ (List.mem_of_getElem? (i := 38) rfl))) (mvT hZ (hw _ (List.mem_of_getElem? (i := 39) rfl))) (by decide) (backOf (W := 0) (rm6 l Z a0 hw [] b14 (1 : Int32) T14.heap n0 Zs14 r14_1) hZ (hw _ (List.mem_of_getElem? (i := 40) rfl)) (hw _ (List.mem_of_getElem? (i := 6) rfl)) (by decide) (by decide)) q21a q21b q21c (g := (mkF m 59 #[.val (.int p0), .val (.int p1), .val (.int i), .val (.ref b14), .val (.int (1 : Int32))] [(.ref b14)])) rfl (by rw [hml]; rfl) (Steps.refl _) (argsL := []) (rest := []) (lenOf pd_11 rfl) rfl (by show 2 * 0 + _ ≤ _; exact Nat.le_of_eq rfl) (hb hby at_59) (fun _ _ => ⟨rfl, rfl, (by decide : 3 + 0 ≤ _), (by decide : 14 + 0 ≤ _)⟩)
        dsimp only [Pt.U, Pt.locs, Pt.cells, Pt.slots] at X21 l21 y21 z21 st21 hQ21
        subst l21 y21 z21
        obtain ⟨rfl, Nq21, eh21⟩ := hQ21
        have N21 := Fr.app N14 Nq21
        refine own_tr st21 ?_
        show own_G _ _ _ (T21.setTop (mkF m 64 #[.val (.int p0), .val (.int p1), .val (.int i), .val (.ref b14), .val (.int (1 : Int32))] [(.int (1 : Int32))])) _ _ _ _
        refine own_go (fun _ k => XS.iload X21.here hx rfl (hb hby at_64) rfl k) ?_
        show own_G _ _ _ (T21.setTop (mkF m 66 #[.val (.int p0), .val (.int p1), .val (.int i), .val (.ref b14), .val (.int (1 : Int32))] [(.int (1 : Int32)), (.int (1 : Int32))])) _ _ _ _
        have hc22 : (1 : Int32) = (1 : Int32) := (by decide)
        refine own_go (fun _ k => XS.icmpYes X21.here hx rfl (pc0 := 66) (pc' := 71) rfl (hb hby at_66) rfl (teq hc22).1 (by decide) (by decide) k) ?_
        show own_G _ _ _ (T21.setTop (mkF m 71 #[.val (.int p0), .val (.int p1), .val (.int i), .val (.ref b14), .val (.int (1 : Int32))] [])) _ _ _ _
        refine own_go (fun _ k => XS.iload X21.here hx rfl (hb hby at_71) rfl k) ?_
        show own_G _ _ _ (T21.setTop (mkF m 73 #[.val (.int p0), .val (.int p1), .val (.int i), .val (.ref b14), .val (.int (1 : Int32))] [(.int (1 : Int32))])) _ _ _ _
        refine own_go (fun _ k => XS.iconst X21.here hx rfl (hb hby at_73) k) ?_
        show own_G _ _ _ (T21.setTop (mkF m 74 #[.val (.int p0), .val (.int p1), .val (.int i), .val (.ref b14), .val (.int (1 : Int32))] [(.int (1 : Int32)), (.int (1 : Int32))])) _ _ _ _
        have hc23 : ¬ ((1 : Int32) < (1 : Int32)) := (by decide)
        refine own_go (fun _ k => XS.icmpNo X21.here hx rfl (hb hby at_74) rfl (flt hc23).1 k) ?_
        show own_G _ _ _ (T21.setTop (mkF m 77 #[.val (.int p0), .val (.int p1), .val (.int i), .val (.ref b14), .val (.int (1 : Int32))] [])) _ _ _ _
        refine own_go (fun _ k => XS.aloadN X21.here hx rfl (hb hby at_77) rfl rfl k) ?_
        show own_G _ _ _ (T21.setTop (mkF m 78 #[.val (.int p0), .val (.int p1), .val (.int i), .val (.ref b14), .val (.int (1 : Int32))] [(.ref b14)])) _ _ _ _
        refine own_go (fun _ k => XS.iconst X21.here hx rfl (hb hby at_78) k) ?_
        show own_G _ _ _ (T21.setTop (mkF m 79 #[.val (.int p0), .val (.int p1), .val (.int i), .val (.ref b14), .val (.int (1 : Int32))] [(.int (0 : Int32)), (.ref b14)])) _ _ _ _
        obtain ⟨cq24, kq24, q24a, q24b, q24c⟩ := isOf hZ eh21 r14_0
        obtain ⟨_, _, ⟨T24, L24, k24, n24⟩, -, X24, ⟨Lc24, hQ24, l24, y24, z24⟩, st24⟩ := X21.interfaceBack hx (xi := (⟨"java/util/List", "get", "(I)Ljava/lang/Object;"⟩ : MethodName)) (y := (⟨"java/util/ArrayList", "get", "(I)Ljava/lang/Object;"⟩ : MethodName)) hown (mvT hZ (hw _ (List.mem_of_getElem? (i := 82) rfl))) (mvT hZ (hw _ (List.mem_of_getElem? (i := 83) rfl))) (mvT hZ (hw _ (List.mem_of_getElem? (i := 84) rfl))) (mvT hZ (hw _ (List.mem_of_getElem? (i := 85) rfl))) (mvT hZ (hw _ (List.mem_of_getElem? (i := 86) rfl))) (mvT hZ (hw _ (List.mem_of_getElem? (i := 87) rfl))) (mvT hZ (hw _ (List.mem_of_getElem? (i := 88) rfl))) (mvT hZ (hw _ (List.mem_of_getElem? (i := 39) rfl))) (by decide) (backOf (W := 0) (rm13a l Z a0 hw [] b14 na14 kn14 el014 T14.heap n0 Zs14 r14_0 r14_2 r14_3 r14_1) hZ (hw _ (List.mem_of_getElem? (i := 89) rfl)) (hw _ (List.mem_of_getElem? (i := 6) rfl)) (by decide) (by decide)) q24a q24b q24c (g := (mkF m 79 #[.val (.int p0), .val (.int p1), .val (.int i), .val (.ref b14), .val (.int (1 : Int32))] [(.int (0 : Int32)), (.ref b14)])) rfl (by rw [hml]; rfl) (Steps.refl _) (argsL := [(.int (0 : Int32))]) (rest := []) (lenOf pd_7 rfl) rfl (by show 2 * 0 + _ ≤ _; exact Nat.le_of_eq rfl) (hb hby at_79) (fun _ _ => ⟨rfl, eh21, (by decide : 3 + 0 ≤ _), (by decide : 14 + 0 ≤ _)⟩)
        dsimp only [Pt.U, Pt.locs, Pt.cells, Pt.slots] at X24 l24 y24 z24 st24 hQ24
        subst l24 y24 z24
        obtain ⟨rfl, Nq24, eh24⟩ := hQ24
        have N24 := Fr.app N21 Nq24
        refine own_tr st24 ?_
        show own_G _ _ _ (T24.setTop (mkF m 84 #[.val (.int p0), .val (.int p1), .val (.int i), .val (.ref b14), .val (.int (1 : Int32))] [(.ref el014)])) _ _ _ _
        obtain ⟨T25, X25, e25, st25⟩ := castY X24 hx hZ hown (hw _ (List.mem_of_getElem? (i := 103) rfl)) eh24 (Ins.self r14_4) (g := (mkF m 84 #[.val (.int p0), .val (.int p1), .val (.int i), .val (.ref b14), .val (.int (1 : Int32))] [(.ref el014)])) rfl rfl (hb hby at_84)
        refine own_go (fun _ k => st25 _ k) ?_
        show own_G _ _ _ (T25.setTop (mkF m 87 #[.val (.int p0), .val (.int p1), .val (.int i), .val (.ref b14), .val (.int (1 : Int32))] [(.ref el014)])) _ _ _ _
        obtain ⟨cq26, kq26, q26a, q26b, q26c⟩ := isOf hZ e25 r14_4
        obtain ⟨_, _, ⟨T26, L26, k26, n26⟩, -, X26, ⟨Lc26, hQ26, l26, y26, z26⟩, st26⟩ := X25.virtualBack hx (y := (⟨"java/lang/Integer", "intValue", "()I"⟩ : MethodName)) (z := (⟨"java/lang/Integer", "intValue", "()I"⟩ : MethodName)) hown (mvT hZ (hw _ (List.mem_of_getElem? (i := 105) rfl))) (mvT hZ (hw _ (List.mem_of_getElem? (i := 106) rfl))) (notFace_of_selects (args := #[]) (mvT hZ (hw _ (List.mem_of_getElem? (i := 108) rfl)))) (mvT hZ (hw _ (List.mem_of_getElem? (i := 108) rfl))) (mvT hZ (hw _ (List.mem_of_getElem? (i := 107) rfl))) (by decide) (backOf (W := 0) (rm17 l Z a0 hw [] el014 (i - (1 : Int32)) T14.heap n0 Zs14 r14_5) hZ (hw _ (List.mem_of_getElem? (i := 109) rfl)) (hw _ (List.mem_of_getElem? (i := 45) rfl)) (by decide) (by decide)) q26a q26c (g := (mkF m 87 #[.val (.int p0), .val (.int p1), .val (.int i), .val (.ref b14), .val (.int (1 : Int32))] [(.ref el014)])) rfl (by rw [hml]; rfl) (Steps.refl _) (argsL := []) (rest := []) (lenOf pd_11 rfl) rfl (by show 2 * 0 + _ ≤ _; exact Nat.le_of_eq rfl) (hb hby at_87) (fun _ _ => ⟨rfl, e25, (by decide : 3 + 0 ≤ _), (by decide : 14 + 0 ≤ _)⟩)
        dsimp only [Pt.U, Pt.locs, Pt.cells, Pt.slots] at X26 l26 y26 z26 st26 hQ26
        subst l26 y26 z26
        obtain ⟨rfl, Nq26, eh26⟩ := hQ26
        have N26 := Fr.app N24 Nq26
        refine own_tr st26 ?_
        show own_G _ _ _ (T26.setTop (mkF m 90 #[.val (.int p0), .val (.int p1), .val (.int i), .val (.ref b14), .val (.int (1 : Int32))] [(.int (i - (1 : Int32)))])) _ _ _ _
        refine own_go (fun _ k => XS.iloadN X26.here hx rfl (hb hby at_90) rfl k) ?_
        show own_G _ _ _ (T26.setTop (mkF m 91 #[.val (.int p0), .val (.int p1), .val (.int i), .val (.ref b14), .val (.int (1 : Int32))] [(.int i), (.int (i - (1 : Int32)))])) _ _ _ _
        refine own_go (fun _ k => XS.iconst X26.here hx rfl (hb hby at_91) k) ?_
        show own_G _ _ _ (T26.setTop (mkF m 92 #[.val (.int p0), .val (.int p1), .val (.int i), .val (.ref b14), .val (.int (1 : Int32))] [(.int (1 : Int32)), (.int i), (.int (i - (1 : Int32)))])) _ _ _ _
        refine own_go (fun _ k => XS.isub X26.here hx rfl (hb hby at_92) rfl k) ?_
        show own_G _ _ _ (T26.setTop (mkF m 93 #[.val (.int p0), .val (.int p1), .val (.int i), .val (.ref b14), .val (.int (1 : Int32))] [(.int (i - (1 : Int32))), (.int (i - (1 : Int32)))])) _ _ _ _
        have hc27 : (i - (1 : Int32)) = (i - (1 : Int32)) := rfl
        refine own_go (fun _ k => XS.icmpYes X26.here hx rfl (pc0 := 93) (pc' := 98) rfl (hb hby at_93) rfl (teq hc27).1 (by decide) (by decide) k) ?_
        show own_G _ _ _ (T26.setTop (mkF m 98 #[.val (.int p0), .val (.int p1), .val (.int i), .val (.ref b14), .val (.int (1 : Int32))] [])) _ _ _ _
        refine own_go (fun _ k => XS.iload X26.here hx rfl (hb hby at_98) rfl k) ?_
        show own_G _ _ _ (T26.setTop (mkF m 100 #[.val (.int p0), .val (.int p1), .val (.int i), .val (.ref b14), .val (.int (1 : Int32))] [(.int (1 : Int32))])) _ _ _ _
        refine own_go (fun _ k => XS.iconst X26.here hx rfl (hb hby at_100) k) ?_
        show own_G _ _ _ (T26.setTop (mkF m 101 #[.val (.int p0), .val (.int p1), .val (.int i), .val (.ref b14), .val (.int (1 : Int32))] [(.int (2 : Int32)), (.int (1 : Int32))])) _ _ _ _
        have hc28 : (1 : Int32) < (2 : Int32) := (by decide)
        refine own_go (fun _ k => XS.icmpYes X26.here hx rfl (pc0 := 101) (pc' := 126) rfl (hb hby at_101) rfl (tlt hc28).1 (by decide) (by decide) k) ?_
        show own_G _ _ _ (T26.setTop (mkF m 126 #[.val (.int p0), .val (.int p1), .val (.int i), .val (.ref b14), .val (.int (1 : Int32))] [])) _ _ _ _
        refine own_go (fun _ k => XS.iload X26.here hx rfl (hb hby at_126) rfl k) ?_
        show own_G _ _ _ (T26.setTop (mkF m 128 #[.val (.int p0), .val (.int p1), .val (.int i), .val (.ref b14), .val (.int (1 : Int32))] [(.int (1 : Int32))])) _ _ _ _
        refine own_go (fun _ k => XS.iconst X26.here hx rfl (hb hby at_128) k) ?_
        show own_G _ _ _ (T26.setTop (mkF m 129 #[.val (.int p0), .val (.int p1), .val (.int i), .val (.ref b14), .val (.int (1 : Int32))] [(.int (3 : Int32)), (.int (1 : Int32))])) _ _ _ _
        have hc29 : (1 : Int32) < (3 : Int32) := (by decide)
        refine own_go (fun _ k => XS.icmpYes X26.here hx rfl (pc0 := 129) (pc' := 154) rfl (hb hby at_129) rfl (tlt hc29).1 (by decide) (by decide) k) ?_
        show own_G _ _ _ (T26.setTop (mkF m 154 #[.val (.int p0), .val (.int p1), .val (.int i), .val (.ref b14), .val (.int (1 : Int32))] [])) _ _ _ _
        refine own_go (fun _ k => XS.iconst X26.here hx rfl (hb hby at_154) k) ?_
        show own_G _ _ _ (T26.setTop (mkF m 155 #[.val (.int p0), .val (.int p1), .val (.int i), .val (.ref b14), .val (.int (1 : Int32))] [(.int (1 : Int32))])) _ _ _ _
        exact own_endN X26 hx hlk (t := .boolean) Bd.returns (by simp) (hb hby at_155) (by decide) (by decide) (Q := (Q0 Z p0 p1 d0 k0 ca cc da kd h0 n0)) (by rw [eh26]; exact ⟨rfl, N26, K14_0⟩)
      · skip
        refine own_go (fun _ k => XS.iloadN X0.here hx rfl (hb hby at_18) rfl k) ?_
        show own_G _ _ _ (s₁.setTop (mkF m 19 #[.val (.int p0), .val (.int p1), .val (.int i), .unset, .unset] [(.int i)])) _ _ _ _
        obtain ⟨_, _, ⟨T30, L30, k30, n30⟩, -, X30, ⟨Lc30, hQ30, l30, y30, z30⟩, st30⟩ := Jvm.LawKit.callS X0 hx (y := (⟨"com/example/mini_wire/bench/Application", "dependencies", "(I)Ljava/util/List;"⟩ : MethodName)) hown (mvT hZ (hw _ (List.mem_of_getElem? (i := 0) rfl))) (mvT hZ (hw _ (List.mem_of_getElem? (i := 1) rfl))) (mvT hZ (hw _ (List.mem_of_getElem? (i := 2) rfl))) (mvT hZ (hw _ (List.mem_of_getElem? (i := 3) rfl))) (by decide) (backOf (W := 0) (rm1c l Z a0 hw [] i d0 k0 ca cc da kd h0 n0 Z0 P_Old P_ZS_java_util_ArrayList_DEFAULTCAPACITY_EMPTY_ELEMENTDATA P_V_d0 P_ZS_java_lang_Integer_IntegerCache_high P_ZS_java_lang_Integer_IntegerCache_cache bx P_ZS_com_example_mini_wire_bench_Application_DISTANCES P_V_da hn hq) hZ (hw _ (List.mem_of_getElem? (i := 3) rfl)) (hw _ (List.mem_of_getElem? (i := 2) rfl)) (by decide) (by decide)) (g := (mkF m 19 #[.val (.int p0), .val (.int p1), .val (.int i), .unset, .unset] [(.int i)])) rfl (by rw [hml]; rfl) (argsL := [(.int i)]) (rest := []) (lenOf pd_10 rfl) rfl (by show 2 * 0 + _ ≤ _; exact Nat.le_of_eq rfl) (hb hby at_19) (fun _ _ => ⟨rfl, e0, (by decide : 0 + 4 ≤ _), (by decide : 0 + 15 ≤ _)⟩)
        dsimp only [Pt.U, Pt.locs, Pt.cells, Pt.slots] at X30 l30 y30 z30 st30 hQ30
        subst l30 y30 z30
        obtain ⟨b30, na30, kn30, el030, el130, rfl, Nq30, Kq30, r30_0, r30_1, r30_2, r30_3, r30_4, r30_5, r30_6, r30_7⟩ := hQ30
        have N30 := Fr.app N0 Nq30
        have f31 : Old Z n0 T30.heap := P_Old.keep Kq30 all0
        have f32 : Arv Z T30.heap d0 k0 (.object "java/lang/Object") (0 : Int32) [] .null := P_V_d0.keep Kq30 nin0
        have f33 : Arv Z T30.heap da kd .int (3 : Int32) [(.int (1 : Int32)), (.int (7 : Int32)), (.int (31 : Int32))] (.int (0 : Int32)) := P_V_da.keep Kq30 nin0
        have Zs30 : n0 ≤ T30.heap.size := Nat.le_trans Z0 Kq30.1
        have K30_0 : Keep h0 T30.heap [] := K0.trans Kq30 all0
        refine own_go (fun _ k => st30 _ k) ?_
        show own_G _ _ _ (T30.setTop (mkF m 22 #[.val (.int p0), .val (.int p1), .val (.int i), .unset, .unset] [(.ref b30)])) _ _ _ _
        refine own_go (fun _ k => XS.astoreN X30.here hx rfl (hb hby at_22) rfl rfl (l' := #[.val (.int p0), .val (.int p1), .val (.int i), .val (.ref b30), .unset]) rfl k) ?_
        show own_G _ _ _ (T30.setTop (mkF m 23 #[.val (.int p0), .val (.int p1), .val (.int i), .val (.ref b30), .unset] [])) _ _ _ _
        refine own_go (fun _ k => XS.aloadN X30.here hx rfl (hb hby at_23) rfl rfl k) ?_
        show own_G _ _ _ (T30.setTop (mkF m 24 #[.val (.int p0), .val (.int p1), .val (.int i), .val (.ref b30), .unset] [(.ref b30)])) _ _ _ _
        refine own_go (fun _ k => XS.ifnonnullYes X30.here hx rfl (pc0 := 24) (pc' := 29) rfl (hb hby at_24) rfl (by decide) (by decide) k) ?_
        show own_G _ _ _ (T30.setTop (mkF m 29 #[.val (.int p0), .val (.int p1), .val (.int i), .val (.ref b30), .unset] [])) _ _ _ _
        refine own_go (fun _ k => XS.iconst X30.here hx rfl (hb hby at_29) k) ?_
        show own_G _ _ _ (T30.setTop (mkF m 30 #[.val (.int p0), .val (.int p1), .val (.int i), .val (.ref b30), .unset] [(.int (0 : Int32))])) _ _ _ _
        refine own_go (fun _ k => XS.istore X30.here hx rfl (hb hby at_30) rfl (l' := #[.val (.int p0), .val (.int p1), .val (.int i), .val (.ref b30), .val (.int (0 : Int32))]) rfl k) ?_
        show own_G _ _ _ (T30.setTop (mkF m 32 #[.val (.int p0), .val (.int p1), .val (.int i), .val (.ref b30), .val (.int (0 : Int32))] [])) _ _ _ _
        refine own_go (fun _ k => XS.iloadN X30.here hx rfl (hb hby at_32) rfl k) ?_
        show own_G _ _ _ (T30.setTop (mkF m 33 #[.val (.int p0), .val (.int p1), .val (.int i), .val (.ref b30), .val (.int (0 : Int32))] [(.int i)])) _ _ _ _
        refine own_go (fun _ k => XS.iconst X30.here hx rfl (hb hby at_33) k) ?_
        show own_G _ _ _ (T30.setTop (mkF m 34 #[.val (.int p0), .val (.int p1), .val (.int i), .val (.ref b30), .val (.int (0 : Int32))] [(.int (1 : Int32)), (.int i)])) _ _ _ _
        have hc34 : ¬ (i < (1 : Int32)) := own_nlt i (1 : Int32) (7 : Int32) hq.1 (by decide)
        refine own_go (fun _ k => XS.icmpNo X30.here hx rfl (hb hby at_34) rfl (flt hc34).1 k) ?_
        show own_G _ _ _ (T30.setTop (mkF m 37 #[.val (.int p0), .val (.int p1), .val (.int i), .val (.ref b30), .val (.int (0 : Int32))] [])) _ _ _ _
        refine own_go (fun _ k => XS.iconst X30.here hx rfl (hb hby at_37) k) ?_
        show own_G _ _ _ (T30.setTop (mkF m 38 #[.val (.int p0), .val (.int p1), .val (.int i), .val (.ref b30), .val (.int (0 : Int32))] [(.int (1 : Int32))])) _ _ _ _
        refine own_go (fun _ k => XS.istore X30.here hx rfl (hb hby at_38) rfl (l' := #[.val (.int p0), .val (.int p1), .val (.int i), .val (.ref b30), .val (.int (1 : Int32))]) rfl k) ?_
        show own_G _ _ _ (T30.setTop (mkF m 40 #[.val (.int p0), .val (.int p1), .val (.int i), .val (.ref b30), .val (.int (1 : Int32))] [])) _ _ _ _
        refine own_go (fun _ k => XS.iloadN X30.here hx rfl (hb hby at_40) rfl k) ?_
        show own_G _ _ _ (T30.setTop (mkF m 41 #[.val (.int p0), .val (.int p1), .val (.int i), .val (.ref b30), .val (.int (1 : Int32))] [(.int i)])) _ _ _ _
        refine own_go (fun _ k => XS.bipush X30.here hx rfl (hb hby at_41) k) ?_
        show own_G _ _ _ (T30.setTop (mkF m 43 #[.val (.int p0), .val (.int p1), .val (.int i), .val (.ref b30), .val (.int (1 : Int32))] [(.int (7 : Int32)), (.int i)])) _ _ _ _
        have hc35 : ¬ (i < (7 : Int32)) := own_nlt i (7 : Int32) (7 : Int32) hq.1 (by decide)
        refine own_go (fun _ k => XS.icmpNo X30.here hx rfl (hb hby at_43) rfl (flt hc35).1 k) ?_
        show own_G _ _ _ (T30.setTop (mkF m 46 #[.val (.int p0), .val (.int p1), .val (.int i), .val (.ref b30), .val (.int (1 : Int32))] [])) _ _ _ _
        refine own_go (fun _ k => XS.iconst X30.here hx rfl (hb hby at_46) k) ?_
        show own_G _ _ _ (T30.setTop (mkF m 47 #[.val (.int p0), .val (.int p1), .val (.int i), .val (.ref b30), .val (.int (1 : Int32))] [(.int (2 : Int32))])) _ _ _ _
        refine own_go (fun _ k => XS.istore X30.here hx rfl (hb hby at_47) rfl (l' := #[.val (.int p0), .val (.int p1), .val (.int i), .val (.ref b30), .val (.int (2 : Int32))]) rfl k) ?_
        show own_G _ _ _ (T30.setTop (mkF m 49 #[.val (.int p0), .val (.int p1), .val (.int i), .val (.ref b30), .val (.int (2 : Int32))] [])) _ _ _ _
        refine own_go (fun _ k => XS.iloadN X30.here hx rfl (hb hby at_49) rfl k) ?_
        show own_G _ _ _ (T30.setTop (mkF m 50 #[.val (.int p0), .val (.int p1), .val (.int i), .val (.ref b30), .val (.int (2 : Int32))] [(.int i)])) _ _ _ _
        refine own_go (fun _ k => XS.bipush X30.here hx rfl (hb hby at_50) k) ?_
        show own_G _ _ _ (T30.setTop (mkF m 52 #[.val (.int p0), .val (.int p1), .val (.int i), .val (.ref b30), .val (.int (2 : Int32))] [(.int (31 : Int32)), (.int i)])) _ _ _ _
        have hc36 : i < (31 : Int32) := own_lt i (31 : Int32) (31 : Int32) hq.2 (by decide)
        refine own_go (fun _ k => XS.icmpYes X30.here hx rfl (pc0 := 52) (pc' := 58) rfl (hb hby at_52) rfl (tlt hc36).1 (by decide) (by decide) k) ?_
        show own_G _ _ _ (T30.setTop (mkF m 58 #[.val (.int p0), .val (.int p1), .val (.int i), .val (.ref b30), .val (.int (2 : Int32))] [])) _ _ _ _
        refine own_go (fun _ k => XS.aloadN X30.here hx rfl (hb hby at_58) rfl rfl k) ?_
        show own_G _ _ _ (T30.setTop (mkF m 59 #[.val (.int p0), .val (.int p1), .val (.int i), .val (.ref b30), .val (.int (2 : Int32))] [(.ref b30)])) _ _ _ _
        obtain ⟨cq37, kq37, q37a, q37b, q37c⟩ := isOf hZ rfl r30_0
        obtain ⟨_, _, ⟨T37, L37, k37, n37⟩, -, X37, ⟨Lc37, hQ37, l37, y37, z37⟩, st37⟩ := X30.interfaceBack hx (xi := (⟨"java/util/List", "size", "()I"⟩ : MethodName)) (y := (⟨"java/util/ArrayList", "size", "()I"⟩ : MethodName)) hown (mvT hZ (hw _ (List.mem_of_getElem? (i := 32) rfl))) (mvT hZ (hw _ (List.mem_of_getElem? (i := 33) rfl))) (mvT hZ (hw _ (List.mem_of_getElem? (i := 34) rfl))) (mvT hZ (hw _ (List.mem_of_getElem? (i := 35) rfl))) (mvT hZ (hw _ (List.mem_of_getElem? (i := 36) rfl))) (mvT hZ (hw _ (List.mem_of_getElem? (i := 37) rfl))) (mvT hZ (hw _ (List.mem_of_getElem? (i := 38) rfl))) (mvT hZ (hw _ (List.mem_of_getElem? (i := 39) rfl))) (by decide) (backOf (W := 0) (rm6 l Z a0 hw [] b30 (2 : Int32) T30.heap n0 Zs30 r30_1) hZ (hw _ (List.mem_of_getElem? (i := 40) rfl)) (hw _ (List.mem_of_getElem? (i := 6) rfl)) (by decide) (by decide)) q37a q37b q37c (g := (mkF m 59 #[.val (.int p0), .val (.int p1), .val (.int i), .val (.ref b30), .val (.int (2 : Int32))] [(.ref b30)])) rfl (by rw [hml]; rfl) (Steps.refl _) (argsL := []) (rest := []) (lenOf pd_11 rfl) rfl (by show 2 * 0 + _ ≤ _; exact Nat.le_of_eq rfl) (hb hby at_59) (fun _ _ => ⟨rfl, rfl, (by decide : 4 + 0 ≤ _), (by decide : 15 + 0 ≤ _)⟩)
        dsimp only [Pt.U, Pt.locs, Pt.cells, Pt.slots] at X37 l37 y37 z37 st37 hQ37
        subst l37 y37 z37
        obtain ⟨rfl, Nq37, eh37⟩ := hQ37
        have N37 := Fr.app N30 Nq37
        refine own_tr st37 ?_
        show own_G _ _ _ (T37.setTop (mkF m 64 #[.val (.int p0), .val (.int p1), .val (.int i), .val (.ref b30), .val (.int (2 : Int32))] [(.int (2 : Int32))])) _ _ _ _
        refine own_go (fun _ k => XS.iload X37.here hx rfl (hb hby at_64) rfl k) ?_
        show own_G _ _ _ (T37.setTop (mkF m 66 #[.val (.int p0), .val (.int p1), .val (.int i), .val (.ref b30), .val (.int (2 : Int32))] [(.int (2 : Int32)), (.int (2 : Int32))])) _ _ _ _
        have hc38 : (2 : Int32) = (2 : Int32) := (by decide)
        refine own_go (fun _ k => XS.icmpYes X37.here hx rfl (pc0 := 66) (pc' := 71) rfl (hb hby at_66) rfl (teq hc38).1 (by decide) (by decide) k) ?_
        show own_G _ _ _ (T37.setTop (mkF m 71 #[.val (.int p0), .val (.int p1), .val (.int i), .val (.ref b30), .val (.int (2 : Int32))] [])) _ _ _ _
        refine own_go (fun _ k => XS.iload X37.here hx rfl (hb hby at_71) rfl k) ?_
        show own_G _ _ _ (T37.setTop (mkF m 73 #[.val (.int p0), .val (.int p1), .val (.int i), .val (.ref b30), .val (.int (2 : Int32))] [(.int (2 : Int32))])) _ _ _ _
        refine own_go (fun _ k => XS.iconst X37.here hx rfl (hb hby at_73) k) ?_
        show own_G _ _ _ (T37.setTop (mkF m 74 #[.val (.int p0), .val (.int p1), .val (.int i), .val (.ref b30), .val (.int (2 : Int32))] [(.int (1 : Int32)), (.int (2 : Int32))])) _ _ _ _
        have hc39 : ¬ ((2 : Int32) < (1 : Int32)) := (by decide)
        refine own_go (fun _ k => XS.icmpNo X37.here hx rfl (hb hby at_74) rfl (flt hc39).1 k) ?_
        show own_G _ _ _ (T37.setTop (mkF m 77 #[.val (.int p0), .val (.int p1), .val (.int i), .val (.ref b30), .val (.int (2 : Int32))] [])) _ _ _ _
        refine own_go (fun _ k => XS.aloadN X37.here hx rfl (hb hby at_77) rfl rfl k) ?_
        show own_G _ _ _ (T37.setTop (mkF m 78 #[.val (.int p0), .val (.int p1), .val (.int i), .val (.ref b30), .val (.int (2 : Int32))] [(.ref b30)])) _ _ _ _
        refine own_go (fun _ k => XS.iconst X37.here hx rfl (hb hby at_78) k) ?_
        show own_G _ _ _ (T37.setTop (mkF m 79 #[.val (.int p0), .val (.int p1), .val (.int i), .val (.ref b30), .val (.int (2 : Int32))] [(.int (0 : Int32)), (.ref b30)])) _ _ _ _
        obtain ⟨cq40, kq40, q40a, q40b, q40c⟩ := isOf hZ eh37 r30_0
        obtain ⟨_, _, ⟨T40, L40, k40, n40⟩, -, X40, ⟨Lc40, hQ40, l40, y40, z40⟩, st40⟩ := X37.interfaceBack hx (xi := (⟨"java/util/List", "get", "(I)Ljava/lang/Object;"⟩ : MethodName)) (y := (⟨"java/util/ArrayList", "get", "(I)Ljava/lang/Object;"⟩ : MethodName)) hown (mvT hZ (hw _ (List.mem_of_getElem? (i := 82) rfl))) (mvT hZ (hw _ (List.mem_of_getElem? (i := 83) rfl))) (mvT hZ (hw _ (List.mem_of_getElem? (i := 84) rfl))) (mvT hZ (hw _ (List.mem_of_getElem? (i := 85) rfl))) (mvT hZ (hw _ (List.mem_of_getElem? (i := 86) rfl))) (mvT hZ (hw _ (List.mem_of_getElem? (i := 87) rfl))) (mvT hZ (hw _ (List.mem_of_getElem? (i := 88) rfl))) (mvT hZ (hw _ (List.mem_of_getElem? (i := 39) rfl))) (by decide) (backOf (W := 0) (rm13b l Z a0 hw [] b30 na30 kn30 el030 el130 T30.heap n0 Zs30 r30_0 r30_2 r30_3 r30_1) hZ (hw _ (List.mem_of_getElem? (i := 89) rfl)) (hw _ (List.mem_of_getElem? (i := 6) rfl)) (by decide) (by decide)) q40a q40b q40c (g := (mkF m 79 #[.val (.int p0), .val (.int p1), .val (.int i), .val (.ref b30), .val (.int (2 : Int32))] [(.int (0 : Int32)), (.ref b30)])) rfl (by rw [hml]; rfl) (Steps.refl _) (argsL := [(.int (0 : Int32))]) (rest := []) (lenOf pd_7 rfl) rfl (by show 2 * 0 + _ ≤ _; exact Nat.le_of_eq rfl) (hb hby at_79) (fun _ _ => ⟨rfl, eh37, (by decide : 4 + 0 ≤ _), (by decide : 15 + 0 ≤ _)⟩)
        dsimp only [Pt.U, Pt.locs, Pt.cells, Pt.slots] at X40 l40 y40 z40 st40 hQ40
        subst l40 y40 z40
        obtain ⟨rfl, Nq40, eh40⟩ := hQ40
        have N40 := Fr.app N37 Nq40
        refine own_tr st40 ?_
        show own_G _ _ _ (T40.setTop (mkF m 84 #[.val (.int p0), .val (.int p1), .val (.int i), .val (.ref b30), .val (.int (2 : Int32))] [(.ref el030)])) _ _ _ _
        obtain ⟨T41, X41, e41, st41⟩ := castY X40 hx hZ hown (hw _ (List.mem_of_getElem? (i := 103) rfl)) eh40 (Ins.self r30_4) (g := (mkF m 84 #[.val (.int p0), .val (.int p1), .val (.int i), .val (.ref b30), .val (.int (2 : Int32))] [(.ref el030)])) rfl rfl (hb hby at_84)
        refine own_go (fun _ k => st41 _ k) ?_
        show own_G _ _ _ (T41.setTop (mkF m 87 #[.val (.int p0), .val (.int p1), .val (.int i), .val (.ref b30), .val (.int (2 : Int32))] [(.ref el030)])) _ _ _ _
        obtain ⟨cq42, kq42, q42a, q42b, q42c⟩ := isOf hZ e41 r30_4
        obtain ⟨_, _, ⟨T42, L42, k42, n42⟩, -, X42, ⟨Lc42, hQ42, l42, y42, z42⟩, st42⟩ := X41.virtualBack hx (y := (⟨"java/lang/Integer", "intValue", "()I"⟩ : MethodName)) (z := (⟨"java/lang/Integer", "intValue", "()I"⟩ : MethodName)) hown (mvT hZ (hw _ (List.mem_of_getElem? (i := 105) rfl))) (mvT hZ (hw _ (List.mem_of_getElem? (i := 106) rfl))) (notFace_of_selects (args := #[]) (mvT hZ (hw _ (List.mem_of_getElem? (i := 108) rfl)))) (mvT hZ (hw _ (List.mem_of_getElem? (i := 108) rfl))) (mvT hZ (hw _ (List.mem_of_getElem? (i := 107) rfl))) (by decide) (backOf (W := 0) (rm17 l Z a0 hw [] el030 (i - (1 : Int32)) T30.heap n0 Zs30 r30_5) hZ (hw _ (List.mem_of_getElem? (i := 109) rfl)) (hw _ (List.mem_of_getElem? (i := 45) rfl)) (by decide) (by decide)) q42a q42c (g := (mkF m 87 #[.val (.int p0), .val (.int p1), .val (.int i), .val (.ref b30), .val (.int (2 : Int32))] [(.ref el030)])) rfl (by rw [hml]; rfl) (Steps.refl _) (argsL := []) (rest := []) (lenOf pd_11 rfl) rfl (by show 2 * 0 + _ ≤ _; exact Nat.le_of_eq rfl) (hb hby at_87) (fun _ _ => ⟨rfl, e41, (by decide : 4 + 0 ≤ _), (by decide : 15 + 0 ≤ _)⟩)
        dsimp only [Pt.U, Pt.locs, Pt.cells, Pt.slots] at X42 l42 y42 z42 st42 hQ42
        subst l42 y42 z42
        obtain ⟨rfl, Nq42, eh42⟩ := hQ42
        have N42 := Fr.app N40 Nq42
        refine own_tr st42 ?_
        show own_G _ _ _ (T42.setTop (mkF m 90 #[.val (.int p0), .val (.int p1), .val (.int i), .val (.ref b30), .val (.int (2 : Int32))] [(.int (i - (1 : Int32)))])) _ _ _ _
        refine own_go (fun _ k => XS.iloadN X42.here hx rfl (hb hby at_90) rfl k) ?_
        show own_G _ _ _ (T42.setTop (mkF m 91 #[.val (.int p0), .val (.int p1), .val (.int i), .val (.ref b30), .val (.int (2 : Int32))] [(.int i), (.int (i - (1 : Int32)))])) _ _ _ _
        refine own_go (fun _ k => XS.iconst X42.here hx rfl (hb hby at_91) k) ?_
        show own_G _ _ _ (T42.setTop (mkF m 92 #[.val (.int p0), .val (.int p1), .val (.int i), .val (.ref b30), .val (.int (2 : Int32))] [(.int (1 : Int32)), (.int i), (.int (i - (1 : Int32)))])) _ _ _ _
        refine own_go (fun _ k => XS.isub X42.here hx rfl (hb hby at_92) rfl k) ?_
        show own_G _ _ _ (T42.setTop (mkF m 93 #[.val (.int p0), .val (.int p1), .val (.int i), .val (.ref b30), .val (.int (2 : Int32))] [(.int (i - (1 : Int32))), (.int (i - (1 : Int32)))])) _ _ _ _
        have hc43 : (i - (1 : Int32)) = (i - (1 : Int32)) := rfl
        refine own_go (fun _ k => XS.icmpYes X42.here hx rfl (pc0 := 93) (pc' := 98) rfl (hb hby at_93) rfl (teq hc43).1 (by decide) (by decide) k) ?_
        show own_G _ _ _ (T42.setTop (mkF m 98 #[.val (.int p0), .val (.int p1), .val (.int i), .val (.ref b30), .val (.int (2 : Int32))] [])) _ _ _ _
        refine own_go (fun _ k => XS.iload X42.here hx rfl (hb hby at_98) rfl k) ?_
        show own_G _ _ _ (T42.setTop (mkF m 100 #[.val (.int p0), .val (.int p1), .val (.int i), .val (.ref b30), .val (.int (2 : Int32))] [(.int (2 : Int32))])) _ _ _ _
        refine own_go (fun _ k => XS.iconst X42.here hx rfl (hb hby at_100) k) ?_
        show own_G _ _ _ (T42.setTop (mkF m 101 #[.val (.int p0), .val (.int p1), .val (.int i), .val (.ref b30), .val (.int (2 : Int32))] [(.int (2 : Int32)), (.int (2 : Int32))])) _ _ _ _
        have hc44 : ¬ ((2 : Int32) < (2 : Int32)) := (by decide)
        refine own_go (fun _ k => XS.icmpNo X42.here hx rfl (hb hby at_101) rfl (flt hc44).1 k) ?_
        show own_G _ _ _ (T42.setTop (mkF m 104 #[.val (.int p0), .val (.int p1), .val (.int i), .val (.ref b30), .val (.int (2 : Int32))] [])) _ _ _ _
        refine own_go (fun _ k => XS.aloadN X42.here hx rfl (hb hby at_104) rfl rfl k) ?_
        show own_G _ _ _ (T42.setTop (mkF m 105 #[.val (.int p0), .val (.int p1), .val (.int i), .val (.ref b30), .val (.int (2 : Int32))] [(.ref b30)])) _ _ _ _
        refine own_go (fun _ k => XS.iconst X42.here hx rfl (hb hby at_105) k) ?_
        show own_G _ _ _ (T42.setTop (mkF m 106 #[.val (.int p0), .val (.int p1), .val (.int i), .val (.ref b30), .val (.int (2 : Int32))] [(.int (1 : Int32)), (.ref b30)])) _ _ _ _
        obtain ⟨cq45, kq45, q45a, q45b, q45c⟩ := isOf hZ eh42 r30_0
        obtain ⟨_, _, ⟨T45, L45, k45, n45⟩, -, X45, ⟨Lc45, hQ45, l45, y45, z45⟩, st45⟩ := X42.interfaceBack hx (xi := (⟨"java/util/List", "get", "(I)Ljava/lang/Object;"⟩ : MethodName)) (y := (⟨"java/util/ArrayList", "get", "(I)Ljava/lang/Object;"⟩ : MethodName)) hown (mvT hZ (hw _ (List.mem_of_getElem? (i := 82) rfl))) (mvT hZ (hw _ (List.mem_of_getElem? (i := 83) rfl))) (mvT hZ (hw _ (List.mem_of_getElem? (i := 84) rfl))) (mvT hZ (hw _ (List.mem_of_getElem? (i := 85) rfl))) (mvT hZ (hw _ (List.mem_of_getElem? (i := 86) rfl))) (mvT hZ (hw _ (List.mem_of_getElem? (i := 87) rfl))) (mvT hZ (hw _ (List.mem_of_getElem? (i := 88) rfl))) (mvT hZ (hw _ (List.mem_of_getElem? (i := 39) rfl))) (by decide) (backOf (W := 0) (rm13c l Z a0 hw [] b30 na30 kn30 el030 el130 T30.heap n0 Zs30 r30_0 r30_2 r30_3 r30_1) hZ (hw _ (List.mem_of_getElem? (i := 89) rfl)) (hw _ (List.mem_of_getElem? (i := 6) rfl)) (by decide) (by decide)) q45a q45b q45c (g := (mkF m 106 #[.val (.int p0), .val (.int p1), .val (.int i), .val (.ref b30), .val (.int (2 : Int32))] [(.int (1 : Int32)), (.ref b30)])) rfl (by rw [hml]; rfl) (Steps.refl _) (argsL := [(.int (1 : Int32))]) (rest := []) (lenOf pd_7 rfl) rfl (by show 2 * 0 + _ ≤ _; exact Nat.le_of_eq rfl) (hb hby at_106) (fun _ _ => ⟨rfl, eh42, (by decide : 4 + 0 ≤ _), (by decide : 15 + 0 ≤ _)⟩)
        dsimp only [Pt.U, Pt.locs, Pt.cells, Pt.slots] at X45 l45 y45 z45 st45 hQ45
        subst l45 y45 z45
        obtain ⟨rfl, Nq45, eh45⟩ := hQ45
        have N45 := Fr.app N42 Nq45
        refine own_tr st45 ?_
        show own_G _ _ _ (T45.setTop (mkF m 111 #[.val (.int p0), .val (.int p1), .val (.int i), .val (.ref b30), .val (.int (2 : Int32))] [(.ref el130)])) _ _ _ _
        obtain ⟨T46, X46, e46, st46⟩ := castY X45 hx hZ hown (hw _ (List.mem_of_getElem? (i := 103) rfl)) eh45 (Ins.self r30_6) (g := (mkF m 111 #[.val (.int p0), .val (.int p1), .val (.int i), .val (.ref b30), .val (.int (2 : Int32))] [(.ref el130)])) rfl rfl (hb hby at_111)
        refine own_go (fun _ k => st46 _ k) ?_
        show own_G _ _ _ (T46.setTop (mkF m 114 #[.val (.int p0), .val (.int p1), .val (.int i), .val (.ref b30), .val (.int (2 : Int32))] [(.ref el130)])) _ _ _ _
        obtain ⟨cq47, kq47, q47a, q47b, q47c⟩ := isOf hZ e46 r30_6
        obtain ⟨_, _, ⟨T47, L47, k47, n47⟩, -, X47, ⟨Lc47, hQ47, l47, y47, z47⟩, st47⟩ := X46.virtualBack hx (y := (⟨"java/lang/Integer", "intValue", "()I"⟩ : MethodName)) (z := (⟨"java/lang/Integer", "intValue", "()I"⟩ : MethodName)) hown (mvT hZ (hw _ (List.mem_of_getElem? (i := 105) rfl))) (mvT hZ (hw _ (List.mem_of_getElem? (i := 106) rfl))) (notFace_of_selects (args := #[]) (mvT hZ (hw _ (List.mem_of_getElem? (i := 108) rfl)))) (mvT hZ (hw _ (List.mem_of_getElem? (i := 108) rfl))) (mvT hZ (hw _ (List.mem_of_getElem? (i := 107) rfl))) (by decide) (backOf (W := 0) (rm17 l Z a0 hw [] el130 (i - (7 : Int32)) T30.heap n0 Zs30 r30_7) hZ (hw _ (List.mem_of_getElem? (i := 109) rfl)) (hw _ (List.mem_of_getElem? (i := 45) rfl)) (by decide) (by decide)) q47a q47c (g := (mkF m 114 #[.val (.int p0), .val (.int p1), .val (.int i), .val (.ref b30), .val (.int (2 : Int32))] [(.ref el130)])) rfl (by rw [hml]; rfl) (Steps.refl _) (argsL := []) (rest := []) (lenOf pd_11 rfl) rfl (by show 2 * 0 + _ ≤ _; exact Nat.le_of_eq rfl) (hb hby at_114) (fun _ _ => ⟨rfl, e46, (by decide : 4 + 0 ≤ _), (by decide : 15 + 0 ≤ _)⟩)
        dsimp only [Pt.U, Pt.locs, Pt.cells, Pt.slots] at X47 l47 y47 z47 st47 hQ47
        subst l47 y47 z47
        obtain ⟨rfl, Nq47, eh47⟩ := hQ47
        have N47 := Fr.app N45 Nq47
        refine own_tr st47 ?_
        show own_G _ _ _ (T47.setTop (mkF m 117 #[.val (.int p0), .val (.int p1), .val (.int i), .val (.ref b30), .val (.int (2 : Int32))] [(.int (i - (7 : Int32)))])) _ _ _ _
        refine own_go (fun _ k => XS.iloadN X47.here hx rfl (hb hby at_117) rfl k) ?_
        show own_G _ _ _ (T47.setTop (mkF m 118 #[.val (.int p0), .val (.int p1), .val (.int i), .val (.ref b30), .val (.int (2 : Int32))] [(.int i), (.int (i - (7 : Int32)))])) _ _ _ _
        refine own_go (fun _ k => XS.bipush X47.here hx rfl (hb hby at_118) k) ?_
        show own_G _ _ _ (T47.setTop (mkF m 120 #[.val (.int p0), .val (.int p1), .val (.int i), .val (.ref b30), .val (.int (2 : Int32))] [(.int (7 : Int32)), (.int i), (.int (i - (7 : Int32)))])) _ _ _ _
        refine own_go (fun _ k => XS.isub X47.here hx rfl (hb hby at_120) rfl k) ?_
        show own_G _ _ _ (T47.setTop (mkF m 121 #[.val (.int p0), .val (.int p1), .val (.int i), .val (.ref b30), .val (.int (2 : Int32))] [(.int (i - (7 : Int32))), (.int (i - (7 : Int32)))])) _ _ _ _
        have hc48 : (i - (7 : Int32)) = (i - (7 : Int32)) := rfl
        refine own_go (fun _ k => XS.icmpYes X47.here hx rfl (pc0 := 121) (pc' := 126) rfl (hb hby at_121) rfl (teq hc48).1 (by decide) (by decide) k) ?_
        show own_G _ _ _ (T47.setTop (mkF m 126 #[.val (.int p0), .val (.int p1), .val (.int i), .val (.ref b30), .val (.int (2 : Int32))] [])) _ _ _ _
        refine own_go (fun _ k => XS.iload X47.here hx rfl (hb hby at_126) rfl k) ?_
        show own_G _ _ _ (T47.setTop (mkF m 128 #[.val (.int p0), .val (.int p1), .val (.int i), .val (.ref b30), .val (.int (2 : Int32))] [(.int (2 : Int32))])) _ _ _ _
        refine own_go (fun _ k => XS.iconst X47.here hx rfl (hb hby at_128) k) ?_
        show own_G _ _ _ (T47.setTop (mkF m 129 #[.val (.int p0), .val (.int p1), .val (.int i), .val (.ref b30), .val (.int (2 : Int32))] [(.int (3 : Int32)), (.int (2 : Int32))])) _ _ _ _
        have hc49 : (2 : Int32) < (3 : Int32) := (by decide)
        refine own_go (fun _ k => XS.icmpYes X47.here hx rfl (pc0 := 129) (pc' := 154) rfl (hb hby at_129) rfl (tlt hc49).1 (by decide) (by decide) k) ?_
        show own_G _ _ _ (T47.setTop (mkF m 154 #[.val (.int p0), .val (.int p1), .val (.int i), .val (.ref b30), .val (.int (2 : Int32))] [])) _ _ _ _
        refine own_go (fun _ k => XS.iconst X47.here hx rfl (hb hby at_154) k) ?_
        show own_G _ _ _ (T47.setTop (mkF m 155 #[.val (.int p0), .val (.int p1), .val (.int i), .val (.ref b30), .val (.int (2 : Int32))] [(.int (1 : Int32))])) _ _ _ _
        exact own_endN X47 hx hlk (t := .boolean) Bd.returns (by simp) (hb hby at_155) (by decide) (by decide) (Q := (Q0 Z p0 p1 d0 k0 ca cc da kd h0 n0)) (by rw [eh47]; exact ⟨rfl, N47, K30_0⟩)
      · skip
        refine own_go (fun _ k => XS.iloadN X0.here hx rfl (hb hby at_18) rfl k) ?_
        show own_G _ _ _ (s₁.setTop (mkF m 19 #[.val (.int p0), .val (.int p1), .val (.int i), .unset, .unset] [(.int i)])) _ _ _ _
        obtain ⟨_, _, ⟨T50, L50, k50, n50⟩, -, X50, ⟨Lc50, hQ50, l50, y50, z50⟩, st50⟩ := Jvm.LawKit.callS X0 hx (y := (⟨"com/example/mini_wire/bench/Application", "dependencies", "(I)Ljava/util/List;"⟩ : MethodName)) hown (mvT hZ (hw _ (List.mem_of_getElem? (i := 0) rfl))) (mvT hZ (hw _ (List.mem_of_getElem? (i := 1) rfl))) (mvT hZ (hw _ (List.mem_of_getElem? (i := 2) rfl))) (mvT hZ (hw _ (List.mem_of_getElem? (i := 3) rfl))) (by decide) (backOf (W := 0) (rm1d l Z a0 hw [] i d0 k0 ca cc da kd h0 n0 Z0 P_Old P_ZS_java_util_ArrayList_DEFAULTCAPACITY_EMPTY_ELEMENTDATA P_V_d0 P_ZS_java_lang_Integer_IntegerCache_high P_ZS_java_lang_Integer_IntegerCache_cache bx P_ZS_com_example_mini_wire_bench_Application_DISTANCES P_V_da hn hq) hZ (hw _ (List.mem_of_getElem? (i := 3) rfl)) (hw _ (List.mem_of_getElem? (i := 2) rfl)) (by decide) (by decide)) (g := (mkF m 19 #[.val (.int p0), .val (.int p1), .val (.int i), .unset, .unset] [(.int i)])) rfl (by rw [hml]; rfl) (argsL := [(.int i)]) (rest := []) (lenOf pd_10 rfl) rfl (by show 2 * 0 + _ ≤ _; exact Nat.le_of_eq rfl) (hb hby at_19) (fun _ _ => ⟨rfl, e0, (by decide : 0 + 5 ≤ _), (by decide : 0 + 16 ≤ _)⟩)
        dsimp only [Pt.U, Pt.locs, Pt.cells, Pt.slots] at X50 l50 y50 z50 st50 hQ50
        subst l50 y50 z50
        obtain ⟨b50, na50, kn50, el050, el150, el250, rfl, Nq50, Kq50, r50_0, r50_1, r50_2, r50_3, r50_4, r50_5, r50_6, r50_7, r50_8, r50_9⟩ := hQ50
        have N50 := Fr.app N0 Nq50
        have f51 : Old Z n0 T50.heap := P_Old.keep Kq50 all0
        have f52 : Arv Z T50.heap d0 k0 (.object "java/lang/Object") (0 : Int32) [] .null := P_V_d0.keep Kq50 nin0
        have f53 : Arv Z T50.heap da kd .int (3 : Int32) [(.int (1 : Int32)), (.int (7 : Int32)), (.int (31 : Int32))] (.int (0 : Int32)) := P_V_da.keep Kq50 nin0
        have Zs50 : n0 ≤ T50.heap.size := Nat.le_trans Z0 Kq50.1
        have K50_0 : Keep h0 T50.heap [] := K0.trans Kq50 all0
        refine own_go (fun _ k => st50 _ k) ?_
        show own_G _ _ _ (T50.setTop (mkF m 22 #[.val (.int p0), .val (.int p1), .val (.int i), .unset, .unset] [(.ref b50)])) _ _ _ _
        refine own_go (fun _ k => XS.astoreN X50.here hx rfl (hb hby at_22) rfl rfl (l' := #[.val (.int p0), .val (.int p1), .val (.int i), .val (.ref b50), .unset]) rfl k) ?_
        show own_G _ _ _ (T50.setTop (mkF m 23 #[.val (.int p0), .val (.int p1), .val (.int i), .val (.ref b50), .unset] [])) _ _ _ _
        refine own_go (fun _ k => XS.aloadN X50.here hx rfl (hb hby at_23) rfl rfl k) ?_
        show own_G _ _ _ (T50.setTop (mkF m 24 #[.val (.int p0), .val (.int p1), .val (.int i), .val (.ref b50), .unset] [(.ref b50)])) _ _ _ _
        refine own_go (fun _ k => XS.ifnonnullYes X50.here hx rfl (pc0 := 24) (pc' := 29) rfl (hb hby at_24) rfl (by decide) (by decide) k) ?_
        show own_G _ _ _ (T50.setTop (mkF m 29 #[.val (.int p0), .val (.int p1), .val (.int i), .val (.ref b50), .unset] [])) _ _ _ _
        refine own_go (fun _ k => XS.iconst X50.here hx rfl (hb hby at_29) k) ?_
        show own_G _ _ _ (T50.setTop (mkF m 30 #[.val (.int p0), .val (.int p1), .val (.int i), .val (.ref b50), .unset] [(.int (0 : Int32))])) _ _ _ _
        refine own_go (fun _ k => XS.istore X50.here hx rfl (hb hby at_30) rfl (l' := #[.val (.int p0), .val (.int p1), .val (.int i), .val (.ref b50), .val (.int (0 : Int32))]) rfl k) ?_
        show own_G _ _ _ (T50.setTop (mkF m 32 #[.val (.int p0), .val (.int p1), .val (.int i), .val (.ref b50), .val (.int (0 : Int32))] [])) _ _ _ _
        refine own_go (fun _ k => XS.iloadN X50.here hx rfl (hb hby at_32) rfl k) ?_
        show own_G _ _ _ (T50.setTop (mkF m 33 #[.val (.int p0), .val (.int p1), .val (.int i), .val (.ref b50), .val (.int (0 : Int32))] [(.int i)])) _ _ _ _
        refine own_go (fun _ k => XS.iconst X50.here hx rfl (hb hby at_33) k) ?_
        show own_G _ _ _ (T50.setTop (mkF m 34 #[.val (.int p0), .val (.int p1), .val (.int i), .val (.ref b50), .val (.int (0 : Int32))] [(.int (1 : Int32)), (.int i)])) _ _ _ _
        have hc54 : ¬ (i < (1 : Int32)) := own_nlt i (1 : Int32) (31 : Int32) hq (by decide)
        refine own_go (fun _ k => XS.icmpNo X50.here hx rfl (hb hby at_34) rfl (flt hc54).1 k) ?_
        show own_G _ _ _ (T50.setTop (mkF m 37 #[.val (.int p0), .val (.int p1), .val (.int i), .val (.ref b50), .val (.int (0 : Int32))] [])) _ _ _ _
        refine own_go (fun _ k => XS.iconst X50.here hx rfl (hb hby at_37) k) ?_
        show own_G _ _ _ (T50.setTop (mkF m 38 #[.val (.int p0), .val (.int p1), .val (.int i), .val (.ref b50), .val (.int (0 : Int32))] [(.int (1 : Int32))])) _ _ _ _
        refine own_go (fun _ k => XS.istore X50.here hx rfl (hb hby at_38) rfl (l' := #[.val (.int p0), .val (.int p1), .val (.int i), .val (.ref b50), .val (.int (1 : Int32))]) rfl k) ?_
        show own_G _ _ _ (T50.setTop (mkF m 40 #[.val (.int p0), .val (.int p1), .val (.int i), .val (.ref b50), .val (.int (1 : Int32))] [])) _ _ _ _
        refine own_go (fun _ k => XS.iloadN X50.here hx rfl (hb hby at_40) rfl k) ?_
        show own_G _ _ _ (T50.setTop (mkF m 41 #[.val (.int p0), .val (.int p1), .val (.int i), .val (.ref b50), .val (.int (1 : Int32))] [(.int i)])) _ _ _ _
        refine own_go (fun _ k => XS.bipush X50.here hx rfl (hb hby at_41) k) ?_
        show own_G _ _ _ (T50.setTop (mkF m 43 #[.val (.int p0), .val (.int p1), .val (.int i), .val (.ref b50), .val (.int (1 : Int32))] [(.int (7 : Int32)), (.int i)])) _ _ _ _
        have hc55 : ¬ (i < (7 : Int32)) := own_nlt i (7 : Int32) (31 : Int32) hq (by decide)
        refine own_go (fun _ k => XS.icmpNo X50.here hx rfl (hb hby at_43) rfl (flt hc55).1 k) ?_
        show own_G _ _ _ (T50.setTop (mkF m 46 #[.val (.int p0), .val (.int p1), .val (.int i), .val (.ref b50), .val (.int (1 : Int32))] [])) _ _ _ _
        refine own_go (fun _ k => XS.iconst X50.here hx rfl (hb hby at_46) k) ?_
        show own_G _ _ _ (T50.setTop (mkF m 47 #[.val (.int p0), .val (.int p1), .val (.int i), .val (.ref b50), .val (.int (1 : Int32))] [(.int (2 : Int32))])) _ _ _ _
        refine own_go (fun _ k => XS.istore X50.here hx rfl (hb hby at_47) rfl (l' := #[.val (.int p0), .val (.int p1), .val (.int i), .val (.ref b50), .val (.int (2 : Int32))]) rfl k) ?_
        show own_G _ _ _ (T50.setTop (mkF m 49 #[.val (.int p0), .val (.int p1), .val (.int i), .val (.ref b50), .val (.int (2 : Int32))] [])) _ _ _ _
        refine own_go (fun _ k => XS.iloadN X50.here hx rfl (hb hby at_49) rfl k) ?_
        show own_G _ _ _ (T50.setTop (mkF m 50 #[.val (.int p0), .val (.int p1), .val (.int i), .val (.ref b50), .val (.int (2 : Int32))] [(.int i)])) _ _ _ _
        refine own_go (fun _ k => XS.bipush X50.here hx rfl (hb hby at_50) k) ?_
        show own_G _ _ _ (T50.setTop (mkF m 52 #[.val (.int p0), .val (.int p1), .val (.int i), .val (.ref b50), .val (.int (2 : Int32))] [(.int (31 : Int32)), (.int i)])) _ _ _ _
        have hc56 : ¬ (i < (31 : Int32)) := own_nlt i (31 : Int32) (31 : Int32) hq (by decide)
        refine own_go (fun _ k => XS.icmpNo X50.here hx rfl (hb hby at_52) rfl (flt hc56).1 k) ?_
        show own_G _ _ _ (T50.setTop (mkF m 55 #[.val (.int p0), .val (.int p1), .val (.int i), .val (.ref b50), .val (.int (2 : Int32))] [])) _ _ _ _
        refine own_go (fun _ k => XS.iconst X50.here hx rfl (hb hby at_55) k) ?_
        show own_G _ _ _ (T50.setTop (mkF m 56 #[.val (.int p0), .val (.int p1), .val (.int i), .val (.ref b50), .val (.int (2 : Int32))] [(.int (3 : Int32))])) _ _ _ _
        refine own_go (fun _ k => XS.istore X50.here hx rfl (hb hby at_56) rfl (l' := #[.val (.int p0), .val (.int p1), .val (.int i), .val (.ref b50), .val (.int (3 : Int32))]) rfl k) ?_
        show own_G _ _ _ (T50.setTop (mkF m 58 #[.val (.int p0), .val (.int p1), .val (.int i), .val (.ref b50), .val (.int (3 : Int32))] [])) _ _ _ _
        refine own_go (fun _ k => XS.aloadN X50.here hx rfl (hb hby at_58) rfl rfl k) ?_
        show own_G _ _ _ (T50.setTop (mkF m 59 #[.val (.int p0), .val (.int p1), .val (.int i), .val (.ref b50), .val (.int (3 : Int32))] [(.ref b50)])) _ _ _ _
        obtain ⟨cq57, kq57, q57a, q57b, q57c⟩ := isOf hZ rfl r50_0
        obtain ⟨_, _, ⟨T57, L57, k57, n57⟩, -, X57, ⟨Lc57, hQ57, l57, y57, z57⟩, st57⟩ := X50.interfaceBack hx (xi := (⟨"java/util/List", "size", "()I"⟩ : MethodName)) (y := (⟨"java/util/ArrayList", "size", "()I"⟩ : MethodName)) hown (mvT hZ (hw _ (List.mem_of_getElem? (i := 32) rfl))) (mvT hZ (hw _ (List.mem_of_getElem? (i := 33) rfl))) (mvT hZ (hw _ (List.mem_of_getElem? (i := 34) rfl))) (mvT hZ (hw _ (List.mem_of_getElem? (i := 35) rfl))) (mvT hZ (hw _ (List.mem_of_getElem? (i := 36) rfl))) (mvT hZ (hw _ (List.mem_of_getElem? (i := 37) rfl))) (mvT hZ (hw _ (List.mem_of_getElem? (i := 38) rfl))) (mvT hZ (hw _ (List.mem_of_getElem? (i := 39) rfl))) (by decide) (backOf (W := 0) (rm6 l Z a0 hw [] b50 (3 : Int32) T50.heap n0 Zs50 r50_1) hZ (hw _ (List.mem_of_getElem? (i := 40) rfl)) (hw _ (List.mem_of_getElem? (i := 6) rfl)) (by decide) (by decide)) q57a q57b q57c (g := (mkF m 59 #[.val (.int p0), .val (.int p1), .val (.int i), .val (.ref b50), .val (.int (3 : Int32))] [(.ref b50)])) rfl (by rw [hml]; rfl) (Steps.refl _) (argsL := []) (rest := []) (lenOf pd_11 rfl) rfl (by show 2 * 0 + _ ≤ _; exact Nat.le_of_eq rfl) (hb hby at_59) (fun _ _ => ⟨rfl, rfl, (by decide : 5 + 0 ≤ _), (by decide : 16 + 0 ≤ _)⟩)
        dsimp only [Pt.U, Pt.locs, Pt.cells, Pt.slots] at X57 l57 y57 z57 st57 hQ57
        subst l57 y57 z57
        obtain ⟨rfl, Nq57, eh57⟩ := hQ57
        have N57 := Fr.app N50 Nq57
        refine own_tr st57 ?_
        show own_G _ _ _ (T57.setTop (mkF m 64 #[.val (.int p0), .val (.int p1), .val (.int i), .val (.ref b50), .val (.int (3 : Int32))] [(.int (3 : Int32))])) _ _ _ _
        refine own_go (fun _ k => XS.iload X57.here hx rfl (hb hby at_64) rfl k) ?_
        show own_G _ _ _ (T57.setTop (mkF m 66 #[.val (.int p0), .val (.int p1), .val (.int i), .val (.ref b50), .val (.int (3 : Int32))] [(.int (3 : Int32)), (.int (3 : Int32))])) _ _ _ _
        have hc58 : (3 : Int32) = (3 : Int32) := (by decide)
        refine own_go (fun _ k => XS.icmpYes X57.here hx rfl (pc0 := 66) (pc' := 71) rfl (hb hby at_66) rfl (teq hc58).1 (by decide) (by decide) k) ?_
        show own_G _ _ _ (T57.setTop (mkF m 71 #[.val (.int p0), .val (.int p1), .val (.int i), .val (.ref b50), .val (.int (3 : Int32))] [])) _ _ _ _
        refine own_go (fun _ k => XS.iload X57.here hx rfl (hb hby at_71) rfl k) ?_
        show own_G _ _ _ (T57.setTop (mkF m 73 #[.val (.int p0), .val (.int p1), .val (.int i), .val (.ref b50), .val (.int (3 : Int32))] [(.int (3 : Int32))])) _ _ _ _
        refine own_go (fun _ k => XS.iconst X57.here hx rfl (hb hby at_73) k) ?_
        show own_G _ _ _ (T57.setTop (mkF m 74 #[.val (.int p0), .val (.int p1), .val (.int i), .val (.ref b50), .val (.int (3 : Int32))] [(.int (1 : Int32)), (.int (3 : Int32))])) _ _ _ _
        have hc59 : ¬ ((3 : Int32) < (1 : Int32)) := (by decide)
        refine own_go (fun _ k => XS.icmpNo X57.here hx rfl (hb hby at_74) rfl (flt hc59).1 k) ?_
        show own_G _ _ _ (T57.setTop (mkF m 77 #[.val (.int p0), .val (.int p1), .val (.int i), .val (.ref b50), .val (.int (3 : Int32))] [])) _ _ _ _
        refine own_go (fun _ k => XS.aloadN X57.here hx rfl (hb hby at_77) rfl rfl k) ?_
        show own_G _ _ _ (T57.setTop (mkF m 78 #[.val (.int p0), .val (.int p1), .val (.int i), .val (.ref b50), .val (.int (3 : Int32))] [(.ref b50)])) _ _ _ _
        refine own_go (fun _ k => XS.iconst X57.here hx rfl (hb hby at_78) k) ?_
        show own_G _ _ _ (T57.setTop (mkF m 79 #[.val (.int p0), .val (.int p1), .val (.int i), .val (.ref b50), .val (.int (3 : Int32))] [(.int (0 : Int32)), (.ref b50)])) _ _ _ _
        obtain ⟨cq60, kq60, q60a, q60b, q60c⟩ := isOf hZ eh57 r50_0
        obtain ⟨_, _, ⟨T60, L60, k60, n60⟩, -, X60, ⟨Lc60, hQ60, l60, y60, z60⟩, st60⟩ := X57.interfaceBack hx (xi := (⟨"java/util/List", "get", "(I)Ljava/lang/Object;"⟩ : MethodName)) (y := (⟨"java/util/ArrayList", "get", "(I)Ljava/lang/Object;"⟩ : MethodName)) hown (mvT hZ (hw _ (List.mem_of_getElem? (i := 82) rfl))) (mvT hZ (hw _ (List.mem_of_getElem? (i := 83) rfl))) (mvT hZ (hw _ (List.mem_of_getElem? (i := 84) rfl))) (mvT hZ (hw _ (List.mem_of_getElem? (i := 85) rfl))) (mvT hZ (hw _ (List.mem_of_getElem? (i := 86) rfl))) (mvT hZ (hw _ (List.mem_of_getElem? (i := 87) rfl))) (mvT hZ (hw _ (List.mem_of_getElem? (i := 88) rfl))) (mvT hZ (hw _ (List.mem_of_getElem? (i := 39) rfl))) (by decide) (backOf (W := 0) (rm13d l Z a0 hw [] b50 na50 kn50 el050 el150 el250 T50.heap n0 Zs50 r50_0 r50_2 r50_3 r50_1) hZ (hw _ (List.mem_of_getElem? (i := 89) rfl)) (hw _ (List.mem_of_getElem? (i := 6) rfl)) (by decide) (by decide)) q60a q60b q60c (g := (mkF m 79 #[.val (.int p0), .val (.int p1), .val (.int i), .val (.ref b50), .val (.int (3 : Int32))] [(.int (0 : Int32)), (.ref b50)])) rfl (by rw [hml]; rfl) (Steps.refl _) (argsL := [(.int (0 : Int32))]) (rest := []) (lenOf pd_7 rfl) rfl (by show 2 * 0 + _ ≤ _; exact Nat.le_of_eq rfl) (hb hby at_79) (fun _ _ => ⟨rfl, eh57, (by decide : 5 + 0 ≤ _), (by decide : 16 + 0 ≤ _)⟩)
        dsimp only [Pt.U, Pt.locs, Pt.cells, Pt.slots] at X60 l60 y60 z60 st60 hQ60
        subst l60 y60 z60
        obtain ⟨rfl, Nq60, eh60⟩ := hQ60
        have N60 := Fr.app N57 Nq60
        refine own_tr st60 ?_
        show own_G _ _ _ (T60.setTop (mkF m 84 #[.val (.int p0), .val (.int p1), .val (.int i), .val (.ref b50), .val (.int (3 : Int32))] [(.ref el050)])) _ _ _ _
        obtain ⟨T61, X61, e61, st61⟩ := castY X60 hx hZ hown (hw _ (List.mem_of_getElem? (i := 103) rfl)) eh60 (Ins.self r50_4) (g := (mkF m 84 #[.val (.int p0), .val (.int p1), .val (.int i), .val (.ref b50), .val (.int (3 : Int32))] [(.ref el050)])) rfl rfl (hb hby at_84)
        refine own_go (fun _ k => st61 _ k) ?_
        show own_G _ _ _ (T61.setTop (mkF m 87 #[.val (.int p0), .val (.int p1), .val (.int i), .val (.ref b50), .val (.int (3 : Int32))] [(.ref el050)])) _ _ _ _
        obtain ⟨cq62, kq62, q62a, q62b, q62c⟩ := isOf hZ e61 r50_4
        obtain ⟨_, _, ⟨T62, L62, k62, n62⟩, -, X62, ⟨Lc62, hQ62, l62, y62, z62⟩, st62⟩ := X61.virtualBack hx (y := (⟨"java/lang/Integer", "intValue", "()I"⟩ : MethodName)) (z := (⟨"java/lang/Integer", "intValue", "()I"⟩ : MethodName)) hown (mvT hZ (hw _ (List.mem_of_getElem? (i := 105) rfl))) (mvT hZ (hw _ (List.mem_of_getElem? (i := 106) rfl))) (notFace_of_selects (args := #[]) (mvT hZ (hw _ (List.mem_of_getElem? (i := 108) rfl)))) (mvT hZ (hw _ (List.mem_of_getElem? (i := 108) rfl))) (mvT hZ (hw _ (List.mem_of_getElem? (i := 107) rfl))) (by decide) (backOf (W := 0) (rm17 l Z a0 hw [] el050 (i - (1 : Int32)) T50.heap n0 Zs50 r50_5) hZ (hw _ (List.mem_of_getElem? (i := 109) rfl)) (hw _ (List.mem_of_getElem? (i := 45) rfl)) (by decide) (by decide)) q62a q62c (g := (mkF m 87 #[.val (.int p0), .val (.int p1), .val (.int i), .val (.ref b50), .val (.int (3 : Int32))] [(.ref el050)])) rfl (by rw [hml]; rfl) (Steps.refl _) (argsL := []) (rest := []) (lenOf pd_11 rfl) rfl (by show 2 * 0 + _ ≤ _; exact Nat.le_of_eq rfl) (hb hby at_87) (fun _ _ => ⟨rfl, e61, (by decide : 5 + 0 ≤ _), (by decide : 16 + 0 ≤ _)⟩)
        dsimp only [Pt.U, Pt.locs, Pt.cells, Pt.slots] at X62 l62 y62 z62 st62 hQ62
        subst l62 y62 z62
        obtain ⟨rfl, Nq62, eh62⟩ := hQ62
        have N62 := Fr.app N60 Nq62
        refine own_tr st62 ?_
        show own_G _ _ _ (T62.setTop (mkF m 90 #[.val (.int p0), .val (.int p1), .val (.int i), .val (.ref b50), .val (.int (3 : Int32))] [(.int (i - (1 : Int32)))])) _ _ _ _
        refine own_go (fun _ k => XS.iloadN X62.here hx rfl (hb hby at_90) rfl k) ?_
        show own_G _ _ _ (T62.setTop (mkF m 91 #[.val (.int p0), .val (.int p1), .val (.int i), .val (.ref b50), .val (.int (3 : Int32))] [(.int i), (.int (i - (1 : Int32)))])) _ _ _ _
        refine own_go (fun _ k => XS.iconst X62.here hx rfl (hb hby at_91) k) ?_
        show own_G _ _ _ (T62.setTop (mkF m 92 #[.val (.int p0), .val (.int p1), .val (.int i), .val (.ref b50), .val (.int (3 : Int32))] [(.int (1 : Int32)), (.int i), (.int (i - (1 : Int32)))])) _ _ _ _
        refine own_go (fun _ k => XS.isub X62.here hx rfl (hb hby at_92) rfl k) ?_
        show own_G _ _ _ (T62.setTop (mkF m 93 #[.val (.int p0), .val (.int p1), .val (.int i), .val (.ref b50), .val (.int (3 : Int32))] [(.int (i - (1 : Int32))), (.int (i - (1 : Int32)))])) _ _ _ _
        have hc63 : (i - (1 : Int32)) = (i - (1 : Int32)) := rfl
        refine own_go (fun _ k => XS.icmpYes X62.here hx rfl (pc0 := 93) (pc' := 98) rfl (hb hby at_93) rfl (teq hc63).1 (by decide) (by decide) k) ?_
        show own_G _ _ _ (T62.setTop (mkF m 98 #[.val (.int p0), .val (.int p1), .val (.int i), .val (.ref b50), .val (.int (3 : Int32))] [])) _ _ _ _
        refine own_go (fun _ k => XS.iload X62.here hx rfl (hb hby at_98) rfl k) ?_
        show own_G _ _ _ (T62.setTop (mkF m 100 #[.val (.int p0), .val (.int p1), .val (.int i), .val (.ref b50), .val (.int (3 : Int32))] [(.int (3 : Int32))])) _ _ _ _
        refine own_go (fun _ k => XS.iconst X62.here hx rfl (hb hby at_100) k) ?_
        show own_G _ _ _ (T62.setTop (mkF m 101 #[.val (.int p0), .val (.int p1), .val (.int i), .val (.ref b50), .val (.int (3 : Int32))] [(.int (2 : Int32)), (.int (3 : Int32))])) _ _ _ _
        have hc64 : ¬ ((3 : Int32) < (2 : Int32)) := (by decide)
        refine own_go (fun _ k => XS.icmpNo X62.here hx rfl (hb hby at_101) rfl (flt hc64).1 k) ?_
        show own_G _ _ _ (T62.setTop (mkF m 104 #[.val (.int p0), .val (.int p1), .val (.int i), .val (.ref b50), .val (.int (3 : Int32))] [])) _ _ _ _
        refine own_go (fun _ k => XS.aloadN X62.here hx rfl (hb hby at_104) rfl rfl k) ?_
        show own_G _ _ _ (T62.setTop (mkF m 105 #[.val (.int p0), .val (.int p1), .val (.int i), .val (.ref b50), .val (.int (3 : Int32))] [(.ref b50)])) _ _ _ _
        refine own_go (fun _ k => XS.iconst X62.here hx rfl (hb hby at_105) k) ?_
        show own_G _ _ _ (T62.setTop (mkF m 106 #[.val (.int p0), .val (.int p1), .val (.int i), .val (.ref b50), .val (.int (3 : Int32))] [(.int (1 : Int32)), (.ref b50)])) _ _ _ _
        obtain ⟨cq65, kq65, q65a, q65b, q65c⟩ := isOf hZ eh62 r50_0
        obtain ⟨_, _, ⟨T65, L65, k65, n65⟩, -, X65, ⟨Lc65, hQ65, l65, y65, z65⟩, st65⟩ := X62.interfaceBack hx (xi := (⟨"java/util/List", "get", "(I)Ljava/lang/Object;"⟩ : MethodName)) (y := (⟨"java/util/ArrayList", "get", "(I)Ljava/lang/Object;"⟩ : MethodName)) hown (mvT hZ (hw _ (List.mem_of_getElem? (i := 82) rfl))) (mvT hZ (hw _ (List.mem_of_getElem? (i := 83) rfl))) (mvT hZ (hw _ (List.mem_of_getElem? (i := 84) rfl))) (mvT hZ (hw _ (List.mem_of_getElem? (i := 85) rfl))) (mvT hZ (hw _ (List.mem_of_getElem? (i := 86) rfl))) (mvT hZ (hw _ (List.mem_of_getElem? (i := 87) rfl))) (mvT hZ (hw _ (List.mem_of_getElem? (i := 88) rfl))) (mvT hZ (hw _ (List.mem_of_getElem? (i := 39) rfl))) (by decide) (backOf (W := 0) (rm13e l Z a0 hw [] b50 na50 kn50 el050 el150 el250 T50.heap n0 Zs50 r50_0 r50_2 r50_3 r50_1) hZ (hw _ (List.mem_of_getElem? (i := 89) rfl)) (hw _ (List.mem_of_getElem? (i := 6) rfl)) (by decide) (by decide)) q65a q65b q65c (g := (mkF m 106 #[.val (.int p0), .val (.int p1), .val (.int i), .val (.ref b50), .val (.int (3 : Int32))] [(.int (1 : Int32)), (.ref b50)])) rfl (by rw [hml]; rfl) (Steps.refl _) (argsL := [(.int (1 : Int32))]) (rest := []) (lenOf pd_7 rfl) rfl (by show 2 * 0 + _ ≤ _; exact Nat.le_of_eq rfl) (hb hby at_106) (fun _ _ => ⟨rfl, eh62, (by decide : 5 + 0 ≤ _), (by decide : 16 + 0 ≤ _)⟩)
        dsimp only [Pt.U, Pt.locs, Pt.cells, Pt.slots] at X65 l65 y65 z65 st65 hQ65
        subst l65 y65 z65
        obtain ⟨rfl, Nq65, eh65⟩ := hQ65
        have N65 := Fr.app N62 Nq65
        refine own_tr st65 ?_
        show own_G _ _ _ (T65.setTop (mkF m 111 #[.val (.int p0), .val (.int p1), .val (.int i), .val (.ref b50), .val (.int (3 : Int32))] [(.ref el150)])) _ _ _ _
        obtain ⟨T66, X66, e66, st66⟩ := castY X65 hx hZ hown (hw _ (List.mem_of_getElem? (i := 103) rfl)) eh65 (Ins.self r50_6) (g := (mkF m 111 #[.val (.int p0), .val (.int p1), .val (.int i), .val (.ref b50), .val (.int (3 : Int32))] [(.ref el150)])) rfl rfl (hb hby at_111)
        refine own_go (fun _ k => st66 _ k) ?_
        show own_G _ _ _ (T66.setTop (mkF m 114 #[.val (.int p0), .val (.int p1), .val (.int i), .val (.ref b50), .val (.int (3 : Int32))] [(.ref el150)])) _ _ _ _
        obtain ⟨cq67, kq67, q67a, q67b, q67c⟩ := isOf hZ e66 r50_6
        obtain ⟨_, _, ⟨T67, L67, k67, n67⟩, -, X67, ⟨Lc67, hQ67, l67, y67, z67⟩, st67⟩ := X66.virtualBack hx (y := (⟨"java/lang/Integer", "intValue", "()I"⟩ : MethodName)) (z := (⟨"java/lang/Integer", "intValue", "()I"⟩ : MethodName)) hown (mvT hZ (hw _ (List.mem_of_getElem? (i := 105) rfl))) (mvT hZ (hw _ (List.mem_of_getElem? (i := 106) rfl))) (notFace_of_selects (args := #[]) (mvT hZ (hw _ (List.mem_of_getElem? (i := 108) rfl)))) (mvT hZ (hw _ (List.mem_of_getElem? (i := 108) rfl))) (mvT hZ (hw _ (List.mem_of_getElem? (i := 107) rfl))) (by decide) (backOf (W := 0) (rm17 l Z a0 hw [] el150 (i - (7 : Int32)) T50.heap n0 Zs50 r50_7) hZ (hw _ (List.mem_of_getElem? (i := 109) rfl)) (hw _ (List.mem_of_getElem? (i := 45) rfl)) (by decide) (by decide)) q67a q67c (g := (mkF m 114 #[.val (.int p0), .val (.int p1), .val (.int i), .val (.ref b50), .val (.int (3 : Int32))] [(.ref el150)])) rfl (by rw [hml]; rfl) (Steps.refl _) (argsL := []) (rest := []) (lenOf pd_11 rfl) rfl (by show 2 * 0 + _ ≤ _; exact Nat.le_of_eq rfl) (hb hby at_114) (fun _ _ => ⟨rfl, e66, (by decide : 5 + 0 ≤ _), (by decide : 16 + 0 ≤ _)⟩)
        dsimp only [Pt.U, Pt.locs, Pt.cells, Pt.slots] at X67 l67 y67 z67 st67 hQ67
        subst l67 y67 z67
        obtain ⟨rfl, Nq67, eh67⟩ := hQ67
        have N67 := Fr.app N65 Nq67
        refine own_tr st67 ?_
        show own_G _ _ _ (T67.setTop (mkF m 117 #[.val (.int p0), .val (.int p1), .val (.int i), .val (.ref b50), .val (.int (3 : Int32))] [(.int (i - (7 : Int32)))])) _ _ _ _
        refine own_go (fun _ k => XS.iloadN X67.here hx rfl (hb hby at_117) rfl k) ?_
        show own_G _ _ _ (T67.setTop (mkF m 118 #[.val (.int p0), .val (.int p1), .val (.int i), .val (.ref b50), .val (.int (3 : Int32))] [(.int i), (.int (i - (7 : Int32)))])) _ _ _ _
        refine own_go (fun _ k => XS.bipush X67.here hx rfl (hb hby at_118) k) ?_
        show own_G _ _ _ (T67.setTop (mkF m 120 #[.val (.int p0), .val (.int p1), .val (.int i), .val (.ref b50), .val (.int (3 : Int32))] [(.int (7 : Int32)), (.int i), (.int (i - (7 : Int32)))])) _ _ _ _
        refine own_go (fun _ k => XS.isub X67.here hx rfl (hb hby at_120) rfl k) ?_
        show own_G _ _ _ (T67.setTop (mkF m 121 #[.val (.int p0), .val (.int p1), .val (.int i), .val (.ref b50), .val (.int (3 : Int32))] [(.int (i - (7 : Int32))), (.int (i - (7 : Int32)))])) _ _ _ _
        have hc68 : (i - (7 : Int32)) = (i - (7 : Int32)) := rfl
        refine own_go (fun _ k => XS.icmpYes X67.here hx rfl (pc0 := 121) (pc' := 126) rfl (hb hby at_121) rfl (teq hc68).1 (by decide) (by decide) k) ?_
        show own_G _ _ _ (T67.setTop (mkF m 126 #[.val (.int p0), .val (.int p1), .val (.int i), .val (.ref b50), .val (.int (3 : Int32))] [])) _ _ _ _
        refine own_go (fun _ k => XS.iload X67.here hx rfl (hb hby at_126) rfl k) ?_
        show own_G _ _ _ (T67.setTop (mkF m 128 #[.val (.int p0), .val (.int p1), .val (.int i), .val (.ref b50), .val (.int (3 : Int32))] [(.int (3 : Int32))])) _ _ _ _
        refine own_go (fun _ k => XS.iconst X67.here hx rfl (hb hby at_128) k) ?_
        show own_G _ _ _ (T67.setTop (mkF m 129 #[.val (.int p0), .val (.int p1), .val (.int i), .val (.ref b50), .val (.int (3 : Int32))] [(.int (3 : Int32)), (.int (3 : Int32))])) _ _ _ _
        have hc69 : ¬ ((3 : Int32) < (3 : Int32)) := (by decide)
        refine own_go (fun _ k => XS.icmpNo X67.here hx rfl (hb hby at_129) rfl (flt hc69).1 k) ?_
        show own_G _ _ _ (T67.setTop (mkF m 132 #[.val (.int p0), .val (.int p1), .val (.int i), .val (.ref b50), .val (.int (3 : Int32))] [])) _ _ _ _
        refine own_go (fun _ k => XS.aloadN X67.here hx rfl (hb hby at_132) rfl rfl k) ?_
        show own_G _ _ _ (T67.setTop (mkF m 133 #[.val (.int p0), .val (.int p1), .val (.int i), .val (.ref b50), .val (.int (3 : Int32))] [(.ref b50)])) _ _ _ _
        refine own_go (fun _ k => XS.iconst X67.here hx rfl (hb hby at_133) k) ?_
        show own_G _ _ _ (T67.setTop (mkF m 134 #[.val (.int p0), .val (.int p1), .val (.int i), .val (.ref b50), .val (.int (3 : Int32))] [(.int (2 : Int32)), (.ref b50)])) _ _ _ _
        obtain ⟨cq70, kq70, q70a, q70b, q70c⟩ := isOf hZ eh67 r50_0
        obtain ⟨_, _, ⟨T70, L70, k70, n70⟩, -, X70, ⟨Lc70, hQ70, l70, y70, z70⟩, st70⟩ := X67.interfaceBack hx (xi := (⟨"java/util/List", "get", "(I)Ljava/lang/Object;"⟩ : MethodName)) (y := (⟨"java/util/ArrayList", "get", "(I)Ljava/lang/Object;"⟩ : MethodName)) hown (mvT hZ (hw _ (List.mem_of_getElem? (i := 82) rfl))) (mvT hZ (hw _ (List.mem_of_getElem? (i := 83) rfl))) (mvT hZ (hw _ (List.mem_of_getElem? (i := 84) rfl))) (mvT hZ (hw _ (List.mem_of_getElem? (i := 85) rfl))) (mvT hZ (hw _ (List.mem_of_getElem? (i := 86) rfl))) (mvT hZ (hw _ (List.mem_of_getElem? (i := 87) rfl))) (mvT hZ (hw _ (List.mem_of_getElem? (i := 88) rfl))) (mvT hZ (hw _ (List.mem_of_getElem? (i := 39) rfl))) (by decide) (backOf (W := 0) (rm13f l Z a0 hw [] b50 na50 kn50 el050 el150 el250 T50.heap n0 Zs50 r50_0 r50_2 r50_3 r50_1) hZ (hw _ (List.mem_of_getElem? (i := 89) rfl)) (hw _ (List.mem_of_getElem? (i := 6) rfl)) (by decide) (by decide)) q70a q70b q70c (g := (mkF m 134 #[.val (.int p0), .val (.int p1), .val (.int i), .val (.ref b50), .val (.int (3 : Int32))] [(.int (2 : Int32)), (.ref b50)])) rfl (by rw [hml]; rfl) (Steps.refl _) (argsL := [(.int (2 : Int32))]) (rest := []) (lenOf pd_7 rfl) rfl (by show 2 * 0 + _ ≤ _; exact Nat.le_of_eq rfl) (hb hby at_134) (fun _ _ => ⟨rfl, eh67, (by decide : 5 + 0 ≤ _), (by decide : 16 + 0 ≤ _)⟩)
        dsimp only [Pt.U, Pt.locs, Pt.cells, Pt.slots] at X70 l70 y70 z70 st70 hQ70
        subst l70 y70 z70
        obtain ⟨rfl, Nq70, eh70⟩ := hQ70
        have N70 := Fr.app N67 Nq70
        refine own_tr st70 ?_
        show own_G _ _ _ (T70.setTop (mkF m 139 #[.val (.int p0), .val (.int p1), .val (.int i), .val (.ref b50), .val (.int (3 : Int32))] [(.ref el250)])) _ _ _ _
        obtain ⟨T71, X71, e71, st71⟩ := castY X70 hx hZ hown (hw _ (List.mem_of_getElem? (i := 103) rfl)) eh70 (Ins.self r50_8) (g := (mkF m 139 #[.val (.int p0), .val (.int p1), .val (.int i), .val (.ref b50), .val (.int (3 : Int32))] [(.ref el250)])) rfl rfl (hb hby at_139)
        refine own_go (fun _ k => st71 _ k) ?_
        show own_G _ _ _ (T71.setTop (mkF m 142 #[.val (.int p0), .val (.int p1), .val (.int i), .val (.ref b50), .val (.int (3 : Int32))] [(.ref el250)])) _ _ _ _
        obtain ⟨cq72, kq72, q72a, q72b, q72c⟩ := isOf hZ e71 r50_8
        obtain ⟨_, _, ⟨T72, L72, k72, n72⟩, -, X72, ⟨Lc72, hQ72, l72, y72, z72⟩, st72⟩ := X71.virtualBack hx (y := (⟨"java/lang/Integer", "intValue", "()I"⟩ : MethodName)) (z := (⟨"java/lang/Integer", "intValue", "()I"⟩ : MethodName)) hown (mvT hZ (hw _ (List.mem_of_getElem? (i := 105) rfl))) (mvT hZ (hw _ (List.mem_of_getElem? (i := 106) rfl))) (notFace_of_selects (args := #[]) (mvT hZ (hw _ (List.mem_of_getElem? (i := 108) rfl)))) (mvT hZ (hw _ (List.mem_of_getElem? (i := 108) rfl))) (mvT hZ (hw _ (List.mem_of_getElem? (i := 107) rfl))) (by decide) (backOf (W := 0) (rm17 l Z a0 hw [] el250 (i - (31 : Int32)) T50.heap n0 Zs50 r50_9) hZ (hw _ (List.mem_of_getElem? (i := 109) rfl)) (hw _ (List.mem_of_getElem? (i := 45) rfl)) (by decide) (by decide)) q72a q72c (g := (mkF m 142 #[.val (.int p0), .val (.int p1), .val (.int i), .val (.ref b50), .val (.int (3 : Int32))] [(.ref el250)])) rfl (by rw [hml]; rfl) (Steps.refl _) (argsL := []) (rest := []) (lenOf pd_11 rfl) rfl (by show 2 * 0 + _ ≤ _; exact Nat.le_of_eq rfl) (hb hby at_142) (fun _ _ => ⟨rfl, e71, (by decide : 5 + 0 ≤ _), (by decide : 16 + 0 ≤ _)⟩)
        dsimp only [Pt.U, Pt.locs, Pt.cells, Pt.slots] at X72 l72 y72 z72 st72 hQ72
        subst l72 y72 z72
        obtain ⟨rfl, Nq72, eh72⟩ := hQ72
        have N72 := Fr.app N70 Nq72
        refine own_tr st72 ?_
        show own_G _ _ _ (T72.setTop (mkF m 145 #[.val (.int p0), .val (.int p1), .val (.int i), .val (.ref b50), .val (.int (3 : Int32))] [(.int (i - (31 : Int32)))])) _ _ _ _
        refine own_go (fun _ k => XS.iloadN X72.here hx rfl (hb hby at_145) rfl k) ?_
        show own_G _ _ _ (T72.setTop (mkF m 146 #[.val (.int p0), .val (.int p1), .val (.int i), .val (.ref b50), .val (.int (3 : Int32))] [(.int i), (.int (i - (31 : Int32)))])) _ _ _ _
        refine own_go (fun _ k => XS.bipush X72.here hx rfl (hb hby at_146) k) ?_
        show own_G _ _ _ (T72.setTop (mkF m 148 #[.val (.int p0), .val (.int p1), .val (.int i), .val (.ref b50), .val (.int (3 : Int32))] [(.int (31 : Int32)), (.int i), (.int (i - (31 : Int32)))])) _ _ _ _
        refine own_go (fun _ k => XS.isub X72.here hx rfl (hb hby at_148) rfl k) ?_
        show own_G _ _ _ (T72.setTop (mkF m 149 #[.val (.int p0), .val (.int p1), .val (.int i), .val (.ref b50), .val (.int (3 : Int32))] [(.int (i - (31 : Int32))), (.int (i - (31 : Int32)))])) _ _ _ _
        have hc73 : (i - (31 : Int32)) = (i - (31 : Int32)) := rfl
        refine own_go (fun _ k => XS.icmpYes X72.here hx rfl (pc0 := 149) (pc' := 154) rfl (hb hby at_149) rfl (teq hc73).1 (by decide) (by decide) k) ?_
        show own_G _ _ _ (T72.setTop (mkF m 154 #[.val (.int p0), .val (.int p1), .val (.int i), .val (.ref b50), .val (.int (3 : Int32))] [])) _ _ _ _
        refine own_go (fun _ k => XS.iconst X72.here hx rfl (hb hby at_154) k) ?_
        show own_G _ _ _ (T72.setTop (mkF m 155 #[.val (.int p0), .val (.int p1), .val (.int i), .val (.ref b50), .val (.int (3 : Int32))] [(.int (1 : Int32))])) _ _ _ _
        exact own_endN X72 hx hlk (t := .boolean) Bd.returns (by simp) (hb hby at_155) (by decide) (by decide) (Q := (Q0 Z p0 p1 d0 k0 ca cc da kd h0 n0)) (by rw [eh72]; exact ⟨rfl, N72, K50_0⟩)
  · refine own_go (fun _ k => XS.ifNo X0.here hx rfl (hb hby at_3) rfl ((if0 _ _).trans (feq hc1).1) k) ?_
    show own_G _ _ _ (s₁.setTop (mkF m 6 #[.val (.int p0), .val (.int p1), .unset, .unset, .unset] [])) _ _ _ _
    refine own_go (fun _ k => XS.iloadN X0.here hx rfl (hb hby at_6) rfl k) ?_
    show own_G _ _ _ (s₁.setTop (mkF m 7 #[.val (.int p0), .val (.int p1), .unset, .unset, .unset] [(.int p0)])) _ _ _ _
    refine own_go (fun _ k => XS.bipush X0.here hx rfl (hb hby at_7) k) ?_
    show own_G _ _ _ (s₁.setTop (mkF m 9 #[.val (.int p0), .val (.int p1), .unset, .unset, .unset] [(.int (63 : Int32)), (.int p0)])) _ _ _ _
    refine own_go (fun _ k => XS.iand X0.here hx rfl (hb hby at_9) rfl k) ?_
    show own_G _ _ _ (s₁.setTop (mkF m 10 #[.val (.int p0), .val (.int p1), .unset, .unset, .unset] [(.int (p0 &&& (63 : Int32)))])) _ _ _ _
    refine own_go (fun _ k => XS.goto X0.here hx rfl (pc0 := 10) (pc' := 17) rfl (hb hby at_10) (by decide) (by decide) k) ?_
    show own_G _ _ _ (s₁.setTop (mkF m 17 #[.val (.int p0), .val (.int p1), .unset, .unset, .unset] [(.int (p0 &&& (63 : Int32)))])) _ _ _ _
    obtain ⟨i, hi⟩ : ∃ z : Int32, z = (p0 &&& (63 : Int32)) := ⟨_, rfl⟩
    · rw [← hi]
      have hn : 0 ≤ i.toInt := by rw [hi]; exact own_m1 p0
      show own_G _ _ _ (s₁.setTop (mkF m 17 #[.val (.int p0), .val (.int p1), .unset, .unset, .unset] [(.int i)])) _ _ _ _
      refine own_go (fun _ k => XS.istoreN X0.here hx rfl (hb hby at_17) rfl (l' := #[.val (.int p0), .val (.int p1), .val (.int i), .unset, .unset]) rfl k) ?_
      show own_G _ _ _ (s₁.setTop (mkF m 18 #[.val (.int p0), .val (.int p1), .val (.int i), .unset, .unset] [])) _ _ _ _
      rcases own_cases i hn with hq | hq | hq | hq
      · skip
        refine own_go (fun _ k => XS.iloadN X0.here hx rfl (hb hby at_18) rfl k) ?_
        show own_G _ _ _ (s₁.setTop (mkF m 19 #[.val (.int p0), .val (.int p1), .val (.int i), .unset, .unset] [(.int i)])) _ _ _ _
        obtain ⟨_, _, ⟨T74, L74, k74, n74⟩, -, X74, ⟨Lc74, hQ74, l74, y74, z74⟩, st74⟩ := Jvm.LawKit.callS X0 hx (y := (⟨"com/example/mini_wire/bench/Application", "dependencies", "(I)Ljava/util/List;"⟩ : MethodName)) hown (mvT hZ (hw _ (List.mem_of_getElem? (i := 0) rfl))) (mvT hZ (hw _ (List.mem_of_getElem? (i := 1) rfl))) (mvT hZ (hw _ (List.mem_of_getElem? (i := 2) rfl))) (mvT hZ (hw _ (List.mem_of_getElem? (i := 3) rfl))) (by decide) (backOf (W := 0) (rm1a l Z a0 hw [] i d0 k0 ca cc da kd h0 n0 Z0 P_Old P_ZS_java_util_ArrayList_DEFAULTCAPACITY_EMPTY_ELEMENTDATA P_V_d0 P_ZS_java_lang_Integer_IntegerCache_high P_ZS_java_lang_Integer_IntegerCache_cache bx P_ZS_com_example_mini_wire_bench_Application_DISTANCES P_V_da hn hq) hZ (hw _ (List.mem_of_getElem? (i := 3) rfl)) (hw _ (List.mem_of_getElem? (i := 2) rfl)) (by decide) (by decide)) (g := (mkF m 19 #[.val (.int p0), .val (.int p1), .val (.int i), .unset, .unset] [(.int i)])) rfl (by rw [hml]; rfl) (argsL := [(.int i)]) (rest := []) (lenOf pd_10 rfl) rfl (by show 2 * 0 + _ ≤ _; exact Nat.le_of_eq rfl) (hb hby at_19) (fun _ _ => ⟨rfl, e0, (by decide : 0 + 1 ≤ _), (by decide : 0 + 3 ≤ _)⟩)
        dsimp only [Pt.U, Pt.locs, Pt.cells, Pt.slots] at X74 l74 y74 z74 st74 hQ74
        subst l74 y74 z74
        obtain ⟨b74, rfl, Nq74, Kq74, r74_0, r74_1⟩ := hQ74
        have N74 := Fr.app N0 Nq74
        have f75 : Old Z n0 T74.heap := P_Old.keep Kq74 all0
        have f76 : Arv Z T74.heap d0 k0 (.object "java/lang/Object") (0 : Int32) [] .null := P_V_d0.keep Kq74 nin0
        have f77 : Arv Z T74.heap da kd .int (3 : Int32) [(.int (1 : Int32)), (.int (7 : Int32)), (.int (31 : Int32))] (.int (0 : Int32)) := P_V_da.keep Kq74 nin0
        have Zs74 : n0 ≤ T74.heap.size := Nat.le_trans Z0 Kq74.1
        have K74_0 : Keep h0 T74.heap [] := K0.trans Kq74 all0
        refine own_go (fun _ k => st74 _ k) ?_
        show own_G _ _ _ (T74.setTop (mkF m 22 #[.val (.int p0), .val (.int p1), .val (.int i), .unset, .unset] [(.ref b74)])) _ _ _ _
        refine own_go (fun _ k => XS.astoreN X74.here hx rfl (hb hby at_22) rfl rfl (l' := #[.val (.int p0), .val (.int p1), .val (.int i), .val (.ref b74), .unset]) rfl k) ?_
        show own_G _ _ _ (T74.setTop (mkF m 23 #[.val (.int p0), .val (.int p1), .val (.int i), .val (.ref b74), .unset] [])) _ _ _ _
        refine own_go (fun _ k => XS.aloadN X74.here hx rfl (hb hby at_23) rfl rfl k) ?_
        show own_G _ _ _ (T74.setTop (mkF m 24 #[.val (.int p0), .val (.int p1), .val (.int i), .val (.ref b74), .unset] [(.ref b74)])) _ _ _ _
        refine own_go (fun _ k => XS.ifnonnullYes X74.here hx rfl (pc0 := 24) (pc' := 29) rfl (hb hby at_24) rfl (by decide) (by decide) k) ?_
        show own_G _ _ _ (T74.setTop (mkF m 29 #[.val (.int p0), .val (.int p1), .val (.int i), .val (.ref b74), .unset] [])) _ _ _ _
        refine own_go (fun _ k => XS.iconst X74.here hx rfl (hb hby at_29) k) ?_
        show own_G _ _ _ (T74.setTop (mkF m 30 #[.val (.int p0), .val (.int p1), .val (.int i), .val (.ref b74), .unset] [(.int (0 : Int32))])) _ _ _ _
        refine own_go (fun _ k => XS.istore X74.here hx rfl (hb hby at_30) rfl (l' := #[.val (.int p0), .val (.int p1), .val (.int i), .val (.ref b74), .val (.int (0 : Int32))]) rfl k) ?_
        show own_G _ _ _ (T74.setTop (mkF m 32 #[.val (.int p0), .val (.int p1), .val (.int i), .val (.ref b74), .val (.int (0 : Int32))] [])) _ _ _ _
        refine own_go (fun _ k => XS.iloadN X74.here hx rfl (hb hby at_32) rfl k) ?_
        show own_G _ _ _ (T74.setTop (mkF m 33 #[.val (.int p0), .val (.int p1), .val (.int i), .val (.ref b74), .val (.int (0 : Int32))] [(.int i)])) _ _ _ _
        refine own_go (fun _ k => XS.iconst X74.here hx rfl (hb hby at_33) k) ?_
        show own_G _ _ _ (T74.setTop (mkF m 34 #[.val (.int p0), .val (.int p1), .val (.int i), .val (.ref b74), .val (.int (0 : Int32))] [(.int (1 : Int32)), (.int i)])) _ _ _ _
        have hc78 : i < (1 : Int32) := own_lt i (1 : Int32) (1 : Int32) hq (by decide)
        refine own_go (fun _ k => XS.icmpYes X74.here hx rfl (pc0 := 34) (pc' := 40) rfl (hb hby at_34) rfl (tlt hc78).1 (by decide) (by decide) k) ?_
        show own_G _ _ _ (T74.setTop (mkF m 40 #[.val (.int p0), .val (.int p1), .val (.int i), .val (.ref b74), .val (.int (0 : Int32))] [])) _ _ _ _
        refine own_go (fun _ k => XS.iloadN X74.here hx rfl (hb hby at_40) rfl k) ?_
        show own_G _ _ _ (T74.setTop (mkF m 41 #[.val (.int p0), .val (.int p1), .val (.int i), .val (.ref b74), .val (.int (0 : Int32))] [(.int i)])) _ _ _ _
        refine own_go (fun _ k => XS.bipush X74.here hx rfl (hb hby at_41) k) ?_
        show own_G _ _ _ (T74.setTop (mkF m 43 #[.val (.int p0), .val (.int p1), .val (.int i), .val (.ref b74), .val (.int (0 : Int32))] [(.int (7 : Int32)), (.int i)])) _ _ _ _
        have hc79 : i < (7 : Int32) := own_lt i (1 : Int32) (7 : Int32) hq (by decide)
        refine own_go (fun _ k => XS.icmpYes X74.here hx rfl (pc0 := 43) (pc' := 49) rfl (hb hby at_43) rfl (tlt hc79).1 (by decide) (by decide) k) ?_
        show own_G _ _ _ (T74.setTop (mkF m 49 #[.val (.int p0), .val (.int p1), .val (.int i), .val (.ref b74), .val (.int (0 : Int32))] [])) _ _ _ _
        refine own_go (fun _ k => XS.iloadN X74.here hx rfl (hb hby at_49) rfl k) ?_
        show own_G _ _ _ (T74.setTop (mkF m 50 #[.val (.int p0), .val (.int p1), .val (.int i), .val (.ref b74), .val (.int (0 : Int32))] [(.int i)])) _ _ _ _
        refine own_go (fun _ k => XS.bipush X74.here hx rfl (hb hby at_50) k) ?_
        show own_G _ _ _ (T74.setTop (mkF m 52 #[.val (.int p0), .val (.int p1), .val (.int i), .val (.ref b74), .val (.int (0 : Int32))] [(.int (31 : Int32)), (.int i)])) _ _ _ _
        have hc80 : i < (31 : Int32) := own_lt i (1 : Int32) (31 : Int32) hq (by decide)
        refine own_go (fun _ k => XS.icmpYes X74.here hx rfl (pc0 := 52) (pc' := 58) rfl (hb hby at_52) rfl (tlt hc80).1 (by decide) (by decide) k) ?_
        show own_G _ _ _ (T74.setTop (mkF m 58 #[.val (.int p0), .val (.int p1), .val (.int i), .val (.ref b74), .val (.int (0 : Int32))] [])) _ _ _ _
        refine own_go (fun _ k => XS.aloadN X74.here hx rfl (hb hby at_58) rfl rfl k) ?_
        show own_G _ _ _ (T74.setTop (mkF m 59 #[.val (.int p0), .val (.int p1), .val (.int i), .val (.ref b74), .val (.int (0 : Int32))] [(.ref b74)])) _ _ _ _
        obtain ⟨cq81, kq81, q81a, q81b, q81c⟩ := isOf hZ rfl r74_0
        obtain ⟨_, _, ⟨T81, L81, k81, n81⟩, -, X81, ⟨Lc81, hQ81, l81, y81, z81⟩, st81⟩ := X74.interfaceBack hx (xi := (⟨"java/util/List", "size", "()I"⟩ : MethodName)) (y := (⟨"java/util/ArrayList", "size", "()I"⟩ : MethodName)) hown (mvT hZ (hw _ (List.mem_of_getElem? (i := 32) rfl))) (mvT hZ (hw _ (List.mem_of_getElem? (i := 33) rfl))) (mvT hZ (hw _ (List.mem_of_getElem? (i := 34) rfl))) (mvT hZ (hw _ (List.mem_of_getElem? (i := 35) rfl))) (mvT hZ (hw _ (List.mem_of_getElem? (i := 36) rfl))) (mvT hZ (hw _ (List.mem_of_getElem? (i := 37) rfl))) (mvT hZ (hw _ (List.mem_of_getElem? (i := 38) rfl))) (mvT hZ (hw _ (List.mem_of_getElem? (i := 39) rfl))) (by decide) (backOf (W := 0) (rm6 l Z a0 hw [] b74 (0 : Int32) T74.heap n0 Zs74 r74_1) hZ (hw _ (List.mem_of_getElem? (i := 40) rfl)) (hw _ (List.mem_of_getElem? (i := 6) rfl)) (by decide) (by decide)) q81a q81b q81c (g := (mkF m 59 #[.val (.int p0), .val (.int p1), .val (.int i), .val (.ref b74), .val (.int (0 : Int32))] [(.ref b74)])) rfl (by rw [hml]; rfl) (Steps.refl _) (argsL := []) (rest := []) (lenOf pd_11 rfl) rfl (by show 2 * 0 + _ ≤ _; exact Nat.le_of_eq rfl) (hb hby at_59) (fun _ _ => ⟨rfl, rfl, (by decide : 1 + 0 ≤ _), (by decide : 3 + 0 ≤ _)⟩)
        dsimp only [Pt.U, Pt.locs, Pt.cells, Pt.slots] at X81 l81 y81 z81 st81 hQ81
        subst l81 y81 z81
        obtain ⟨rfl, Nq81, eh81⟩ := hQ81
        have N81 := Fr.app N74 Nq81
        refine own_tr st81 ?_
        show own_G _ _ _ (T81.setTop (mkF m 64 #[.val (.int p0), .val (.int p1), .val (.int i), .val (.ref b74), .val (.int (0 : Int32))] [(.int (0 : Int32))])) _ _ _ _
        refine own_go (fun _ k => XS.iload X81.here hx rfl (hb hby at_64) rfl k) ?_
        show own_G _ _ _ (T81.setTop (mkF m 66 #[.val (.int p0), .val (.int p1), .val (.int i), .val (.ref b74), .val (.int (0 : Int32))] [(.int (0 : Int32)), (.int (0 : Int32))])) _ _ _ _
        have hc82 : (0 : Int32) = (0 : Int32) := (by decide)
        refine own_go (fun _ k => XS.icmpYes X81.here hx rfl (pc0 := 66) (pc' := 71) rfl (hb hby at_66) rfl (teq hc82).1 (by decide) (by decide) k) ?_
        show own_G _ _ _ (T81.setTop (mkF m 71 #[.val (.int p0), .val (.int p1), .val (.int i), .val (.ref b74), .val (.int (0 : Int32))] [])) _ _ _ _
        refine own_go (fun _ k => XS.iload X81.here hx rfl (hb hby at_71) rfl k) ?_
        show own_G _ _ _ (T81.setTop (mkF m 73 #[.val (.int p0), .val (.int p1), .val (.int i), .val (.ref b74), .val (.int (0 : Int32))] [(.int (0 : Int32))])) _ _ _ _
        refine own_go (fun _ k => XS.iconst X81.here hx rfl (hb hby at_73) k) ?_
        show own_G _ _ _ (T81.setTop (mkF m 74 #[.val (.int p0), .val (.int p1), .val (.int i), .val (.ref b74), .val (.int (0 : Int32))] [(.int (1 : Int32)), (.int (0 : Int32))])) _ _ _ _
        have hc83 : (0 : Int32) < (1 : Int32) := (by decide)
        refine own_go (fun _ k => XS.icmpYes X81.here hx rfl (pc0 := 74) (pc' := 98) rfl (hb hby at_74) rfl (tlt hc83).1 (by decide) (by decide) k) ?_
        show own_G _ _ _ (T81.setTop (mkF m 98 #[.val (.int p0), .val (.int p1), .val (.int i), .val (.ref b74), .val (.int (0 : Int32))] [])) _ _ _ _
        refine own_go (fun _ k => XS.iload X81.here hx rfl (hb hby at_98) rfl k) ?_
        show own_G _ _ _ (T81.setTop (mkF m 100 #[.val (.int p0), .val (.int p1), .val (.int i), .val (.ref b74), .val (.int (0 : Int32))] [(.int (0 : Int32))])) _ _ _ _
        refine own_go (fun _ k => XS.iconst X81.here hx rfl (hb hby at_100) k) ?_
        show own_G _ _ _ (T81.setTop (mkF m 101 #[.val (.int p0), .val (.int p1), .val (.int i), .val (.ref b74), .val (.int (0 : Int32))] [(.int (2 : Int32)), (.int (0 : Int32))])) _ _ _ _
        have hc84 : (0 : Int32) < (2 : Int32) := (by decide)
        refine own_go (fun _ k => XS.icmpYes X81.here hx rfl (pc0 := 101) (pc' := 126) rfl (hb hby at_101) rfl (tlt hc84).1 (by decide) (by decide) k) ?_
        show own_G _ _ _ (T81.setTop (mkF m 126 #[.val (.int p0), .val (.int p1), .val (.int i), .val (.ref b74), .val (.int (0 : Int32))] [])) _ _ _ _
        refine own_go (fun _ k => XS.iload X81.here hx rfl (hb hby at_126) rfl k) ?_
        show own_G _ _ _ (T81.setTop (mkF m 128 #[.val (.int p0), .val (.int p1), .val (.int i), .val (.ref b74), .val (.int (0 : Int32))] [(.int (0 : Int32))])) _ _ _ _
        refine own_go (fun _ k => XS.iconst X81.here hx rfl (hb hby at_128) k) ?_
        show own_G _ _ _ (T81.setTop (mkF m 129 #[.val (.int p0), .val (.int p1), .val (.int i), .val (.ref b74), .val (.int (0 : Int32))] [(.int (3 : Int32)), (.int (0 : Int32))])) _ _ _ _
        have hc85 : (0 : Int32) < (3 : Int32) := (by decide)
        refine own_go (fun _ k => XS.icmpYes X81.here hx rfl (pc0 := 129) (pc' := 154) rfl (hb hby at_129) rfl (tlt hc85).1 (by decide) (by decide) k) ?_
        show own_G _ _ _ (T81.setTop (mkF m 154 #[.val (.int p0), .val (.int p1), .val (.int i), .val (.ref b74), .val (.int (0 : Int32))] [])) _ _ _ _
        refine own_go (fun _ k => XS.iconst X81.here hx rfl (hb hby at_154) k) ?_
        show own_G _ _ _ (T81.setTop (mkF m 155 #[.val (.int p0), .val (.int p1), .val (.int i), .val (.ref b74), .val (.int (0 : Int32))] [(.int (1 : Int32))])) _ _ _ _
        exact own_endN X81 hx hlk (t := .boolean) Bd.returns (by simp) (hb hby at_155) (by decide) (by decide) (Q := (Q0 Z p0 p1 d0 k0 ca cc da kd h0 n0)) (by rw [eh81]; exact ⟨rfl, N81, K74_0⟩)
      · skip
        refine own_go (fun _ k => XS.iloadN X0.here hx rfl (hb hby at_18) rfl k) ?_
        show own_G _ _ _ (s₁.setTop (mkF m 19 #[.val (.int p0), .val (.int p1), .val (.int i), .unset, .unset] [(.int i)])) _ _ _ _
        obtain ⟨_, _, ⟨T86, L86, k86, n86⟩, -, X86, ⟨Lc86, hQ86, l86, y86, z86⟩, st86⟩ := Jvm.LawKit.callS X0 hx (y := (⟨"com/example/mini_wire/bench/Application", "dependencies", "(I)Ljava/util/List;"⟩ : MethodName)) hown (mvT hZ (hw _ (List.mem_of_getElem? (i := 0) rfl))) (mvT hZ (hw _ (List.mem_of_getElem? (i := 1) rfl))) (mvT hZ (hw _ (List.mem_of_getElem? (i := 2) rfl))) (mvT hZ (hw _ (List.mem_of_getElem? (i := 3) rfl))) (by decide) (backOf (W := 0) (rm1b l Z a0 hw [] i d0 k0 ca cc da kd h0 n0 Z0 P_Old P_ZS_java_util_ArrayList_DEFAULTCAPACITY_EMPTY_ELEMENTDATA P_V_d0 P_ZS_java_lang_Integer_IntegerCache_high P_ZS_java_lang_Integer_IntegerCache_cache bx P_ZS_com_example_mini_wire_bench_Application_DISTANCES P_V_da hn hq) hZ (hw _ (List.mem_of_getElem? (i := 3) rfl)) (hw _ (List.mem_of_getElem? (i := 2) rfl)) (by decide) (by decide)) (g := (mkF m 19 #[.val (.int p0), .val (.int p1), .val (.int i), .unset, .unset] [(.int i)])) rfl (by rw [hml]; rfl) (argsL := [(.int i)]) (rest := []) (lenOf pd_10 rfl) rfl (by show 2 * 0 + _ ≤ _; exact Nat.le_of_eq rfl) (hb hby at_19) (fun _ _ => ⟨rfl, e0, (by decide : 0 + 3 ≤ _), (by decide : 0 + 14 ≤ _)⟩)
        dsimp only [Pt.U, Pt.locs, Pt.cells, Pt.slots] at X86 l86 y86 z86 st86 hQ86
        subst l86 y86 z86
        obtain ⟨b86, na86, kn86, el086, rfl, Nq86, Kq86, r86_0, r86_1, r86_2, r86_3, r86_4, r86_5⟩ := hQ86
        have N86 := Fr.app N0 Nq86
        have f87 : Old Z n0 T86.heap := P_Old.keep Kq86 all0
        have f88 : Arv Z T86.heap d0 k0 (.object "java/lang/Object") (0 : Int32) [] .null := P_V_d0.keep Kq86 nin0
        have f89 : Arv Z T86.heap da kd .int (3 : Int32) [(.int (1 : Int32)), (.int (7 : Int32)), (.int (31 : Int32))] (.int (0 : Int32)) := P_V_da.keep Kq86 nin0
        have Zs86 : n0 ≤ T86.heap.size := Nat.le_trans Z0 Kq86.1
        have K86_0 : Keep h0 T86.heap [] := K0.trans Kq86 all0
        refine own_go (fun _ k => st86 _ k) ?_
        show own_G _ _ _ (T86.setTop (mkF m 22 #[.val (.int p0), .val (.int p1), .val (.int i), .unset, .unset] [(.ref b86)])) _ _ _ _
        refine own_go (fun _ k => XS.astoreN X86.here hx rfl (hb hby at_22) rfl rfl (l' := #[.val (.int p0), .val (.int p1), .val (.int i), .val (.ref b86), .unset]) rfl k) ?_
        show own_G _ _ _ (T86.setTop (mkF m 23 #[.val (.int p0), .val (.int p1), .val (.int i), .val (.ref b86), .unset] [])) _ _ _ _
        refine own_go (fun _ k => XS.aloadN X86.here hx rfl (hb hby at_23) rfl rfl k) ?_
        show own_G _ _ _ (T86.setTop (mkF m 24 #[.val (.int p0), .val (.int p1), .val (.int i), .val (.ref b86), .unset] [(.ref b86)])) _ _ _ _
        refine own_go (fun _ k => XS.ifnonnullYes X86.here hx rfl (pc0 := 24) (pc' := 29) rfl (hb hby at_24) rfl (by decide) (by decide) k) ?_
        show own_G _ _ _ (T86.setTop (mkF m 29 #[.val (.int p0), .val (.int p1), .val (.int i), .val (.ref b86), .unset] [])) _ _ _ _
        refine own_go (fun _ k => XS.iconst X86.here hx rfl (hb hby at_29) k) ?_
        show own_G _ _ _ (T86.setTop (mkF m 30 #[.val (.int p0), .val (.int p1), .val (.int i), .val (.ref b86), .unset] [(.int (0 : Int32))])) _ _ _ _
        refine own_go (fun _ k => XS.istore X86.here hx rfl (hb hby at_30) rfl (l' := #[.val (.int p0), .val (.int p1), .val (.int i), .val (.ref b86), .val (.int (0 : Int32))]) rfl k) ?_
        show own_G _ _ _ (T86.setTop (mkF m 32 #[.val (.int p0), .val (.int p1), .val (.int i), .val (.ref b86), .val (.int (0 : Int32))] [])) _ _ _ _
        refine own_go (fun _ k => XS.iloadN X86.here hx rfl (hb hby at_32) rfl k) ?_
        show own_G _ _ _ (T86.setTop (mkF m 33 #[.val (.int p0), .val (.int p1), .val (.int i), .val (.ref b86), .val (.int (0 : Int32))] [(.int i)])) _ _ _ _
        refine own_go (fun _ k => XS.iconst X86.here hx rfl (hb hby at_33) k) ?_
        show own_G _ _ _ (T86.setTop (mkF m 34 #[.val (.int p0), .val (.int p1), .val (.int i), .val (.ref b86), .val (.int (0 : Int32))] [(.int (1 : Int32)), (.int i)])) _ _ _ _
        have hc90 : ¬ (i < (1 : Int32)) := own_nlt i (1 : Int32) (1 : Int32) hq.1 (by decide)
        refine own_go (fun _ k => XS.icmpNo X86.here hx rfl (hb hby at_34) rfl (flt hc90).1 k) ?_
        show own_G _ _ _ (T86.setTop (mkF m 37 #[.val (.int p0), .val (.int p1), .val (.int i), .val (.ref b86), .val (.int (0 : Int32))] [])) _ _ _ _
        refine own_go (fun _ k => XS.iconst X86.here hx rfl (hb hby at_37) k) ?_
        show own_G _ _ _ (T86.setTop (mkF m 38 #[.val (.int p0), .val (.int p1), .val (.int i), .val (.ref b86), .val (.int (0 : Int32))] [(.int (1 : Int32))])) _ _ _ _
        refine own_go (fun _ k => XS.istore X86.here hx rfl (hb hby at_38) rfl (l' := #[.val (.int p0), .val (.int p1), .val (.int i), .val (.ref b86), .val (.int (1 : Int32))]) rfl k) ?_
        show own_G _ _ _ (T86.setTop (mkF m 40 #[.val (.int p0), .val (.int p1), .val (.int i), .val (.ref b86), .val (.int (1 : Int32))] [])) _ _ _ _
        refine own_go (fun _ k => XS.iloadN X86.here hx rfl (hb hby at_40) rfl k) ?_
        show own_G _ _ _ (T86.setTop (mkF m 41 #[.val (.int p0), .val (.int p1), .val (.int i), .val (.ref b86), .val (.int (1 : Int32))] [(.int i)])) _ _ _ _
        refine own_go (fun _ k => XS.bipush X86.here hx rfl (hb hby at_41) k) ?_
        show own_G _ _ _ (T86.setTop (mkF m 43 #[.val (.int p0), .val (.int p1), .val (.int i), .val (.ref b86), .val (.int (1 : Int32))] [(.int (7 : Int32)), (.int i)])) _ _ _ _
        have hc91 : i < (7 : Int32) := own_lt i (7 : Int32) (7 : Int32) hq.2 (by decide)
        refine own_go (fun _ k => XS.icmpYes X86.here hx rfl (pc0 := 43) (pc' := 49) rfl (hb hby at_43) rfl (tlt hc91).1 (by decide) (by decide) k) ?_
        show own_G _ _ _ (T86.setTop (mkF m 49 #[.val (.int p0), .val (.int p1), .val (.int i), .val (.ref b86), .val (.int (1 : Int32))] [])) _ _ _ _
        refine own_go (fun _ k => XS.iloadN X86.here hx rfl (hb hby at_49) rfl k) ?_
        show own_G _ _ _ (T86.setTop (mkF m 50 #[.val (.int p0), .val (.int p1), .val (.int i), .val (.ref b86), .val (.int (1 : Int32))] [(.int i)])) _ _ _ _
        refine own_go (fun _ k => XS.bipush X86.here hx rfl (hb hby at_50) k) ?_
        show own_G _ _ _ (T86.setTop (mkF m 52 #[.val (.int p0), .val (.int p1), .val (.int i), .val (.ref b86), .val (.int (1 : Int32))] [(.int (31 : Int32)), (.int i)])) _ _ _ _
        have hc92 : i < (31 : Int32) := own_lt i (7 : Int32) (31 : Int32) hq.2 (by decide)
        refine own_go (fun _ k => XS.icmpYes X86.here hx rfl (pc0 := 52) (pc' := 58) rfl (hb hby at_52) rfl (tlt hc92).1 (by decide) (by decide) k) ?_
        show own_G _ _ _ (T86.setTop (mkF m 58 #[.val (.int p0), .val (.int p1), .val (.int i), .val (.ref b86), .val (.int (1 : Int32))] [])) _ _ _ _
        refine own_go (fun _ k => XS.aloadN X86.here hx rfl (hb hby at_58) rfl rfl k) ?_
        show own_G _ _ _ (T86.setTop (mkF m 59 #[.val (.int p0), .val (.int p1), .val (.int i), .val (.ref b86), .val (.int (1 : Int32))] [(.ref b86)])) _ _ _ _
        obtain ⟨cq93, kq93, q93a, q93b, q93c⟩ := isOf hZ rfl r86_0
        obtain ⟨_, _, ⟨T93, L93, k93, n93⟩, -, X93, ⟨Lc93, hQ93, l93, y93, z93⟩, st93⟩ := X86.interfaceBack hx (xi := (⟨"java/util/List", "size", "()I"⟩ : MethodName)) (y := (⟨"java/util/ArrayList", "size", "()I"⟩ : MethodName)) hown (mvT hZ (hw _ (List.mem_of_getElem? (i := 32) rfl))) (mvT hZ (hw _ (List.mem_of_getElem? (i := 33) rfl))) (mvT hZ (hw _ (List.mem_of_getElem? (i := 34) rfl))) (mvT hZ (hw _ (List.mem_of_getElem? (i := 35) rfl))) (mvT hZ (hw _ (List.mem_of_getElem? (i := 36) rfl))) (mvT hZ (hw _ (List.mem_of_getElem? (i := 37) rfl))) (mvT hZ (hw _ (List.mem_of_getElem? (i := 38) rfl))) (mvT hZ (hw _ (List.mem_of_getElem? (i := 39) rfl))) (by decide) (backOf (W := 0) (rm6 l Z a0 hw [] b86 (1 : Int32) T86.heap n0 Zs86 r86_1) hZ (hw _ (List.mem_of_getElem? (i := 40) rfl)) (hw _ (List.mem_of_getElem? (i := 6) rfl)) (by decide) (by decide)) q93a q93b q93c (g := (mkF m 59 #[.val (.int p0), .val (.int p1), .val (.int i), .val (.ref b86), .val (.int (1 : Int32))] [(.ref b86)])) rfl (by rw [hml]; rfl) (Steps.refl _) (argsL := []) (rest := []) (lenOf pd_11 rfl) rfl (by show 2 * 0 + _ ≤ _; exact Nat.le_of_eq rfl) (hb hby at_59) (fun _ _ => ⟨rfl, rfl, (by decide : 3 + 0 ≤ _), (by decide : 14 + 0 ≤ _)⟩)
        dsimp only [Pt.U, Pt.locs, Pt.cells, Pt.slots] at X93 l93 y93 z93 st93 hQ93
        subst l93 y93 z93
        obtain ⟨rfl, Nq93, eh93⟩ := hQ93
        have N93 := Fr.app N86 Nq93
        refine own_tr st93 ?_
        show own_G _ _ _ (T93.setTop (mkF m 64 #[.val (.int p0), .val (.int p1), .val (.int i), .val (.ref b86), .val (.int (1 : Int32))] [(.int (1 : Int32))])) _ _ _ _
        refine own_go (fun _ k => XS.iload X93.here hx rfl (hb hby at_64) rfl k) ?_
        show own_G _ _ _ (T93.setTop (mkF m 66 #[.val (.int p0), .val (.int p1), .val (.int i), .val (.ref b86), .val (.int (1 : Int32))] [(.int (1 : Int32)), (.int (1 : Int32))])) _ _ _ _
        have hc94 : (1 : Int32) = (1 : Int32) := (by decide)
        refine own_go (fun _ k => XS.icmpYes X93.here hx rfl (pc0 := 66) (pc' := 71) rfl (hb hby at_66) rfl (teq hc94).1 (by decide) (by decide) k) ?_
        show own_G _ _ _ (T93.setTop (mkF m 71 #[.val (.int p0), .val (.int p1), .val (.int i), .val (.ref b86), .val (.int (1 : Int32))] [])) _ _ _ _
        refine own_go (fun _ k => XS.iload X93.here hx rfl (hb hby at_71) rfl k) ?_
        show own_G _ _ _ (T93.setTop (mkF m 73 #[.val (.int p0), .val (.int p1), .val (.int i), .val (.ref b86), .val (.int (1 : Int32))] [(.int (1 : Int32))])) _ _ _ _
        refine own_go (fun _ k => XS.iconst X93.here hx rfl (hb hby at_73) k) ?_
        show own_G _ _ _ (T93.setTop (mkF m 74 #[.val (.int p0), .val (.int p1), .val (.int i), .val (.ref b86), .val (.int (1 : Int32))] [(.int (1 : Int32)), (.int (1 : Int32))])) _ _ _ _
        have hc95 : ¬ ((1 : Int32) < (1 : Int32)) := (by decide)
        refine own_go (fun _ k => XS.icmpNo X93.here hx rfl (hb hby at_74) rfl (flt hc95).1 k) ?_
        show own_G _ _ _ (T93.setTop (mkF m 77 #[.val (.int p0), .val (.int p1), .val (.int i), .val (.ref b86), .val (.int (1 : Int32))] [])) _ _ _ _
        refine own_go (fun _ k => XS.aloadN X93.here hx rfl (hb hby at_77) rfl rfl k) ?_
        show own_G _ _ _ (T93.setTop (mkF m 78 #[.val (.int p0), .val (.int p1), .val (.int i), .val (.ref b86), .val (.int (1 : Int32))] [(.ref b86)])) _ _ _ _
        refine own_go (fun _ k => XS.iconst X93.here hx rfl (hb hby at_78) k) ?_
        show own_G _ _ _ (T93.setTop (mkF m 79 #[.val (.int p0), .val (.int p1), .val (.int i), .val (.ref b86), .val (.int (1 : Int32))] [(.int (0 : Int32)), (.ref b86)])) _ _ _ _
        obtain ⟨cq96, kq96, q96a, q96b, q96c⟩ := isOf hZ eh93 r86_0
        obtain ⟨_, _, ⟨T96, L96, k96, n96⟩, -, X96, ⟨Lc96, hQ96, l96, y96, z96⟩, st96⟩ := X93.interfaceBack hx (xi := (⟨"java/util/List", "get", "(I)Ljava/lang/Object;"⟩ : MethodName)) (y := (⟨"java/util/ArrayList", "get", "(I)Ljava/lang/Object;"⟩ : MethodName)) hown (mvT hZ (hw _ (List.mem_of_getElem? (i := 82) rfl))) (mvT hZ (hw _ (List.mem_of_getElem? (i := 83) rfl))) (mvT hZ (hw _ (List.mem_of_getElem? (i := 84) rfl))) (mvT hZ (hw _ (List.mem_of_getElem? (i := 85) rfl))) (mvT hZ (hw _ (List.mem_of_getElem? (i := 86) rfl))) (mvT hZ (hw _ (List.mem_of_getElem? (i := 87) rfl))) (mvT hZ (hw _ (List.mem_of_getElem? (i := 88) rfl))) (mvT hZ (hw _ (List.mem_of_getElem? (i := 39) rfl))) (by decide) (backOf (W := 0) (rm13a l Z a0 hw [] b86 na86 kn86 el086 T86.heap n0 Zs86 r86_0 r86_2 r86_3 r86_1) hZ (hw _ (List.mem_of_getElem? (i := 89) rfl)) (hw _ (List.mem_of_getElem? (i := 6) rfl)) (by decide) (by decide)) q96a q96b q96c (g := (mkF m 79 #[.val (.int p0), .val (.int p1), .val (.int i), .val (.ref b86), .val (.int (1 : Int32))] [(.int (0 : Int32)), (.ref b86)])) rfl (by rw [hml]; rfl) (Steps.refl _) (argsL := [(.int (0 : Int32))]) (rest := []) (lenOf pd_7 rfl) rfl (by show 2 * 0 + _ ≤ _; exact Nat.le_of_eq rfl) (hb hby at_79) (fun _ _ => ⟨rfl, eh93, (by decide : 3 + 0 ≤ _), (by decide : 14 + 0 ≤ _)⟩)
        dsimp only [Pt.U, Pt.locs, Pt.cells, Pt.slots] at X96 l96 y96 z96 st96 hQ96
        subst l96 y96 z96
        obtain ⟨rfl, Nq96, eh96⟩ := hQ96
        have N96 := Fr.app N93 Nq96
        refine own_tr st96 ?_
        show own_G _ _ _ (T96.setTop (mkF m 84 #[.val (.int p0), .val (.int p1), .val (.int i), .val (.ref b86), .val (.int (1 : Int32))] [(.ref el086)])) _ _ _ _
        obtain ⟨T97, X97, e97, st97⟩ := castY X96 hx hZ hown (hw _ (List.mem_of_getElem? (i := 103) rfl)) eh96 (Ins.self r86_4) (g := (mkF m 84 #[.val (.int p0), .val (.int p1), .val (.int i), .val (.ref b86), .val (.int (1 : Int32))] [(.ref el086)])) rfl rfl (hb hby at_84)
        refine own_go (fun _ k => st97 _ k) ?_
        show own_G _ _ _ (T97.setTop (mkF m 87 #[.val (.int p0), .val (.int p1), .val (.int i), .val (.ref b86), .val (.int (1 : Int32))] [(.ref el086)])) _ _ _ _
        obtain ⟨cq98, kq98, q98a, q98b, q98c⟩ := isOf hZ e97 r86_4
        obtain ⟨_, _, ⟨T98, L98, k98, n98⟩, -, X98, ⟨Lc98, hQ98, l98, y98, z98⟩, st98⟩ := X97.virtualBack hx (y := (⟨"java/lang/Integer", "intValue", "()I"⟩ : MethodName)) (z := (⟨"java/lang/Integer", "intValue", "()I"⟩ : MethodName)) hown (mvT hZ (hw _ (List.mem_of_getElem? (i := 105) rfl))) (mvT hZ (hw _ (List.mem_of_getElem? (i := 106) rfl))) (notFace_of_selects (args := #[]) (mvT hZ (hw _ (List.mem_of_getElem? (i := 108) rfl)))) (mvT hZ (hw _ (List.mem_of_getElem? (i := 108) rfl))) (mvT hZ (hw _ (List.mem_of_getElem? (i := 107) rfl))) (by decide) (backOf (W := 0) (rm17 l Z a0 hw [] el086 (i - (1 : Int32)) T86.heap n0 Zs86 r86_5) hZ (hw _ (List.mem_of_getElem? (i := 109) rfl)) (hw _ (List.mem_of_getElem? (i := 45) rfl)) (by decide) (by decide)) q98a q98c (g := (mkF m 87 #[.val (.int p0), .val (.int p1), .val (.int i), .val (.ref b86), .val (.int (1 : Int32))] [(.ref el086)])) rfl (by rw [hml]; rfl) (Steps.refl _) (argsL := []) (rest := []) (lenOf pd_11 rfl) rfl (by show 2 * 0 + _ ≤ _; exact Nat.le_of_eq rfl) (hb hby at_87) (fun _ _ => ⟨rfl, e97, (by decide : 3 + 0 ≤ _), (by decide : 14 + 0 ≤ _)⟩)
        dsimp only [Pt.U, Pt.locs, Pt.cells, Pt.slots] at X98 l98 y98 z98 st98 hQ98
        subst l98 y98 z98
        obtain ⟨rfl, Nq98, eh98⟩ := hQ98
        have N98 := Fr.app N96 Nq98
        refine own_tr st98 ?_
        show own_G _ _ _ (T98.setTop (mkF m 90 #[.val (.int p0), .val (.int p1), .val (.int i), .val (.ref b86), .val (.int (1 : Int32))] [(.int (i - (1 : Int32)))])) _ _ _ _
        refine own_go (fun _ k => XS.iloadN X98.here hx rfl (hb hby at_90) rfl k) ?_
        show own_G _ _ _ (T98.setTop (mkF m 91 #[.val (.int p0), .val (.int p1), .val (.int i), .val (.ref b86), .val (.int (1 : Int32))] [(.int i), (.int (i - (1 : Int32)))])) _ _ _ _
        refine own_go (fun _ k => XS.iconst X98.here hx rfl (hb hby at_91) k) ?_
        show own_G _ _ _ (T98.setTop (mkF m 92 #[.val (.int p0), .val (.int p1), .val (.int i), .val (.ref b86), .val (.int (1 : Int32))] [(.int (1 : Int32)), (.int i), (.int (i - (1 : Int32)))])) _ _ _ _
        refine own_go (fun _ k => XS.isub X98.here hx rfl (hb hby at_92) rfl k) ?_
        show own_G _ _ _ (T98.setTop (mkF m 93 #[.val (.int p0), .val (.int p1), .val (.int i), .val (.ref b86), .val (.int (1 : Int32))] [(.int (i - (1 : Int32))), (.int (i - (1 : Int32)))])) _ _ _ _
        have hc99 : (i - (1 : Int32)) = (i - (1 : Int32)) := rfl
        refine own_go (fun _ k => XS.icmpYes X98.here hx rfl (pc0 := 93) (pc' := 98) rfl (hb hby at_93) rfl (teq hc99).1 (by decide) (by decide) k) ?_
        show own_G _ _ _ (T98.setTop (mkF m 98 #[.val (.int p0), .val (.int p1), .val (.int i), .val (.ref b86), .val (.int (1 : Int32))] [])) _ _ _ _
        refine own_go (fun _ k => XS.iload X98.here hx rfl (hb hby at_98) rfl k) ?_
        show own_G _ _ _ (T98.setTop (mkF m 100 #[.val (.int p0), .val (.int p1), .val (.int i), .val (.ref b86), .val (.int (1 : Int32))] [(.int (1 : Int32))])) _ _ _ _
        refine own_go (fun _ k => XS.iconst X98.here hx rfl (hb hby at_100) k) ?_
        show own_G _ _ _ (T98.setTop (mkF m 101 #[.val (.int p0), .val (.int p1), .val (.int i), .val (.ref b86), .val (.int (1 : Int32))] [(.int (2 : Int32)), (.int (1 : Int32))])) _ _ _ _
        have hc100 : (1 : Int32) < (2 : Int32) := (by decide)
        refine own_go (fun _ k => XS.icmpYes X98.here hx rfl (pc0 := 101) (pc' := 126) rfl (hb hby at_101) rfl (tlt hc100).1 (by decide) (by decide) k) ?_
        show own_G _ _ _ (T98.setTop (mkF m 126 #[.val (.int p0), .val (.int p1), .val (.int i), .val (.ref b86), .val (.int (1 : Int32))] [])) _ _ _ _
        refine own_go (fun _ k => XS.iload X98.here hx rfl (hb hby at_126) rfl k) ?_
        show own_G _ _ _ (T98.setTop (mkF m 128 #[.val (.int p0), .val (.int p1), .val (.int i), .val (.ref b86), .val (.int (1 : Int32))] [(.int (1 : Int32))])) _ _ _ _
        refine own_go (fun _ k => XS.iconst X98.here hx rfl (hb hby at_128) k) ?_
        show own_G _ _ _ (T98.setTop (mkF m 129 #[.val (.int p0), .val (.int p1), .val (.int i), .val (.ref b86), .val (.int (1 : Int32))] [(.int (3 : Int32)), (.int (1 : Int32))])) _ _ _ _
        have hc101 : (1 : Int32) < (3 : Int32) := (by decide)
        refine own_go (fun _ k => XS.icmpYes X98.here hx rfl (pc0 := 129) (pc' := 154) rfl (hb hby at_129) rfl (tlt hc101).1 (by decide) (by decide) k) ?_
        show own_G _ _ _ (T98.setTop (mkF m 154 #[.val (.int p0), .val (.int p1), .val (.int i), .val (.ref b86), .val (.int (1 : Int32))] [])) _ _ _ _
        refine own_go (fun _ k => XS.iconst X98.here hx rfl (hb hby at_154) k) ?_
        show own_G _ _ _ (T98.setTop (mkF m 155 #[.val (.int p0), .val (.int p1), .val (.int i), .val (.ref b86), .val (.int (1 : Int32))] [(.int (1 : Int32))])) _ _ _ _
        exact own_endN X98 hx hlk (t := .boolean) Bd.returns (by simp) (hb hby at_155) (by decide) (by decide) (Q := (Q0 Z p0 p1 d0 k0 ca cc da kd h0 n0)) (by rw [eh98]; exact ⟨rfl, N98, K86_0⟩)
      · skip
        refine own_go (fun _ k => XS.iloadN X0.here hx rfl (hb hby at_18) rfl k) ?_
        show own_G _ _ _ (s₁.setTop (mkF m 19 #[.val (.int p0), .val (.int p1), .val (.int i), .unset, .unset] [(.int i)])) _ _ _ _
        obtain ⟨_, _, ⟨T102, L102, k102, n102⟩, -, X102, ⟨Lc102, hQ102, l102, y102, z102⟩, st102⟩ := Jvm.LawKit.callS X0 hx (y := (⟨"com/example/mini_wire/bench/Application", "dependencies", "(I)Ljava/util/List;"⟩ : MethodName)) hown (mvT hZ (hw _ (List.mem_of_getElem? (i := 0) rfl))) (mvT hZ (hw _ (List.mem_of_getElem? (i := 1) rfl))) (mvT hZ (hw _ (List.mem_of_getElem? (i := 2) rfl))) (mvT hZ (hw _ (List.mem_of_getElem? (i := 3) rfl))) (by decide) (backOf (W := 0) (rm1c l Z a0 hw [] i d0 k0 ca cc da kd h0 n0 Z0 P_Old P_ZS_java_util_ArrayList_DEFAULTCAPACITY_EMPTY_ELEMENTDATA P_V_d0 P_ZS_java_lang_Integer_IntegerCache_high P_ZS_java_lang_Integer_IntegerCache_cache bx P_ZS_com_example_mini_wire_bench_Application_DISTANCES P_V_da hn hq) hZ (hw _ (List.mem_of_getElem? (i := 3) rfl)) (hw _ (List.mem_of_getElem? (i := 2) rfl)) (by decide) (by decide)) (g := (mkF m 19 #[.val (.int p0), .val (.int p1), .val (.int i), .unset, .unset] [(.int i)])) rfl (by rw [hml]; rfl) (argsL := [(.int i)]) (rest := []) (lenOf pd_10 rfl) rfl (by show 2 * 0 + _ ≤ _; exact Nat.le_of_eq rfl) (hb hby at_19) (fun _ _ => ⟨rfl, e0, (by decide : 0 + 4 ≤ _), (by decide : 0 + 15 ≤ _)⟩)
        dsimp only [Pt.U, Pt.locs, Pt.cells, Pt.slots] at X102 l102 y102 z102 st102 hQ102
        subst l102 y102 z102
        obtain ⟨b102, na102, kn102, el0102, el1102, rfl, Nq102, Kq102, r102_0, r102_1, r102_2, r102_3, r102_4, r102_5, r102_6, r102_7⟩ := hQ102
        have N102 := Fr.app N0 Nq102
        have f103 : Old Z n0 T102.heap := P_Old.keep Kq102 all0
        have f104 : Arv Z T102.heap d0 k0 (.object "java/lang/Object") (0 : Int32) [] .null := P_V_d0.keep Kq102 nin0
        have f105 : Arv Z T102.heap da kd .int (3 : Int32) [(.int (1 : Int32)), (.int (7 : Int32)), (.int (31 : Int32))] (.int (0 : Int32)) := P_V_da.keep Kq102 nin0
        have Zs102 : n0 ≤ T102.heap.size := Nat.le_trans Z0 Kq102.1
        have K102_0 : Keep h0 T102.heap [] := K0.trans Kq102 all0
        refine own_go (fun _ k => st102 _ k) ?_
        show own_G _ _ _ (T102.setTop (mkF m 22 #[.val (.int p0), .val (.int p1), .val (.int i), .unset, .unset] [(.ref b102)])) _ _ _ _
        refine own_go (fun _ k => XS.astoreN X102.here hx rfl (hb hby at_22) rfl rfl (l' := #[.val (.int p0), .val (.int p1), .val (.int i), .val (.ref b102), .unset]) rfl k) ?_
        show own_G _ _ _ (T102.setTop (mkF m 23 #[.val (.int p0), .val (.int p1), .val (.int i), .val (.ref b102), .unset] [])) _ _ _ _
        refine own_go (fun _ k => XS.aloadN X102.here hx rfl (hb hby at_23) rfl rfl k) ?_
        show own_G _ _ _ (T102.setTop (mkF m 24 #[.val (.int p0), .val (.int p1), .val (.int i), .val (.ref b102), .unset] [(.ref b102)])) _ _ _ _
        refine own_go (fun _ k => XS.ifnonnullYes X102.here hx rfl (pc0 := 24) (pc' := 29) rfl (hb hby at_24) rfl (by decide) (by decide) k) ?_
        show own_G _ _ _ (T102.setTop (mkF m 29 #[.val (.int p0), .val (.int p1), .val (.int i), .val (.ref b102), .unset] [])) _ _ _ _
        refine own_go (fun _ k => XS.iconst X102.here hx rfl (hb hby at_29) k) ?_
        show own_G _ _ _ (T102.setTop (mkF m 30 #[.val (.int p0), .val (.int p1), .val (.int i), .val (.ref b102), .unset] [(.int (0 : Int32))])) _ _ _ _
        refine own_go (fun _ k => XS.istore X102.here hx rfl (hb hby at_30) rfl (l' := #[.val (.int p0), .val (.int p1), .val (.int i), .val (.ref b102), .val (.int (0 : Int32))]) rfl k) ?_
        show own_G _ _ _ (T102.setTop (mkF m 32 #[.val (.int p0), .val (.int p1), .val (.int i), .val (.ref b102), .val (.int (0 : Int32))] [])) _ _ _ _
        refine own_go (fun _ k => XS.iloadN X102.here hx rfl (hb hby at_32) rfl k) ?_
        show own_G _ _ _ (T102.setTop (mkF m 33 #[.val (.int p0), .val (.int p1), .val (.int i), .val (.ref b102), .val (.int (0 : Int32))] [(.int i)])) _ _ _ _
        refine own_go (fun _ k => XS.iconst X102.here hx rfl (hb hby at_33) k) ?_
        show own_G _ _ _ (T102.setTop (mkF m 34 #[.val (.int p0), .val (.int p1), .val (.int i), .val (.ref b102), .val (.int (0 : Int32))] [(.int (1 : Int32)), (.int i)])) _ _ _ _
        have hc106 : ¬ (i < (1 : Int32)) := own_nlt i (1 : Int32) (7 : Int32) hq.1 (by decide)
        refine own_go (fun _ k => XS.icmpNo X102.here hx rfl (hb hby at_34) rfl (flt hc106).1 k) ?_
        show own_G _ _ _ (T102.setTop (mkF m 37 #[.val (.int p0), .val (.int p1), .val (.int i), .val (.ref b102), .val (.int (0 : Int32))] [])) _ _ _ _
        refine own_go (fun _ k => XS.iconst X102.here hx rfl (hb hby at_37) k) ?_
        show own_G _ _ _ (T102.setTop (mkF m 38 #[.val (.int p0), .val (.int p1), .val (.int i), .val (.ref b102), .val (.int (0 : Int32))] [(.int (1 : Int32))])) _ _ _ _
        refine own_go (fun _ k => XS.istore X102.here hx rfl (hb hby at_38) rfl (l' := #[.val (.int p0), .val (.int p1), .val (.int i), .val (.ref b102), .val (.int (1 : Int32))]) rfl k) ?_
        show own_G _ _ _ (T102.setTop (mkF m 40 #[.val (.int p0), .val (.int p1), .val (.int i), .val (.ref b102), .val (.int (1 : Int32))] [])) _ _ _ _
        refine own_go (fun _ k => XS.iloadN X102.here hx rfl (hb hby at_40) rfl k) ?_
        show own_G _ _ _ (T102.setTop (mkF m 41 #[.val (.int p0), .val (.int p1), .val (.int i), .val (.ref b102), .val (.int (1 : Int32))] [(.int i)])) _ _ _ _
        refine own_go (fun _ k => XS.bipush X102.here hx rfl (hb hby at_41) k) ?_
        show own_G _ _ _ (T102.setTop (mkF m 43 #[.val (.int p0), .val (.int p1), .val (.int i), .val (.ref b102), .val (.int (1 : Int32))] [(.int (7 : Int32)), (.int i)])) _ _ _ _
        have hc107 : ¬ (i < (7 : Int32)) := own_nlt i (7 : Int32) (7 : Int32) hq.1 (by decide)
        refine own_go (fun _ k => XS.icmpNo X102.here hx rfl (hb hby at_43) rfl (flt hc107).1 k) ?_
        show own_G _ _ _ (T102.setTop (mkF m 46 #[.val (.int p0), .val (.int p1), .val (.int i), .val (.ref b102), .val (.int (1 : Int32))] [])) _ _ _ _
        refine own_go (fun _ k => XS.iconst X102.here hx rfl (hb hby at_46) k) ?_
        show own_G _ _ _ (T102.setTop (mkF m 47 #[.val (.int p0), .val (.int p1), .val (.int i), .val (.ref b102), .val (.int (1 : Int32))] [(.int (2 : Int32))])) _ _ _ _
        refine own_go (fun _ k => XS.istore X102.here hx rfl (hb hby at_47) rfl (l' := #[.val (.int p0), .val (.int p1), .val (.int i), .val (.ref b102), .val (.int (2 : Int32))]) rfl k) ?_
        show own_G _ _ _ (T102.setTop (mkF m 49 #[.val (.int p0), .val (.int p1), .val (.int i), .val (.ref b102), .val (.int (2 : Int32))] [])) _ _ _ _
        refine own_go (fun _ k => XS.iloadN X102.here hx rfl (hb hby at_49) rfl k) ?_
        show own_G _ _ _ (T102.setTop (mkF m 50 #[.val (.int p0), .val (.int p1), .val (.int i), .val (.ref b102), .val (.int (2 : Int32))] [(.int i)])) _ _ _ _
        refine own_go (fun _ k => XS.bipush X102.here hx rfl (hb hby at_50) k) ?_
        show own_G _ _ _ (T102.setTop (mkF m 52 #[.val (.int p0), .val (.int p1), .val (.int i), .val (.ref b102), .val (.int (2 : Int32))] [(.int (31 : Int32)), (.int i)])) _ _ _ _
        have hc108 : i < (31 : Int32) := own_lt i (31 : Int32) (31 : Int32) hq.2 (by decide)
        refine own_go (fun _ k => XS.icmpYes X102.here hx rfl (pc0 := 52) (pc' := 58) rfl (hb hby at_52) rfl (tlt hc108).1 (by decide) (by decide) k) ?_
        show own_G _ _ _ (T102.setTop (mkF m 58 #[.val (.int p0), .val (.int p1), .val (.int i), .val (.ref b102), .val (.int (2 : Int32))] [])) _ _ _ _
        refine own_go (fun _ k => XS.aloadN X102.here hx rfl (hb hby at_58) rfl rfl k) ?_
        show own_G _ _ _ (T102.setTop (mkF m 59 #[.val (.int p0), .val (.int p1), .val (.int i), .val (.ref b102), .val (.int (2 : Int32))] [(.ref b102)])) _ _ _ _
        obtain ⟨cq109, kq109, q109a, q109b, q109c⟩ := isOf hZ rfl r102_0
        obtain ⟨_, _, ⟨T109, L109, k109, n109⟩, -, X109, ⟨Lc109, hQ109, l109, y109, z109⟩, st109⟩ := X102.interfaceBack hx (xi := (⟨"java/util/List", "size", "()I"⟩ : MethodName)) (y := (⟨"java/util/ArrayList", "size", "()I"⟩ : MethodName)) hown (mvT hZ (hw _ (List.mem_of_getElem? (i := 32) rfl))) (mvT hZ (hw _ (List.mem_of_getElem? (i := 33) rfl))) (mvT hZ (hw _ (List.mem_of_getElem? (i := 34) rfl))) (mvT hZ (hw _ (List.mem_of_getElem? (i := 35) rfl))) (mvT hZ (hw _ (List.mem_of_getElem? (i := 36) rfl))) (mvT hZ (hw _ (List.mem_of_getElem? (i := 37) rfl))) (mvT hZ (hw _ (List.mem_of_getElem? (i := 38) rfl))) (mvT hZ (hw _ (List.mem_of_getElem? (i := 39) rfl))) (by decide) (backOf (W := 0) (rm6 l Z a0 hw [] b102 (2 : Int32) T102.heap n0 Zs102 r102_1) hZ (hw _ (List.mem_of_getElem? (i := 40) rfl)) (hw _ (List.mem_of_getElem? (i := 6) rfl)) (by decide) (by decide)) q109a q109b q109c (g := (mkF m 59 #[.val (.int p0), .val (.int p1), .val (.int i), .val (.ref b102), .val (.int (2 : Int32))] [(.ref b102)])) rfl (by rw [hml]; rfl) (Steps.refl _) (argsL := []) (rest := []) (lenOf pd_11 rfl) rfl (by show 2 * 0 + _ ≤ _; exact Nat.le_of_eq rfl) (hb hby at_59) (fun _ _ => ⟨rfl, rfl, (by decide : 4 + 0 ≤ _), (by decide : 15 + 0 ≤ _)⟩)
        dsimp only [Pt.U, Pt.locs, Pt.cells, Pt.slots] at X109 l109 y109 z109 st109 hQ109
        subst l109 y109 z109
        obtain ⟨rfl, Nq109, eh109⟩ := hQ109
        have N109 := Fr.app N102 Nq109
        refine own_tr st109 ?_
        show own_G _ _ _ (T109.setTop (mkF m 64 #[.val (.int p0), .val (.int p1), .val (.int i), .val (.ref b102), .val (.int (2 : Int32))] [(.int (2 : Int32))])) _ _ _ _
        refine own_go (fun _ k => XS.iload X109.here hx rfl (hb hby at_64) rfl k) ?_
        show own_G _ _ _ (T109.setTop (mkF m 66 #[.val (.int p0), .val (.int p1), .val (.int i), .val (.ref b102), .val (.int (2 : Int32))] [(.int (2 : Int32)), (.int (2 : Int32))])) _ _ _ _
        have hc110 : (2 : Int32) = (2 : Int32) := (by decide)
        refine own_go (fun _ k => XS.icmpYes X109.here hx rfl (pc0 := 66) (pc' := 71) rfl (hb hby at_66) rfl (teq hc110).1 (by decide) (by decide) k) ?_
        show own_G _ _ _ (T109.setTop (mkF m 71 #[.val (.int p0), .val (.int p1), .val (.int i), .val (.ref b102), .val (.int (2 : Int32))] [])) _ _ _ _
        refine own_go (fun _ k => XS.iload X109.here hx rfl (hb hby at_71) rfl k) ?_
        show own_G _ _ _ (T109.setTop (mkF m 73 #[.val (.int p0), .val (.int p1), .val (.int i), .val (.ref b102), .val (.int (2 : Int32))] [(.int (2 : Int32))])) _ _ _ _
        refine own_go (fun _ k => XS.iconst X109.here hx rfl (hb hby at_73) k) ?_
        show own_G _ _ _ (T109.setTop (mkF m 74 #[.val (.int p0), .val (.int p1), .val (.int i), .val (.ref b102), .val (.int (2 : Int32))] [(.int (1 : Int32)), (.int (2 : Int32))])) _ _ _ _
        have hc111 : ¬ ((2 : Int32) < (1 : Int32)) := (by decide)
        refine own_go (fun _ k => XS.icmpNo X109.here hx rfl (hb hby at_74) rfl (flt hc111).1 k) ?_
        show own_G _ _ _ (T109.setTop (mkF m 77 #[.val (.int p0), .val (.int p1), .val (.int i), .val (.ref b102), .val (.int (2 : Int32))] [])) _ _ _ _
        refine own_go (fun _ k => XS.aloadN X109.here hx rfl (hb hby at_77) rfl rfl k) ?_
        show own_G _ _ _ (T109.setTop (mkF m 78 #[.val (.int p0), .val (.int p1), .val (.int i), .val (.ref b102), .val (.int (2 : Int32))] [(.ref b102)])) _ _ _ _
        refine own_go (fun _ k => XS.iconst X109.here hx rfl (hb hby at_78) k) ?_
        show own_G _ _ _ (T109.setTop (mkF m 79 #[.val (.int p0), .val (.int p1), .val (.int i), .val (.ref b102), .val (.int (2 : Int32))] [(.int (0 : Int32)), (.ref b102)])) _ _ _ _
        obtain ⟨cq112, kq112, q112a, q112b, q112c⟩ := isOf hZ eh109 r102_0
        obtain ⟨_, _, ⟨T112, L112, k112, n112⟩, -, X112, ⟨Lc112, hQ112, l112, y112, z112⟩, st112⟩ := X109.interfaceBack hx (xi := (⟨"java/util/List", "get", "(I)Ljava/lang/Object;"⟩ : MethodName)) (y := (⟨"java/util/ArrayList", "get", "(I)Ljava/lang/Object;"⟩ : MethodName)) hown (mvT hZ (hw _ (List.mem_of_getElem? (i := 82) rfl))) (mvT hZ (hw _ (List.mem_of_getElem? (i := 83) rfl))) (mvT hZ (hw _ (List.mem_of_getElem? (i := 84) rfl))) (mvT hZ (hw _ (List.mem_of_getElem? (i := 85) rfl))) (mvT hZ (hw _ (List.mem_of_getElem? (i := 86) rfl))) (mvT hZ (hw _ (List.mem_of_getElem? (i := 87) rfl))) (mvT hZ (hw _ (List.mem_of_getElem? (i := 88) rfl))) (mvT hZ (hw _ (List.mem_of_getElem? (i := 39) rfl))) (by decide) (backOf (W := 0) (rm13b l Z a0 hw [] b102 na102 kn102 el0102 el1102 T102.heap n0 Zs102 r102_0 r102_2 r102_3 r102_1) hZ (hw _ (List.mem_of_getElem? (i := 89) rfl)) (hw _ (List.mem_of_getElem? (i := 6) rfl)) (by decide) (by decide)) q112a q112b q112c (g := (mkF m 79 #[.val (.int p0), .val (.int p1), .val (.int i), .val (.ref b102), .val (.int (2 : Int32))] [(.int (0 : Int32)), (.ref b102)])) rfl (by rw [hml]; rfl) (Steps.refl _) (argsL := [(.int (0 : Int32))]) (rest := []) (lenOf pd_7 rfl) rfl (by show 2 * 0 + _ ≤ _; exact Nat.le_of_eq rfl) (hb hby at_79) (fun _ _ => ⟨rfl, eh109, (by decide : 4 + 0 ≤ _), (by decide : 15 + 0 ≤ _)⟩)
        dsimp only [Pt.U, Pt.locs, Pt.cells, Pt.slots] at X112 l112 y112 z112 st112 hQ112
        subst l112 y112 z112
        obtain ⟨rfl, Nq112, eh112⟩ := hQ112
        have N112 := Fr.app N109 Nq112
        refine own_tr st112 ?_
        show own_G _ _ _ (T112.setTop (mkF m 84 #[.val (.int p0), .val (.int p1), .val (.int i), .val (.ref b102), .val (.int (2 : Int32))] [(.ref el0102)])) _ _ _ _
        obtain ⟨T113, X113, e113, st113⟩ := castY X112 hx hZ hown (hw _ (List.mem_of_getElem? (i := 103) rfl)) eh112 (Ins.self r102_4) (g := (mkF m 84 #[.val (.int p0), .val (.int p1), .val (.int i), .val (.ref b102), .val (.int (2 : Int32))] [(.ref el0102)])) rfl rfl (hb hby at_84)
        refine own_go (fun _ k => st113 _ k) ?_
        show own_G _ _ _ (T113.setTop (mkF m 87 #[.val (.int p0), .val (.int p1), .val (.int i), .val (.ref b102), .val (.int (2 : Int32))] [(.ref el0102)])) _ _ _ _
        obtain ⟨cq114, kq114, q114a, q114b, q114c⟩ := isOf hZ e113 r102_4
        obtain ⟨_, _, ⟨T114, L114, k114, n114⟩, -, X114, ⟨Lc114, hQ114, l114, y114, z114⟩, st114⟩ := X113.virtualBack hx (y := (⟨"java/lang/Integer", "intValue", "()I"⟩ : MethodName)) (z := (⟨"java/lang/Integer", "intValue", "()I"⟩ : MethodName)) hown (mvT hZ (hw _ (List.mem_of_getElem? (i := 105) rfl))) (mvT hZ (hw _ (List.mem_of_getElem? (i := 106) rfl))) (notFace_of_selects (args := #[]) (mvT hZ (hw _ (List.mem_of_getElem? (i := 108) rfl)))) (mvT hZ (hw _ (List.mem_of_getElem? (i := 108) rfl))) (mvT hZ (hw _ (List.mem_of_getElem? (i := 107) rfl))) (by decide) (backOf (W := 0) (rm17 l Z a0 hw [] el0102 (i - (1 : Int32)) T102.heap n0 Zs102 r102_5) hZ (hw _ (List.mem_of_getElem? (i := 109) rfl)) (hw _ (List.mem_of_getElem? (i := 45) rfl)) (by decide) (by decide)) q114a q114c (g := (mkF m 87 #[.val (.int p0), .val (.int p1), .val (.int i), .val (.ref b102), .val (.int (2 : Int32))] [(.ref el0102)])) rfl (by rw [hml]; rfl) (Steps.refl _) (argsL := []) (rest := []) (lenOf pd_11 rfl) rfl (by show 2 * 0 + _ ≤ _; exact Nat.le_of_eq rfl) (hb hby at_87) (fun _ _ => ⟨rfl, e113, (by decide : 4 + 0 ≤ _), (by decide : 15 + 0 ≤ _)⟩)
        dsimp only [Pt.U, Pt.locs, Pt.cells, Pt.slots] at X114 l114 y114 z114 st114 hQ114
        subst l114 y114 z114
        obtain ⟨rfl, Nq114, eh114⟩ := hQ114
        have N114 := Fr.app N112 Nq114
        refine own_tr st114 ?_
        show own_G _ _ _ (T114.setTop (mkF m 90 #[.val (.int p0), .val (.int p1), .val (.int i), .val (.ref b102), .val (.int (2 : Int32))] [(.int (i - (1 : Int32)))])) _ _ _ _
        refine own_go (fun _ k => XS.iloadN X114.here hx rfl (hb hby at_90) rfl k) ?_
        show own_G _ _ _ (T114.setTop (mkF m 91 #[.val (.int p0), .val (.int p1), .val (.int i), .val (.ref b102), .val (.int (2 : Int32))] [(.int i), (.int (i - (1 : Int32)))])) _ _ _ _
        refine own_go (fun _ k => XS.iconst X114.here hx rfl (hb hby at_91) k) ?_
        show own_G _ _ _ (T114.setTop (mkF m 92 #[.val (.int p0), .val (.int p1), .val (.int i), .val (.ref b102), .val (.int (2 : Int32))] [(.int (1 : Int32)), (.int i), (.int (i - (1 : Int32)))])) _ _ _ _
        refine own_go (fun _ k => XS.isub X114.here hx rfl (hb hby at_92) rfl k) ?_
        show own_G _ _ _ (T114.setTop (mkF m 93 #[.val (.int p0), .val (.int p1), .val (.int i), .val (.ref b102), .val (.int (2 : Int32))] [(.int (i - (1 : Int32))), (.int (i - (1 : Int32)))])) _ _ _ _
        have hc115 : (i - (1 : Int32)) = (i - (1 : Int32)) := rfl
        refine own_go (fun _ k => XS.icmpYes X114.here hx rfl (pc0 := 93) (pc' := 98) rfl (hb hby at_93) rfl (teq hc115).1 (by decide) (by decide) k) ?_
        show own_G _ _ _ (T114.setTop (mkF m 98 #[.val (.int p0), .val (.int p1), .val (.int i), .val (.ref b102), .val (.int (2 : Int32))] [])) _ _ _ _
        refine own_go (fun _ k => XS.iload X114.here hx rfl (hb hby at_98) rfl k) ?_
        show own_G _ _ _ (T114.setTop (mkF m 100 #[.val (.int p0), .val (.int p1), .val (.int i), .val (.ref b102), .val (.int (2 : Int32))] [(.int (2 : Int32))])) _ _ _ _
        refine own_go (fun _ k => XS.iconst X114.here hx rfl (hb hby at_100) k) ?_
        show own_G _ _ _ (T114.setTop (mkF m 101 #[.val (.int p0), .val (.int p1), .val (.int i), .val (.ref b102), .val (.int (2 : Int32))] [(.int (2 : Int32)), (.int (2 : Int32))])) _ _ _ _
        have hc116 : ¬ ((2 : Int32) < (2 : Int32)) := (by decide)
        refine own_go (fun _ k => XS.icmpNo X114.here hx rfl (hb hby at_101) rfl (flt hc116).1 k) ?_
        show own_G _ _ _ (T114.setTop (mkF m 104 #[.val (.int p0), .val (.int p1), .val (.int i), .val (.ref b102), .val (.int (2 : Int32))] [])) _ _ _ _
        refine own_go (fun _ k => XS.aloadN X114.here hx rfl (hb hby at_104) rfl rfl k) ?_
        show own_G _ _ _ (T114.setTop (mkF m 105 #[.val (.int p0), .val (.int p1), .val (.int i), .val (.ref b102), .val (.int (2 : Int32))] [(.ref b102)])) _ _ _ _
        refine own_go (fun _ k => XS.iconst X114.here hx rfl (hb hby at_105) k) ?_
        show own_G _ _ _ (T114.setTop (mkF m 106 #[.val (.int p0), .val (.int p1), .val (.int i), .val (.ref b102), .val (.int (2 : Int32))] [(.int (1 : Int32)), (.ref b102)])) _ _ _ _
        obtain ⟨cq117, kq117, q117a, q117b, q117c⟩ := isOf hZ eh114 r102_0
        obtain ⟨_, _, ⟨T117, L117, k117, n117⟩, -, X117, ⟨Lc117, hQ117, l117, y117, z117⟩, st117⟩ := X114.interfaceBack hx (xi := (⟨"java/util/List", "get", "(I)Ljava/lang/Object;"⟩ : MethodName)) (y := (⟨"java/util/ArrayList", "get", "(I)Ljava/lang/Object;"⟩ : MethodName)) hown (mvT hZ (hw _ (List.mem_of_getElem? (i := 82) rfl))) (mvT hZ (hw _ (List.mem_of_getElem? (i := 83) rfl))) (mvT hZ (hw _ (List.mem_of_getElem? (i := 84) rfl))) (mvT hZ (hw _ (List.mem_of_getElem? (i := 85) rfl))) (mvT hZ (hw _ (List.mem_of_getElem? (i := 86) rfl))) (mvT hZ (hw _ (List.mem_of_getElem? (i := 87) rfl))) (mvT hZ (hw _ (List.mem_of_getElem? (i := 88) rfl))) (mvT hZ (hw _ (List.mem_of_getElem? (i := 39) rfl))) (by decide) (backOf (W := 0) (rm13c l Z a0 hw [] b102 na102 kn102 el0102 el1102 T102.heap n0 Zs102 r102_0 r102_2 r102_3 r102_1) hZ (hw _ (List.mem_of_getElem? (i := 89) rfl)) (hw _ (List.mem_of_getElem? (i := 6) rfl)) (by decide) (by decide)) q117a q117b q117c (g := (mkF m 106 #[.val (.int p0), .val (.int p1), .val (.int i), .val (.ref b102), .val (.int (2 : Int32))] [(.int (1 : Int32)), (.ref b102)])) rfl (by rw [hml]; rfl) (Steps.refl _) (argsL := [(.int (1 : Int32))]) (rest := []) (lenOf pd_7 rfl) rfl (by show 2 * 0 + _ ≤ _; exact Nat.le_of_eq rfl) (hb hby at_106) (fun _ _ => ⟨rfl, eh114, (by decide : 4 + 0 ≤ _), (by decide : 15 + 0 ≤ _)⟩)
        dsimp only [Pt.U, Pt.locs, Pt.cells, Pt.slots] at X117 l117 y117 z117 st117 hQ117
        subst l117 y117 z117
        obtain ⟨rfl, Nq117, eh117⟩ := hQ117
        have N117 := Fr.app N114 Nq117
        refine own_tr st117 ?_
        show own_G _ _ _ (T117.setTop (mkF m 111 #[.val (.int p0), .val (.int p1), .val (.int i), .val (.ref b102), .val (.int (2 : Int32))] [(.ref el1102)])) _ _ _ _
        obtain ⟨T118, X118, e118, st118⟩ := castY X117 hx hZ hown (hw _ (List.mem_of_getElem? (i := 103) rfl)) eh117 (Ins.self r102_6) (g := (mkF m 111 #[.val (.int p0), .val (.int p1), .val (.int i), .val (.ref b102), .val (.int (2 : Int32))] [(.ref el1102)])) rfl rfl (hb hby at_111)
        refine own_go (fun _ k => st118 _ k) ?_
        show own_G _ _ _ (T118.setTop (mkF m 114 #[.val (.int p0), .val (.int p1), .val (.int i), .val (.ref b102), .val (.int (2 : Int32))] [(.ref el1102)])) _ _ _ _
        obtain ⟨cq119, kq119, q119a, q119b, q119c⟩ := isOf hZ e118 r102_6
        obtain ⟨_, _, ⟨T119, L119, k119, n119⟩, -, X119, ⟨Lc119, hQ119, l119, y119, z119⟩, st119⟩ := X118.virtualBack hx (y := (⟨"java/lang/Integer", "intValue", "()I"⟩ : MethodName)) (z := (⟨"java/lang/Integer", "intValue", "()I"⟩ : MethodName)) hown (mvT hZ (hw _ (List.mem_of_getElem? (i := 105) rfl))) (mvT hZ (hw _ (List.mem_of_getElem? (i := 106) rfl))) (notFace_of_selects (args := #[]) (mvT hZ (hw _ (List.mem_of_getElem? (i := 108) rfl)))) (mvT hZ (hw _ (List.mem_of_getElem? (i := 108) rfl))) (mvT hZ (hw _ (List.mem_of_getElem? (i := 107) rfl))) (by decide) (backOf (W := 0) (rm17 l Z a0 hw [] el1102 (i - (7 : Int32)) T102.heap n0 Zs102 r102_7) hZ (hw _ (List.mem_of_getElem? (i := 109) rfl)) (hw _ (List.mem_of_getElem? (i := 45) rfl)) (by decide) (by decide)) q119a q119c (g := (mkF m 114 #[.val (.int p0), .val (.int p1), .val (.int i), .val (.ref b102), .val (.int (2 : Int32))] [(.ref el1102)])) rfl (by rw [hml]; rfl) (Steps.refl _) (argsL := []) (rest := []) (lenOf pd_11 rfl) rfl (by show 2 * 0 + _ ≤ _; exact Nat.le_of_eq rfl) (hb hby at_114) (fun _ _ => ⟨rfl, e118, (by decide : 4 + 0 ≤ _), (by decide : 15 + 0 ≤ _)⟩)
        dsimp only [Pt.U, Pt.locs, Pt.cells, Pt.slots] at X119 l119 y119 z119 st119 hQ119
        subst l119 y119 z119
        obtain ⟨rfl, Nq119, eh119⟩ := hQ119
        have N119 := Fr.app N117 Nq119
        refine own_tr st119 ?_
        show own_G _ _ _ (T119.setTop (mkF m 117 #[.val (.int p0), .val (.int p1), .val (.int i), .val (.ref b102), .val (.int (2 : Int32))] [(.int (i - (7 : Int32)))])) _ _ _ _
        refine own_go (fun _ k => XS.iloadN X119.here hx rfl (hb hby at_117) rfl k) ?_
        show own_G _ _ _ (T119.setTop (mkF m 118 #[.val (.int p0), .val (.int p1), .val (.int i), .val (.ref b102), .val (.int (2 : Int32))] [(.int i), (.int (i - (7 : Int32)))])) _ _ _ _
        refine own_go (fun _ k => XS.bipush X119.here hx rfl (hb hby at_118) k) ?_
        show own_G _ _ _ (T119.setTop (mkF m 120 #[.val (.int p0), .val (.int p1), .val (.int i), .val (.ref b102), .val (.int (2 : Int32))] [(.int (7 : Int32)), (.int i), (.int (i - (7 : Int32)))])) _ _ _ _
        refine own_go (fun _ k => XS.isub X119.here hx rfl (hb hby at_120) rfl k) ?_
        show own_G _ _ _ (T119.setTop (mkF m 121 #[.val (.int p0), .val (.int p1), .val (.int i), .val (.ref b102), .val (.int (2 : Int32))] [(.int (i - (7 : Int32))), (.int (i - (7 : Int32)))])) _ _ _ _
        have hc120 : (i - (7 : Int32)) = (i - (7 : Int32)) := rfl
        refine own_go (fun _ k => XS.icmpYes X119.here hx rfl (pc0 := 121) (pc' := 126) rfl (hb hby at_121) rfl (teq hc120).1 (by decide) (by decide) k) ?_
        show own_G _ _ _ (T119.setTop (mkF m 126 #[.val (.int p0), .val (.int p1), .val (.int i), .val (.ref b102), .val (.int (2 : Int32))] [])) _ _ _ _
        refine own_go (fun _ k => XS.iload X119.here hx rfl (hb hby at_126) rfl k) ?_
        show own_G _ _ _ (T119.setTop (mkF m 128 #[.val (.int p0), .val (.int p1), .val (.int i), .val (.ref b102), .val (.int (2 : Int32))] [(.int (2 : Int32))])) _ _ _ _
        refine own_go (fun _ k => XS.iconst X119.here hx rfl (hb hby at_128) k) ?_
        show own_G _ _ _ (T119.setTop (mkF m 129 #[.val (.int p0), .val (.int p1), .val (.int i), .val (.ref b102), .val (.int (2 : Int32))] [(.int (3 : Int32)), (.int (2 : Int32))])) _ _ _ _
        have hc121 : (2 : Int32) < (3 : Int32) := (by decide)
        refine own_go (fun _ k => XS.icmpYes X119.here hx rfl (pc0 := 129) (pc' := 154) rfl (hb hby at_129) rfl (tlt hc121).1 (by decide) (by decide) k) ?_
        show own_G _ _ _ (T119.setTop (mkF m 154 #[.val (.int p0), .val (.int p1), .val (.int i), .val (.ref b102), .val (.int (2 : Int32))] [])) _ _ _ _
        refine own_go (fun _ k => XS.iconst X119.here hx rfl (hb hby at_154) k) ?_
        show own_G _ _ _ (T119.setTop (mkF m 155 #[.val (.int p0), .val (.int p1), .val (.int i), .val (.ref b102), .val (.int (2 : Int32))] [(.int (1 : Int32))])) _ _ _ _
        exact own_endN X119 hx hlk (t := .boolean) Bd.returns (by simp) (hb hby at_155) (by decide) (by decide) (Q := (Q0 Z p0 p1 d0 k0 ca cc da kd h0 n0)) (by rw [eh119]; exact ⟨rfl, N119, K102_0⟩)
      · skip
        refine own_go (fun _ k => XS.iloadN X0.here hx rfl (hb hby at_18) rfl k) ?_
        show own_G _ _ _ (s₁.setTop (mkF m 19 #[.val (.int p0), .val (.int p1), .val (.int i), .unset, .unset] [(.int i)])) _ _ _ _
        obtain ⟨_, _, ⟨T122, L122, k122, n122⟩, -, X122, ⟨Lc122, hQ122, l122, y122, z122⟩, st122⟩ := Jvm.LawKit.callS X0 hx (y := (⟨"com/example/mini_wire/bench/Application", "dependencies", "(I)Ljava/util/List;"⟩ : MethodName)) hown (mvT hZ (hw _ (List.mem_of_getElem? (i := 0) rfl))) (mvT hZ (hw _ (List.mem_of_getElem? (i := 1) rfl))) (mvT hZ (hw _ (List.mem_of_getElem? (i := 2) rfl))) (mvT hZ (hw _ (List.mem_of_getElem? (i := 3) rfl))) (by decide) (backOf (W := 0) (rm1d l Z a0 hw [] i d0 k0 ca cc da kd h0 n0 Z0 P_Old P_ZS_java_util_ArrayList_DEFAULTCAPACITY_EMPTY_ELEMENTDATA P_V_d0 P_ZS_java_lang_Integer_IntegerCache_high P_ZS_java_lang_Integer_IntegerCache_cache bx P_ZS_com_example_mini_wire_bench_Application_DISTANCES P_V_da hn hq) hZ (hw _ (List.mem_of_getElem? (i := 3) rfl)) (hw _ (List.mem_of_getElem? (i := 2) rfl)) (by decide) (by decide)) (g := (mkF m 19 #[.val (.int p0), .val (.int p1), .val (.int i), .unset, .unset] [(.int i)])) rfl (by rw [hml]; rfl) (argsL := [(.int i)]) (rest := []) (lenOf pd_10 rfl) rfl (by show 2 * 0 + _ ≤ _; exact Nat.le_of_eq rfl) (hb hby at_19) (fun _ _ => ⟨rfl, e0, (by decide : 0 + 5 ≤ _), (by decide : 0 + 16 ≤ _)⟩)
        dsimp only [Pt.U, Pt.locs, Pt.cells, Pt.slots] at X122 l122 y122 z122 st122 hQ122
        subst l122 y122 z122
        obtain ⟨b122, na122, kn122, el0122, el1122, el2122, rfl, Nq122, Kq122, r122_0, r122_1, r122_2, r122_3, r122_4, r122_5, r122_6, r122_7, r122_8, r122_9⟩ := hQ122
        have N122 := Fr.app N0 Nq122
        have f123 : Old Z n0 T122.heap := P_Old.keep Kq122 all0
        have f124 : Arv Z T122.heap d0 k0 (.object "java/lang/Object") (0 : Int32) [] .null := P_V_d0.keep Kq122 nin0
        have f125 : Arv Z T122.heap da kd .int (3 : Int32) [(.int (1 : Int32)), (.int (7 : Int32)), (.int (31 : Int32))] (.int (0 : Int32)) := P_V_da.keep Kq122 nin0
        have Zs122 : n0 ≤ T122.heap.size := Nat.le_trans Z0 Kq122.1
        have K122_0 : Keep h0 T122.heap [] := K0.trans Kq122 all0
        refine own_go (fun _ k => st122 _ k) ?_
        show own_G _ _ _ (T122.setTop (mkF m 22 #[.val (.int p0), .val (.int p1), .val (.int i), .unset, .unset] [(.ref b122)])) _ _ _ _
        refine own_go (fun _ k => XS.astoreN X122.here hx rfl (hb hby at_22) rfl rfl (l' := #[.val (.int p0), .val (.int p1), .val (.int i), .val (.ref b122), .unset]) rfl k) ?_
        show own_G _ _ _ (T122.setTop (mkF m 23 #[.val (.int p0), .val (.int p1), .val (.int i), .val (.ref b122), .unset] [])) _ _ _ _
        refine own_go (fun _ k => XS.aloadN X122.here hx rfl (hb hby at_23) rfl rfl k) ?_
        show own_G _ _ _ (T122.setTop (mkF m 24 #[.val (.int p0), .val (.int p1), .val (.int i), .val (.ref b122), .unset] [(.ref b122)])) _ _ _ _
        refine own_go (fun _ k => XS.ifnonnullYes X122.here hx rfl (pc0 := 24) (pc' := 29) rfl (hb hby at_24) rfl (by decide) (by decide) k) ?_
        show own_G _ _ _ (T122.setTop (mkF m 29 #[.val (.int p0), .val (.int p1), .val (.int i), .val (.ref b122), .unset] [])) _ _ _ _
        refine own_go (fun _ k => XS.iconst X122.here hx rfl (hb hby at_29) k) ?_
        show own_G _ _ _ (T122.setTop (mkF m 30 #[.val (.int p0), .val (.int p1), .val (.int i), .val (.ref b122), .unset] [(.int (0 : Int32))])) _ _ _ _
        refine own_go (fun _ k => XS.istore X122.here hx rfl (hb hby at_30) rfl (l' := #[.val (.int p0), .val (.int p1), .val (.int i), .val (.ref b122), .val (.int (0 : Int32))]) rfl k) ?_
        show own_G _ _ _ (T122.setTop (mkF m 32 #[.val (.int p0), .val (.int p1), .val (.int i), .val (.ref b122), .val (.int (0 : Int32))] [])) _ _ _ _
        refine own_go (fun _ k => XS.iloadN X122.here hx rfl (hb hby at_32) rfl k) ?_
        show own_G _ _ _ (T122.setTop (mkF m 33 #[.val (.int p0), .val (.int p1), .val (.int i), .val (.ref b122), .val (.int (0 : Int32))] [(.int i)])) _ _ _ _
        refine own_go (fun _ k => XS.iconst X122.here hx rfl (hb hby at_33) k) ?_
        show own_G _ _ _ (T122.setTop (mkF m 34 #[.val (.int p0), .val (.int p1), .val (.int i), .val (.ref b122), .val (.int (0 : Int32))] [(.int (1 : Int32)), (.int i)])) _ _ _ _
        have hc126 : ¬ (i < (1 : Int32)) := own_nlt i (1 : Int32) (31 : Int32) hq (by decide)
        refine own_go (fun _ k => XS.icmpNo X122.here hx rfl (hb hby at_34) rfl (flt hc126).1 k) ?_
        show own_G _ _ _ (T122.setTop (mkF m 37 #[.val (.int p0), .val (.int p1), .val (.int i), .val (.ref b122), .val (.int (0 : Int32))] [])) _ _ _ _
        refine own_go (fun _ k => XS.iconst X122.here hx rfl (hb hby at_37) k) ?_
        show own_G _ _ _ (T122.setTop (mkF m 38 #[.val (.int p0), .val (.int p1), .val (.int i), .val (.ref b122), .val (.int (0 : Int32))] [(.int (1 : Int32))])) _ _ _ _
        refine own_go (fun _ k => XS.istore X122.here hx rfl (hb hby at_38) rfl (l' := #[.val (.int p0), .val (.int p1), .val (.int i), .val (.ref b122), .val (.int (1 : Int32))]) rfl k) ?_
        show own_G _ _ _ (T122.setTop (mkF m 40 #[.val (.int p0), .val (.int p1), .val (.int i), .val (.ref b122), .val (.int (1 : Int32))] [])) _ _ _ _
        refine own_go (fun _ k => XS.iloadN X122.here hx rfl (hb hby at_40) rfl k) ?_
        show own_G _ _ _ (T122.setTop (mkF m 41 #[.val (.int p0), .val (.int p1), .val (.int i), .val (.ref b122), .val (.int (1 : Int32))] [(.int i)])) _ _ _ _
        refine own_go (fun _ k => XS.bipush X122.here hx rfl (hb hby at_41) k) ?_
        show own_G _ _ _ (T122.setTop (mkF m 43 #[.val (.int p0), .val (.int p1), .val (.int i), .val (.ref b122), .val (.int (1 : Int32))] [(.int (7 : Int32)), (.int i)])) _ _ _ _
        have hc127 : ¬ (i < (7 : Int32)) := own_nlt i (7 : Int32) (31 : Int32) hq (by decide)
        refine own_go (fun _ k => XS.icmpNo X122.here hx rfl (hb hby at_43) rfl (flt hc127).1 k) ?_
        show own_G _ _ _ (T122.setTop (mkF m 46 #[.val (.int p0), .val (.int p1), .val (.int i), .val (.ref b122), .val (.int (1 : Int32))] [])) _ _ _ _
        refine own_go (fun _ k => XS.iconst X122.here hx rfl (hb hby at_46) k) ?_
        show own_G _ _ _ (T122.setTop (mkF m 47 #[.val (.int p0), .val (.int p1), .val (.int i), .val (.ref b122), .val (.int (1 : Int32))] [(.int (2 : Int32))])) _ _ _ _
        refine own_go (fun _ k => XS.istore X122.here hx rfl (hb hby at_47) rfl (l' := #[.val (.int p0), .val (.int p1), .val (.int i), .val (.ref b122), .val (.int (2 : Int32))]) rfl k) ?_
        show own_G _ _ _ (T122.setTop (mkF m 49 #[.val (.int p0), .val (.int p1), .val (.int i), .val (.ref b122), .val (.int (2 : Int32))] [])) _ _ _ _
        refine own_go (fun _ k => XS.iloadN X122.here hx rfl (hb hby at_49) rfl k) ?_
        show own_G _ _ _ (T122.setTop (mkF m 50 #[.val (.int p0), .val (.int p1), .val (.int i), .val (.ref b122), .val (.int (2 : Int32))] [(.int i)])) _ _ _ _
        refine own_go (fun _ k => XS.bipush X122.here hx rfl (hb hby at_50) k) ?_
        show own_G _ _ _ (T122.setTop (mkF m 52 #[.val (.int p0), .val (.int p1), .val (.int i), .val (.ref b122), .val (.int (2 : Int32))] [(.int (31 : Int32)), (.int i)])) _ _ _ _
        have hc128 : ¬ (i < (31 : Int32)) := own_nlt i (31 : Int32) (31 : Int32) hq (by decide)
        refine own_go (fun _ k => XS.icmpNo X122.here hx rfl (hb hby at_52) rfl (flt hc128).1 k) ?_
        show own_G _ _ _ (T122.setTop (mkF m 55 #[.val (.int p0), .val (.int p1), .val (.int i), .val (.ref b122), .val (.int (2 : Int32))] [])) _ _ _ _
        refine own_go (fun _ k => XS.iconst X122.here hx rfl (hb hby at_55) k) ?_
        show own_G _ _ _ (T122.setTop (mkF m 56 #[.val (.int p0), .val (.int p1), .val (.int i), .val (.ref b122), .val (.int (2 : Int32))] [(.int (3 : Int32))])) _ _ _ _
        refine own_go (fun _ k => XS.istore X122.here hx rfl (hb hby at_56) rfl (l' := #[.val (.int p0), .val (.int p1), .val (.int i), .val (.ref b122), .val (.int (3 : Int32))]) rfl k) ?_
        show own_G _ _ _ (T122.setTop (mkF m 58 #[.val (.int p0), .val (.int p1), .val (.int i), .val (.ref b122), .val (.int (3 : Int32))] [])) _ _ _ _
        refine own_go (fun _ k => XS.aloadN X122.here hx rfl (hb hby at_58) rfl rfl k) ?_
        show own_G _ _ _ (T122.setTop (mkF m 59 #[.val (.int p0), .val (.int p1), .val (.int i), .val (.ref b122), .val (.int (3 : Int32))] [(.ref b122)])) _ _ _ _
        obtain ⟨cq129, kq129, q129a, q129b, q129c⟩ := isOf hZ rfl r122_0
        obtain ⟨_, _, ⟨T129, L129, k129, n129⟩, -, X129, ⟨Lc129, hQ129, l129, y129, z129⟩, st129⟩ := X122.interfaceBack hx (xi := (⟨"java/util/List", "size", "()I"⟩ : MethodName)) (y := (⟨"java/util/ArrayList", "size", "()I"⟩ : MethodName)) hown (mvT hZ (hw _ (List.mem_of_getElem? (i := 32) rfl))) (mvT hZ (hw _ (List.mem_of_getElem? (i := 33) rfl))) (mvT hZ (hw _ (List.mem_of_getElem? (i := 34) rfl))) (mvT hZ (hw _ (List.mem_of_getElem? (i := 35) rfl))) (mvT hZ (hw _ (List.mem_of_getElem? (i := 36) rfl))) (mvT hZ (hw _ (List.mem_of_getElem? (i := 37) rfl))) (mvT hZ (hw _ (List.mem_of_getElem? (i := 38) rfl))) (mvT hZ (hw _ (List.mem_of_getElem? (i := 39) rfl))) (by decide) (backOf (W := 0) (rm6 l Z a0 hw [] b122 (3 : Int32) T122.heap n0 Zs122 r122_1) hZ (hw _ (List.mem_of_getElem? (i := 40) rfl)) (hw _ (List.mem_of_getElem? (i := 6) rfl)) (by decide) (by decide)) q129a q129b q129c (g := (mkF m 59 #[.val (.int p0), .val (.int p1), .val (.int i), .val (.ref b122), .val (.int (3 : Int32))] [(.ref b122)])) rfl (by rw [hml]; rfl) (Steps.refl _) (argsL := []) (rest := []) (lenOf pd_11 rfl) rfl (by show 2 * 0 + _ ≤ _; exact Nat.le_of_eq rfl) (hb hby at_59) (fun _ _ => ⟨rfl, rfl, (by decide : 5 + 0 ≤ _), (by decide : 16 + 0 ≤ _)⟩)
        dsimp only [Pt.U, Pt.locs, Pt.cells, Pt.slots] at X129 l129 y129 z129 st129 hQ129
        subst l129 y129 z129
        obtain ⟨rfl, Nq129, eh129⟩ := hQ129
        have N129 := Fr.app N122 Nq129
        refine own_tr st129 ?_
        show own_G _ _ _ (T129.setTop (mkF m 64 #[.val (.int p0), .val (.int p1), .val (.int i), .val (.ref b122), .val (.int (3 : Int32))] [(.int (3 : Int32))])) _ _ _ _
        refine own_go (fun _ k => XS.iload X129.here hx rfl (hb hby at_64) rfl k) ?_
        show own_G _ _ _ (T129.setTop (mkF m 66 #[.val (.int p0), .val (.int p1), .val (.int i), .val (.ref b122), .val (.int (3 : Int32))] [(.int (3 : Int32)), (.int (3 : Int32))])) _ _ _ _
        have hc130 : (3 : Int32) = (3 : Int32) := (by decide)
        refine own_go (fun _ k => XS.icmpYes X129.here hx rfl (pc0 := 66) (pc' := 71) rfl (hb hby at_66) rfl (teq hc130).1 (by decide) (by decide) k) ?_
        show own_G _ _ _ (T129.setTop (mkF m 71 #[.val (.int p0), .val (.int p1), .val (.int i), .val (.ref b122), .val (.int (3 : Int32))] [])) _ _ _ _
        refine own_go (fun _ k => XS.iload X129.here hx rfl (hb hby at_71) rfl k) ?_
        show own_G _ _ _ (T129.setTop (mkF m 73 #[.val (.int p0), .val (.int p1), .val (.int i), .val (.ref b122), .val (.int (3 : Int32))] [(.int (3 : Int32))])) _ _ _ _
        refine own_go (fun _ k => XS.iconst X129.here hx rfl (hb hby at_73) k) ?_
        show own_G _ _ _ (T129.setTop (mkF m 74 #[.val (.int p0), .val (.int p1), .val (.int i), .val (.ref b122), .val (.int (3 : Int32))] [(.int (1 : Int32)), (.int (3 : Int32))])) _ _ _ _
        have hc131 : ¬ ((3 : Int32) < (1 : Int32)) := (by decide)
        refine own_go (fun _ k => XS.icmpNo X129.here hx rfl (hb hby at_74) rfl (flt hc131).1 k) ?_
        show own_G _ _ _ (T129.setTop (mkF m 77 #[.val (.int p0), .val (.int p1), .val (.int i), .val (.ref b122), .val (.int (3 : Int32))] [])) _ _ _ _
        refine own_go (fun _ k => XS.aloadN X129.here hx rfl (hb hby at_77) rfl rfl k) ?_
        show own_G _ _ _ (T129.setTop (mkF m 78 #[.val (.int p0), .val (.int p1), .val (.int i), .val (.ref b122), .val (.int (3 : Int32))] [(.ref b122)])) _ _ _ _
        refine own_go (fun _ k => XS.iconst X129.here hx rfl (hb hby at_78) k) ?_
        show own_G _ _ _ (T129.setTop (mkF m 79 #[.val (.int p0), .val (.int p1), .val (.int i), .val (.ref b122), .val (.int (3 : Int32))] [(.int (0 : Int32)), (.ref b122)])) _ _ _ _
        obtain ⟨cq132, kq132, q132a, q132b, q132c⟩ := isOf hZ eh129 r122_0
        obtain ⟨_, _, ⟨T132, L132, k132, n132⟩, -, X132, ⟨Lc132, hQ132, l132, y132, z132⟩, st132⟩ := X129.interfaceBack hx (xi := (⟨"java/util/List", "get", "(I)Ljava/lang/Object;"⟩ : MethodName)) (y := (⟨"java/util/ArrayList", "get", "(I)Ljava/lang/Object;"⟩ : MethodName)) hown (mvT hZ (hw _ (List.mem_of_getElem? (i := 82) rfl))) (mvT hZ (hw _ (List.mem_of_getElem? (i := 83) rfl))) (mvT hZ (hw _ (List.mem_of_getElem? (i := 84) rfl))) (mvT hZ (hw _ (List.mem_of_getElem? (i := 85) rfl))) (mvT hZ (hw _ (List.mem_of_getElem? (i := 86) rfl))) (mvT hZ (hw _ (List.mem_of_getElem? (i := 87) rfl))) (mvT hZ (hw _ (List.mem_of_getElem? (i := 88) rfl))) (mvT hZ (hw _ (List.mem_of_getElem? (i := 39) rfl))) (by decide) (backOf (W := 0) (rm13d l Z a0 hw [] b122 na122 kn122 el0122 el1122 el2122 T122.heap n0 Zs122 r122_0 r122_2 r122_3 r122_1) hZ (hw _ (List.mem_of_getElem? (i := 89) rfl)) (hw _ (List.mem_of_getElem? (i := 6) rfl)) (by decide) (by decide)) q132a q132b q132c (g := (mkF m 79 #[.val (.int p0), .val (.int p1), .val (.int i), .val (.ref b122), .val (.int (3 : Int32))] [(.int (0 : Int32)), (.ref b122)])) rfl (by rw [hml]; rfl) (Steps.refl _) (argsL := [(.int (0 : Int32))]) (rest := []) (lenOf pd_7 rfl) rfl (by show 2 * 0 + _ ≤ _; exact Nat.le_of_eq rfl) (hb hby at_79) (fun _ _ => ⟨rfl, eh129, (by decide : 5 + 0 ≤ _), (by decide : 16 + 0 ≤ _)⟩)
        dsimp only [Pt.U, Pt.locs, Pt.cells, Pt.slots] at X132 l132 y132 z132 st132 hQ132
        subst l132 y132 z132
        obtain ⟨rfl, Nq132, eh132⟩ := hQ132
        have N132 := Fr.app N129 Nq132
        refine own_tr st132 ?_
        show own_G _ _ _ (T132.setTop (mkF m 84 #[.val (.int p0), .val (.int p1), .val (.int i), .val (.ref b122), .val (.int (3 : Int32))] [(.ref el0122)])) _ _ _ _
        obtain ⟨T133, X133, e133, st133⟩ := castY X132 hx hZ hown (hw _ (List.mem_of_getElem? (i := 103) rfl)) eh132 (Ins.self r122_4) (g := (mkF m 84 #[.val (.int p0), .val (.int p1), .val (.int i), .val (.ref b122), .val (.int (3 : Int32))] [(.ref el0122)])) rfl rfl (hb hby at_84)
        refine own_go (fun _ k => st133 _ k) ?_
        show own_G _ _ _ (T133.setTop (mkF m 87 #[.val (.int p0), .val (.int p1), .val (.int i), .val (.ref b122), .val (.int (3 : Int32))] [(.ref el0122)])) _ _ _ _
        obtain ⟨cq134, kq134, q134a, q134b, q134c⟩ := isOf hZ e133 r122_4
        obtain ⟨_, _, ⟨T134, L134, k134, n134⟩, -, X134, ⟨Lc134, hQ134, l134, y134, z134⟩, st134⟩ := X133.virtualBack hx (y := (⟨"java/lang/Integer", "intValue", "()I"⟩ : MethodName)) (z := (⟨"java/lang/Integer", "intValue", "()I"⟩ : MethodName)) hown (mvT hZ (hw _ (List.mem_of_getElem? (i := 105) rfl))) (mvT hZ (hw _ (List.mem_of_getElem? (i := 106) rfl))) (notFace_of_selects (args := #[]) (mvT hZ (hw _ (List.mem_of_getElem? (i := 108) rfl)))) (mvT hZ (hw _ (List.mem_of_getElem? (i := 108) rfl))) (mvT hZ (hw _ (List.mem_of_getElem? (i := 107) rfl))) (by decide) (backOf (W := 0) (rm17 l Z a0 hw [] el0122 (i - (1 : Int32)) T122.heap n0 Zs122 r122_5) hZ (hw _ (List.mem_of_getElem? (i := 109) rfl)) (hw _ (List.mem_of_getElem? (i := 45) rfl)) (by decide) (by decide)) q134a q134c (g := (mkF m 87 #[.val (.int p0), .val (.int p1), .val (.int i), .val (.ref b122), .val (.int (3 : Int32))] [(.ref el0122)])) rfl (by rw [hml]; rfl) (Steps.refl _) (argsL := []) (rest := []) (lenOf pd_11 rfl) rfl (by show 2 * 0 + _ ≤ _; exact Nat.le_of_eq rfl) (hb hby at_87) (fun _ _ => ⟨rfl, e133, (by decide : 5 + 0 ≤ _), (by decide : 16 + 0 ≤ _)⟩)
        dsimp only [Pt.U, Pt.locs, Pt.cells, Pt.slots] at X134 l134 y134 z134 st134 hQ134
        subst l134 y134 z134
        obtain ⟨rfl, Nq134, eh134⟩ := hQ134
        have N134 := Fr.app N132 Nq134
        refine own_tr st134 ?_
        show own_G _ _ _ (T134.setTop (mkF m 90 #[.val (.int p0), .val (.int p1), .val (.int i), .val (.ref b122), .val (.int (3 : Int32))] [(.int (i - (1 : Int32)))])) _ _ _ _
        refine own_go (fun _ k => XS.iloadN X134.here hx rfl (hb hby at_90) rfl k) ?_
        show own_G _ _ _ (T134.setTop (mkF m 91 #[.val (.int p0), .val (.int p1), .val (.int i), .val (.ref b122), .val (.int (3 : Int32))] [(.int i), (.int (i - (1 : Int32)))])) _ _ _ _
        refine own_go (fun _ k => XS.iconst X134.here hx rfl (hb hby at_91) k) ?_
        show own_G _ _ _ (T134.setTop (mkF m 92 #[.val (.int p0), .val (.int p1), .val (.int i), .val (.ref b122), .val (.int (3 : Int32))] [(.int (1 : Int32)), (.int i), (.int (i - (1 : Int32)))])) _ _ _ _
        refine own_go (fun _ k => XS.isub X134.here hx rfl (hb hby at_92) rfl k) ?_
        show own_G _ _ _ (T134.setTop (mkF m 93 #[.val (.int p0), .val (.int p1), .val (.int i), .val (.ref b122), .val (.int (3 : Int32))] [(.int (i - (1 : Int32))), (.int (i - (1 : Int32)))])) _ _ _ _
        have hc135 : (i - (1 : Int32)) = (i - (1 : Int32)) := rfl
        refine own_go (fun _ k => XS.icmpYes X134.here hx rfl (pc0 := 93) (pc' := 98) rfl (hb hby at_93) rfl (teq hc135).1 (by decide) (by decide) k) ?_
        show own_G _ _ _ (T134.setTop (mkF m 98 #[.val (.int p0), .val (.int p1), .val (.int i), .val (.ref b122), .val (.int (3 : Int32))] [])) _ _ _ _
        refine own_go (fun _ k => XS.iload X134.here hx rfl (hb hby at_98) rfl k) ?_
        show own_G _ _ _ (T134.setTop (mkF m 100 #[.val (.int p0), .val (.int p1), .val (.int i), .val (.ref b122), .val (.int (3 : Int32))] [(.int (3 : Int32))])) _ _ _ _
        refine own_go (fun _ k => XS.iconst X134.here hx rfl (hb hby at_100) k) ?_
        show own_G _ _ _ (T134.setTop (mkF m 101 #[.val (.int p0), .val (.int p1), .val (.int i), .val (.ref b122), .val (.int (3 : Int32))] [(.int (2 : Int32)), (.int (3 : Int32))])) _ _ _ _
        have hc136 : ¬ ((3 : Int32) < (2 : Int32)) := (by decide)
        refine own_go (fun _ k => XS.icmpNo X134.here hx rfl (hb hby at_101) rfl (flt hc136).1 k) ?_
        show own_G _ _ _ (T134.setTop (mkF m 104 #[.val (.int p0), .val (.int p1), .val (.int i), .val (.ref b122), .val (.int (3 : Int32))] [])) _ _ _ _
        refine own_go (fun _ k => XS.aloadN X134.here hx rfl (hb hby at_104) rfl rfl k) ?_
        show own_G _ _ _ (T134.setTop (mkF m 105 #[.val (.int p0), .val (.int p1), .val (.int i), .val (.ref b122), .val (.int (3 : Int32))] [(.ref b122)])) _ _ _ _
        refine own_go (fun _ k => XS.iconst X134.here hx rfl (hb hby at_105) k) ?_
        show own_G _ _ _ (T134.setTop (mkF m 106 #[.val (.int p0), .val (.int p1), .val (.int i), .val (.ref b122), .val (.int (3 : Int32))] [(.int (1 : Int32)), (.ref b122)])) _ _ _ _
        obtain ⟨cq137, kq137, q137a, q137b, q137c⟩ := isOf hZ eh134 r122_0
        obtain ⟨_, _, ⟨T137, L137, k137, n137⟩, -, X137, ⟨Lc137, hQ137, l137, y137, z137⟩, st137⟩ := X134.interfaceBack hx (xi := (⟨"java/util/List", "get", "(I)Ljava/lang/Object;"⟩ : MethodName)) (y := (⟨"java/util/ArrayList", "get", "(I)Ljava/lang/Object;"⟩ : MethodName)) hown (mvT hZ (hw _ (List.mem_of_getElem? (i := 82) rfl))) (mvT hZ (hw _ (List.mem_of_getElem? (i := 83) rfl))) (mvT hZ (hw _ (List.mem_of_getElem? (i := 84) rfl))) (mvT hZ (hw _ (List.mem_of_getElem? (i := 85) rfl))) (mvT hZ (hw _ (List.mem_of_getElem? (i := 86) rfl))) (mvT hZ (hw _ (List.mem_of_getElem? (i := 87) rfl))) (mvT hZ (hw _ (List.mem_of_getElem? (i := 88) rfl))) (mvT hZ (hw _ (List.mem_of_getElem? (i := 39) rfl))) (by decide) (backOf (W := 0) (rm13e l Z a0 hw [] b122 na122 kn122 el0122 el1122 el2122 T122.heap n0 Zs122 r122_0 r122_2 r122_3 r122_1) hZ (hw _ (List.mem_of_getElem? (i := 89) rfl)) (hw _ (List.mem_of_getElem? (i := 6) rfl)) (by decide) (by decide)) q137a q137b q137c (g := (mkF m 106 #[.val (.int p0), .val (.int p1), .val (.int i), .val (.ref b122), .val (.int (3 : Int32))] [(.int (1 : Int32)), (.ref b122)])) rfl (by rw [hml]; rfl) (Steps.refl _) (argsL := [(.int (1 : Int32))]) (rest := []) (lenOf pd_7 rfl) rfl (by show 2 * 0 + _ ≤ _; exact Nat.le_of_eq rfl) (hb hby at_106) (fun _ _ => ⟨rfl, eh134, (by decide : 5 + 0 ≤ _), (by decide : 16 + 0 ≤ _)⟩)
        dsimp only [Pt.U, Pt.locs, Pt.cells, Pt.slots] at X137 l137 y137 z137 st137 hQ137
        subst l137 y137 z137
        obtain ⟨rfl, Nq137, eh137⟩ := hQ137
        have N137 := Fr.app N134 Nq137
        refine own_tr st137 ?_
        show own_G _ _ _ (T137.setTop (mkF m 111 #[.val (.int p0), .val (.int p1), .val (.int i), .val (.ref b122), .val (.int (3 : Int32))] [(.ref el1122)])) _ _ _ _
        obtain ⟨T138, X138, e138, st138⟩ := castY X137 hx hZ hown (hw _ (List.mem_of_getElem? (i := 103) rfl)) eh137 (Ins.self r122_6) (g := (mkF m 111 #[.val (.int p0), .val (.int p1), .val (.int i), .val (.ref b122), .val (.int (3 : Int32))] [(.ref el1122)])) rfl rfl (hb hby at_111)
        refine own_go (fun _ k => st138 _ k) ?_
        show own_G _ _ _ (T138.setTop (mkF m 114 #[.val (.int p0), .val (.int p1), .val (.int i), .val (.ref b122), .val (.int (3 : Int32))] [(.ref el1122)])) _ _ _ _
        obtain ⟨cq139, kq139, q139a, q139b, q139c⟩ := isOf hZ e138 r122_6
        obtain ⟨_, _, ⟨T139, L139, k139, n139⟩, -, X139, ⟨Lc139, hQ139, l139, y139, z139⟩, st139⟩ := X138.virtualBack hx (y := (⟨"java/lang/Integer", "intValue", "()I"⟩ : MethodName)) (z := (⟨"java/lang/Integer", "intValue", "()I"⟩ : MethodName)) hown (mvT hZ (hw _ (List.mem_of_getElem? (i := 105) rfl))) (mvT hZ (hw _ (List.mem_of_getElem? (i := 106) rfl))) (notFace_of_selects (args := #[]) (mvT hZ (hw _ (List.mem_of_getElem? (i := 108) rfl)))) (mvT hZ (hw _ (List.mem_of_getElem? (i := 108) rfl))) (mvT hZ (hw _ (List.mem_of_getElem? (i := 107) rfl))) (by decide) (backOf (W := 0) (rm17 l Z a0 hw [] el1122 (i - (7 : Int32)) T122.heap n0 Zs122 r122_7) hZ (hw _ (List.mem_of_getElem? (i := 109) rfl)) (hw _ (List.mem_of_getElem? (i := 45) rfl)) (by decide) (by decide)) q139a q139c (g := (mkF m 114 #[.val (.int p0), .val (.int p1), .val (.int i), .val (.ref b122), .val (.int (3 : Int32))] [(.ref el1122)])) rfl (by rw [hml]; rfl) (Steps.refl _) (argsL := []) (rest := []) (lenOf pd_11 rfl) rfl (by show 2 * 0 + _ ≤ _; exact Nat.le_of_eq rfl) (hb hby at_114) (fun _ _ => ⟨rfl, e138, (by decide : 5 + 0 ≤ _), (by decide : 16 + 0 ≤ _)⟩)
        dsimp only [Pt.U, Pt.locs, Pt.cells, Pt.slots] at X139 l139 y139 z139 st139 hQ139
        subst l139 y139 z139
        obtain ⟨rfl, Nq139, eh139⟩ := hQ139
        have N139 := Fr.app N137 Nq139
        refine own_tr st139 ?_
        show own_G _ _ _ (T139.setTop (mkF m 117 #[.val (.int p0), .val (.int p1), .val (.int i), .val (.ref b122), .val (.int (3 : Int32))] [(.int (i - (7 : Int32)))])) _ _ _ _
        refine own_go (fun _ k => XS.iloadN X139.here hx rfl (hb hby at_117) rfl k) ?_
        show own_G _ _ _ (T139.setTop (mkF m 118 #[.val (.int p0), .val (.int p1), .val (.int i), .val (.ref b122), .val (.int (3 : Int32))] [(.int i), (.int (i - (7 : Int32)))])) _ _ _ _
        refine own_go (fun _ k => XS.bipush X139.here hx rfl (hb hby at_118) k) ?_
        show own_G _ _ _ (T139.setTop (mkF m 120 #[.val (.int p0), .val (.int p1), .val (.int i), .val (.ref b122), .val (.int (3 : Int32))] [(.int (7 : Int32)), (.int i), (.int (i - (7 : Int32)))])) _ _ _ _
        refine own_go (fun _ k => XS.isub X139.here hx rfl (hb hby at_120) rfl k) ?_
        show own_G _ _ _ (T139.setTop (mkF m 121 #[.val (.int p0), .val (.int p1), .val (.int i), .val (.ref b122), .val (.int (3 : Int32))] [(.int (i - (7 : Int32))), (.int (i - (7 : Int32)))])) _ _ _ _
        have hc140 : (i - (7 : Int32)) = (i - (7 : Int32)) := rfl
        refine own_go (fun _ k => XS.icmpYes X139.here hx rfl (pc0 := 121) (pc' := 126) rfl (hb hby at_121) rfl (teq hc140).1 (by decide) (by decide) k) ?_
        show own_G _ _ _ (T139.setTop (mkF m 126 #[.val (.int p0), .val (.int p1), .val (.int i), .val (.ref b122), .val (.int (3 : Int32))] [])) _ _ _ _
        refine own_go (fun _ k => XS.iload X139.here hx rfl (hb hby at_126) rfl k) ?_
        show own_G _ _ _ (T139.setTop (mkF m 128 #[.val (.int p0), .val (.int p1), .val (.int i), .val (.ref b122), .val (.int (3 : Int32))] [(.int (3 : Int32))])) _ _ _ _
        refine own_go (fun _ k => XS.iconst X139.here hx rfl (hb hby at_128) k) ?_
        show own_G _ _ _ (T139.setTop (mkF m 129 #[.val (.int p0), .val (.int p1), .val (.int i), .val (.ref b122), .val (.int (3 : Int32))] [(.int (3 : Int32)), (.int (3 : Int32))])) _ _ _ _
        have hc141 : ¬ ((3 : Int32) < (3 : Int32)) := (by decide)
        refine own_go (fun _ k => XS.icmpNo X139.here hx rfl (hb hby at_129) rfl (flt hc141).1 k) ?_
        show own_G _ _ _ (T139.setTop (mkF m 132 #[.val (.int p0), .val (.int p1), .val (.int i), .val (.ref b122), .val (.int (3 : Int32))] [])) _ _ _ _
        refine own_go (fun _ k => XS.aloadN X139.here hx rfl (hb hby at_132) rfl rfl k) ?_
        show own_G _ _ _ (T139.setTop (mkF m 133 #[.val (.int p0), .val (.int p1), .val (.int i), .val (.ref b122), .val (.int (3 : Int32))] [(.ref b122)])) _ _ _ _
        refine own_go (fun _ k => XS.iconst X139.here hx rfl (hb hby at_133) k) ?_
        show own_G _ _ _ (T139.setTop (mkF m 134 #[.val (.int p0), .val (.int p1), .val (.int i), .val (.ref b122), .val (.int (3 : Int32))] [(.int (2 : Int32)), (.ref b122)])) _ _ _ _
        obtain ⟨cq142, kq142, q142a, q142b, q142c⟩ := isOf hZ eh139 r122_0
        obtain ⟨_, _, ⟨T142, L142, k142, n142⟩, -, X142, ⟨Lc142, hQ142, l142, y142, z142⟩, st142⟩ := X139.interfaceBack hx (xi := (⟨"java/util/List", "get", "(I)Ljava/lang/Object;"⟩ : MethodName)) (y := (⟨"java/util/ArrayList", "get", "(I)Ljava/lang/Object;"⟩ : MethodName)) hown (mvT hZ (hw _ (List.mem_of_getElem? (i := 82) rfl))) (mvT hZ (hw _ (List.mem_of_getElem? (i := 83) rfl))) (mvT hZ (hw _ (List.mem_of_getElem? (i := 84) rfl))) (mvT hZ (hw _ (List.mem_of_getElem? (i := 85) rfl))) (mvT hZ (hw _ (List.mem_of_getElem? (i := 86) rfl))) (mvT hZ (hw _ (List.mem_of_getElem? (i := 87) rfl))) (mvT hZ (hw _ (List.mem_of_getElem? (i := 88) rfl))) (mvT hZ (hw _ (List.mem_of_getElem? (i := 39) rfl))) (by decide) (backOf (W := 0) (rm13f l Z a0 hw [] b122 na122 kn122 el0122 el1122 el2122 T122.heap n0 Zs122 r122_0 r122_2 r122_3 r122_1) hZ (hw _ (List.mem_of_getElem? (i := 89) rfl)) (hw _ (List.mem_of_getElem? (i := 6) rfl)) (by decide) (by decide)) q142a q142b q142c (g := (mkF m 134 #[.val (.int p0), .val (.int p1), .val (.int i), .val (.ref b122), .val (.int (3 : Int32))] [(.int (2 : Int32)), (.ref b122)])) rfl (by rw [hml]; rfl) (Steps.refl _) (argsL := [(.int (2 : Int32))]) (rest := []) (lenOf pd_7 rfl) rfl (by show 2 * 0 + _ ≤ _; exact Nat.le_of_eq rfl) (hb hby at_134) (fun _ _ => ⟨rfl, eh139, (by decide : 5 + 0 ≤ _), (by decide : 16 + 0 ≤ _)⟩)
        dsimp only [Pt.U, Pt.locs, Pt.cells, Pt.slots] at X142 l142 y142 z142 st142 hQ142
        subst l142 y142 z142
        obtain ⟨rfl, Nq142, eh142⟩ := hQ142
        have N142 := Fr.app N139 Nq142
        refine own_tr st142 ?_
        show own_G _ _ _ (T142.setTop (mkF m 139 #[.val (.int p0), .val (.int p1), .val (.int i), .val (.ref b122), .val (.int (3 : Int32))] [(.ref el2122)])) _ _ _ _
        obtain ⟨T143, X143, e143, st143⟩ := castY X142 hx hZ hown (hw _ (List.mem_of_getElem? (i := 103) rfl)) eh142 (Ins.self r122_8) (g := (mkF m 139 #[.val (.int p0), .val (.int p1), .val (.int i), .val (.ref b122), .val (.int (3 : Int32))] [(.ref el2122)])) rfl rfl (hb hby at_139)
        refine own_go (fun _ k => st143 _ k) ?_
        show own_G _ _ _ (T143.setTop (mkF m 142 #[.val (.int p0), .val (.int p1), .val (.int i), .val (.ref b122), .val (.int (3 : Int32))] [(.ref el2122)])) _ _ _ _
        obtain ⟨cq144, kq144, q144a, q144b, q144c⟩ := isOf hZ e143 r122_8
        obtain ⟨_, _, ⟨T144, L144, k144, n144⟩, -, X144, ⟨Lc144, hQ144, l144, y144, z144⟩, st144⟩ := X143.virtualBack hx (y := (⟨"java/lang/Integer", "intValue", "()I"⟩ : MethodName)) (z := (⟨"java/lang/Integer", "intValue", "()I"⟩ : MethodName)) hown (mvT hZ (hw _ (List.mem_of_getElem? (i := 105) rfl))) (mvT hZ (hw _ (List.mem_of_getElem? (i := 106) rfl))) (notFace_of_selects (args := #[]) (mvT hZ (hw _ (List.mem_of_getElem? (i := 108) rfl)))) (mvT hZ (hw _ (List.mem_of_getElem? (i := 108) rfl))) (mvT hZ (hw _ (List.mem_of_getElem? (i := 107) rfl))) (by decide) (backOf (W := 0) (rm17 l Z a0 hw [] el2122 (i - (31 : Int32)) T122.heap n0 Zs122 r122_9) hZ (hw _ (List.mem_of_getElem? (i := 109) rfl)) (hw _ (List.mem_of_getElem? (i := 45) rfl)) (by decide) (by decide)) q144a q144c (g := (mkF m 142 #[.val (.int p0), .val (.int p1), .val (.int i), .val (.ref b122), .val (.int (3 : Int32))] [(.ref el2122)])) rfl (by rw [hml]; rfl) (Steps.refl _) (argsL := []) (rest := []) (lenOf pd_11 rfl) rfl (by show 2 * 0 + _ ≤ _; exact Nat.le_of_eq rfl) (hb hby at_142) (fun _ _ => ⟨rfl, e143, (by decide : 5 + 0 ≤ _), (by decide : 16 + 0 ≤ _)⟩)
        dsimp only [Pt.U, Pt.locs, Pt.cells, Pt.slots] at X144 l144 y144 z144 st144 hQ144
        subst l144 y144 z144
        obtain ⟨rfl, Nq144, eh144⟩ := hQ144
        have N144 := Fr.app N142 Nq144
        refine own_tr st144 ?_
        show own_G _ _ _ (T144.setTop (mkF m 145 #[.val (.int p0), .val (.int p1), .val (.int i), .val (.ref b122), .val (.int (3 : Int32))] [(.int (i - (31 : Int32)))])) _ _ _ _
        refine own_go (fun _ k => XS.iloadN X144.here hx rfl (hb hby at_145) rfl k) ?_
        show own_G _ _ _ (T144.setTop (mkF m 146 #[.val (.int p0), .val (.int p1), .val (.int i), .val (.ref b122), .val (.int (3 : Int32))] [(.int i), (.int (i - (31 : Int32)))])) _ _ _ _
        refine own_go (fun _ k => XS.bipush X144.here hx rfl (hb hby at_146) k) ?_
        show own_G _ _ _ (T144.setTop (mkF m 148 #[.val (.int p0), .val (.int p1), .val (.int i), .val (.ref b122), .val (.int (3 : Int32))] [(.int (31 : Int32)), (.int i), (.int (i - (31 : Int32)))])) _ _ _ _
        refine own_go (fun _ k => XS.isub X144.here hx rfl (hb hby at_148) rfl k) ?_
        show own_G _ _ _ (T144.setTop (mkF m 149 #[.val (.int p0), .val (.int p1), .val (.int i), .val (.ref b122), .val (.int (3 : Int32))] [(.int (i - (31 : Int32))), (.int (i - (31 : Int32)))])) _ _ _ _
        have hc145 : (i - (31 : Int32)) = (i - (31 : Int32)) := rfl
        refine own_go (fun _ k => XS.icmpYes X144.here hx rfl (pc0 := 149) (pc' := 154) rfl (hb hby at_149) rfl (teq hc145).1 (by decide) (by decide) k) ?_
        show own_G _ _ _ (T144.setTop (mkF m 154 #[.val (.int p0), .val (.int p1), .val (.int i), .val (.ref b122), .val (.int (3 : Int32))] [])) _ _ _ _
        refine own_go (fun _ k => XS.iconst X144.here hx rfl (hb hby at_154) k) ?_
        show own_G _ _ _ (T144.setTop (mkF m 155 #[.val (.int p0), .val (.int p1), .val (.int i), .val (.ref b122), .val (.int (3 : Int32))] [(.int (1 : Int32))])) _ _ _ _
        exact own_endN X144 hx hlk (t := .boolean) Bd.returns (by simp) (hb hby at_155) (by decide) (by decide) (Q := (Q0 Z p0 p1 d0 k0 ca cc da kd h0 n0)) (by rw [eh144]; exact ⟨rfl, N144, K122_0⟩)
theorem own_len {Z : State} {args : Array Value} {t : Term} {a : Addr} {c : Cell} {ty : FieldType} {n : Int32} (ht : t.eval args Z none [] Z = some (.ref a)) (A : Arr Z Z.heap a c ty) (h : (Jvm.Cond.eq (.length t) (.int n)).value args Z none Z [] = some true) : c.slots.size < 2 ^ 31 ∧ c.slots.size.toInt32 = n := by
  have e := eqv_i (F := .int n) (Term.int_eval n) h
  by_cases hl : c.slots.size < 2 ^ 31
  · refine ⟨hl, ?_⟩
    have e2 := len_f ht (A.fin (Vm.Alike.refl _)) hl
    exact Value.int.inj (Option.some.inj (e2.symm.trans e))
  · exfalso
    have e3 := A.fin (Vm.Alike.refl _)
    simp [Term.eval, ht, e3, hl] at e
theorem own_elem {Z : State} {args : Array Value} {t : Term} {a : Addr} {c : Cell} {ty : FieldType} {j v : Int32} (ht : t.eval args Z none [] Z = some (.ref a)) (A : Arr Z Z.heap a c ty) (h : (Jvm.Cond.eq (.elem t (.int j)) (.int v)).value args Z none Z [] = some true) : c.slots[j.toNatClampNeg]? = some (.int v) :=
  (elem_in (eqv_i (F := .int v) (Term.int_eval v) h) ht (Term.int_eval j) A.1).2
set_option maxRecDepth 65536 in
set_option maxHeartbeats 40000000 in
theorem comes_1 {Post : Tables → Env → Array Value → State → Outcome → State → Prop} (hpost : ∀ tb e args s v u, (limb_1_1.after args s (.returned v) u = true ∧ limb_1_2.after args s (.returned v) u = true ∧ True) → FrameEnd s (.returned v) u (Jvm.fieldLocs frame_1_writes args s ++ Jvm.arrayLocs frame_1_arrays args s ++ Jvm.staticLocs frame_1_statics s) 24 128 → Post tb e args s (.returned v) u) :
    ArmFor flags0 classFile x code maxLocals ret World_1 tables_1 room_1 Calls_1 rest_1 Pre_1 Post := by
  intro l hfl _ _ p e ha hc hk s m args below hf hA hF happ hP
  obtain ⟨hcalls, hrest, hpre⟩ := hP
  obtain ⟨-, -, -, hnamed, -, -, -, hat⟩ := (Spec.applies_iff hf).mp happ
  obtain ⟨hg, hn⟩ := and_e (Cond.before_iff.mp (show (Jvm.Cond.and given_1 narrow_1).before args s = true from hpre))
  obtain ⟨g0, hg1⟩ := and_e hg
  obtain ⟨a0, r0⟩ := and_e hg1
  obtain ⟨w0, w1, rfl⟩ : ∃ w0 w1 : Value, args = #[w0, w1] := by
    have hs : args.size = 2 := by simpa [Cond.value, given_1] using g0
    obtain ⟨L⟩ := args
    match L, hs with
    | [w0, w1], _ => exact ⟨w0, w1, rfl⟩
  have hw := fun d (hd : d ∈ tables_1) => atoms_spec (ws := Jvm.Cond.code x code maxLocals ret :: tables_1) hat d (List.mem_cons_of_mem _ hd)
  have hfit : Fit s := fun {y c} hc i hi => by
    obtain ⟨ha, rfl⟩ := Array.getElem?_eq_some_iff.mp hc
    have q := List.all_eq_true.mp ((Array.all_eq_true_iff_forall_mem.mp hF) _ (Array.getElem_mem ha)) i (List.mem_range.mpr hi)
    simpa [Array.getElem?_eq_getElem hi] using q
  obtain ⟨i0, ei0⟩ := is_v a0
  obtain rfl : w0 = (.int i0) := Option.some.inj ei0
  obtain ⟨i1, ei1⟩ := is_v r0
  obtain rfl : w1 = (.int i1) := Option.some.inj ei1
  obtain ⟨hsets, hown0⟩ := atoms_of _ (rest_1_c_eq ▸ (show rest_1_c.before _ s = true from hrest))
  obtain ⟨q1, u1⟩ := and_e hn
  obtain ⟨q2, u2⟩ := and_e u1
  obtain ⟨q3, u3⟩ := and_e u2
  obtain ⟨q4, q5⟩ := and_e u3
  obtain ⟨da, eda⟩ := arr_v q1
  obtain ⟨cd, AD⟩ := Arr.start eda q1
  obtain ⟨lq, le⟩ := own_len eda AD q2
  have E0 := own_elem eda AD q3
  have E1 := own_elem eda AD q4
  have E2 := own_elem eda AD q5
  have VD := Arv.start (vs := [.int 1, .int 7, .int 31]) (dv := .int 0) hfit AD lq le (by decide) rfl ⟨E0, E1, E2, trivial⟩
  have SD := Sta.start eda (Or.inr ⟨(hw _ (List.mem_of_getElem? (i := 2) rfl)), (hw _ (List.mem_of_getElem? (i := 31) rfl))⟩)
  obtain ⟨d0, ed0⟩ := arr_v (Cond.before_iff.mp (hsets _ (List.mem_of_getElem? (i := 6) rfl)))
  obtain ⟨c0, A0⟩ := Arr.start ed0 (Cond.before_iff.mp (hsets _ (List.mem_of_getElem? (i := 6) rfl)))
  obtain ⟨lq0, le0⟩ := own_len ed0 A0 (Cond.before_iff.mp (hsets _ (List.mem_of_getElem? (i := 8) rfl)))
  have V0 := Arv.start (vs := []) (dv := .null) hfit A0 lq0 le0 (by decide) rfl trivial
  have SE := Sta.start ed0 (Or.inr ⟨(hw _ (List.mem_of_getElem? (i := 6) rfl)), (hsets _ (List.mem_of_getElem? (i := 2) rfl))⟩)
  obtain ⟨ca, eca⟩ := arr_v (Cond.before_iff.mp (hsets _ (List.mem_of_getElem? (i := 13) rfl)))
  obtain ⟨cc, AC⟩ := Arr.start eca (Cond.before_iff.mp (hsets _ (List.mem_of_getElem? (i := 13) rfl)))
  obtain ⟨lqc, lec⟩ := own_len eca AC (Cond.before_iff.mp (hsets _ (List.mem_of_getElem? (i := 15) rfl)))
  have SC := Sta.start eca (Or.inr ⟨(hw _ (List.mem_of_getElem? (i := 48) rfl)), (hsets _ (List.mem_of_getElem? (i := 11) rfl))⟩)
  have eh := eqv_i (F := .int 127) (Term.int_eval 127) (Cond.before_iff.mp (hsets _ (List.mem_of_getElem? (i := 12) rfl)))
  have SH := Sta.start eh (Or.inl (hsets _ (List.mem_of_getElem? (i := 10) rfl)))
  have BX : Bxs s ca cc "java/lang/Integer" "I" (256 : Int32) (fun j => .int (j - 128)) := Bxs.start (fun _ => eca) AC lqc lec (by decide) (Cond.before_iff.mp (hsets _ (List.mem_of_getElem? (i := 16) rfl))) (fun X j nn h => eqv_i (by have e1 := idx_at (args := #[.int i0, .int i1]) (s := s) (first := s) (o := none) nn; simp [Term.eval] at e1 ⊢; simp [e1]) h)
  obtain ⟨n, o, h1, h2, h3, _, L, rfl, ⟨rfl, N, -⟩, hq⟩ := rm0 l s _ hw tables_1 i0 i1 d0 c0.cls ca cc da cd.cls s.heap s.heap.size (Nat.le_refl _) (Old.start s) SE V0 SH SC BX SD VD p e ha hc hk s m _ below hf ((Spec.applies_iff_loose hf).mp happ).1 ⟨rfl, State.Warmed39.refl s, rfl⟩ trivial
  refine ⟨n, _, h1, h2, h3, hpost _ _ _ _ _ _ ⟨Cond.after_iff.mpr rfl, Cond.after_iff.mpr (eq_i res_at (Term.int_eval (1)) (rfl)), trivial⟩ ⟨hq.1, hq.2.1, (hq.2.2.sift fun y hy => Or.inr (N y hy)).mono (by decide) (by decide)⟩⟩
theorem main_1_1 : Claimed_1_1 := comes_1 fun _ _ _ _ _ _ h hF => ⟨h.1, hF⟩
theorem main_1_2 : Claimed_1_2 := comes_1 fun _ _ _ _ _ _ h hF => ⟨h.2.1, hF⟩
end Jvm.Pilot.@@N@@
namespace Jvm.Pilot.@@N@@
open Jvm Jvm.ClassFile Sem Op Lib Jvm.Free Jvm.Stand Jvm.Pilot.@@N@@.Jvm.D
/-! MADE BY PROGRAM (witnessworld.py) out of the Statement's table words and the real class files: 28 classes; the members and pool entries that the words name. The judged class is class 1, her method 1. -/
namespace start1
open Jvm.ClassFile
def u (s : String) : CpInfo := .utf8 (stringToUtf16 s)
/-- a pool by its gaps: so many unusable entries, then the entry; so many at the end -/
def gap : Nat → List CpInfo → List CpInfo
  | 0, r => r
  | n + 1, r => .unusable :: gap n r
def poolList (es : List (Nat × CpInfo)) (last : Nat) : List CpInfo := es.foldr (fun e r => gap e.1 (e.2 :: r)) (gap last [])
def pool (es : List (Nat × CpInfo)) (last : Nat) : Array CpInfo := ⟨poolList es last⟩
def fileOf (pool : Array CpInfo) (this : Nat) (attrs : Array Attribute := #[]) (ms : Array MethodInfo := #[]) (fl : Nat := 33) (sup : Nat := 0) (ifs : Array Nat := #[]) (fds : Array FieldInfo := #[]) : ClassFile where
  minorVersion := 0
  majorVersion := 65
  constantPool := pool
  accessFlags := fl
  thisClass := this
  superClass := sup
  interfaces := ifs
  fields := fds
  methods := ms
  attributes := attrs
def plain (name : String) (sup : Option ClassId) : Class where
  name := name
  kind := .ordinary
  loader := none
  accessFlags := 33
  super := sup
  interfaces := #[]
  cf := none
  fields := #[]
  methods := #[]
  instanceTypes := #[]
  staticTypes := #[]
  resolved := #[]
  callSites := []
  init := .initialized
  statics := none
  mirror := none

def pool0 : Array CpInfo := pool [(5, u "<init>"), (0, u "()V"), (1, .class_ 10), (1, u "java/lang/Object")] 113

def k0c0 : Code := { maxStack := 0, maxLocals := 1, code := object_method_1_code, exceptionTable := #[], attributes := #[] }
def k0m0 : Method := { name := "<init>", desc := "()V", sig := { parameters := [], returnType := none }, accessFlags := 1, code := some k0c0 }
/-- java/lang/Object -/
def k0 : Class := { plain "java/lang/Object" none with
  accessFlags := 33
  interfaces := #[]
  cf := some (fileOf pool0 8 #[] #[{ accessFlags := 1, nameIndex := 5, descriptorIndex := 6, attributes := #[] }] 33 0 #[] #[])
  fields := #[]
  methods := #[k0m0]
  instanceTypes := #[]
  staticTypes := #[]
  resolved := Array.replicate 124 none
  statics := none }

def pool1 : Array CpInfo := pool [(2, .class_ 4), (1, u "java/lang/Object"), (0, u "<init>"), (0, u "()V"), (0, .integer 2147483647), (0, .methodref 9 10), (0, .class_ 11), (0, .nameAndType 12 13), (0, u "com/example/mini_wire/bench/Application"), (0, u "dependencies"), (0, u "(I)Ljava/util/List;"), (0, .interfaceMethodref 15 16), (0, .class_ 17), (0, .nameAndType 18 19), (0, u "java/util/List"), (0, u "size"), (0, u "()I"), (0, .interfaceMethodref 15 21), (0, .nameAndType 22 23), (0, u "get"), (0, u "(I)Ljava/lang/Object;"), (0, .class_ 25), (0, u "java/lang/Integer"), (0, .methodref 24 27), (0, .nameAndType 28 19), (0, u "intValue"), (0, .class_ 30), (0, u "com/example/mini_wire/bench/ApplicationDependenciesPinLaw"), (2, u "law"), (0, u "(II)Z")] 3

def k1m0 : Method := { name := "<init>", desc := "()V", sig := { parameters := [], returnType := none }, accessFlags := 2, code := none }
def k1c1 : Code := { maxStack := 3, maxLocals := 5, code := code, exceptionTable := #[], attributes := #[] }
def k1m1 : Method := { name := "law", desc := "(II)Z", sig := { parameters := [.int, .int], returnType := some .boolean }, accessFlags := 9, code := some k1c1 }
/-- com/example/mini_wire/bench/ApplicationDependenciesPinLaw -/
def k1 : Class := { plain "com/example/mini_wire/bench/ApplicationDependenciesPinLaw" (some 0) with
  accessFlags := 49
  interfaces := #[]
  cf := some (fileOf pool1 29 #[] #[{ accessFlags := 2, nameIndex := 5, descriptorIndex := 6, attributes := #[] }, { accessFlags := 9, nameIndex := 33, descriptorIndex := 34, attributes := #[] }] 49 2 #[] #[])
  fields := #[]
  methods := #[k1m0, k1m1]
  instanceTypes := #[]
  staticTypes := #[]
  resolved := Array.replicate 38 none
  statics := none }

def pool2 : Array CpInfo := pool [(1, .class_ 2), (0, u "com/example/mini_wire/bench/Application"), (1, .class_ 6), (0, .nameAndType 7 8), (0, u "java/lang/Object"), (0, u "<init>"), (0, u "()V"), (3, .class_ 14), (1, u "java/lang/Integer"), (8, .class_ 24), (0, u "java/util/ArrayList"), (0, .methodref 23 5), (0, .fieldref 1 27), (0, .nameAndType 28 29), (0, u "DISTANCES"), (0, u "[I"), (0, .methodref 12 31), (0, .nameAndType 32 33), (0, u "valueOf"), (0, u "(I)Ljava/lang/Integer;"), (0, .interfaceMethodref 35 36), (0, .class_ 37), (0, .nameAndType 38 39), (0, u "java/util/List"), (0, u "add"), (0, u "(Ljava/lang/Object;)Z"), (58, u "dependencies"), (0, u "(I)Ljava/util/List;"), (82, u "Ljava/lang/String;"), (0, u "PACKAGE"), (1, u "COUNTS_CLASS"), (2, u "CLASS_PREFIX"), (0, u "PACKAGE_LINE")] 49

def k2m0 : Method := { name := "<init>", desc := "()V", sig := { parameters := [], returnType := none }, accessFlags := 2, code := none }
def k2c1 : Code := { maxStack := 3, maxLocals := 6, code := prog_1_method_3_code, exceptionTable := #[], attributes := #[] }
def k2m1 : Method := { name := "dependencies", desc := "(I)Ljava/util/List;", sig := { parameters := [.int], returnType := some (.object "java/util/List") }, accessFlags := 8, code := some k2c1 }
/-- com/example/mini_wire/bench/Application -/
def k2 : Class := { plain "com/example/mini_wire/bench/Application" (some 0) with
  accessFlags := 48
  interfaces := #[]
  cf := some (fileOf pool2 1 #[] #[{ accessFlags := 2, nameIndex := 7, descriptorIndex := 8, attributes := #[] }, { accessFlags := 8, nameIndex := 98, descriptorIndex := 99, attributes := #[] }] 48 4 #[] #[{ accessFlags := 26, nameIndex := 183, descriptorIndex := 182, attributes := #[] }, { accessFlags := 24, nameIndex := 185, descriptorIndex := 182, attributes := #[] }, { accessFlags := 26, nameIndex := 188, descriptorIndex := 182, attributes := #[] }, { accessFlags := 26, nameIndex := 189, descriptorIndex := 182, attributes := #[] }, { accessFlags := 26, nameIndex := 28, descriptorIndex := 29, attributes := #[] }])
  fields := #[{ name := "PACKAGE", type := (.object "java/lang/String"), accessFlags := 26, slot := 0, constantValue := 0 }, { name := "COUNTS_CLASS", type := (.object "java/lang/String"), accessFlags := 24, slot := 1, constantValue := 0 }, { name := "CLASS_PREFIX", type := (.object "java/lang/String"), accessFlags := 26, slot := 2, constantValue := 0 }, { name := "PACKAGE_LINE", type := (.object "java/lang/String"), accessFlags := 26, slot := 3, constantValue := 0 }, { name := "DISTANCES", type := (.array .int), accessFlags := 26, slot := 4, constantValue := 0 }]
  methods := #[k2m0, k2m1]
  instanceTypes := #[]
  staticTypes := #[(.object "java/lang/String"), (.object "java/lang/String"), (.object "java/lang/String"), (.object "java/lang/String"), (.array .int)]
  resolved := Array.replicate 239 none
  statics := some 0 }

def pool3 : Array CpInfo := pool [(8, .class_ 10), (1, u "java/lang/Iterable"), (24, .class_ 36), (0, u "java/lang/Object")] 25

/-- java/lang/Iterable -/
def k3 : Class := { plain "java/lang/Iterable" (some 0) with
  accessFlags := 1537
  interfaces := #[]
  cf := some (fileOf pool3 8 #[] #[] 1537 35 #[] #[])
  fields := #[]
  methods := #[]
  instanceTypes := #[]
  staticTypes := #[]
  resolved := Array.replicate 62 none
  statics := none }

def pool4 : Array CpInfo := pool [(10, .class_ 12), (1, u "java/util/Collection"), (47, .class_ 61), (0, u "java/lang/Object"), (0, .class_ 63), (0, u "java/lang/Iterable")] 51

/-- java/util/Collection -/
def k4 : Class := { plain "java/util/Collection" (some 0) with
  accessFlags := 1537
  interfaces := #[3]
  cf := some (fileOf pool4 10 #[] #[] 1537 60 #[62] #[])
  fields := #[]
  methods := #[]
  instanceTypes := #[]
  staticTypes := #[]
  resolved := Array.replicate 115 none
  statics := none }

def pool5 : Array CpInfo := pool [(1, .methodref 2 3), (0, .class_ 4), (0, .nameAndType 5 6), (0, u "java/lang/Object"), (0, u "<init>"), (0, u "()V"), (1, .class_ 10), (1, u "java/util/AbstractCollection"), (66, .class_ 78), (0, u "java/util/Collection")] 81

def k5c0 : Code := { maxStack := 1, maxLocals := 1, code := jdk_22_method_1_code, exceptionTable := #[], attributes := #[] }
def k5m0 : Method := { name := "<init>", desc := "()V", sig := { parameters := [], returnType := none }, accessFlags := 4, code := some k5c0 }
/-- java/util/AbstractCollection -/
def k5 : Class := { plain "java/util/AbstractCollection" (some 0) with
  accessFlags := 1057
  interfaces := #[4]
  cf := some (fileOf pool5 8 #[] #[{ accessFlags := 4, nameIndex := 5, descriptorIndex := 6, attributes := #[] }] 1057 2 #[77] #[])
  fields := #[]
  methods := #[k5m0]
  instanceTypes := #[]
  staticTypes := #[]
  resolved := Array.replicate 160 none
  statics := none }

def pool6 : Array CpInfo := pool [(8, .class_ 10), (1, u "java/util/SequencedCollection"), (15, .class_ 27), (0, u "java/lang/Object"), (0, .class_ 29), (0, u "java/util/Collection")] 27

/-- java/util/SequencedCollection -/
def k6 : Class := { plain "java/util/SequencedCollection" (some 0) with
  accessFlags := 1537
  interfaces := #[4]
  cf := some (fileOf pool6 8 #[] #[] 1537 26 #[28] #[])
  fields := #[]
  methods := #[]
  instanceTypes := #[]
  staticTypes := #[]
  resolved := Array.replicate 57 none
  statics := none }

def pool7 : Array CpInfo := pool [(8, .class_ 10), (1, u "java/util/List"), (49, u "add"), (3, u "(Ljava/lang/Object;)Z"), (10, u "get"), (0, u "(I)Ljava/lang/Object;"), (2, u "size"), (0, u "()I"), (22, .class_ 104), (0, u "java/lang/Object"), (15, .class_ 121), (0, u "java/util/SequencedCollection")] 129

def k7m0 : Method := { name := "size", desc := "()I", sig := { parameters := [], returnType := some .int }, accessFlags := 1025, code := none }
def k7m1 : Method := { name := "add", desc := "(Ljava/lang/Object;)Z", sig := { parameters := [(.object "java/lang/Object")], returnType := some .boolean }, accessFlags := 1025, code := none }
def k7m2 : Method := { name := "get", desc := "(I)Ljava/lang/Object;", sig := { parameters := [.int], returnType := some (.object "java/lang/Object") }, accessFlags := 1025, code := none }
/-- java/util/List -/
def k7 : Class := { plain "java/util/List" (some 0) with
  accessFlags := 1537
  interfaces := #[6]
  cf := some (fileOf pool7 8 #[] #[{ accessFlags := 1025, nameIndex := 79, descriptorIndex := 80, attributes := #[] }, { accessFlags := 1025, nameIndex := 60, descriptorIndex := 64, attributes := #[] }, { accessFlags := 1025, nameIndex := 75, descriptorIndex := 76, attributes := #[] }] 1537 103 #[120] #[])
  fields := #[]
  methods := #[k7m0, k7m1, k7m2]
  instanceTypes := #[]
  staticTypes := #[]
  resolved := Array.replicate 251 none
  statics := none }

def pool8 : Array CpInfo := pool [(1, .methodref 2 3), (0, .class_ 4), (0, .nameAndType 5 6), (0, u "java/util/AbstractCollection"), (0, u "<init>"), (0, u "()V"), (0, .fieldref 8 9), (0, .class_ 10), (0, .nameAndType 11 12), (0, u "java/util/AbstractList"), (0, u "modCount"), (0, u "I"), (64, .class_ 78), (0, u "java/util/AbstractList$Itr"), (3, .class_ 83), (0, u "java/util/AbstractList$ListItr"), (9, .class_ 94), (0, u "java/util/AbstractList$RandomAccessSubList"), (3, .class_ 99), (0, u "java/util/AbstractList$SubList"), (33, .class_ 134), (0, u "java/util/List"), (73, .class_ 209), (0, u "java/util/AbstractList$SubList$1"), (0, .class_ 211), (0, u "java/util/AbstractList$RandomAccessSpliterator")] 6

def k8c0 : Code := { maxStack := 2, maxLocals := 1, code := jdk_39_method_1_code, exceptionTable := #[], attributes := #[] }
def k8m0 : Method := { name := "<init>", desc := "()V", sig := { parameters := [], returnType := none }, accessFlags := 4, code := some k8c0 }
/-- java/util/AbstractList -/
def k8 : Class := { plain "java/util/AbstractList" (some 5) with
  accessFlags := 1057
  interfaces := #[7]
  cf := some (fileOf pool8 8 #[.nestMembers #[93, 98, 208, 210, 82, 77]] #[{ accessFlags := 4, nameIndex := 5, descriptorIndex := 6, attributes := #[] }] 1057 2 #[133] #[{ accessFlags := 132, nameIndex := 11, descriptorIndex := 12, attributes := #[] }])
  fields := #[{ name := "modCount", type := .int, accessFlags := 132, slot := 0, constantValue := 0 }]
  methods := #[k8m0]
  instanceTypes := #[.int]
  staticTypes := #[]
  resolved := Array.replicate 218 none
  statics := none }

def pool9 : Array CpInfo := pool [(1, .class_ 2), (0, u "java/util/RandomAccess"), (0, .class_ 4), (0, u "java/lang/Object")] 2

/-- java/util/RandomAccess -/
def k9 : Class := { plain "java/util/RandomAccess" (some 0) with
  accessFlags := 1537
  interfaces := #[]
  cf := some (fileOf pool9 1 #[] #[] 1537 3 #[] #[])
  fields := #[]
  methods := #[]
  instanceTypes := #[]
  staticTypes := #[]
  resolved := Array.replicate 7 none
  statics := none }

def pool10 : Array CpInfo := pool [(1, .class_ 2), (0, u "java/lang/Cloneable"), (0, .class_ 4), (0, u "java/lang/Object")] 2

/-- java/lang/Cloneable -/
def k10 : Class := { plain "java/lang/Cloneable" (some 0) with
  accessFlags := 1537
  interfaces := #[]
  cf := some (fileOf pool10 1 #[] #[] 1537 3 #[] #[])
  fields := #[]
  methods := #[]
  instanceTypes := #[]
  staticTypes := #[]
  resolved := Array.replicate 7 none
  statics := none }

def pool11 : Array CpInfo := pool [(1, .class_ 2), (0, u "java/io/Serializable"), (0, .class_ 4), (0, u "java/lang/Object")] 2

/-- java/io/Serializable -/
def k11 : Class := { plain "java/io/Serializable" (some 0) with
  accessFlags := 1537
  interfaces := #[]
  cf := some (fileOf pool11 1 #[] #[] 1537 3 #[] #[])
  fields := #[]
  methods := #[]
  instanceTypes := #[]
  staticTypes := #[]
  resolved := Array.replicate 7 none
  statics := none }

def pool12 : Array CpInfo := pool [(1, .methodref 2 3), (0, .class_ 4), (0, .nameAndType 5 6), (0, u "java/util/AbstractList"), (0, u "<init>"), (0, u "()V"), (0, .class_ 8), (0, u "java/lang/Object"), (0, .fieldref 10 11), (0, .class_ 12), (0, .nameAndType 13 14), (0, u "java/util/ArrayList"), (0, u "elementData"), (0, u "[Ljava/lang/Object;"), (2, u "EMPTY_ELEMENTDATA"), (21, .fieldref 10 40), (0, .nameAndType 41 14), (0, u "DEFAULTCAPACITY_EMPTY_ELEMENTDATA"), (5, u "()[Ljava/lang/Object;"), (0, .fieldref 10 49), (0, .nameAndType 50 51), (0, u "size"), (0, u "I"), (11, .fieldref 10 64), (0, .nameAndType 65 51), (0, u "modCount"), (3, .methodref 10 70), (0, .nameAndType 71 72), (0, u "grow"), (0, u "(I)[Ljava/lang/Object;"), (6, .methodref 80 81), (0, .class_ 82), (0, .nameAndType 83 84), (0, u "java/lang/Math"), (0, u "max"), (0, u "(II)I"), (11, u "(Ljava/lang/Object;)Z"), (21, .methodref 119 120), (0, .class_ 121), (0, .nameAndType 122 84), (0, u "java/util/Objects"), (0, u "checkIndex"), (0, .methodref 10 124), (0, .nameAndType 13 125), (0, u "(I)Ljava/lang/Object;"), (3, .methodref 10 130), (0, .nameAndType 71 47), (0, .methodref 10 132), (0, .nameAndType 133 134), (0, u "add"), (0, u "(Ljava/lang/Object;[Ljava/lang/Object;I)V"), (13, .class_ 149), (0, u "java/util/List"), (36, u "()I"), (75, .class_ 263), (0, u "java/util/ArrayList$ListItr"), (3, .class_ 268), (0, u "java/util/ArrayList$Itr"), (7, .class_ 277), (0, u "java/util/ArrayList$SubList"), (12, .class_ 291), (0, u "java/util/ArrayList$ArrayListSpliterator"), (37, .class_ 330), (0, u "java/util/RandomAccess"), (0, .class_ 332), (0, u "java/lang/Cloneable"), (0, .class_ 334), (0, u "java/io/Serializable"), (0, u "serialVersionUID"), (0, u "J"), (3, u "DEFAULT_CAPACITY"), (40, u "get"), (118, .class_ 501), (0, u "java/util/ArrayList$SubList$2"), (0, .class_ 503), (0, u "java/util/ArrayList$SubList$1")] 5

def k12c0 : Code := { maxStack := 2, maxLocals := 1, code := jdk_38_method_2_code, exceptionTable := #[], attributes := #[] }
def k12m0 : Method := { name := "<init>", desc := "()V", sig := { parameters := [], returnType := none }, accessFlags := 1, code := some k12c0 }
def k12c1 : Code := { maxStack := 4, maxLocals := 4, code := jdk_38_method_6_code, exceptionTable := #[], attributes := #[] }
def k12m1 : Method := { name := "grow", desc := "(I)[Ljava/lang/Object;", sig := { parameters := [.int], returnType := some (.array (.object "java/lang/Object")) }, accessFlags := 2, code := some k12c1 }
def k12c2 : Code := { maxStack := 3, maxLocals := 1, code := jdk_38_method_7_code, exceptionTable := #[], attributes := #[] }
def k12m2 : Method := { name := "grow", desc := "()[Ljava/lang/Object;", sig := { parameters := [], returnType := some (.array (.object "java/lang/Object")) }, accessFlags := 2, code := some k12c2 }
def k12c3 : Code := { maxStack := 1, maxLocals := 1, code := jdk_38_method_8_code, exceptionTable := #[], attributes := #[] }
def k12m3 : Method := { name := "size", desc := "()I", sig := { parameters := [], returnType := some .int }, accessFlags := 1, code := some k12c3 }
def k12c4 : Code := { maxStack := 2, maxLocals := 2, code := jdk_38_method_18_code, exceptionTable := #[], attributes := #[] }
def k12m4 : Method := { name := "elementData", desc := "(I)Ljava/lang/Object;", sig := { parameters := [.int], returnType := some (.object "java/lang/Object") }, accessFlags := 0, code := some k12c4 }
def k12c5 : Code := { maxStack := 2, maxLocals := 2, code := jdk_38_method_20_code, exceptionTable := #[], attributes := #[] }
def k12m5 : Method := { name := "get", desc := "(I)Ljava/lang/Object;", sig := { parameters := [.int], returnType := some (.object "java/lang/Object") }, accessFlags := 1, code := some k12c5 }
def k12c6 : Code := { maxStack := 3, maxLocals := 4, code := jdk_38_method_24_code, exceptionTable := #[], attributes := #[] }
def k12m6 : Method := { name := "add", desc := "(Ljava/lang/Object;[Ljava/lang/Object;I)V", sig := { parameters := [(.object "java/lang/Object"), (.array (.object "java/lang/Object")), .int], returnType := none }, accessFlags := 2, code := some k12c6 }
def k12c7 : Code := { maxStack := 4, maxLocals := 2, code := jdk_38_method_25_code, exceptionTable := #[], attributes := #[] }
def k12m7 : Method := { name := "add", desc := "(Ljava/lang/Object;)Z", sig := { parameters := [(.object "java/lang/Object")], returnType := some .boolean }, accessFlags := 1, code := some k12c7 }
/-- java/util/ArrayList -/
def k12 : Class := { plain "java/util/ArrayList" (some 8) with
  accessFlags := 33
  interfaces := #[7, 9, 10, 11]
  cf := some (fileOf pool12 10 #[.nestMembers #[290, 276, 500, 502, 262, 267]] #[{ accessFlags := 1, nameIndex := 5, descriptorIndex := 6, attributes := #[] }, { accessFlags := 2, nameIndex := 71, descriptorIndex := 72, attributes := #[] }, { accessFlags := 2, nameIndex := 71, descriptorIndex := 47, attributes := #[] }, { accessFlags := 1, nameIndex := 50, descriptorIndex := 186, attributes := #[] }, { accessFlags := 0, nameIndex := 13, descriptorIndex := 125, attributes := #[] }, { accessFlags := 1, nameIndex := 381, descriptorIndex := 125, attributes := #[] }, { accessFlags := 2, nameIndex := 133, descriptorIndex := 134, attributes := #[] }, { accessFlags := 1, nameIndex := 133, descriptorIndex := 96, attributes := #[] }] 33 2 #[148, 329, 331, 333] #[{ accessFlags := 26, nameIndex := 335, descriptorIndex := 336, attributes := #[] }, { accessFlags := 26, nameIndex := 340, descriptorIndex := 51, attributes := #[] }, { accessFlags := 26, nameIndex := 17, descriptorIndex := 14, attributes := #[] }, { accessFlags := 26, nameIndex := 41, descriptorIndex := 14, attributes := #[] }, { accessFlags := 128, nameIndex := 13, descriptorIndex := 14, attributes := #[] }, { accessFlags := 2, nameIndex := 50, descriptorIndex := 51, attributes := #[] }])
  fields := #[{ name := "serialVersionUID", type := .long, accessFlags := 26, slot := 0, constantValue := 0 }, { name := "DEFAULT_CAPACITY", type := .int, accessFlags := 26, slot := 1, constantValue := 0 }, { name := "EMPTY_ELEMENTDATA", type := (.array (.object "java/lang/Object")), accessFlags := 26, slot := 2, constantValue := 0 }, { name := "DEFAULTCAPACITY_EMPTY_ELEMENTDATA", type := (.array (.object "java/lang/Object")), accessFlags := 26, slot := 3, constantValue := 0 }, { name := "elementData", type := (.array (.object "java/lang/Object")), accessFlags := 128, slot := 1, constantValue := 0 }, { name := "size", type := .int, accessFlags := 2, slot := 2, constantValue := 0 }]
  methods := #[k12m0, k12m1, k12m2, k12m3, k12m4, k12m5, k12m6, k12m7]
  instanceTypes := #[.int, (.array (.object "java/lang/Object")), .int]
  staticTypes := #[.long, .int, (.array (.object "java/lang/Object")), (.array (.object "java/lang/Object"))]
  resolved := Array.replicate 509 none
  statics := some 1 }

def pool13 : Array CpInfo := pool [(1, .methodref 2 3), (0, .class_ 4), (0, .nameAndType 5 6), (0, u "java/lang/Object"), (0, u "<init>"), (0, u "()V"), (1, .class_ 10), (1, u "java/lang/Number"), (2, .class_ 14), (0, u "java/io/Serializable"), (0, u "serialVersionUID"), (0, u "J")] 20

def k13c0 : Code := { maxStack := 1, maxLocals := 1, code := jdk_18_method_1_code, exceptionTable := #[], attributes := #[] }
def k13m0 : Method := { name := "<init>", desc := "()V", sig := { parameters := [], returnType := none }, accessFlags := 1, code := some k13c0 }
/-- java/lang/Number -/
def k13 : Class := { plain "java/lang/Number" (some 0) with
  accessFlags := 1057
  interfaces := #[11]
  cf := some (fileOf pool13 8 #[] #[{ accessFlags := 1, nameIndex := 5, descriptorIndex := 6, attributes := #[] }] 1057 2 #[13] #[{ accessFlags := 26, nameIndex := 15, descriptorIndex := 16, attributes := #[] }])
  fields := #[{ name := "serialVersionUID", type := .long, accessFlags := 26, slot := 0, constantValue := 0 }]
  methods := #[k13m0]
  instanceTypes := #[]
  staticTypes := #[.long]
  resolved := Array.replicate 37 none
  statics := none }

def pool14 : Array CpInfo := pool [(1, .class_ 2), (0, u "java/lang/Comparable"), (0, .class_ 4), (0, u "java/lang/Object")] 7

/-- java/lang/Comparable -/
def k14 : Class := { plain "java/lang/Comparable" (some 0) with
  accessFlags := 1537
  interfaces := #[]
  cf := some (fileOf pool14 1 #[] #[] 1537 3 #[] #[])
  fields := #[]
  methods := #[]
  instanceTypes := #[]
  staticTypes := #[]
  resolved := Array.replicate 12 none
  statics := none }

def pool15 : Array CpInfo := pool [(1, .class_ 2), (0, u "java/lang/constant/Constable"), (0, .class_ 4), (0, u "java/lang/Object")] 6

/-- java/lang/constant/Constable -/
def k15 : Class := { plain "java/lang/constant/Constable" (some 0) with
  accessFlags := 1537
  interfaces := #[]
  cf := some (fileOf pool15 1 #[] #[] 1537 3 #[] #[])
  fields := #[]
  methods := #[]
  instanceTypes := #[]
  staticTypes := #[]
  resolved := Array.replicate 11 none
  statics := none }

def pool16 : Array CpInfo := pool [(1, .class_ 2), (0, u "java/lang/constant/ConstantDesc"), (0, .class_ 4), (0, u "java/lang/Object")] 32

/-- java/lang/constant/ConstantDesc -/
def k16 : Class := { plain "java/lang/constant/ConstantDesc" (some 0) with
  accessFlags := 1537
  interfaces := #[]
  cf := some (fileOf pool16 1 #[] #[] 1537 3 #[] #[])
  fields := #[]
  methods := #[]
  instanceTypes := #[]
  staticTypes := #[]
  resolved := Array.replicate 37 none
  statics := none }

def pool17 : Array CpInfo := pool [(1, .class_ 2), (0, u "java/lang/Integer"), (16, u "digits"), (0, u "[C"), (46, u "<init>"), (17, u "DigitOnes"), (0, u "[B"), (2, u "DigitTens"), (10, .nameAndType 67 101), (0, u "()V"), (19, u "()I"), (65, u "valueOf"), (0, u "(I)Ljava/lang/Integer;"), (0, .class_ 190), (0, u "java/lang/Integer$IntegerCache"), (0, .fieldref 189 192), (0, .nameAndType 193 194), (0, u "high"), (0, u "I"), (0, .fieldref 189 196), (0, .nameAndType 197 198), (0, u "cache"), (0, u "[Ljava/lang/Integer;"), (0, .methodref 1 200), (0, .nameAndType 67 201), (0, u "(I)V"), (0, .methodref 203 100), (0, .class_ 204), (0, u "java/lang/Number"), (0, .fieldref 1 206), (0, .nameAndType 207 194), (0, u "value"), (5, u "intValue"), (88, u "TYPE"), (0, u "Ljava/lang/Class;"), (0, .class_ 305), (0, u "java/lang/Comparable"), (0, .class_ 307), (0, u "java/lang/constant/Constable"), (0, .class_ 309), (0, u "java/lang/constant/ConstantDesc"), (0, u "MIN_VALUE"), (1, u "MAX_VALUE"), (3, u "SIZE"), (1, u "BYTES"), (1, u "serialVersionUID"), (0, u "J")] 131

def k17c0 : Code := { maxStack := 3, maxLocals := 1, code := jdk_33_method_22_code, exceptionTable := #[], attributes := #[] }
def k17m0 : Method := { name := "valueOf", desc := "(I)Ljava/lang/Integer;", sig := { parameters := [.int], returnType := some (.object "java/lang/Integer") }, accessFlags := 9, code := some k17c0 }
def k17c1 : Code := { maxStack := 2, maxLocals := 2, code := jdk_33_method_23_code, exceptionTable := #[], attributes := #[] }
def k17m1 : Method := { name := "<init>", desc := "(I)V", sig := { parameters := [.int], returnType := none }, accessFlags := 1, code := some k17c1 }
def k17c2 : Code := { maxStack := 1, maxLocals := 1, code := jdk_33_method_27_code, exceptionTable := #[], attributes := #[] }
def k17m2 : Method := { name := "intValue", desc := "()I", sig := { parameters := [], returnType := some .int }, accessFlags := 1, code := some k17c2 }
/-- java/lang/Integer -/
def k17 : Class := { plain "java/lang/Integer" (some 13) with
  accessFlags := 49
  interfaces := #[14, 15, 16]
  cf := some (fileOf pool17 1 #[.nestMembers #[189]] #[{ accessFlags := 9, nameIndex := 187, descriptorIndex := 188, attributes := #[] }, { accessFlags := 1, nameIndex := 67, descriptorIndex := 201, attributes := #[] }, { accessFlags := 1, nameIndex := 213, descriptorIndex := 121, attributes := #[] }] 49 203 #[304, 306, 308] #[{ accessFlags := 25, nameIndex := 310, descriptorIndex := 194, attributes := #[] }, { accessFlags := 25, nameIndex := 312, descriptorIndex := 194, attributes := #[] }, { accessFlags := 25, nameIndex := 302, descriptorIndex := 303, attributes := #[] }, { accessFlags := 24, nameIndex := 19, descriptorIndex := 20, attributes := #[] }, { accessFlags := 24, nameIndex := 89, descriptorIndex := 86, attributes := #[] }, { accessFlags := 24, nameIndex := 85, descriptorIndex := 86, attributes := #[] }, { accessFlags := 18, nameIndex := 207, descriptorIndex := 194, attributes := #[] }, { accessFlags := 25, nameIndex := 316, descriptorIndex := 194, attributes := #[] }, { accessFlags := 25, nameIndex := 318, descriptorIndex := 194, attributes := #[] }, { accessFlags := 26, nameIndex := 320, descriptorIndex := 321, attributes := #[] }])
  fields := #[{ name := "MIN_VALUE", type := .int, accessFlags := 25, slot := 0, constantValue := 0 }, { name := "MAX_VALUE", type := .int, accessFlags := 25, slot := 1, constantValue := 0 }, { name := "TYPE", type := (.object "java/lang/Class"), accessFlags := 25, slot := 2, constantValue := 0 }, { name := "digits", type := (.array .char), accessFlags := 24, slot := 3, constantValue := 0 }, { name := "DigitTens", type := (.array .byte), accessFlags := 24, slot := 4, constantValue := 0 }, { name := "DigitOnes", type := (.array .byte), accessFlags := 24, slot := 5, constantValue := 0 }, { name := "value", type := .int, accessFlags := 18, slot := 0, constantValue := 0 }, { name := "SIZE", type := .int, accessFlags := 25, slot := 6, constantValue := 0 }, { name := "BYTES", type := .int, accessFlags := 25, slot := 7, constantValue := 0 }, { name := "serialVersionUID", type := .long, accessFlags := 26, slot := 8, constantValue := 0 }]
  methods := #[k17m0, k17m1, k17m2]
  instanceTypes := #[.int]
  staticTypes := #[.int, .int, (.object "java/lang/Class"), (.array .char), (.array .byte), (.array .byte), .int, .int, .long]
  resolved := Array.replicate 453 none
  statics := none }

def pool18 : Array CpInfo := pool [(2, .class_ 4), (1, u "java/lang/Object"), (0, u "<init>"), (0, u "()V"), (0, .class_ 8), (0, u "java/lang/Integer"), (7, .class_ 18), (1, u "java/lang/Integer$IntegerCache"), (0, u "$assertionsDisabled"), (0, u "Z"), (26, u "high"), (0, u "I"), (8, u "archivedCache"), (0, u "[Ljava/lang/Integer;"), (12, u "cache"), (0, u "low")] 27

def k18m0 : Method := { name := "<init>", desc := "()V", sig := { parameters := [], returnType := none }, accessFlags := 2, code := none }
/-- java/lang/Integer$IntegerCache -/
def k18 : Class := { plain "java/lang/Integer$IntegerCache" (some 0) with
  accessFlags := 48
  interfaces := #[]
  cf := some (fileOf pool18 16 #[.nestHost 7] #[{ accessFlags := 2, nameIndex := 5, descriptorIndex := 6, attributes := #[] }] 48 2 #[] #[{ accessFlags := 24, nameIndex := 72, descriptorIndex := 48, attributes := #[] }, { accessFlags := 24, nameIndex := 47, descriptorIndex := 48, attributes := #[] }, { accessFlags := 24, nameIndex := 71, descriptorIndex := 58, attributes := #[] }, { accessFlags := 8, nameIndex := 57, descriptorIndex := 58, attributes := #[] }, { accessFlags := 4120, nameIndex := 19, descriptorIndex := 20, attributes := #[] }])
  fields := #[{ name := "low", type := .int, accessFlags := 24, slot := 0, constantValue := 0 }, { name := "high", type := .int, accessFlags := 24, slot := 1, constantValue := 0 }, { name := "cache", type := (.array (.object "java/lang/Integer")), accessFlags := 24, slot := 2, constantValue := 0 }, { name := "archivedCache", type := (.array (.object "java/lang/Integer")), accessFlags := 8, slot := 3, constantValue := 0 }, { name := "$assertionsDisabled", type := .boolean, accessFlags := 4120, slot := 4, constantValue := 0 }]
  methods := #[k18m0]
  instanceTypes := #[]
  staticTypes := #[.int, .int, (.array (.object "java/lang/Integer")), (.array (.object "java/lang/Integer")), .boolean]
  resolved := Array.replicate 100 none
  statics := some 2 }

def pool19 : Array CpInfo := pool [(1, .class_ 2), (0, u "java/lang/Math"), (1, .class_ 6), (1, u "java/lang/Object"), (0, u "<init>"), (0, u "()V"), (89, .class_ 100), (1, u "java/lang/Math$RandomNumberGeneratorHolder"), (71, u "negativeZeroFloatBits"), (0, u "J"), (2, u "negativeZeroDoubleBits"), (21, u "max"), (46, u "$assertionsDisabled"), (0, u "Z"), (88, u "(II)I"), (2, u "twoToTheDoubleScaleDown"), (0, u "D"), (4, u "twoToTheDoubleScaleUp"), (9, u "E"), (3, u "PI"), (2, u "TAU"), (2, u "DEGREES_TO_RADIANS"), (0, u "RADIANS_TO_DEGREES")] 94

def k19m0 : Method := { name := "<init>", desc := "()V", sig := { parameters := [], returnType := none }, accessFlags := 2, code := none }
def k19c1 : Code := { maxStack := 2, maxLocals := 2, code := jdk_29_method_65_code, exceptionTable := #[], attributes := #[] }
def k19m1 : Method := { name := "max", desc := "(II)I", sig := { parameters := [.int, .int], returnType := some .int }, accessFlags := 9, code := some k19c1 }
/-- java/lang/Math -/
def k19 : Class := { plain "java/lang/Math" (some 0) with
  accessFlags := 49
  interfaces := #[]
  cf := some (fileOf pool19 1 #[.nestMembers #[98]] #[{ accessFlags := 2, nameIndex := 7, descriptorIndex := 8, attributes := #[] }, { accessFlags := 9, nameIndex := 198, descriptorIndex := 335, attributes := #[] }] 49 4 #[] #[{ accessFlags := 25, nameIndex := 354, descriptorIndex := 339, attributes := #[] }, { accessFlags := 25, nameIndex := 358, descriptorIndex := 339, attributes := #[] }, { accessFlags := 25, nameIndex := 361, descriptorIndex := 339, attributes := #[] }, { accessFlags := 26, nameIndex := 364, descriptorIndex := 339, attributes := #[] }, { accessFlags := 26, nameIndex := 365, descriptorIndex := 339, attributes := #[] }, { accessFlags := 26, nameIndex := 172, descriptorIndex := 173, attributes := #[] }, { accessFlags := 26, nameIndex := 176, descriptorIndex := 173, attributes := #[] }, { accessFlags := 8, nameIndex := 344, descriptorIndex := 339, attributes := #[] }, { accessFlags := 8, nameIndex := 338, descriptorIndex := 339, attributes := #[] }, { accessFlags := 4120, nameIndex := 245, descriptorIndex := 246, attributes := #[] }])
  fields := #[{ name := "E", type := .double, accessFlags := 25, slot := 0, constantValue := 0 }, { name := "PI", type := .double, accessFlags := 25, slot := 1, constantValue := 0 }, { name := "TAU", type := .double, accessFlags := 25, slot := 2, constantValue := 0 }, { name := "DEGREES_TO_RADIANS", type := .double, accessFlags := 26, slot := 3, constantValue := 0 }, { name := "RADIANS_TO_DEGREES", type := .double, accessFlags := 26, slot := 4, constantValue := 0 }, { name := "negativeZeroFloatBits", type := .long, accessFlags := 26, slot := 5, constantValue := 0 }, { name := "negativeZeroDoubleBits", type := .long, accessFlags := 26, slot := 6, constantValue := 0 }, { name := "twoToTheDoubleScaleUp", type := .double, accessFlags := 8, slot := 7, constantValue := 0 }, { name := "twoToTheDoubleScaleDown", type := .double, accessFlags := 8, slot := 8, constantValue := 0 }, { name := "$assertionsDisabled", type := .boolean, accessFlags := 4120, slot := 9, constantValue := 0 }]
  methods := #[k19m0, k19m1]
  instanceTypes := #[]
  staticTypes := #[.double, .double, .double, .double, .double, .long, .long, .double, .double, .boolean]
  resolved := Array.replicate 460 none
  statics := none }

def pool20 : Array CpInfo := pool [(2, .class_ 4), (1, u "java/lang/Object"), (0, u "<init>"), (0, u "()V"), (35, .class_ 44), (1, u "java/util/Objects"), (60, .methodref 106 107), (0, .class_ 108), (0, .nameAndType 109 110), (0, u "jdk/internal/util/Preconditions"), (0, u "checkIndex"), (0, u "(IILjava/util/function/BiFunction;)I"), (60, u "(II)I")] 12

def k20m0 : Method := { name := "<init>", desc := "()V", sig := { parameters := [], returnType := none }, accessFlags := 2, code := none }
def k20c1 : Code := { maxStack := 3, maxLocals := 2, code := jdk_31_method_17_code, exceptionTable := #[], attributes := #[] }
def k20m1 : Method := { name := "checkIndex", desc := "(II)I", sig := { parameters := [.int, .int], returnType := some .int }, accessFlags := 9, code := some k20c1 }
/-- java/util/Objects -/
def k20 : Class := { plain "java/util/Objects" (some 0) with
  accessFlags := 49
  interfaces := #[]
  cf := some (fileOf pool20 42 #[] #[{ accessFlags := 2, nameIndex := 5, descriptorIndex := 6, attributes := #[] }, { accessFlags := 9, nameIndex := 109, descriptorIndex := 171, attributes := #[] }] 49 2 #[] #[])
  fields := #[]
  methods := #[k20m0, k20m1]
  instanceTypes := #[]
  staticTypes := #[]
  resolved := Array.replicate 184 none
  statics := none }

def pool21 : Array CpInfo := pool [(2, .class_ 4), (1, u "java/lang/Object"), (0, u "<init>"), (0, u "()V"), (17, .class_ 26), (1, u "jdk/internal/util/Preconditions"), (6, u "checkIndex"), (21, .class_ 56), (0, u "jdk/internal/util/Preconditions$4"), (57, .class_ 115), (0, u "jdk/internal/util/Preconditions$1"), (7, u "SIOOBE_FORMATTER"), (0, u "Ljava/util/function/BiFunction;"), (0, .class_ 126), (0, u "jdk/internal/util/Preconditions$2"), (3, u "AIOOBE_FORMATTER"), (0, .class_ 132), (0, u "jdk/internal/util/Preconditions$3"), (3, u "IOOBE_FORMATTER"), (41, u "(IILjava/util/function/BiFunction;)I")] 15

def k21m0 : Method := { name := "<init>", desc := "()V", sig := { parameters := [], returnType := none }, accessFlags := 1, code := none }
def k21c1 : Code := { maxStack := 3, maxLocals := 3, code := jdk_41_method_11_code, exceptionTable := #[], attributes := #[] }
def k21m1 : Method := { name := "checkIndex", desc := "(IILjava/util/function/BiFunction;)I", sig := { parameters := [.int, .int, (.object "java/util/function/BiFunction")], returnType := some .int }, accessFlags := 9, code := some k21c1 }
/-- jdk/internal/util/Preconditions -/
def k21 : Class := { plain "jdk/internal/util/Preconditions" (some 0) with
  accessFlags := 33
  interfaces := #[]
  cf := some (fileOf pool21 24 #[.nestMembers #[55, 131, 125, 114]] #[{ accessFlags := 1, nameIndex := 5, descriptorIndex := 6, attributes := #[] }, { accessFlags := 9, nameIndex := 33, descriptorIndex := 178, attributes := #[] }] 33 2 #[] #[{ accessFlags := 25, nameIndex := 123, descriptorIndex := 124, attributes := #[] }, { accessFlags := 25, nameIndex := 130, descriptorIndex := 124, attributes := #[] }, { accessFlags := 25, nameIndex := 136, descriptorIndex := 124, attributes := #[] }])
  fields := #[{ name := "SIOOBE_FORMATTER", type := (.object "java/util/function/BiFunction"), accessFlags := 25, slot := 0, constantValue := 0 }, { name := "AIOOBE_FORMATTER", type := (.object "java/util/function/BiFunction"), accessFlags := 25, slot := 1, constantValue := 0 }, { name := "IOOBE_FORMATTER", type := (.object "java/util/function/BiFunction"), accessFlags := 25, slot := 2, constantValue := 0 }]
  methods := #[k21m0, k21m1]
  instanceTypes := #[]
  staticTypes := #[(.object "java/util/function/BiFunction"), (.object "java/util/function/BiFunction"), (.object "java/util/function/BiFunction")]
  resolved := Array.replicate 194 none
  statics := none }

/-- the primitive byte -/
def k22 : Class := { plain "byte" none with kind := .primitive 'B', accessFlags := 0x411 }
/-- [B -/
def k23 : Class := { plain "[B" (some 0) with kind := .array 22 .byte, interfaces := #[10, 11], accessFlags := 1041 }

/-- the primitive int -/
def k24 : Class := { plain "int" none with kind := .primitive 'I', accessFlags := 0x411 }
/-- [I -/
def k25 : Class := { plain "[I" (some 0) with kind := .array 24 .int, interfaces := #[10, 11], accessFlags := 1041 }

/-- [Ljava/lang/Integer; -/
def k26 : Class := { plain "[Ljava/lang/Integer;" (some 0) with kind := .array 17 (.object "java/lang/Integer"), interfaces := #[10, 11], accessFlags := 1041 }

/-- [Ljava/lang/Object; -/
def k27 : Class := { plain "[Ljava/lang/Object;" (some 0) with kind := .array 0 (.object "java/lang/Object"), interfaces := #[10, 11], accessFlags := 1041 }

def heap : Heap := #[{ cls := 2, slots := #[.null, .null, .null, .null, .ref 260], vm := .statics 2 },
  { cls := 12, slots := #[.long 0, .int 0, .ref 261, .ref 262], vm := .statics 12 },
  { cls := 18, slots := #[.int 0, .int 127, .ref 3, .null, .int 0], vm := .statics 18 },
  { cls := 26, slots := #[.ref 4, .ref 5, .ref 6, .ref 7, .ref 8, .ref 9, .ref 10, .ref 11, .ref 12, .ref 13, .ref 14, .ref 15, .ref 16, .ref 17, .ref 18, .ref 19, .ref 20, .ref 21, .ref 22, .ref 23, .ref 24, .ref 25, .ref 26, .ref 27, .ref 28, .ref 29, .ref 30, .ref 31, .ref 32, .ref 33, .ref 34, .ref 35, .ref 36, .ref 37, .ref 38, .ref 39, .ref 40, .ref 41, .ref 42, .ref 43, .ref 44, .ref 45, .ref 46, .ref 47, .ref 48, .ref 49, .ref 50, .ref 51, .ref 52, .ref 53, .ref 54, .ref 55, .ref 56, .ref 57, .ref 58, .ref 59, .ref 60, .ref 61, .ref 62, .ref 63, .ref 64, .ref 65, .ref 66, .ref 67, .ref 68, .ref 69, .ref 70, .ref 71, .ref 72, .ref 73, .ref 74, .ref 75, .ref 76, .ref 77, .ref 78, .ref 79, .ref 80, .ref 81, .ref 82, .ref 83, .ref 84, .ref 85, .ref 86, .ref 87, .ref 88, .ref 89, .ref 90, .ref 91, .ref 92, .ref 93, .ref 94, .ref 95, .ref 96, .ref 97, .ref 98, .ref 99, .ref 100, .ref 101, .ref 102, .ref 103, .ref 104, .ref 105, .ref 106, .ref 107, .ref 108, .ref 109, .ref 110, .ref 111, .ref 112, .ref 113, .ref 114, .ref 115, .ref 116, .ref 117, .ref 118, .ref 119, .ref 120, .ref 121, .ref 122, .ref 123, .ref 124, .ref 125, .ref 126, .ref 127, .ref 128, .ref 129, .ref 130, .ref 131, .ref 132, .ref 133, .ref 134, .ref 135, .ref 136, .ref 137, .ref 138, .ref 139, .ref 140, .ref 141, .ref 142, .ref 143, .ref 144, .ref 145, .ref 146, .ref 147, .ref 148, .ref 149, .ref 150, .ref 151, .ref 152, .ref 153, .ref 154, .ref 155, .ref 156, .ref 157, .ref 158, .ref 159, .ref 160, .ref 161, .ref 162, .ref 163, .ref 164, .ref 165, .ref 166, .ref 167, .ref 168, .ref 169, .ref 170, .ref 171, .ref 172, .ref 173, .ref 174, .ref 175, .ref 176, .ref 177, .ref 178, .ref 179, .ref 180, .ref 181, .ref 182, .ref 183, .ref 184, .ref 185, .ref 186, .ref 187, .ref 188, .ref 189, .ref 190, .ref 191, .ref 192, .ref 193, .ref 194, .ref 195, .ref 196, .ref 197, .ref 198, .ref 199, .ref 200, .ref 201, .ref 202, .ref 203, .ref 204, .ref 205, .ref 206, .ref 207, .ref 208, .ref 209, .ref 210, .ref 211, .ref 212, .ref 213, .ref 214, .ref 215, .ref 216, .ref 217, .ref 218, .ref 219, .ref 220, .ref 221, .ref 222, .ref 223, .ref 224, .ref 225, .ref 226, .ref 227, .ref 228, .ref 229, .ref 230, .ref 231, .ref 232, .ref 233, .ref 234, .ref 235, .ref 236, .ref 237, .ref 238, .ref 239, .ref 240, .ref 241, .ref 242, .ref 243, .ref 244, .ref 245, .ref 246, .ref 247, .ref 248, .ref 249, .ref 250, .ref 251, .ref 252, .ref 253, .ref 254, .ref 255, .ref 256, .ref 257, .ref 258, .ref 259], vm := .none },
  { cls := 17, slots := #[.int (-128)], vm := .none },
  { cls := 17, slots := #[.int (-127)], vm := .none },
  { cls := 17, slots := #[.int (-126)], vm := .none },
  { cls := 17, slots := #[.int (-125)], vm := .none },
  { cls := 17, slots := #[.int (-124)], vm := .none },
  { cls := 17, slots := #[.int (-123)], vm := .none },
  { cls := 17, slots := #[.int (-122)], vm := .none },
  { cls := 17, slots := #[.int (-121)], vm := .none },
  { cls := 17, slots := #[.int (-120)], vm := .none },
  { cls := 17, slots := #[.int (-119)], vm := .none },
  { cls := 17, slots := #[.int (-118)], vm := .none },
  { cls := 17, slots := #[.int (-117)], vm := .none },
  { cls := 17, slots := #[.int (-116)], vm := .none },
  { cls := 17, slots := #[.int (-115)], vm := .none },
  { cls := 17, slots := #[.int (-114)], vm := .none },
  { cls := 17, slots := #[.int (-113)], vm := .none },
  { cls := 17, slots := #[.int (-112)], vm := .none },
  { cls := 17, slots := #[.int (-111)], vm := .none },
  { cls := 17, slots := #[.int (-110)], vm := .none },
  { cls := 17, slots := #[.int (-109)], vm := .none },
  { cls := 17, slots := #[.int (-108)], vm := .none },
  { cls := 17, slots := #[.int (-107)], vm := .none },
  { cls := 17, slots := #[.int (-106)], vm := .none },
  { cls := 17, slots := #[.int (-105)], vm := .none },
  { cls := 17, slots := #[.int (-104)], vm := .none },
  { cls := 17, slots := #[.int (-103)], vm := .none },
  { cls := 17, slots := #[.int (-102)], vm := .none },
  { cls := 17, slots := #[.int (-101)], vm := .none },
  { cls := 17, slots := #[.int (-100)], vm := .none },
  { cls := 17, slots := #[.int (-99)], vm := .none },
  { cls := 17, slots := #[.int (-98)], vm := .none },
  { cls := 17, slots := #[.int (-97)], vm := .none },
  { cls := 17, slots := #[.int (-96)], vm := .none },
  { cls := 17, slots := #[.int (-95)], vm := .none },
  { cls := 17, slots := #[.int (-94)], vm := .none },
  { cls := 17, slots := #[.int (-93)], vm := .none },
  { cls := 17, slots := #[.int (-92)], vm := .none },
  { cls := 17, slots := #[.int (-91)], vm := .none },
  { cls := 17, slots := #[.int (-90)], vm := .none },
  { cls := 17, slots := #[.int (-89)], vm := .none },
  { cls := 17, slots := #[.int (-88)], vm := .none },
  { cls := 17, slots := #[.int (-87)], vm := .none },
  { cls := 17, slots := #[.int (-86)], vm := .none },
  { cls := 17, slots := #[.int (-85)], vm := .none },
  { cls := 17, slots := #[.int (-84)], vm := .none },
  { cls := 17, slots := #[.int (-83)], vm := .none },
  { cls := 17, slots := #[.int (-82)], vm := .none },
  { cls := 17, slots := #[.int (-81)], vm := .none },
  { cls := 17, slots := #[.int (-80)], vm := .none },
  { cls := 17, slots := #[.int (-79)], vm := .none },
  { cls := 17, slots := #[.int (-78)], vm := .none },
  { cls := 17, slots := #[.int (-77)], vm := .none },
  { cls := 17, slots := #[.int (-76)], vm := .none },
  { cls := 17, slots := #[.int (-75)], vm := .none },
  { cls := 17, slots := #[.int (-74)], vm := .none },
  { cls := 17, slots := #[.int (-73)], vm := .none },
  { cls := 17, slots := #[.int (-72)], vm := .none },
  { cls := 17, slots := #[.int (-71)], vm := .none },
  { cls := 17, slots := #[.int (-70)], vm := .none },
  { cls := 17, slots := #[.int (-69)], vm := .none },
  { cls := 17, slots := #[.int (-68)], vm := .none },
  { cls := 17, slots := #[.int (-67)], vm := .none },
  { cls := 17, slots := #[.int (-66)], vm := .none },
  { cls := 17, slots := #[.int (-65)], vm := .none },
  { cls := 17, slots := #[.int (-64)], vm := .none },
  { cls := 17, slots := #[.int (-63)], vm := .none },
  { cls := 17, slots := #[.int (-62)], vm := .none },
  { cls := 17, slots := #[.int (-61)], vm := .none },
  { cls := 17, slots := #[.int (-60)], vm := .none },
  { cls := 17, slots := #[.int (-59)], vm := .none },
  { cls := 17, slots := #[.int (-58)], vm := .none },
  { cls := 17, slots := #[.int (-57)], vm := .none },
  { cls := 17, slots := #[.int (-56)], vm := .none },
  { cls := 17, slots := #[.int (-55)], vm := .none },
  { cls := 17, slots := #[.int (-54)], vm := .none },
  { cls := 17, slots := #[.int (-53)], vm := .none },
  { cls := 17, slots := #[.int (-52)], vm := .none },
  { cls := 17, slots := #[.int (-51)], vm := .none },
  { cls := 17, slots := #[.int (-50)], vm := .none },
  { cls := 17, slots := #[.int (-49)], vm := .none },
  { cls := 17, slots := #[.int (-48)], vm := .none },
  { cls := 17, slots := #[.int (-47)], vm := .none },
  { cls := 17, slots := #[.int (-46)], vm := .none },
  { cls := 17, slots := #[.int (-45)], vm := .none },
  { cls := 17, slots := #[.int (-44)], vm := .none },
  { cls := 17, slots := #[.int (-43)], vm := .none },
  { cls := 17, slots := #[.int (-42)], vm := .none },
  { cls := 17, slots := #[.int (-41)], vm := .none },
  { cls := 17, slots := #[.int (-40)], vm := .none },
  { cls := 17, slots := #[.int (-39)], vm := .none },
  { cls := 17, slots := #[.int (-38)], vm := .none },
  { cls := 17, slots := #[.int (-37)], vm := .none },
  { cls := 17, slots := #[.int (-36)], vm := .none },
  { cls := 17, slots := #[.int (-35)], vm := .none },
  { cls := 17, slots := #[.int (-34)], vm := .none },
  { cls := 17, slots := #[.int (-33)], vm := .none },
  { cls := 17, slots := #[.int (-32)], vm := .none },
  { cls := 17, slots := #[.int (-31)], vm := .none },
  { cls := 17, slots := #[.int (-30)], vm := .none },
  { cls := 17, slots := #[.int (-29)], vm := .none },
  { cls := 17, slots := #[.int (-28)], vm := .none },
  { cls := 17, slots := #[.int (-27)], vm := .none },
  { cls := 17, slots := #[.int (-26)], vm := .none },
  { cls := 17, slots := #[.int (-25)], vm := .none },
  { cls := 17, slots := #[.int (-24)], vm := .none },
  { cls := 17, slots := #[.int (-23)], vm := .none },
  { cls := 17, slots := #[.int (-22)], vm := .none },
  { cls := 17, slots := #[.int (-21)], vm := .none },
  { cls := 17, slots := #[.int (-20)], vm := .none },
  { cls := 17, slots := #[.int (-19)], vm := .none },
  { cls := 17, slots := #[.int (-18)], vm := .none },
  { cls := 17, slots := #[.int (-17)], vm := .none },
  { cls := 17, slots := #[.int (-16)], vm := .none },
  { cls := 17, slots := #[.int (-15)], vm := .none },
  { cls := 17, slots := #[.int (-14)], vm := .none },
  { cls := 17, slots := #[.int (-13)], vm := .none },
  { cls := 17, slots := #[.int (-12)], vm := .none },
  { cls := 17, slots := #[.int (-11)], vm := .none },
  { cls := 17, slots := #[.int (-10)], vm := .none },
  { cls := 17, slots := #[.int (-9)], vm := .none },
  { cls := 17, slots := #[.int (-8)], vm := .none },
  { cls := 17, slots := #[.int (-7)], vm := .none },
  { cls := 17, slots := #[.int (-6)], vm := .none },
  { cls := 17, slots := #[.int (-5)], vm := .none },
  { cls := 17, slots := #[.int (-4)], vm := .none },
  { cls := 17, slots := #[.int (-3)], vm := .none },
  { cls := 17, slots := #[.int (-2)], vm := .none },
  { cls := 17, slots := #[.int (-1)], vm := .none },
  { cls := 17, slots := #[.int 0], vm := .none },
  { cls := 17, slots := #[.int 1], vm := .none },
  { cls := 17, slots := #[.int 2], vm := .none },
  { cls := 17, slots := #[.int 3], vm := .none },
  { cls := 17, slots := #[.int 4], vm := .none },
  { cls := 17, slots := #[.int 5], vm := .none },
  { cls := 17, slots := #[.int 6], vm := .none },
  { cls := 17, slots := #[.int 7], vm := .none },
  { cls := 17, slots := #[.int 8], vm := .none },
  { cls := 17, slots := #[.int 9], vm := .none },
  { cls := 17, slots := #[.int 10], vm := .none },
  { cls := 17, slots := #[.int 11], vm := .none },
  { cls := 17, slots := #[.int 12], vm := .none },
  { cls := 17, slots := #[.int 13], vm := .none },
  { cls := 17, slots := #[.int 14], vm := .none },
  { cls := 17, slots := #[.int 15], vm := .none },
  { cls := 17, slots := #[.int 16], vm := .none },
  { cls := 17, slots := #[.int 17], vm := .none },
  { cls := 17, slots := #[.int 18], vm := .none },
  { cls := 17, slots := #[.int 19], vm := .none },
  { cls := 17, slots := #[.int 20], vm := .none },
  { cls := 17, slots := #[.int 21], vm := .none },
  { cls := 17, slots := #[.int 22], vm := .none },
  { cls := 17, slots := #[.int 23], vm := .none },
  { cls := 17, slots := #[.int 24], vm := .none },
  { cls := 17, slots := #[.int 25], vm := .none },
  { cls := 17, slots := #[.int 26], vm := .none },
  { cls := 17, slots := #[.int 27], vm := .none },
  { cls := 17, slots := #[.int 28], vm := .none },
  { cls := 17, slots := #[.int 29], vm := .none },
  { cls := 17, slots := #[.int 30], vm := .none },
  { cls := 17, slots := #[.int 31], vm := .none },
  { cls := 17, slots := #[.int 32], vm := .none },
  { cls := 17, slots := #[.int 33], vm := .none },
  { cls := 17, slots := #[.int 34], vm := .none },
  { cls := 17, slots := #[.int 35], vm := .none },
  { cls := 17, slots := #[.int 36], vm := .none },
  { cls := 17, slots := #[.int 37], vm := .none },
  { cls := 17, slots := #[.int 38], vm := .none },
  { cls := 17, slots := #[.int 39], vm := .none },
  { cls := 17, slots := #[.int 40], vm := .none },
  { cls := 17, slots := #[.int 41], vm := .none },
  { cls := 17, slots := #[.int 42], vm := .none },
  { cls := 17, slots := #[.int 43], vm := .none },
  { cls := 17, slots := #[.int 44], vm := .none },
  { cls := 17, slots := #[.int 45], vm := .none },
  { cls := 17, slots := #[.int 46], vm := .none },
  { cls := 17, slots := #[.int 47], vm := .none },
  { cls := 17, slots := #[.int 48], vm := .none },
  { cls := 17, slots := #[.int 49], vm := .none },
  { cls := 17, slots := #[.int 50], vm := .none },
  { cls := 17, slots := #[.int 51], vm := .none },
  { cls := 17, slots := #[.int 52], vm := .none },
  { cls := 17, slots := #[.int 53], vm := .none },
  { cls := 17, slots := #[.int 54], vm := .none },
  { cls := 17, slots := #[.int 55], vm := .none },
  { cls := 17, slots := #[.int 56], vm := .none },
  { cls := 17, slots := #[.int 57], vm := .none },
  { cls := 17, slots := #[.int 58], vm := .none },
  { cls := 17, slots := #[.int 59], vm := .none },
  { cls := 17, slots := #[.int 60], vm := .none },
  { cls := 17, slots := #[.int 61], vm := .none },
  { cls := 17, slots := #[.int 62], vm := .none },
  { cls := 17, slots := #[.int 63], vm := .none },
  { cls := 17, slots := #[.int 64], vm := .none },
  { cls := 17, slots := #[.int 65], vm := .none },
  { cls := 17, slots := #[.int 66], vm := .none },
  { cls := 17, slots := #[.int 67], vm := .none },
  { cls := 17, slots := #[.int 68], vm := .none },
  { cls := 17, slots := #[.int 69], vm := .none },
  { cls := 17, slots := #[.int 70], vm := .none },
  { cls := 17, slots := #[.int 71], vm := .none },
  { cls := 17, slots := #[.int 72], vm := .none },
  { cls := 17, slots := #[.int 73], vm := .none },
  { cls := 17, slots := #[.int 74], vm := .none },
  { cls := 17, slots := #[.int 75], vm := .none },
  { cls := 17, slots := #[.int 76], vm := .none },
  { cls := 17, slots := #[.int 77], vm := .none },
  { cls := 17, slots := #[.int 78], vm := .none },
  { cls := 17, slots := #[.int 79], vm := .none },
  { cls := 17, slots := #[.int 80], vm := .none },
  { cls := 17, slots := #[.int 81], vm := .none },
  { cls := 17, slots := #[.int 82], vm := .none },
  { cls := 17, slots := #[.int 83], vm := .none },
  { cls := 17, slots := #[.int 84], vm := .none },
  { cls := 17, slots := #[.int 85], vm := .none },
  { cls := 17, slots := #[.int 86], vm := .none },
  { cls := 17, slots := #[.int 87], vm := .none },
  { cls := 17, slots := #[.int 88], vm := .none },
  { cls := 17, slots := #[.int 89], vm := .none },
  { cls := 17, slots := #[.int 90], vm := .none },
  { cls := 17, slots := #[.int 91], vm := .none },
  { cls := 17, slots := #[.int 92], vm := .none },
  { cls := 17, slots := #[.int 93], vm := .none },
  { cls := 17, slots := #[.int 94], vm := .none },
  { cls := 17, slots := #[.int 95], vm := .none },
  { cls := 17, slots := #[.int 96], vm := .none },
  { cls := 17, slots := #[.int 97], vm := .none },
  { cls := 17, slots := #[.int 98], vm := .none },
  { cls := 17, slots := #[.int 99], vm := .none },
  { cls := 17, slots := #[.int 100], vm := .none },
  { cls := 17, slots := #[.int 101], vm := .none },
  { cls := 17, slots := #[.int 102], vm := .none },
  { cls := 17, slots := #[.int 103], vm := .none },
  { cls := 17, slots := #[.int 104], vm := .none },
  { cls := 17, slots := #[.int 105], vm := .none },
  { cls := 17, slots := #[.int 106], vm := .none },
  { cls := 17, slots := #[.int 107], vm := .none },
  { cls := 17, slots := #[.int 108], vm := .none },
  { cls := 17, slots := #[.int 109], vm := .none },
  { cls := 17, slots := #[.int 110], vm := .none },
  { cls := 17, slots := #[.int 111], vm := .none },
  { cls := 17, slots := #[.int 112], vm := .none },
  { cls := 17, slots := #[.int 113], vm := .none },
  { cls := 17, slots := #[.int 114], vm := .none },
  { cls := 17, slots := #[.int 115], vm := .none },
  { cls := 17, slots := #[.int 116], vm := .none },
  { cls := 17, slots := #[.int 117], vm := .none },
  { cls := 17, slots := #[.int 118], vm := .none },
  { cls := 17, slots := #[.int 119], vm := .none },
  { cls := 17, slots := #[.int 120], vm := .none },
  { cls := 17, slots := #[.int 121], vm := .none },
  { cls := 17, slots := #[.int 122], vm := .none },
  { cls := 17, slots := #[.int 123], vm := .none },
  { cls := 17, slots := #[.int 124], vm := .none },
  { cls := 17, slots := #[.int 125], vm := .none },
  { cls := 17, slots := #[.int 126], vm := .none },
  { cls := 17, slots := #[.int 127], vm := .none },
  { cls := 25, slots := #[.int 1, .int 7, .int 31], vm := .none },
  { cls := 27, slots := #[], vm := .none },
  { cls := 27, slots := #[], vm := .none }]
def classes : Array Class := #[k0, k1, k2, k3, k4, k5, k6, k7, k8, k9, k10, k11, k12, k13, k14, k15, k16, k17, k18, k19, k20, k21, k22, k23, k24, k25, k26, k27]
def interned : List (Array UInt16 × Addr) := []
def slotsUsed : Nat := 529
def theMethod : MethodId := ⟨1, 1⟩
def args0 : Array Value := #[.int 40, .int 1]
def aboutOver (below : List Frame) : State where
  vm := { classes := classes, interned := interned.toArray }
  heap := heap
  slotsUsed := slotsUsed
  threads := #[{ frames := .invoking theMethod args0 :: below }]
def below0 : List Frame := [.native { method := ⟨0, 0⟩, args := #[] }]
def about1 : State := aboutOver below0
def p0 : Program := .bare "" "" ""
def e0 : Env := launch0.env 0 0 0
theorem w_frames : about1.frames = Frame.invoking theMethod args0 :: below0 := rfl
set_option maxRecDepth 65536 in
theorem w_args : argsFit about1.vm theMethod args0 = true := by decide +kernel
set_option maxRecDepth 65536 in
theorem w_heap : heapFits about1 = true := by decide +kernel
set_option maxRecDepth 65536 in
theorem w_runnable : about1.curStatus? = some .runnable := by decide +kernel
set_option maxRecDepth 65536 in
theorem w_alone : about1.alone = true := by decide +kernel
set_option maxRecDepth 65536 in
theorem w_named : about1.methodNamed? x = some theMethod := by decide +kernel
set_option maxRecDepth 65536 in
theorem w_hears : about1.hears theMethod below0 = true := by decide +kernel
set_option maxRecDepth 65536 in
theorem w_ripe : about1.ripe theMethod args0 below0 = true := by decide +kernel
theorem w_running : about1.status = .running := rfl
set_option maxRecDepth 65536 in
theorem w_room : about1.hasRoom e0.platform room_1 = true :=
  launch0.hasRoom_least _ room_1 (by decide +kernel) (by decide +kernel) (by decide +kernel) (by decide +kernel) (by decide +kernel) (by decide +kernel)
theorem allAtoms_all (ts : List Jvm.Cond) (a : Array Jvm.Value) (st : Jvm.State) : (allAtoms ts).before a st = ts.all (fun c => c.before a st) := by
  induction ts with
  | nil => rfl
  | cons c t ih =>
    show (Jvm.Cond.and c (allAtoms t)).before a st = _
    rw [Jvm.Cond.before_and, ih, List.all_cons]
def words1 : List Jvm.Cond := Jvm.Cond.code x code maxLocals ret :: tables_1
/-- a 'code' word, met by the world's own term for the bytes: nothing is compared byte by byte -/
theorem code_word {y : MethodName} {bytes : ByteArray} {mx : Nat} {rt : Option FieldType} {a : Array Value} {s : State} {m : MethodId} {meth : Method} {c : Code} (h1 : s.methodNamed? y = some m) (h2 : s.vm.method? m = some meth) (h3 : meth.code = some c) (h4 : c.code = bytes)
    (h5 : (c.maxLocals == mx && c.exceptionTable.isEmpty && decide (c.maxStack ≤ mostOperands) && decide (meth.sig.returnType = rt) && !meth.locks && decide (parseMethodDescriptor y.desc = some meth.sig)) = true) : (Jvm.Cond.code y bytes mx rt).before a s = true := by
  simp only [Bool.and_eq_true, beq_iff_eq, Bool.not_eq_true', decide_eq_true_eq] at h5
  obtain ⟨⟨⟨⟨⟨g1, g2⟩, g3⟩, g4⟩, g5⟩, g6⟩ := h5
  simp [Cond.before, Cond.holds, Cond.value, h1, h2, h3, h4, g1, g2, g3, g4, g5, g6]
def isCode : Jvm.Cond → Bool
  | .code _ _ _ _ => true
  | _ => false
theorem all_split {L : List Jvm.Cond} {P : Jvm.Cond → Bool} (h1 : L.all (fun c => isCode c || P c) = true) (h2 : ∀ c ∈ L.filter isCode, P c = true) : L.all P = true := by
  refine List.all_eq_true.mpr fun c hc => ?_
  have h := List.all_eq_true.mp h1 c hc
  rcases Bool.eq_false_or_eq_true (isCode c) with hi | hi
  · exact h2 c (List.mem_filter.mpr ⟨hc, hi⟩)
  · simpa [hi] using h
set_option maxRecDepth 65536 in
theorem w_c0 : (Jvm.Cond.code x code maxLocals ret).before args0 about1 = true := code_word (m := ⟨1, 1⟩) (meth := k1m1) (c := k1c1) (by decide +kernel) rfl rfl rfl (by decide +kernel)
set_option maxRecDepth 65536 in
theorem w_c1 : (Jvm.Cond.code ({ cls := "com/example/mini_wire/bench/Application", name := "dependencies", desc := "(I)Ljava/util/List;" } : Jvm.MethodName) prog_1_method_3_code (6 : Nat) (Option.some (Jvm.ClassFile.FieldType.object "java/util/List"))).before args0 about1 = true := code_word (m := ⟨2, 1⟩) (meth := k2m1) (c := k2c1) (by decide +kernel) rfl rfl rfl (by decide +kernel)
set_option maxRecDepth 65536 in
theorem w_c2 : (Jvm.Cond.code ({ cls := "java/util/ArrayList", name := "<init>", desc := "()V" } : Jvm.MethodName) jdk_38_method_2_code (1 : Nat) (Option.none : Option Jvm.ClassFile.FieldType)).before args0 about1 = true := code_word (m := ⟨12, 0⟩) (meth := k12m0) (c := k12c0) (by decide +kernel) rfl rfl rfl (by decide +kernel)
set_option maxRecDepth 65536 in
theorem w_c3 : (Jvm.Cond.code ({ cls := "java/util/AbstractList", name := "<init>", desc := "()V" } : Jvm.MethodName) jdk_39_method_1_code (1 : Nat) (Option.none : Option Jvm.ClassFile.FieldType)).before args0 about1 = true := code_word (m := ⟨8, 0⟩) (meth := k8m0) (c := k8c0) (by decide +kernel) rfl rfl rfl (by decide +kernel)
set_option maxRecDepth 65536 in
theorem w_c4 : (Jvm.Cond.code ({ cls := "java/util/AbstractCollection", name := "<init>", desc := "()V" } : Jvm.MethodName) jdk_22_method_1_code (1 : Nat) (Option.none : Option Jvm.ClassFile.FieldType)).before args0 about1 = true := code_word (m := ⟨5, 0⟩) (meth := k5m0) (c := k5c0) (by decide +kernel) rfl rfl rfl (by decide +kernel)
set_option maxRecDepth 65536 in
theorem w_c5 : (Jvm.Cond.code ({ cls := "java/lang/Object", name := "<init>", desc := "()V" } : Jvm.MethodName) object_method_1_code (1 : Nat) (Option.none : Option Jvm.ClassFile.FieldType)).before args0 about1 = true := code_word (m := ⟨0, 0⟩) (meth := k0m0) (c := k0c0) (by decide +kernel) rfl rfl rfl (by decide +kernel)
set_option maxRecDepth 65536 in
theorem w_c6 : (Jvm.Cond.code ({ cls := "java/util/ArrayList", name := "size", desc := "()I" } : Jvm.MethodName) jdk_38_method_8_code (1 : Nat) (Option.some Jvm.ClassFile.FieldType.int)).before args0 about1 = true := code_word (m := ⟨12, 3⟩) (meth := k12m3) (c := k12c3) (by decide +kernel) rfl rfl rfl (by decide +kernel)
set_option maxRecDepth 65536 in
theorem w_c7 : (Jvm.Cond.code ({ cls := "java/lang/Integer", name := "valueOf", desc := "(I)Ljava/lang/Integer;" } : Jvm.MethodName) jdk_33_method_22_code (1 : Nat) (Option.some (Jvm.ClassFile.FieldType.object "java/lang/Integer"))).before args0 about1 = true := code_word (m := ⟨17, 0⟩) (meth := k17m0) (c := k17c0) (by decide +kernel) rfl rfl rfl (by decide +kernel)
set_option maxRecDepth 65536 in
theorem w_c8 : (Jvm.Cond.code ({ cls := "java/util/ArrayList", name := "add", desc := "(Ljava/lang/Object;)Z" } : Jvm.MethodName) jdk_38_method_25_code (2 : Nat) (Option.some Jvm.ClassFile.FieldType.boolean)).before args0 about1 = true := code_word (m := ⟨12, 7⟩) (meth := k12m7) (c := k12c7) (by decide +kernel) rfl rfl rfl (by decide +kernel)
set_option maxRecDepth 65536 in
theorem w_c9 : (Jvm.Cond.code ({ cls := "java/util/ArrayList", name := "add", desc := "(Ljava/lang/Object;[Ljava/lang/Object;I)V" } : Jvm.MethodName) jdk_38_method_24_code (4 : Nat) (Option.none : Option Jvm.ClassFile.FieldType)).before args0 about1 = true := code_word (m := ⟨12, 6⟩) (meth := k12m6) (c := k12c6) (by decide +kernel) rfl rfl rfl (by decide +kernel)
set_option maxRecDepth 65536 in
theorem w_c10 : (Jvm.Cond.code ({ cls := "java/util/ArrayList", name := "grow", desc := "()[Ljava/lang/Object;" } : Jvm.MethodName) jdk_38_method_7_code (1 : Nat) (Option.some (Jvm.ClassFile.FieldType.array (Jvm.ClassFile.FieldType.object "java/lang/Object")))).before args0 about1 = true := code_word (m := ⟨12, 2⟩) (meth := k12m2) (c := k12c2) (by decide +kernel) rfl rfl rfl (by decide +kernel)
set_option maxRecDepth 65536 in
theorem w_c11 : (Jvm.Cond.code ({ cls := "java/util/ArrayList", name := "grow", desc := "(I)[Ljava/lang/Object;" } : Jvm.MethodName) jdk_38_method_6_code (4 : Nat) (Option.some (Jvm.ClassFile.FieldType.array (Jvm.ClassFile.FieldType.object "java/lang/Object")))).before args0 about1 = true := code_word (m := ⟨12, 1⟩) (meth := k12m1) (c := k12c1) (by decide +kernel) rfl rfl rfl (by decide +kernel)
set_option maxRecDepth 65536 in
theorem w_c12 : (Jvm.Cond.code ({ cls := "java/lang/Math", name := "max", desc := "(II)I" } : Jvm.MethodName) jdk_29_method_65_code (2 : Nat) (Option.some Jvm.ClassFile.FieldType.int)).before args0 about1 = true := code_word (m := ⟨19, 1⟩) (meth := k19m1) (c := k19c1) (by decide +kernel) rfl rfl rfl (by decide +kernel)
set_option maxRecDepth 65536 in
theorem w_c13 : (Jvm.Cond.code ({ cls := "java/util/ArrayList", name := "get", desc := "(I)Ljava/lang/Object;" } : Jvm.MethodName) jdk_38_method_20_code (2 : Nat) (Option.some (Jvm.ClassFile.FieldType.object "java/lang/Object"))).before args0 about1 = true := code_word (m := ⟨12, 5⟩) (meth := k12m5) (c := k12c5) (by decide +kernel) rfl rfl rfl (by decide +kernel)
set_option maxRecDepth 65536 in
theorem w_c14 : (Jvm.Cond.code ({ cls := "java/util/Objects", name := "checkIndex", desc := "(II)I" } : Jvm.MethodName) jdk_31_method_17_code (2 : Nat) (Option.some Jvm.ClassFile.FieldType.int)).before args0 about1 = true := code_word (m := ⟨20, 1⟩) (meth := k20m1) (c := k20c1) (by decide +kernel) rfl rfl rfl (by decide +kernel)
set_option maxRecDepth 65536 in
theorem w_c15 : (Jvm.Cond.code ({ cls := "jdk/internal/util/Preconditions", name := "checkIndex", desc := "(IILjava/util/function/BiFunction;)I" } : Jvm.MethodName) jdk_41_method_11_code (3 : Nat) (Option.some Jvm.ClassFile.FieldType.int)).before args0 about1 = true := code_word (m := ⟨21, 1⟩) (meth := k21m1) (c := k21c1) (by decide +kernel) rfl rfl rfl (by decide +kernel)
set_option maxRecDepth 65536 in
theorem w_c16 : (Jvm.Cond.code ({ cls := "java/util/ArrayList", name := "elementData", desc := "(I)Ljava/lang/Object;" } : Jvm.MethodName) jdk_38_method_18_code (2 : Nat) (Option.some (Jvm.ClassFile.FieldType.object "java/lang/Object"))).before args0 about1 = true := code_word (m := ⟨12, 4⟩) (meth := k12m4) (c := k12c4) (by decide +kernel) rfl rfl rfl (by decide +kernel)
set_option maxRecDepth 65536 in
theorem w_c17 : (Jvm.Cond.code ({ cls := "java/lang/Integer", name := "intValue", desc := "()I" } : Jvm.MethodName) jdk_33_method_27_code (1 : Nat) (Option.some Jvm.ClassFile.FieldType.int)).before args0 about1 = true := code_word (m := ⟨17, 2⟩) (meth := k17m2) (c := k17c2) (by decide +kernel) rfl rfl rfl (by decide +kernel)
set_option maxRecDepth 65536 in
theorem w_c18 : (Jvm.Cond.code ({ cls := "java/lang/Integer", name := "<init>", desc := "(I)V" } : Jvm.MethodName) jdk_33_method_23_code (2 : Nat) (Option.none : Option Jvm.ClassFile.FieldType)).before args0 about1 = true := code_word (m := ⟨17, 1⟩) (meth := k17m1) (c := k17c1) (by decide +kernel) rfl rfl rfl (by decide +kernel)
set_option maxRecDepth 65536 in
theorem w_c19 : (Jvm.Cond.code ({ cls := "java/lang/Number", name := "<init>", desc := "()V" } : Jvm.MethodName) jdk_18_method_1_code (1 : Nat) (Option.none : Option Jvm.ClassFile.FieldType)).before args0 about1 = true := code_word (m := ⟨13, 0⟩) (meth := k13m0) (c := k13c0) (by decide +kernel) rfl rfl rfl (by decide +kernel)
def codes1 : List Jvm.Cond := [Jvm.Cond.code x code maxLocals ret, Jvm.Cond.code ({ cls := "com/example/mini_wire/bench/Application", name := "dependencies", desc := "(I)Ljava/util/List;" } : Jvm.MethodName) prog_1_method_3_code (6 : Nat) (Option.some (Jvm.ClassFile.FieldType.object "java/util/List")), Jvm.Cond.code ({ cls := "java/util/ArrayList", name := "<init>", desc := "()V" } : Jvm.MethodName) jdk_38_method_2_code (1 : Nat) (Option.none : Option Jvm.ClassFile.FieldType), Jvm.Cond.code ({ cls := "java/util/AbstractList", name := "<init>", desc := "()V" } : Jvm.MethodName) jdk_39_method_1_code (1 : Nat) (Option.none : Option Jvm.ClassFile.FieldType), Jvm.Cond.code ({ cls := "java/util/AbstractCollection", name := "<init>", desc := "()V" } : Jvm.MethodName) jdk_22_method_1_code (1 : Nat) (Option.none : Option Jvm.ClassFile.FieldType), Jvm.Cond.code ({ cls := "java/lang/Object", name := "<init>", desc := "()V" } : Jvm.MethodName) object_method_1_code (1 : Nat) (Option.none : Option Jvm.ClassFile.FieldType), Jvm.Cond.code ({ cls := "java/util/ArrayList", name := "size", desc := "()I" } : Jvm.MethodName) jdk_38_method_8_code (1 : Nat) (Option.some Jvm.ClassFile.FieldType.int), Jvm.Cond.code ({ cls := "java/lang/Integer", name := "valueOf", desc := "(I)Ljava/lang/Integer;" } : Jvm.MethodName) jdk_33_method_22_code (1 : Nat) (Option.some (Jvm.ClassFile.FieldType.object "java/lang/Integer")), Jvm.Cond.code ({ cls := "java/util/ArrayList", name := "add", desc := "(Ljava/lang/Object;)Z" } : Jvm.MethodName) jdk_38_method_25_code (2 : Nat) (Option.some Jvm.ClassFile.FieldType.boolean), Jvm.Cond.code ({ cls := "java/util/ArrayList", name := "add", desc := "(Ljava/lang/Object;[Ljava/lang/Object;I)V" } : Jvm.MethodName) jdk_38_method_24_code (4 : Nat) (Option.none : Option Jvm.ClassFile.FieldType), Jvm.Cond.code ({ cls := "java/util/ArrayList", name := "grow", desc := "()[Ljava/lang/Object;" } : Jvm.MethodName) jdk_38_method_7_code (1 : Nat) (Option.some (Jvm.ClassFile.FieldType.array (Jvm.ClassFile.FieldType.object "java/lang/Object"))), Jvm.Cond.code ({ cls := "java/util/ArrayList", name := "grow", desc := "(I)[Ljava/lang/Object;" } : Jvm.MethodName) jdk_38_method_6_code (4 : Nat) (Option.some (Jvm.ClassFile.FieldType.array (Jvm.ClassFile.FieldType.object "java/lang/Object"))), Jvm.Cond.code ({ cls := "java/lang/Math", name := "max", desc := "(II)I" } : Jvm.MethodName) jdk_29_method_65_code (2 : Nat) (Option.some Jvm.ClassFile.FieldType.int), Jvm.Cond.code ({ cls := "java/util/ArrayList", name := "get", desc := "(I)Ljava/lang/Object;" } : Jvm.MethodName) jdk_38_method_20_code (2 : Nat) (Option.some (Jvm.ClassFile.FieldType.object "java/lang/Object")), Jvm.Cond.code ({ cls := "java/util/Objects", name := "checkIndex", desc := "(II)I" } : Jvm.MethodName) jdk_31_method_17_code (2 : Nat) (Option.some Jvm.ClassFile.FieldType.int), Jvm.Cond.code ({ cls := "jdk/internal/util/Preconditions", name := "checkIndex", desc := "(IILjava/util/function/BiFunction;)I" } : Jvm.MethodName) jdk_41_method_11_code (3 : Nat) (Option.some Jvm.ClassFile.FieldType.int), Jvm.Cond.code ({ cls := "java/util/ArrayList", name := "elementData", desc := "(I)Ljava/lang/Object;" } : Jvm.MethodName) jdk_38_method_18_code (2 : Nat) (Option.some (Jvm.ClassFile.FieldType.object "java/lang/Object")), Jvm.Cond.code ({ cls := "java/lang/Integer", name := "intValue", desc := "()I" } : Jvm.MethodName) jdk_33_method_27_code (1 : Nat) (Option.some Jvm.ClassFile.FieldType.int), Jvm.Cond.code ({ cls := "java/lang/Integer", name := "<init>", desc := "(I)V" } : Jvm.MethodName) jdk_33_method_23_code (2 : Nat) (Option.none : Option Jvm.ClassFile.FieldType), Jvm.Cond.code ({ cls := "java/lang/Number", name := "<init>", desc := "()V" } : Jvm.MethodName) jdk_18_method_1_code (1 : Nat) (Option.none : Option Jvm.ClassFile.FieldType)]
set_option maxRecDepth 65536 in
theorem codes_eq : words1.filter isCode = codes1 := rfl
theorem w_codes : ∀ c ∈ words1.filter isCode, c.before args0 about1 = true := by
  rw [codes_eq]
  intro c hc
  simp only [codes1, List.mem_cons, List.not_mem_nil, or_false] at hc
  rcases hc with rfl | rfl | rfl | rfl | rfl | rfl | rfl | rfl | rfl | rfl | rfl | rfl | rfl | rfl | rfl | rfl | rfl | rfl | rfl | rfl
  · exact w_c0
  · exact w_c1
  · exact w_c2
  · exact w_c3
  · exact w_c4
  · exact w_c5
  · exact w_c6
  · exact w_c7
  · exact w_c8
  · exact w_c9
  · exact w_c10
  · exact w_c11
  · exact w_c12
  · exact w_c13
  · exact w_c14
  · exact w_c15
  · exact w_c16
  · exact w_c17
  · exact w_c18
  · exact w_c19
set_option maxRecDepth 65536 in
theorem w_t1 : (words1.take 24).all (fun c => isCode c || c.before args0 about1) = true := by decide +kernel
set_option maxRecDepth 65536 in
theorem w_t2 : ((words1.drop 24).take 24).all (fun c => isCode c || c.before args0 about1) = true := by decide +kernel
set_option maxRecDepth 65536 in
theorem w_t3 : (((words1.drop 24).drop 24).take 24).all (fun c => isCode c || c.before args0 about1) = true := by decide +kernel
set_option maxRecDepth 65536 in
theorem w_t4 : ((((words1.drop 24).drop 24).drop 24).take 24).all (fun c => isCode c || c.before args0 about1) = true := by decide +kernel
set_option maxRecDepth 65536 in
theorem w_t5 : (((((words1.drop 24).drop 24).drop 24).drop 24).take 24).all (fun c => isCode c || c.before args0 about1) = true := by decide +kernel
set_option maxRecDepth 65536 in
theorem w_t6 : (((((words1.drop 24).drop 24).drop 24).drop 24).drop 24).all (fun c => isCode c || c.before args0 about1) = true := by decide +kernel
theorem w_tables : (allAtoms (Jvm.Cond.code x code maxLocals ret :: tables_1)).before args0 about1 = true := by
  rw [allAtoms_all]
  show words1.all (fun c => c.before args0 about1) = true
  refine all_split ?_ w_codes
  rw [← List.take_append_drop 24 words1, List.all_append, w_t1, ← List.take_append_drop 24 (words1.drop 24), List.all_append, w_t2, ← List.take_append_drop 24 ((words1.drop 24).drop 24), List.all_append, w_t3, ← List.take_append_drop 24 (((words1.drop 24).drop 24).drop 24), List.all_append, w_t4, ← List.take_append_drop 24 ((((words1.drop 24).drop 24).drop 24).drop 24), List.all_append, w_t5, w_t6]
  rfl
set_option maxRecDepth 65536 in
theorem w_rest : rest_1_c.before args0 about1 = true := by decide +kernel
set_option maxRecDepth 65536 in
theorem w_case : (Jvm.Cond.and given_1 narrow_1).before args0 about1 = true := by decide +kernel
theorem w_applies : (headSpec (Jvm.Cond.code x code maxLocals ret :: tables_1) room_1).applies x e0.platform about1 = true :=
  (Spec.applies_iff w_frames).mpr ⟨w_running, w_runnable, w_alone, w_named, w_hears, w_ripe, w_room, w_tables⟩
theorem atStart : AtStart classFile x code maxLocals ret World_1 tables_1 room_1 Calls_1 rest_1 Pre_1 launch0 p0 e0 about1 theMethod args0 below0 :=
  ⟨lists_1, trivial, launch0.admits_env _ _ _, launch0.least_env, fairChoices_fair.cas, fairChoices_fair.clock, w_frames, w_args, w_heap, w_applies, trivial, w_rest, w_case⟩
end start1
theorem witness_1 : WitnessClaimed_1 := ⟨start1.p0, start1.e0, start1.about1, start1.theMethod, start1.args0, start1.below0, start1.atStart⟩
end Jvm.Pilot.@@N@@
