import JvmDerived
import JvmDerived.Pilot.@@N@@Statement
import JvmDerived.Pilot.@@N@@Code
set_option linter.unusedVariables false
set_option linter.unusedSimpArgs false
@@BLOCK:NumsL.lean.txt@@
namespace Jvm.Pilot.@@N@@
open Jvm Jvm.ClassFile Sem Op Lib Jvm.Free Jvm.Stand Jvm.LawKit Jvm.RoadKit Bundle Jvm.Pilot.@@N@@.Jvm.D
/-! general: a run that comes to its end with what Q says -/
def own_G (tb : Tables) (e : Env) (below : List Frame) (S : State) (s : State) (C N : Nat) (Q : Option Value → Heap → List Loc → Prop) : Prop :=
  ∃ t o, Steps tb e below S t ∧ t.status = .running ∧ Ended t below o ∧ ∃ v L, o = .returned v ∧ Q v t.heap L ∧ FrameEnd s o t L C N
def own_P (n0 : Nat) (h0 : Heap) (w : Option Value) (v : Option Value) (h : Heap) (L : List Loc) : Prop := v = w ∧ Fr n0 L ∧ h = h0
section Own
variable {tb : Tables} {p : Program} {l : Launch} {e : Env} {R : Room} {s : State} {m : MethodId} {args : Array Value} {below : List Frame} {meth : Method} {c : Code} {T S S' : State} {locs : List Loc} {cells slots C N n0 : Nat} {h0 : Heap} {Q : Option Value → Heap → List Loc → Prop}
theorem own_go (h : ∀ t, Steps tb e below S' t → Steps tb e below S t) (k : own_G tb e below S' s C N Q) : own_G tb e below S s C N Q := by
  obtain ⟨t, o, a, b⟩ := k
  exact ⟨t, o, h t a, b⟩
theorem own_tr (h : Steps tb e below S S') (k : own_G tb e below S' s C N Q) : own_G tb e below S s C N Q := by
  obtain ⟨t, o, a, b⟩ := k
  exact ⟨t, o, h.trans a, b⟩
theorem own_itI {P : Prop} [Decidable P] {A B : Int32} (h : P) (k : own_G tb e below S s C N (own_P n0 h0 (some (.int A)))) : own_G tb e below S s C N (own_P n0 h0 (some (.int (if P then A else B)))) := by rw [if_pos h]; exact k
theorem own_ifI {P : Prop} [Decidable P] {A B : Int32} (h : ¬ P) (k : own_G tb e below S s C N (own_P n0 h0 (some (.int B)))) : own_G tb e below S s C N (own_P n0 h0 (some (.int (if P then A else B)))) := by rw [if_neg h]; exact k
theorem own_itJ {P : Prop} [Decidable P] {A B : Int64} (h : P) (k : own_G tb e below S s C N (own_P n0 h0 (some (.long A)))) : own_G tb e below S s C N (own_P n0 h0 (some (.long (if P then A else B)))) := by rw [if_pos h]; exact k
theorem own_ifJ {P : Prop} [Decidable P] {A B : Int64} (h : ¬ P) (k : own_G tb e below S s C N (own_P n0 h0 (some (.long B)))) : own_G tb e below S s C N (own_P n0 h0 (some (.long (if P then A else B)))) := by rw [if_neg h]; exact k
theorem own_endO {w : Value} {t : FieldType} {i : Instr} (X : Stand p l e R s m args below meth c T locs cells slots) (hx : p.tables.exec = Jvm.exec) (hlk : meth.locks = false) {pc : Nat} {Ls : Array Slot} {rest : List Value} (hret : meth.sig.returnType = some t) (hn : narrow t w = w)
    (hi : (i = .ireturn ∧ (t = .int ∨ t = .boolean ∨ t = .byte ∨ t = .char ∨ t = .short) ∧ ∃ z, w = .int z) ∨ (i = .lreturn ∧ t = .long ∧ ∃ z, w = .long z) ∨ (i = .dreturn ∧ t = .double ∧ ∃ z, w = .double z) ∨ (i = .freturn ∧ t = .float ∧ ∃ z, w = .float z) ∨ (i = .areturn ∧ t.isReference = true ∧ w.isRef = true))
    (hd : decode c.code pc = .ok (i, 1)) (hC : cells ≤ C) (hN : slots ≤ N) (hQ : Q (some w) T.heap locs) : own_G p.tables e below (T.setTop (mkF m pc Ls (w :: rest))) s C N Q := by
  obtain ⟨fs, hr, hrun, hended, hW, hsame⟩ := X.leave (v := some w) (fun h => by rw [hret] at h; cases h) hlk
  exact ⟨_, _, retOut X hx hret hn hi hd hr, hrun, hended, _, _, rfl, hQ, ⟨_, rfl⟩, hW, hsame.mono hC hN⟩
theorem own_endI {z : Int32} (X : Stand p l e R s m args below meth c T locs cells slots) (hx : p.tables.exec = Jvm.exec) (hlk : meth.locks = false) {pc : Nat} {Ls : Array Slot} {rest : List Value} (hret : meth.sig.returnType = some .int)
    (hd : decode c.code pc = .ok (.ireturn, 1)) (hC : cells ≤ C) (hN : slots ≤ N) (hQ : Q (some (.int z)) T.heap locs) : own_G p.tables e below (T.setTop (mkF m pc Ls (.int z :: rest))) s C N Q :=
  own_endO X hx hlk hret rfl (Or.inl ⟨rfl, Or.inl rfl, z, rfl⟩) hd hC hN hQ
theorem own_endJ {z : Int64} (X : Stand p l e R s m args below meth c T locs cells slots) (hx : p.tables.exec = Jvm.exec) (hlk : meth.locks = false) {pc : Nat} {Ls : Array Slot} {rest : List Value} (hret : meth.sig.returnType = some .long)
    (hd : decode c.code pc = .ok (.lreturn, 1)) (hC : cells ≤ C) (hN : slots ≤ N) (hQ : Q (some (.long z)) T.heap locs) : own_G p.tables e below (T.setTop (mkF m pc Ls (.long z :: rest))) s C N Q :=
  own_endO X hx hlk hret rfl (Or.inr (Or.inl ⟨rfl, rfl, z, rfl⟩)) hd hC hN hQ
theorem own_endR {w : Value} {t : FieldType} (X : Stand p l e R s m args below meth c T locs cells slots) (hx : p.tables.exec = Jvm.exec) (hlk : meth.locks = false) {pc : Nat} {Ls : Array Slot} {rest : List Value} (hret : meth.sig.returnType = some t) (hn : narrow t w = w) (ht : t.isReference = true) (hw : w.isRef = true)
    (hd : decode c.code pc = .ok (.areturn, 1)) (hC : cells ≤ C) (hN : slots ≤ N) (hQ : Q (some w) T.heap locs) : own_G p.tables e below (T.setTop (mkF m pc Ls (w :: rest))) s C N Q :=
  own_endO X hx hlk hret hn (Or.inr (Or.inr (Or.inr (Or.inr ⟨rfl, ht, hw⟩)))) hd hC hN hQ
theorem own_endN {z : Int32} {t : FieldType} (X : Stand p l e R s m args below meth c T locs cells slots) (hx : p.tables.exec = Jvm.exec) (hlk : meth.locks = false) {pc : Nat} {Ls : Array Slot} {rest : List Value} (hret : meth.sig.returnType = some t) (ht : t = .boolean ∨ t = .byte ∨ t = .char ∨ t = .short)
    (hd : decode c.code pc = .ok (.ireturn, 1)) (hC : cells ≤ C) (hN : slots ≤ N) (hQ : Q (some (.int (nar t z))) T.heap locs) : own_G p.tables e below (T.setTop (mkF m pc Ls (.int z :: rest))) s C N Q := by
  obtain ⟨fs, hr, hrun, hended, hW, hsame⟩ := X.leave (v := some (.int (nar t z))) (fun h => by rw [hret] at h; cases h) hlk
  exact ⟨_, _, retN X hx hret ht hd hr, hrun, hended, _, _, rfl, hQ, ⟨_, rfl⟩, hW, hsame.mono hC hN⟩
theorem own_endV (X : Stand p l e R s m args below meth c T locs cells slots) (hx : p.tables.exec = Jvm.exec) (hlk : meth.locks = false) {pc : Nat} {Ls : Array Slot} (hret : meth.sig.returnType = none)
    (hd : decode c.code pc = .ok (.return_, 1)) (hC : cells ≤ C) (hN : slots ≤ N) (hQ : Q none T.heap locs) : own_G p.tables e below (T.setTop (mkF m pc Ls [])) s C N Q := by
  obtain ⟨fs, hr, hrun, hended, hW, hsame⟩ := X.leave (v := none) (fun _ => rfl) hlk
  exact ⟨_, _, X.returnOut hx hret hd hr, hrun, hended, _, _, rfl, hQ, ⟨_, rfl⟩, hW, hsame.mono hC hN⟩
end Own
theorem own_four (x : Int32) : x = 1 ∨ x = 113 ∨ x = 276 ∨ (¬ x = 1 ∧ ¬ x = 113 ∧ ¬ x = 276) := by
  by_cases h1 : x = 1
  · exact Or.inl h1
  · by_cases h2 : x = 113
    · exact Or.inr (Or.inl h2)
    · by_cases h3 : x = 276
      · exact Or.inr (Or.inr (Or.inl h3))
      · exact Or.inr (Or.inr (Or.inr ⟨h1, h2, h3⟩))
theorem own_miss (x : Int32) (h : ¬ x = 1 ∧ ¬ x = 113 ∧ ¬ x = 276) : (#[(1, 35), (113, 41), (276, 47)] : Array (Int × Int)).find? (·.1 == x.toInt) = none := by
  rw [Array.find?_eq_none]
  intro p hp
  have e1 : (1 : Int32).toInt = 1 := by decide
  have e2 : (113 : Int32).toInt = 113 := by decide
  have e3 : (276 : Int32).toInt = 276 := by decide
  simp only [List.mem_toArray, List.mem_cons, List.not_mem_nil, or_false] at hp
  rcases hp with rfl | rfl | rfl
  · intro q; exact h.1 (Int32.toInt_inj.mp (by simp at q; rw [e1]; exact q.symm))
  · intro q; exact h.2.1 (Int32.toInt_inj.mp (by simp at q; rw [e2]; exact q.symm))
  · intro q; exact h.2.2 (Int32.toInt_inj.mp (by simp at q; rw [e3]; exact q.symm))
theorem own_hit1 (x : Int32) (h : x = 1) : (#[(1, 35), (113, 41), (276, 47)] : Array (Int × Int)).find? (·.1 == x.toInt) = some (1, 35) := by subst h; decide
theorem own_hit2 (x : Int32) (h : x = 113) : (#[(1, 35), (113, 41), (276, 47)] : Array (Int × Int)).find? (·.1 == x.toInt) = some (113, 41) := by subst h; decide
theorem own_hit3 (x : Int32) (h : x = 276) : (#[(1, 35), (113, 41), (276, 47)] : Array (Int × Int)).find? (·.1 == x.toInt) = some (276, 47) := by subst h; decide
def own_reads (x : Int32) : Int32 := if x = 1 then 1 else if x = 113 then 1 else if x = 276 then 1 else 0

theorem d2_0 : decode prog_34_method_4_code 0 = .ok (.iload_n 0, 1) := by decide +kernel
theorem d2_1 : decode prog_34_method_4_code 1 = .ok (.lookupswitch 53 #[(1, 35), (113, 41), (276, 47)], 35) := by decide +kernel
theorem d2_36 : decode prog_34_method_4_code 36 = .ok (.getstatic 56, 3) := by decide +kernel
theorem d2_39 : decode prog_34_method_4_code 39 = .ok (.goto 16, 3) := by decide +kernel
theorem d2_42 : decode prog_34_method_4_code 42 = .ok (.getstatic 60, 3) := by decide +kernel
theorem d2_45 : decode prog_34_method_4_code 45 = .ok (.goto 10, 3) := by decide +kernel
theorem d2_48 : decode prog_34_method_4_code 48 = .ok (.getstatic 63, 3) := by decide +kernel
theorem d2_51 : decode prog_34_method_4_code 51 = .ok (.goto 4, 3) := by decide +kernel
theorem d2_54 : decode prog_34_method_4_code 54 = .ok (.aconst_null, 1) := by decide +kernel
theorem d2_55 : decode prog_34_method_4_code 55 = .ok (.areturn, 1) := by decide +kernel
theorem pn_0 : plainName "com/example/sift5/sift5/capture/UdpDecoder" = true := by first | (simp [plainName, overriddenIn]; done) | decide +kernel
theorem ef_2a (m : MethodId) (p0 : Int32) : entryFrame m #[(.int p0)] 1 = mkF m 0 #[.val (.int p0)] [] := by first | (simp [entryFrame, mkF, argsToLocals, Value.category]; done) | rfl
def Q2a (Z : State) (p0 : Int32) (s1 : Addr) (h0 : Heap) (n0 : Nat) (v : Option Value) (h : Heap) (L : List Loc) : Prop := v = some (.ref s1) ∧ Fr n0 L ∧ h = h0
set_option maxRecDepth 65536 in
set_option maxHeartbeats 40000000 in
theorem rm2a (l : Launch) (Z : State) (a0 : Array Value) (hw : ∀ d ∈ tables_1, d.before a0 Z = true) (ws : List Jvm.Cond) (p0 : Int32) (s1 : Addr) (h0 : Heap) (n0 : Nat) (Z0 : n0 ≤ h0.size) (P_S_com_example_sift5_sift5_capture_UdpDecoder_ETHERNET_LAYER : Sta Z h0 "com/example/sift5/sift5/capture/UdpDecoder" "ETHERNET_LAYER" "Lcom/example/sift5/sift5/capture/UdpDecoder$LinkLayer;" (.ref s1)) (hk : p0 = (1 : Int32)) :
    MetFree l (⟨"com/example/sift5/sift5/capture/UdpDecoder", "linkLayer", "(I)Lcom/example/sift5/sift5/capture/UdpDecoder$LinkLayer;"⟩ : MethodName) (head1 (Jvm.Cond.code (⟨"com/example/sift5/sift5/capture/UdpDecoder", "linkLayer", "(I)Lcom/example/sift5/sift5/capture/UdpDecoder$LinkLayer;"⟩ : MethodName) prog_34_method_4_code 1 (some (.object "com/example/sift5/sift5/capture/UdpDecoder$LinkLayer")) :: ws) ({ frames := 0, cells := 0, slots := 0, locals := 0 } : Room)) (fun a U => a = #[(.int p0)] ∧ Z.Warmed39 U.vm ∧ U.heap = h0) (fun _ _ _ _ _ => True) (fun _ U o U' => ∃ v L, o = .returned v ∧ (Q2a Z p0 s1 h0 n0) v U'.heap L ∧ FrameEnd U o U' L ({ frames := 0, cells := 0, slots := 0, locals := 0 } : Room).cells ({ frames := 0, cells := 0, slots := 0, locals := 0 } : Room).slots) := by
  refine MetFree.of_bodySF (plainFor_of_name pn_0) hisR ?_
  intro p e s m args below meth c s₁ Bd hml0 hP hK
  obtain ⟨rfl, hZ, hh⟩ := hP
  have hx := Bd.exec
  have hby := Bd.bytes
  have hml : c.maxLocals = 1 := hml0
  have hown : s.vm.findClass "com/example/sift5/sift5/capture/UdpDecoder" = some m.cls := findClass_of_methodNamed Bd.named
  have hnm := (name_of_methodNamed Bd.named Bd.method).1
  have hlk : meth.locks = false := BodyLoose.notSynchronized Bd
  have X0 : Stand p l e ({ frames := 0, cells := 0, slots := 0, locals := 0 } : Room) s m #[(.int p0)] below meth c s₁ [] 0 0 := Stand.of_body Bd
  have e0 : s₁.heap = h0 := by rw [← hh, Bd.state]; rfl
  have N0 := Fr.nil n0
  show own_G p.tables e below (s₁.setTop (entryFrame m #[(.int p0)] 1)) s ({ frames := 0, cells := 0, slots := 0, locals := 0 } : Room).cells ({ frames := 0, cells := 0, slots := 0, locals := 0 } : Room).slots (Q2a Z p0 s1 h0 n0)
  refine own_go (fun t k => castTop (ef_2a m p0) k) ?_
  show own_G _ _ _ (s₁.setTop (mkF m 0 #[.val (.int p0)] [])) _ _ _ _
  refine own_go (fun t k => XS.iloadN X0.here hx rfl (hb hby d2_0) rfl k) ?_
  show own_G _ _ _ (s₁.setTop (mkF m 1 #[.val (.int p0)] [(.int p0)])) _ _ _ _
  refine own_go (fun t k => X0.lookupswitchHit hx (g := (mkF m 1 #[.val (.int p0)] [(.int p0)])) rfl rfl (hb hby d2_1) (by decide) (own_hit1 _ hk) (by show (0 : Int) ≤ ((1 : Nat) : Int) + 35; decide) _ k) ?_
  show own_G _ _ _ (s₁.setTop (mkF m 36 #[.val (.int p0)] [])) _ _ _ _
  obtain ⟨T1, X1, e1, st1⟩ := getS2 X0 hx hZ hown (host := "") (Or.inl (hw _ (List.mem_of_getElem? (i := 7) rfl))) Via.refl e0 P_S_com_example_sift5_sift5_capture_UdpDecoder_ETHERNET_LAYER (g := (mkF m 36 #[.val (.int p0)] [])) rfl (hb hby d2_36)
  refine own_go (fun t k => st1 _ k) ?_
  show own_G _ _ _ (T1.setTop (mkF m 39 #[.val (.int p0)] [(.ref s1)])) _ _ _ _
  refine own_go (fun t k => XS.goto X1.here hx rfl (pc0 := 39) (pc' := 55) rfl (hb hby d2_39) (by decide) (by decide) k) ?_
  show own_G _ _ _ (T1.setTop (mkF m 55 #[.val (.int p0)] [(.ref s1)])) _ _ _ _
  exact own_endR X1 hx hlk Bd.returns rfl rfl rfl (hb hby d2_55) (by decide) (by decide) (Q := (Q2a Z p0 s1 h0 n0)) (by rw [e1]; exact ⟨rfl, N0, rfl⟩)
def Q2b (Z : State) (p0 : Int32) (s2 : Addr) (h0 : Heap) (n0 : Nat) (v : Option Value) (h : Heap) (L : List Loc) : Prop := v = some (.ref s2) ∧ Fr n0 L ∧ h = h0
set_option maxRecDepth 65536 in
set_option maxHeartbeats 40000000 in
theorem rm2b (l : Launch) (Z : State) (a0 : Array Value) (hw : ∀ d ∈ tables_1, d.before a0 Z = true) (ws : List Jvm.Cond) (p0 : Int32) (s2 : Addr) (h0 : Heap) (n0 : Nat) (Z0 : n0 ≤ h0.size) (P_S_com_example_sift5_sift5_capture_UdpDecoder_LINUX_COOKED_LAYER : Sta Z h0 "com/example/sift5/sift5/capture/UdpDecoder" "LINUX_COOKED_LAYER" "Lcom/example/sift5/sift5/capture/UdpDecoder$LinkLayer;" (.ref s2)) (hk : p0 = (113 : Int32)) :
    MetFree l (⟨"com/example/sift5/sift5/capture/UdpDecoder", "linkLayer", "(I)Lcom/example/sift5/sift5/capture/UdpDecoder$LinkLayer;"⟩ : MethodName) (head1 (Jvm.Cond.code (⟨"com/example/sift5/sift5/capture/UdpDecoder", "linkLayer", "(I)Lcom/example/sift5/sift5/capture/UdpDecoder$LinkLayer;"⟩ : MethodName) prog_34_method_4_code 1 (some (.object "com/example/sift5/sift5/capture/UdpDecoder$LinkLayer")) :: ws) ({ frames := 0, cells := 0, slots := 0, locals := 0 } : Room)) (fun a U => a = #[(.int p0)] ∧ Z.Warmed39 U.vm ∧ U.heap = h0) (fun _ _ _ _ _ => True) (fun _ U o U' => ∃ v L, o = .returned v ∧ (Q2b Z p0 s2 h0 n0) v U'.heap L ∧ FrameEnd U o U' L ({ frames := 0, cells := 0, slots := 0, locals := 0 } : Room).cells ({ frames := 0, cells := 0, slots := 0, locals := 0 } : Room).slots) := by
  refine MetFree.of_bodySF (plainFor_of_name pn_0) hisR ?_
  intro p e s m args below meth c s₁ Bd hml0 hP hK
  obtain ⟨rfl, hZ, hh⟩ := hP
  have hx := Bd.exec
  have hby := Bd.bytes
  have hml : c.maxLocals = 1 := hml0
  have hown : s.vm.findClass "com/example/sift5/sift5/capture/UdpDecoder" = some m.cls := findClass_of_methodNamed Bd.named
  have hnm := (name_of_methodNamed Bd.named Bd.method).1
  have hlk : meth.locks = false := BodyLoose.notSynchronized Bd
  have X0 : Stand p l e ({ frames := 0, cells := 0, slots := 0, locals := 0 } : Room) s m #[(.int p0)] below meth c s₁ [] 0 0 := Stand.of_body Bd
  have e0 : s₁.heap = h0 := by rw [← hh, Bd.state]; rfl
  have N0 := Fr.nil n0
  show own_G p.tables e below (s₁.setTop (entryFrame m #[(.int p0)] 1)) s ({ frames := 0, cells := 0, slots := 0, locals := 0 } : Room).cells ({ frames := 0, cells := 0, slots := 0, locals := 0 } : Room).slots (Q2b Z p0 s2 h0 n0)
  refine own_go (fun t k => castTop (ef_2a m p0) k) ?_
  show own_G _ _ _ (s₁.setTop (mkF m 0 #[.val (.int p0)] [])) _ _ _ _
  refine own_go (fun t k => XS.iloadN X0.here hx rfl (hb hby d2_0) rfl k) ?_
  show own_G _ _ _ (s₁.setTop (mkF m 1 #[.val (.int p0)] [(.int p0)])) _ _ _ _
  refine own_go (fun t k => X0.lookupswitchHit hx (g := (mkF m 1 #[.val (.int p0)] [(.int p0)])) rfl rfl (hb hby d2_1) (by decide) (own_hit2 _ hk) (by show (0 : Int) ≤ ((1 : Nat) : Int) + 41; decide) _ k) ?_
  show own_G _ _ _ (s₁.setTop (mkF m 42 #[.val (.int p0)] [])) _ _ _ _
  obtain ⟨T1, X1, e1, st1⟩ := getS2 X0 hx hZ hown (host := "") (Or.inl (hw _ (List.mem_of_getElem? (i := 9) rfl))) Via.refl e0 P_S_com_example_sift5_sift5_capture_UdpDecoder_LINUX_COOKED_LAYER (g := (mkF m 42 #[.val (.int p0)] [])) rfl (hb hby d2_42)
  refine own_go (fun t k => st1 _ k) ?_
  show own_G _ _ _ (T1.setTop (mkF m 45 #[.val (.int p0)] [(.ref s2)])) _ _ _ _
  refine own_go (fun t k => XS.goto X1.here hx rfl (pc0 := 45) (pc' := 55) rfl (hb hby d2_45) (by decide) (by decide) k) ?_
  show own_G _ _ _ (T1.setTop (mkF m 55 #[.val (.int p0)] [(.ref s2)])) _ _ _ _
  exact own_endR X1 hx hlk Bd.returns rfl rfl rfl (hb hby d2_55) (by decide) (by decide) (Q := (Q2b Z p0 s2 h0 n0)) (by rw [e1]; exact ⟨rfl, N0, rfl⟩)
def Q2c (Z : State) (p0 : Int32) (s3 : Addr) (h0 : Heap) (n0 : Nat) (v : Option Value) (h : Heap) (L : List Loc) : Prop := v = some (.ref s3) ∧ Fr n0 L ∧ h = h0
set_option maxRecDepth 65536 in
set_option maxHeartbeats 40000000 in
theorem rm2c (l : Launch) (Z : State) (a0 : Array Value) (hw : ∀ d ∈ tables_1, d.before a0 Z = true) (ws : List Jvm.Cond) (p0 : Int32) (s3 : Addr) (h0 : Heap) (n0 : Nat) (Z0 : n0 ≤ h0.size) (P_S_com_example_sift5_sift5_capture_UdpDecoder_LINUX_COOKED_V2_LAYER : Sta Z h0 "com/example/sift5/sift5/capture/UdpDecoder" "LINUX_COOKED_V2_LAYER" "Lcom/example/sift5/sift5/capture/UdpDecoder$LinkLayer;" (.ref s3)) (hk : p0 = (276 : Int32)) :
    MetFree l (⟨"com/example/sift5/sift5/capture/UdpDecoder", "linkLayer", "(I)Lcom/example/sift5/sift5/capture/UdpDecoder$LinkLayer;"⟩ : MethodName) (head1 (Jvm.Cond.code (⟨"com/example/sift5/sift5/capture/UdpDecoder", "linkLayer", "(I)Lcom/example/sift5/sift5/capture/UdpDecoder$LinkLayer;"⟩ : MethodName) prog_34_method_4_code 1 (some (.object "com/example/sift5/sift5/capture/UdpDecoder$LinkLayer")) :: ws) ({ frames := 0, cells := 0, slots := 0, locals := 0 } : Room)) (fun a U => a = #[(.int p0)] ∧ Z.Warmed39 U.vm ∧ U.heap = h0) (fun _ _ _ _ _ => True) (fun _ U o U' => ∃ v L, o = .returned v ∧ (Q2c Z p0 s3 h0 n0) v U'.heap L ∧ FrameEnd U o U' L ({ frames := 0, cells := 0, slots := 0, locals := 0 } : Room).cells ({ frames := 0, cells := 0, slots := 0, locals := 0 } : Room).slots) := by
  refine MetFree.of_bodySF (plainFor_of_name pn_0) hisR ?_
  intro p e s m args below meth c s₁ Bd hml0 hP hK
  obtain ⟨rfl, hZ, hh⟩ := hP
  have hx := Bd.exec
  have hby := Bd.bytes
  have hml : c.maxLocals = 1 := hml0
  have hown : s.vm.findClass "com/example/sift5/sift5/capture/UdpDecoder" = some m.cls := findClass_of_methodNamed Bd.named
  have hnm := (name_of_methodNamed Bd.named Bd.method).1
  have hlk : meth.locks = false := BodyLoose.notSynchronized Bd
  have X0 : Stand p l e ({ frames := 0, cells := 0, slots := 0, locals := 0 } : Room) s m #[(.int p0)] below meth c s₁ [] 0 0 := Stand.of_body Bd
  have e0 : s₁.heap = h0 := by rw [← hh, Bd.state]; rfl
  have N0 := Fr.nil n0
  show own_G p.tables e below (s₁.setTop (entryFrame m #[(.int p0)] 1)) s ({ frames := 0, cells := 0, slots := 0, locals := 0 } : Room).cells ({ frames := 0, cells := 0, slots := 0, locals := 0 } : Room).slots (Q2c Z p0 s3 h0 n0)
  refine own_go (fun t k => castTop (ef_2a m p0) k) ?_
  show own_G _ _ _ (s₁.setTop (mkF m 0 #[.val (.int p0)] [])) _ _ _ _
  refine own_go (fun t k => XS.iloadN X0.here hx rfl (hb hby d2_0) rfl k) ?_
  show own_G _ _ _ (s₁.setTop (mkF m 1 #[.val (.int p0)] [(.int p0)])) _ _ _ _
  refine own_go (fun t k => X0.lookupswitchHit hx (g := (mkF m 1 #[.val (.int p0)] [(.int p0)])) rfl rfl (hb hby d2_1) (by decide) (own_hit3 _ hk) (by show (0 : Int) ≤ ((1 : Nat) : Int) + 47; decide) _ k) ?_
  show own_G _ _ _ (s₁.setTop (mkF m 48 #[.val (.int p0)] [])) _ _ _ _
  obtain ⟨T1, X1, e1, st1⟩ := getS2 X0 hx hZ hown (host := "") (Or.inl (hw _ (List.mem_of_getElem? (i := 11) rfl))) Via.refl e0 P_S_com_example_sift5_sift5_capture_UdpDecoder_LINUX_COOKED_V2_LAYER (g := (mkF m 48 #[.val (.int p0)] [])) rfl (hb hby d2_48)
  refine own_go (fun t k => st1 _ k) ?_
  show own_G _ _ _ (T1.setTop (mkF m 51 #[.val (.int p0)] [(.ref s3)])) _ _ _ _
  refine own_go (fun t k => XS.goto X1.here hx rfl (pc0 := 51) (pc' := 55) rfl (hb hby d2_51) (by decide) (by decide) k) ?_
  show own_G _ _ _ (T1.setTop (mkF m 55 #[.val (.int p0)] [(.ref s3)])) _ _ _ _
  exact own_endR X1 hx hlk Bd.returns rfl rfl rfl (hb hby d2_55) (by decide) (by decide) (Q := (Q2c Z p0 s3 h0 n0)) (by rw [e1]; exact ⟨rfl, N0, rfl⟩)
def Q2d (Z : State) (p0 : Int32) (h0 : Heap) (n0 : Nat) (v : Option Value) (h : Heap) (L : List Loc) : Prop := v = some .null ∧ Fr n0 L ∧ h = h0
set_option maxRecDepth 65536 in
set_option maxHeartbeats 40000000 in
theorem rm2d (l : Launch) (Z : State) (a0 : Array Value) (hw : ∀ d ∈ tables_1, d.before a0 Z = true) (ws : List Jvm.Cond) (p0 : Int32) (h0 : Heap) (n0 : Nat) (Z0 : n0 ≤ h0.size) (hk : ¬ p0 = 1 ∧ ¬ p0 = 113 ∧ ¬ p0 = 276) :
    MetFree l (⟨"com/example/sift5/sift5/capture/UdpDecoder", "linkLayer", "(I)Lcom/example/sift5/sift5/capture/UdpDecoder$LinkLayer;"⟩ : MethodName) (head1 (Jvm.Cond.code (⟨"com/example/sift5/sift5/capture/UdpDecoder", "linkLayer", "(I)Lcom/example/sift5/sift5/capture/UdpDecoder$LinkLayer;"⟩ : MethodName) prog_34_method_4_code 1 (some (.object "com/example/sift5/sift5/capture/UdpDecoder$LinkLayer")) :: ws) ({ frames := 0, cells := 0, slots := 0, locals := 0 } : Room)) (fun a U => a = #[(.int p0)] ∧ Z.Warmed39 U.vm ∧ U.heap = h0) (fun _ _ _ _ _ => True) (fun _ U o U' => ∃ v L, o = .returned v ∧ (Q2d Z p0 h0 n0) v U'.heap L ∧ FrameEnd U o U' L ({ frames := 0, cells := 0, slots := 0, locals := 0 } : Room).cells ({ frames := 0, cells := 0, slots := 0, locals := 0 } : Room).slots) := by
  refine MetFree.of_bodySF (plainFor_of_name pn_0) hisR ?_
  intro p e s m args below meth c s₁ Bd hml0 hP hK
  obtain ⟨rfl, hZ, hh⟩ := hP
  have hx := Bd.exec
  have hby := Bd.bytes
  have hml : c.maxLocals = 1 := hml0
  have hown : s.vm.findClass "com/example/sift5/sift5/capture/UdpDecoder" = some m.cls := findClass_of_methodNamed Bd.named
  have hnm := (name_of_methodNamed Bd.named Bd.method).1
  have hlk : meth.locks = false := BodyLoose.notSynchronized Bd
  have X0 : Stand p l e ({ frames := 0, cells := 0, slots := 0, locals := 0 } : Room) s m #[(.int p0)] below meth c s₁ [] 0 0 := Stand.of_body Bd
  have e0 : s₁.heap = h0 := by rw [← hh, Bd.state]; rfl
  have N0 := Fr.nil n0
  show own_G p.tables e below (s₁.setTop (entryFrame m #[(.int p0)] 1)) s ({ frames := 0, cells := 0, slots := 0, locals := 0 } : Room).cells ({ frames := 0, cells := 0, slots := 0, locals := 0 } : Room).slots (Q2d Z p0 h0 n0)
  refine own_go (fun t k => castTop (ef_2a m p0) k) ?_
  show own_G _ _ _ (s₁.setTop (mkF m 0 #[.val (.int p0)] [])) _ _ _ _
  refine own_go (fun t k => XS.iloadN X0.here hx rfl (hb hby d2_0) rfl k) ?_
  show own_G _ _ _ (s₁.setTop (mkF m 1 #[.val (.int p0)] [(.int p0)])) _ _ _ _
  refine own_go (fun t k => X0.lookupswitchMiss hx (g := (mkF m 1 #[.val (.int p0)] [(.int p0)])) rfl rfl (hb hby d2_1) (by decide) (own_miss _ hk) (by show (0 : Int) ≤ ((1 : Nat) : Int) + 53; decide) _ k) ?_
  show own_G _ _ _ (s₁.setTop (mkF m 54 #[.val (.int p0)] [])) _ _ _ _
  refine own_go (fun t k => XS.aconstNull X0.here hx rfl (hb hby d2_54) k) ?_
  show own_G _ _ _ (s₁.setTop (mkF m 55 #[.val (.int p0)] [.null])) _ _ _ _
  exact own_endR X0 hx hlk Bd.returns rfl rfl rfl (hb hby d2_55) (by decide) (by decide) (Q := (Q2d Z p0 h0 n0)) (by rw [e0]; exact ⟨rfl, N0, rfl⟩)
theorem d1_0 : decode prog_34_method_2_code 0 = .ok (.iload_n 0, 1) := by decide +kernel
theorem d1_1 : decode prog_34_method_2_code 1 = .ok (.invokestatic 16, 3) := by decide +kernel
theorem d1_4 : decode prog_34_method_2_code 4 = .ok (.ifnull 7, 3) := by decide +kernel
theorem d1_7 : decode prog_34_method_2_code 7 = .ok (.iconst 1, 1) := by decide +kernel
theorem d1_8 : decode prog_34_method_2_code 8 = .ok (.goto 4, 3) := by decide +kernel
theorem d1_11 : decode prog_34_method_2_code 11 = .ok (.iconst 0, 1) := by decide +kernel
theorem d1_12 : decode prog_34_method_2_code 12 = .ok (.ireturn, 1) := by decide +kernel
theorem pd_0 : parseMethodDescriptor "(I)Lcom/example/sift5/sift5/capture/UdpDecoder$LinkLayer;" = some ⟨[.int], some (.object "com/example/sift5/sift5/capture/UdpDecoder$LinkLayer")⟩ := by decide +kernel
theorem ef_1 (m : MethodId) (p0 : Int32) : entryFrame m #[(.int p0)] 1 = mkF m 0 #[.val (.int p0)] [] := by first | (simp [entryFrame, mkF, argsToLocals, Value.category]; done) | rfl
def Q1 (Z : State) (p0 : Int32) (s1 : Addr) (s2 : Addr) (s3 : Addr) (h0 : Heap) (n0 : Nat) (v : Option Value) (h : Heap) (L : List Loc) : Prop := v = some (.int (own_reads p0)) ∧ Fr n0 L ∧ h = h0
set_option maxRecDepth 65536 in
set_option maxHeartbeats 40000000 in
theorem rm1 (l : Launch) (Z : State) (a0 : Array Value) (hw : ∀ d ∈ tables_1, d.before a0 Z = true) (ws : List Jvm.Cond) (p0 : Int32) (s1 : Addr) (s2 : Addr) (s3 : Addr) (h0 : Heap) (n0 : Nat) (Z0 : n0 ≤ h0.size) (P_S_com_example_sift5_sift5_capture_UdpDecoder_ETHERNET_LAYER : Sta Z h0 "com/example/sift5/sift5/capture/UdpDecoder" "ETHERNET_LAYER" "Lcom/example/sift5/sift5/capture/UdpDecoder$LinkLayer;" (.ref s1)) (P_S_com_example_sift5_sift5_capture_UdpDecoder_LINUX_COOKED_LAYER : Sta Z h0 "com/example/sift5/sift5/capture/UdpDecoder" "LINUX_COOKED_LAYER" "Lcom/example/sift5/sift5/capture/UdpDecoder$LinkLayer;" (.ref s2)) (P_S_com_example_sift5_sift5_capture_UdpDecoder_LINUX_COOKED_V2_LAYER : Sta Z h0 "com/example/sift5/sift5/capture/UdpDecoder" "LINUX_COOKED_V2_LAYER" "Lcom/example/sift5/sift5/capture/UdpDecoder$LinkLayer;" (.ref s3)) :
    MetFree l (⟨"com/example/sift5/sift5/capture/UdpDecoder", "reads", "(I)Z"⟩ : MethodName) (head1 (Jvm.Cond.code (⟨"com/example/sift5/sift5/capture/UdpDecoder", "reads", "(I)Z"⟩ : MethodName) prog_34_method_2_code 1 (some .boolean) :: ws) ({ frames := 1, cells := 0, slots := 0, locals := 12 } : Room)) (fun a U => a = #[(.int p0)] ∧ Z.Warmed39 U.vm ∧ U.heap = h0) (fun _ _ _ _ _ => True) (fun _ U o U' => ∃ v L, o = .returned v ∧ (Q1 Z p0 s1 s2 s3 h0 n0) v U'.heap L ∧ FrameEnd U o U' L ({ frames := 1, cells := 0, slots := 0, locals := 12 } : Room).cells ({ frames := 1, cells := 0, slots := 0, locals := 12 } : Room).slots) := by
  refine MetFree.of_bodySF (plainFor_of_name pn_0) hisR ?_
  intro p e s m args below meth c s₁ Bd hml0 hP hK
  obtain ⟨rfl, hZ, hh⟩ := hP
  have hx := Bd.exec
  have hby := Bd.bytes
  have hml : c.maxLocals = 1 := hml0
  have hown : s.vm.findClass "com/example/sift5/sift5/capture/UdpDecoder" = some m.cls := findClass_of_methodNamed Bd.named
  have hnm := (name_of_methodNamed Bd.named Bd.method).1
  have hlk : meth.locks = false := BodyLoose.notSynchronized Bd
  have X0 : Stand p l e ({ frames := 1, cells := 0, slots := 0, locals := 12 } : Room) s m #[(.int p0)] below meth c s₁ [] 0 0 := Stand.of_body Bd
  have e0 : s₁.heap = h0 := by rw [← hh, Bd.state]; rfl
  have N0 := Fr.nil n0
  show own_G p.tables e below (s₁.setTop (entryFrame m #[(.int p0)] 1)) s ({ frames := 1, cells := 0, slots := 0, locals := 12 } : Room).cells ({ frames := 1, cells := 0, slots := 0, locals := 12 } : Room).slots (Q1 Z p0 s1 s2 s3 h0 n0)
  refine own_go (fun t k => castTop (ef_1 m p0) k) ?_
  show own_G _ _ _ (s₁.setTop (mkF m 0 #[.val (.int p0)] [])) _ _ _ _
  rcases own_four p0 with hk | hk | hk | hk
  · skip
    refine own_go (fun t k => XS.iloadN X0.here hx rfl (hb hby d1_0) rfl k) ?_
    show own_G _ _ _ (s₁.setTop (mkF m 1 #[.val (.int p0)] [(.int p0)])) _ _ _ _
    obtain ⟨_, _, ⟨T1, L1, k1, n1⟩, -, X1, ⟨Lc1, hQ1, l1, y1, z1⟩, st1⟩ := Jvm.LawKit.callS X0 hx (y := (⟨"com/example/sift5/sift5/capture/UdpDecoder", "linkLayer", "(I)Lcom/example/sift5/sift5/capture/UdpDecoder$LinkLayer;"⟩ : MethodName)) hown (mvT hZ (hw _ (List.mem_of_getElem? (i := 4) rfl))) (mvT hZ (hw _ (List.mem_of_getElem? (i := 5) rfl))) (mvT hZ (hw _ (List.mem_of_getElem? (i := 2) rfl))) (mvT hZ (hw _ (List.mem_of_getElem? (i := 6) rfl))) (by decide) (backOf (W := 0) (rm2a l Z a0 hw [] p0 s1 h0 n0 Z0 P_S_com_example_sift5_sift5_capture_UdpDecoder_ETHERNET_LAYER hk) hZ (hw _ (List.mem_of_getElem? (i := 6) rfl)) (hw _ (List.mem_of_getElem? (i := 2) rfl)) (by decide) (by decide)) (g := (mkF m 1 #[.val (.int p0)] [(.int p0)])) rfl (by rw [hml]; rfl) (argsL := [(.int p0)]) (rest := []) (lenOf pd_0 rfl) rfl (by show 2 * 0 + _ ≤ _; exact Nat.le_of_eq rfl) (hb hby d1_1) (fun _ _ => ⟨rfl, e0, (by decide : 0 + 0 ≤ _), (by decide : 0 + 0 ≤ _)⟩)
    dsimp only [Pt.U, Pt.locs, Pt.cells, Pt.slots] at X1 l1 y1 z1 st1 hQ1
    subst l1 y1 z1
    obtain ⟨rfl, Nq1, eh1⟩ := hQ1
    have N1 := Fr.app N0 Nq1
    refine own_go (fun t k => st1 _ k) ?_
    show own_G _ _ _ (T1.setTop (mkF m 4 #[.val (.int p0)] [(.ref s1)])) _ _ _ _
    refine own_go (fun t k => XS.ifnullNo X1.here hx rfl (hb hby d1_4) rfl k) ?_
    show own_G _ _ _ (T1.setTop (mkF m 7 #[.val (.int p0)] [])) _ _ _ _
    refine own_go (fun t k => XS.iconst X1.here hx rfl (hb hby d1_7) k) ?_
    show own_G _ _ _ (T1.setTop (mkF m 8 #[.val (.int p0)] [(.int (1 : Int32))])) _ _ _ _
    refine own_go (fun t k => XS.goto X1.here hx rfl (pc0 := 8) (pc' := 12) rfl (hb hby d1_8) (by decide) (by decide) k) ?_
    show own_G _ _ _ (T1.setTop (mkF m 12 #[.val (.int p0)] [(.int (1 : Int32))])) _ _ _ _
    exact own_endN X1 hx hlk (t := .boolean) Bd.returns (by simp) (hb hby d1_12) (by decide) (by decide) (Q := (Q1 Z p0 s1 s2 s3 h0 n0)) (by rw [eh1]; exact ⟨(by unfold own_reads; rw [if_pos hk]; rfl), N1, rfl⟩)
  · skip
    refine own_go (fun t k => XS.iloadN X0.here hx rfl (hb hby d1_0) rfl k) ?_
    show own_G _ _ _ (s₁.setTop (mkF m 1 #[.val (.int p0)] [(.int p0)])) _ _ _ _
    obtain ⟨_, _, ⟨T2, L2, k2, n2⟩, -, X2, ⟨Lc2, hQ2, l2, y2, z2⟩, st2⟩ := Jvm.LawKit.callS X0 hx (y := (⟨"com/example/sift5/sift5/capture/UdpDecoder", "linkLayer", "(I)Lcom/example/sift5/sift5/capture/UdpDecoder$LinkLayer;"⟩ : MethodName)) hown (mvT hZ (hw _ (List.mem_of_getElem? (i := 4) rfl))) (mvT hZ (hw _ (List.mem_of_getElem? (i := 5) rfl))) (mvT hZ (hw _ (List.mem_of_getElem? (i := 2) rfl))) (mvT hZ (hw _ (List.mem_of_getElem? (i := 6) rfl))) (by decide) (backOf (W := 0) (rm2b l Z a0 hw [] p0 s2 h0 n0 Z0 P_S_com_example_sift5_sift5_capture_UdpDecoder_LINUX_COOKED_LAYER hk) hZ (hw _ (List.mem_of_getElem? (i := 6) rfl)) (hw _ (List.mem_of_getElem? (i := 2) rfl)) (by decide) (by decide)) (g := (mkF m 1 #[.val (.int p0)] [(.int p0)])) rfl (by rw [hml]; rfl) (argsL := [(.int p0)]) (rest := []) (lenOf pd_0 rfl) rfl (by show 2 * 0 + _ ≤ _; exact Nat.le_of_eq rfl) (hb hby d1_1) (fun _ _ => ⟨rfl, e0, (by decide : 0 + 0 ≤ _), (by decide : 0 + 0 ≤ _)⟩)
    dsimp only [Pt.U, Pt.locs, Pt.cells, Pt.slots] at X2 l2 y2 z2 st2 hQ2
    subst l2 y2 z2
    obtain ⟨rfl, Nq2, eh2⟩ := hQ2
    have N2 := Fr.app N0 Nq2
    refine own_go (fun t k => st2 _ k) ?_
    show own_G _ _ _ (T2.setTop (mkF m 4 #[.val (.int p0)] [(.ref s2)])) _ _ _ _
    refine own_go (fun t k => XS.ifnullNo X2.here hx rfl (hb hby d1_4) rfl k) ?_
    show own_G _ _ _ (T2.setTop (mkF m 7 #[.val (.int p0)] [])) _ _ _ _
    refine own_go (fun t k => XS.iconst X2.here hx rfl (hb hby d1_7) k) ?_
    show own_G _ _ _ (T2.setTop (mkF m 8 #[.val (.int p0)] [(.int (1 : Int32))])) _ _ _ _
    refine own_go (fun t k => XS.goto X2.here hx rfl (pc0 := 8) (pc' := 12) rfl (hb hby d1_8) (by decide) (by decide) k) ?_
    show own_G _ _ _ (T2.setTop (mkF m 12 #[.val (.int p0)] [(.int (1 : Int32))])) _ _ _ _
    exact own_endN X2 hx hlk (t := .boolean) Bd.returns (by simp) (hb hby d1_12) (by decide) (by decide) (Q := (Q1 Z p0 s1 s2 s3 h0 n0)) (by rw [eh2]; exact ⟨(by unfold own_reads; rw [if_neg (by rw [hk]; decide), if_pos hk]; rfl), N2, rfl⟩)
  · skip
    refine own_go (fun t k => XS.iloadN X0.here hx rfl (hb hby d1_0) rfl k) ?_
    show own_G _ _ _ (s₁.setTop (mkF m 1 #[.val (.int p0)] [(.int p0)])) _ _ _ _
    obtain ⟨_, _, ⟨T3, L3, k3, n3⟩, -, X3, ⟨Lc3, hQ3, l3, y3, z3⟩, st3⟩ := Jvm.LawKit.callS X0 hx (y := (⟨"com/example/sift5/sift5/capture/UdpDecoder", "linkLayer", "(I)Lcom/example/sift5/sift5/capture/UdpDecoder$LinkLayer;"⟩ : MethodName)) hown (mvT hZ (hw _ (List.mem_of_getElem? (i := 4) rfl))) (mvT hZ (hw _ (List.mem_of_getElem? (i := 5) rfl))) (mvT hZ (hw _ (List.mem_of_getElem? (i := 2) rfl))) (mvT hZ (hw _ (List.mem_of_getElem? (i := 6) rfl))) (by decide) (backOf (W := 0) (rm2c l Z a0 hw [] p0 s3 h0 n0 Z0 P_S_com_example_sift5_sift5_capture_UdpDecoder_LINUX_COOKED_V2_LAYER hk) hZ (hw _ (List.mem_of_getElem? (i := 6) rfl)) (hw _ (List.mem_of_getElem? (i := 2) rfl)) (by decide) (by decide)) (g := (mkF m 1 #[.val (.int p0)] [(.int p0)])) rfl (by rw [hml]; rfl) (argsL := [(.int p0)]) (rest := []) (lenOf pd_0 rfl) rfl (by show 2 * 0 + _ ≤ _; exact Nat.le_of_eq rfl) (hb hby d1_1) (fun _ _ => ⟨rfl, e0, (by decide : 0 + 0 ≤ _), (by decide : 0 + 0 ≤ _)⟩)
    dsimp only [Pt.U, Pt.locs, Pt.cells, Pt.slots] at X3 l3 y3 z3 st3 hQ3
    subst l3 y3 z3
    obtain ⟨rfl, Nq3, eh3⟩ := hQ3
    have N3 := Fr.app N0 Nq3
    refine own_go (fun t k => st3 _ k) ?_
    show own_G _ _ _ (T3.setTop (mkF m 4 #[.val (.int p0)] [(.ref s3)])) _ _ _ _
    refine own_go (fun t k => XS.ifnullNo X3.here hx rfl (hb hby d1_4) rfl k) ?_
    show own_G _ _ _ (T3.setTop (mkF m 7 #[.val (.int p0)] [])) _ _ _ _
    refine own_go (fun t k => XS.iconst X3.here hx rfl (hb hby d1_7) k) ?_
    show own_G _ _ _ (T3.setTop (mkF m 8 #[.val (.int p0)] [(.int (1 : Int32))])) _ _ _ _
    refine own_go (fun t k => XS.goto X3.here hx rfl (pc0 := 8) (pc' := 12) rfl (hb hby d1_8) (by decide) (by decide) k) ?_
    show own_G _ _ _ (T3.setTop (mkF m 12 #[.val (.int p0)] [(.int (1 : Int32))])) _ _ _ _
    exact own_endN X3 hx hlk (t := .boolean) Bd.returns (by simp) (hb hby d1_12) (by decide) (by decide) (Q := (Q1 Z p0 s1 s2 s3 h0 n0)) (by rw [eh3]; exact ⟨(by unfold own_reads; rw [if_neg (by rw [hk]; decide), if_neg (by rw [hk]; decide), if_pos hk]; rfl), N3, rfl⟩)
  · skip
    refine own_go (fun t k => XS.iloadN X0.here hx rfl (hb hby d1_0) rfl k) ?_
    show own_G _ _ _ (s₁.setTop (mkF m 1 #[.val (.int p0)] [(.int p0)])) _ _ _ _
    obtain ⟨_, _, ⟨T4, L4, k4, n4⟩, -, X4, ⟨Lc4, hQ4, l4, y4, z4⟩, st4⟩ := Jvm.LawKit.callS X0 hx (y := (⟨"com/example/sift5/sift5/capture/UdpDecoder", "linkLayer", "(I)Lcom/example/sift5/sift5/capture/UdpDecoder$LinkLayer;"⟩ : MethodName)) hown (mvT hZ (hw _ (List.mem_of_getElem? (i := 4) rfl))) (mvT hZ (hw _ (List.mem_of_getElem? (i := 5) rfl))) (mvT hZ (hw _ (List.mem_of_getElem? (i := 2) rfl))) (mvT hZ (hw _ (List.mem_of_getElem? (i := 6) rfl))) (by decide) (backOf (W := 0) (rm2d l Z a0 hw [] p0  h0 n0 Z0 hk) hZ (hw _ (List.mem_of_getElem? (i := 6) rfl)) (hw _ (List.mem_of_getElem? (i := 2) rfl)) (by decide) (by decide)) (g := (mkF m 1 #[.val (.int p0)] [(.int p0)])) rfl (by rw [hml]; rfl) (argsL := [(.int p0)]) (rest := []) (lenOf pd_0 rfl) rfl (by show 2 * 0 + _ ≤ _; exact Nat.le_of_eq rfl) (hb hby d1_1) (fun _ _ => ⟨rfl, e0, (by decide : 0 + 0 ≤ _), (by decide : 0 + 0 ≤ _)⟩)
    dsimp only [Pt.U, Pt.locs, Pt.cells, Pt.slots] at X4 l4 y4 z4 st4 hQ4
    subst l4 y4 z4
    obtain ⟨rfl, Nq4, eh4⟩ := hQ4
    have N4 := Fr.app N0 Nq4
    refine own_go (fun t k => st4 _ k) ?_
    show own_G _ _ _ (T4.setTop (mkF m 4 #[.val (.int p0)] [.null])) _ _ _ _
    refine own_go (fun t k => XS.ifnullYes X4.here hx rfl (pc0 := 4) (pc' := 11) rfl (hb hby d1_4) rfl (by decide) (by decide) k) ?_
    show own_G _ _ _ (T4.setTop (mkF m 11 #[.val (.int p0)] [])) _ _ _ _
    refine own_go (fun t k => XS.iconst X4.here hx rfl (hb hby d1_11) k) ?_
    show own_G _ _ _ (T4.setTop (mkF m 12 #[.val (.int p0)] [(.int (0 : Int32))])) _ _ _ _
    exact own_endN X4 hx hlk (t := .boolean) Bd.returns (by simp) (hb hby d1_12) (by decide) (by decide) (Q := (Q1 Z p0 s1 s2 s3 h0 n0)) (by rw [eh4]; exact ⟨(by unfold own_reads; rw [if_neg hk.1, if_neg hk.2.1, if_neg hk.2.2]; rfl), N4, rfl⟩)
theorem pd_1 : parseMethodDescriptor "(I)Z" = some ⟨[.int], some .boolean⟩ := by decide +kernel
def own_law_109 (p0 : Int32) (p1 : Int32) (p2 : Int32) (v3 : Int32) (v4 : Int32) (v5 : Int32) (v6 : Int32) (w0 : Int32) : Int32 := (w0 &&& 1)
def own_law_108 (p0 : Int32) (p1 : Int32) (p2 : Int32) (v3 : Int32) (v4 : Int32) (v5 : Int32) (v6 : Int32) : Int32 := (own_law_109 p0 p1 p2 v3 v4 v5 v6 (0 : Int32))
def own_law_84 (p0 : Int32) (p1 : Int32) (p2 : Int32) (v3 : Int32) (v4 : Int32) (v5 : Int32) (w0 : Int32) : Int32 := (if (1 : Int32) = (0 : Int32) then (own_law_108 p0 p1 p2 v3 v4 v5 w0) else (if (own_reads v5) = w0 then (own_law_109 p0 p1 p2 v3 v4 v5 w0 (1 : Int32)) else (own_law_108 p0 p1 p2 v3 v4 v5 w0)))
def own_law_79 (p0 : Int32) (p1 : Int32) (p2 : Int32) (v3 : Int32) (v4 : Int32) (v5 : Int32) : Int32 := (own_law_84 p0 p1 p2 v3 v4 v5 (1 : Int32))
def own_law_58 (p0 : Int32) (p1 : Int32) (p2 : Int32) (v3 : Int32) (v4 : Int32) (v5 : Int32) : Int32 := (if v5 = (1 : Int32) then (own_law_79 p0 p1 p2 v3 v4 v5) else (if v5 = (113 : Int32) then (own_law_79 p0 p1 p2 v3 v4 v5) else (if v5 = (276 : Int32) then (own_law_79 p0 p1 p2 v3 v4 v5) else (own_law_84 p0 p1 p2 v3 v4 v5 (0 : Int32)))))
def own_law (p0 : Int32) (p1 : Int32) (p2 : Int32) : Int32 := (if (p1 &&& (3 : Int32)) = (0 : Int32) then (own_law_58 p0 p1 p2 (p1 &&& (3 : Int32)) ((p2 &&& (3 : Int32)) - (1 : Int32)) ((1 : Int32) + ((p2 &&& (3 : Int32)) - (1 : Int32)))) else (if (p1 &&& (3 : Int32)) = (1 : Int32) then (own_law_58 p0 p1 p2 (p1 &&& (3 : Int32)) ((p2 &&& (3 : Int32)) - (1 : Int32)) ((113 : Int32) + ((p2 &&& (3 : Int32)) - (1 : Int32)))) else (if (p1 &&& (3 : Int32)) = (2 : Int32) then (own_law_58 p0 p1 p2 (p1 &&& (3 : Int32)) ((p2 &&& (3 : Int32)) - (1 : Int32)) ((276 : Int32) + ((p2 &&& (3 : Int32)) - (1 : Int32)))) else (own_law_58 p0 p1 p2 (p1 &&& (3 : Int32)) ((p2 &&& (3 : Int32)) - (1 : Int32)) p0))))
theorem pn_1 : plainName "com/example/sift5/sift5/capture/UdpDecoderReadsPinLaw" = true := by first | (simp [plainName, overriddenIn]; done) | decide +kernel
theorem ef_0 (m : MethodId) (p0 : Int32) (p1 : Int32) (p2 : Int32) : entryFrame m #[(.int p0), (.int p1), (.int p2)] maxLocals = mkF m 0 #[.val (.int p0), .val (.int p1), .val (.int p2), .unset, .unset, .unset, .unset, .unset] [] := by first | (simp [entryFrame, mkF, argsToLocals, Value.category, maxLocals]; done) | rfl
set_option maxRecDepth 65536 in
set_option maxHeartbeats 40000000 in
theorem rm0 (l : Launch) (Z : State) (a0 : Array Value) (hw : ∀ d ∈ tables_1, d.before a0 Z = true) (ws : List Jvm.Cond) (p0 : Int32) (p1 : Int32) (p2 : Int32) (h0 : Heap) (n0 : Nat) (s1 s2 s3 : Addr) (Z0 : n0 ≤ h0.size) (S1 : Sta Z h0 "com/example/sift5/sift5/capture/UdpDecoder" "ETHERNET_LAYER" "Lcom/example/sift5/sift5/capture/UdpDecoder$LinkLayer;" (.ref s1)) (S2 : Sta Z h0 "com/example/sift5/sift5/capture/UdpDecoder" "LINUX_COOKED_LAYER" "Lcom/example/sift5/sift5/capture/UdpDecoder$LinkLayer;" (.ref s2)) (S3 : Sta Z h0 "com/example/sift5/sift5/capture/UdpDecoder" "LINUX_COOKED_V2_LAYER" "Lcom/example/sift5/sift5/capture/UdpDecoder$LinkLayer;" (.ref s3)) :
    MetFree l x (head1 (Jvm.Cond.code x code maxLocals ret :: ws) room_1) (fun a U => a = #[(.int p0), (.int p1), (.int p2)] ∧ Z.Warmed39 U.vm ∧ U.heap = h0) (fun _ _ _ _ _ => True) (fun _ U o U' => ∃ v L, o = .returned v ∧ (own_P n0 h0 (some (.int (own_law p0 p1 p2)))) v U'.heap L ∧ FrameEnd U o U' L room_1.cells room_1.slots) := by
  refine MetFree.of_bodySF (plainFor_of_name pn_1) hisR ?_
  intro p e s m args below meth c s₁ Bd hml0 hP hK
  obtain ⟨rfl, hZ, hh⟩ := hP
  have hx := Bd.exec
  have hby := Bd.bytes
  have hml : c.maxLocals = 8 := hml0
  have hown : s.vm.findClass "com/example/sift5/sift5/capture/UdpDecoderReadsPinLaw" = some m.cls := findClass_of_methodNamed Bd.named
  have hnm := (name_of_methodNamed Bd.named Bd.method).1
  have hlk : meth.locks = false := BodyLoose.notSynchronized Bd
  have X0 : Stand p l e room_1 s m #[(.int p0), (.int p1), (.int p2)] below meth c s₁ [] 0 0 := Stand.of_body Bd
  have e0 : s₁.heap = h0 := by rw [← hh, Bd.state]; rfl
  have N0 := Fr.nil n0
  have J109 : ∀ (T : State) (Lc : List Loc) (X : Stand p l e room_1 s m #[(.int p0), (.int p1), (.int p2)] below meth c T Lc 0 0) (eT : T.heap = h0) (N : Fr n0 Lc) (v3 : Int32) (v4 : Int32) (v5 : Int32) (v6 : Int32) (w0 : Int32) , own_G p.tables e below (T.setTop (mkF m 109 #[.val (.int p0), .val (.int p1), .val (.int p2), .val (.int v3), .val (.int v4), .val (.int v5), .val (.int v6), .val (.int (1 : Int32))] [(.int w0)])) s room_1.cells room_1.slots (own_P n0 h0 (some (.int (own_law_109 p0 p1 p2 v3 v4 v5 v6 w0)))) := by
    intro T Lc X eT N v3 v4 v5 v6 w0 
    show own_G _ _ _ _ _ _ _ (own_P n0 h0 (some (.int ((w0 &&& 1)))))
    exact own_endN X hx hlk (t := .boolean) Bd.returns (by simp) (hb hby at_109) (by decide) (by decide) ⟨rfl, N, eT⟩
  have J108 : ∀ (T : State) (Lc : List Loc) (X : Stand p l e room_1 s m #[(.int p0), (.int p1), (.int p2)] below meth c T Lc 0 0) (eT : T.heap = h0) (N : Fr n0 Lc) (v3 : Int32) (v4 : Int32) (v5 : Int32) (v6 : Int32) , own_G p.tables e below (T.setTop (mkF m 108 #[.val (.int p0), .val (.int p1), .val (.int p2), .val (.int v3), .val (.int v4), .val (.int v5), .val (.int v6), .val (.int (1 : Int32))] [])) s room_1.cells room_1.slots (own_P n0 h0 (some (.int (own_law_108 p0 p1 p2 v3 v4 v5 v6)))) := by
    intro T Lc X eT N v3 v4 v5 v6 
    show own_G _ _ _ _ _ _ _ (own_P n0 h0 (some (.int ((own_law_109 p0 p1 p2 v3 v4 v5 v6 (0 : Int32))))))
    refine own_go (fun t k => XS.iconst X.here hx rfl (hb hby at_108) k) ?_
    show own_G _ _ _ (T.setTop (mkF m 109 #[.val (.int p0), .val (.int p1), .val (.int p2), .val (.int v3), .val (.int v4), .val (.int v5), .val (.int v6), .val (.int (1 : Int32))] [(.int (0 : Int32))])) _ _ _ _
    exact J109 _ _ X eT N v3 v4 v5 v6 (0 : Int32) 
  have J84 : ∀ (T : State) (Lc : List Loc) (X : Stand p l e room_1 s m #[(.int p0), (.int p1), (.int p2)] below meth c T Lc 0 0) (eT : T.heap = h0) (N : Fr n0 Lc) (v3 : Int32) (v4 : Int32) (v5 : Int32) (w0 : Int32) , own_G p.tables e below (T.setTop (mkF m 84 #[.val (.int p0), .val (.int p1), .val (.int p2), .val (.int v3), .val (.int v4), .val (.int v5), .unset, .unset] [(.int w0)])) s room_1.cells room_1.slots (own_P n0 h0 (some (.int (own_law_84 p0 p1 p2 v3 v4 v5 w0)))) := by
    intro T Lc X eT N v3 v4 v5 w0 
    show own_G _ _ _ _ _ _ _ (own_P n0 h0 (some (.int ((if (1 : Int32) = (0 : Int32) then (own_law_108 p0 p1 p2 v3 v4 v5 w0) else (if (own_reads v5) = w0 then (own_law_109 p0 p1 p2 v3 v4 v5 w0 (1 : Int32)) else (own_law_108 p0 p1 p2 v3 v4 v5 w0)))))))
    refine own_go (fun t k => XS.istore X.here hx rfl (hb hby at_84) rfl (l' := #[.val (.int p0), .val (.int p1), .val (.int p2), .val (.int v3), .val (.int v4), .val (.int v5), .val (.int w0), .unset]) rfl k) ?_
    show own_G _ _ _ (T.setTop (mkF m 86 #[.val (.int p0), .val (.int p1), .val (.int p2), .val (.int v3), .val (.int v4), .val (.int v5), .val (.int w0), .unset] [])) _ _ _ _
    refine own_go (fun t k => XS.iconst X.here hx rfl (hb hby at_86) k) ?_
    show own_G _ _ _ (T.setTop (mkF m 87 #[.val (.int p0), .val (.int p1), .val (.int p2), .val (.int v3), .val (.int v4), .val (.int v5), .val (.int w0), .unset] [(.int (1 : Int32))])) _ _ _ _
    refine own_go (fun t k => XS.istore X.here hx rfl (hb hby at_87) rfl (l' := #[.val (.int p0), .val (.int p1), .val (.int p2), .val (.int v3), .val (.int v4), .val (.int v5), .val (.int w0), .val (.int (1 : Int32))]) rfl k) ?_
    show own_G _ _ _ (T.setTop (mkF m 89 #[.val (.int p0), .val (.int p1), .val (.int p2), .val (.int v3), .val (.int v4), .val (.int v5), .val (.int w0), .val (.int (1 : Int32))] [])) _ _ _ _
    refine own_go (fun t k => XS.iload X.here hx rfl (hb hby at_89) rfl k) ?_
    show own_G _ _ _ (T.setTop (mkF m 91 #[.val (.int p0), .val (.int p1), .val (.int p2), .val (.int v3), .val (.int v4), .val (.int v5), .val (.int w0), .val (.int (1 : Int32))] [(.int (1 : Int32))])) _ _ _ _
    by_cases hc1 : (1 : Int32) = (0 : Int32)
    · refine own_itI hc1 ?_
      refine own_go (fun t k => XS.ifYes X.here hx rfl (pc0 := 91) (pc' := 108) rfl (hb hby at_91) rfl ((if0 _ _).trans (teq hc1).1) (by decide) (by decide) k) ?_
      show own_G _ _ _ (T.setTop (mkF m 108 #[.val (.int p0), .val (.int p1), .val (.int p2), .val (.int v3), .val (.int v4), .val (.int v5), .val (.int w0), .val (.int (1 : Int32))] [])) _ _ _ _
      exact J108 _ _ X eT N v3 v4 v5 w0 
    · refine own_ifI hc1 ?_
      refine own_go (fun t k => XS.ifNo X.here hx rfl (hb hby at_91) rfl ((if0 _ _).trans (feq hc1).1) k) ?_
      show own_G _ _ _ (T.setTop (mkF m 94 #[.val (.int p0), .val (.int p1), .val (.int p2), .val (.int v3), .val (.int v4), .val (.int v5), .val (.int w0), .val (.int (1 : Int32))] [])) _ _ _ _
      refine own_go (fun t k => XS.iload X.here hx rfl (hb hby at_94) rfl k) ?_
      show own_G _ _ _ (T.setTop (mkF m 96 #[.val (.int p0), .val (.int p1), .val (.int p2), .val (.int v3), .val (.int v4), .val (.int v5), .val (.int w0), .val (.int (1 : Int32))] [(.int v5)])) _ _ _ _
      obtain ⟨_, _, ⟨T2, L2, k2, n2⟩, -, X2, ⟨Lc2, hQ2, l2, y2, z2⟩, st2⟩ := Jvm.LawKit.callS X hx (y := (⟨"com/example/sift5/sift5/capture/UdpDecoder", "reads", "(I)Z"⟩ : MethodName)) hown (mvT hZ (hw _ (List.mem_of_getElem? (i := 0) rfl))) (mvT hZ (hw _ (List.mem_of_getElem? (i := 1) rfl))) (mvT hZ (hw _ (List.mem_of_getElem? (i := 2) rfl))) (mvT hZ (hw _ (List.mem_of_getElem? (i := 3) rfl))) (by decide) (backOf (W := 0) (rm1 l Z a0 hw [] v5 s1 s2 s3 h0 n0 Z0 S1 S2 S3) hZ (hw _ (List.mem_of_getElem? (i := 3) rfl)) (hw _ (List.mem_of_getElem? (i := 2) rfl)) (by decide) (by decide)) (g := (mkF m 96 #[.val (.int p0), .val (.int p1), .val (.int p2), .val (.int v3), .val (.int v4), .val (.int v5), .val (.int w0), .val (.int (1 : Int32))] [(.int v5)])) rfl (by rw [hml]; rfl) (argsL := [(.int v5)]) (rest := []) (lenOf pd_1 rfl) rfl (by show 2 * 0 + _ ≤ _; exact Nat.le_of_eq rfl) (hb hby at_96) (fun _ _ => ⟨rfl, eT, (by decide : 0 + 0 ≤ _), (by decide : 0 + 0 ≤ _)⟩)
      dsimp only [Pt.U, Pt.locs, Pt.cells, Pt.slots] at X2 l2 y2 z2 st2 hQ2
      subst l2 y2 z2
      obtain ⟨rfl, N2q, e2⟩ := hQ2
      have N2 := Fr.app N N2q
      refine own_go (fun t k => st2 _ k) ?_
      show own_G _ _ _ (T2.setTop (mkF m 99 #[.val (.int p0), .val (.int p1), .val (.int p2), .val (.int v3), .val (.int v4), .val (.int v5), .val (.int w0), .val (.int (1 : Int32))] [(.int (own_reads v5))])) _ _ _ _
      refine own_go (fun t k => XS.iload X2.here hx rfl (hb hby at_99) rfl k) ?_
      show own_G _ _ _ (T2.setTop (mkF m 101 #[.val (.int p0), .val (.int p1), .val (.int p2), .val (.int v3), .val (.int v4), .val (.int v5), .val (.int w0), .val (.int (1 : Int32))] [(.int w0), (.int (own_reads v5))])) _ _ _ _
      by_cases hc3 : (own_reads v5) = w0
      · refine own_itI hc3 ?_
        refine own_go (fun t k => XS.icmpNo X2.here hx rfl (hb hby at_101) rfl (teq hc3).2 k) ?_
        show own_G _ _ _ (T2.setTop (mkF m 104 #[.val (.int p0), .val (.int p1), .val (.int p2), .val (.int v3), .val (.int v4), .val (.int v5), .val (.int w0), .val (.int (1 : Int32))] [])) _ _ _ _
        refine own_go (fun t k => XS.iconst X2.here hx rfl (hb hby at_104) k) ?_
        show own_G _ _ _ (T2.setTop (mkF m 105 #[.val (.int p0), .val (.int p1), .val (.int p2), .val (.int v3), .val (.int v4), .val (.int v5), .val (.int w0), .val (.int (1 : Int32))] [(.int (1 : Int32))])) _ _ _ _
        refine own_go (fun t k => XS.goto X2.here hx rfl (pc0 := 105) (pc' := 109) rfl (hb hby at_105) (by decide) (by decide) k) ?_
        show own_G _ _ _ (T2.setTop (mkF m 109 #[.val (.int p0), .val (.int p1), .val (.int p2), .val (.int v3), .val (.int v4), .val (.int v5), .val (.int w0), .val (.int (1 : Int32))] [(.int (1 : Int32))])) _ _ _ _
        exact J109 _ _ X2 e2 N2 v3 v4 v5 w0 (1 : Int32) 
      · refine own_ifI hc3 ?_
        refine own_go (fun t k => XS.icmpYes X2.here hx rfl (pc0 := 101) (pc' := 108) rfl (hb hby at_101) rfl (feq hc3).2 (by decide) (by decide) k) ?_
        show own_G _ _ _ (T2.setTop (mkF m 108 #[.val (.int p0), .val (.int p1), .val (.int p2), .val (.int v3), .val (.int v4), .val (.int v5), .val (.int w0), .val (.int (1 : Int32))] [])) _ _ _ _
        exact J108 _ _ X2 e2 N2 v3 v4 v5 w0 
  have J79 : ∀ (T : State) (Lc : List Loc) (X : Stand p l e room_1 s m #[(.int p0), (.int p1), (.int p2)] below meth c T Lc 0 0) (eT : T.heap = h0) (N : Fr n0 Lc) (v3 : Int32) (v4 : Int32) (v5 : Int32) , own_G p.tables e below (T.setTop (mkF m 79 #[.val (.int p0), .val (.int p1), .val (.int p2), .val (.int v3), .val (.int v4), .val (.int v5), .unset, .unset] [])) s room_1.cells room_1.slots (own_P n0 h0 (some (.int (own_law_79 p0 p1 p2 v3 v4 v5)))) := by
    intro T Lc X eT N v3 v4 v5 
    show own_G _ _ _ _ _ _ _ (own_P n0 h0 (some (.int ((own_law_84 p0 p1 p2 v3 v4 v5 (1 : Int32))))))
    refine own_go (fun t k => XS.iconst X.here hx rfl (hb hby at_79) k) ?_
    show own_G _ _ _ (T.setTop (mkF m 80 #[.val (.int p0), .val (.int p1), .val (.int p2), .val (.int v3), .val (.int v4), .val (.int v5), .unset, .unset] [(.int (1 : Int32))])) _ _ _ _
    refine own_go (fun t k => XS.goto X.here hx rfl (pc0 := 80) (pc' := 84) rfl (hb hby at_80) (by decide) (by decide) k) ?_
    show own_G _ _ _ (T.setTop (mkF m 84 #[.val (.int p0), .val (.int p1), .val (.int p2), .val (.int v3), .val (.int v4), .val (.int v5), .unset, .unset] [(.int (1 : Int32))])) _ _ _ _
    exact J84 _ _ X eT N v3 v4 v5 (1 : Int32) 
  have J58 : ∀ (T : State) (Lc : List Loc) (X : Stand p l e room_1 s m #[(.int p0), (.int p1), (.int p2)] below meth c T Lc 0 0) (eT : T.heap = h0) (N : Fr n0 Lc) (v3 : Int32) (v4 : Int32) (v5 : Int32) , own_G p.tables e below (T.setTop (mkF m 58 #[.val (.int p0), .val (.int p1), .val (.int p2), .val (.int v3), .val (.int v4), .val (.int v5), .unset, .unset] [])) s room_1.cells room_1.slots (own_P n0 h0 (some (.int (own_law_58 p0 p1 p2 v3 v4 v5)))) := by
    intro T Lc X eT N v3 v4 v5 
    show own_G _ _ _ _ _ _ _ (own_P n0 h0 (some (.int ((if v5 = (1 : Int32) then (own_law_79 p0 p1 p2 v3 v4 v5) else (if v5 = (113 : Int32) then (own_law_79 p0 p1 p2 v3 v4 v5) else (if v5 = (276 : Int32) then (own_law_79 p0 p1 p2 v3 v4 v5) else (own_law_84 p0 p1 p2 v3 v4 v5 (0 : Int32)))))))))
    refine own_go (fun t k => XS.iload X.here hx rfl (hb hby at_58) rfl k) ?_
    show own_G _ _ _ (T.setTop (mkF m 60 #[.val (.int p0), .val (.int p1), .val (.int p2), .val (.int v3), .val (.int v4), .val (.int v5), .unset, .unset] [(.int v5)])) _ _ _ _
    refine own_go (fun t k => XS.iconst X.here hx rfl (hb hby at_60) k) ?_
    show own_G _ _ _ (T.setTop (mkF m 61 #[.val (.int p0), .val (.int p1), .val (.int p2), .val (.int v3), .val (.int v4), .val (.int v5), .unset, .unset] [(.int (1 : Int32)), (.int v5)])) _ _ _ _
    by_cases hc4 : v5 = (1 : Int32)
    · refine own_itI hc4 ?_
      refine own_go (fun t k => XS.icmpYes X.here hx rfl (pc0 := 61) (pc' := 79) rfl (hb hby at_61) rfl (teq hc4).1 (by decide) (by decide) k) ?_
      show own_G _ _ _ (T.setTop (mkF m 79 #[.val (.int p0), .val (.int p1), .val (.int p2), .val (.int v3), .val (.int v4), .val (.int v5), .unset, .unset] [])) _ _ _ _
      exact J79 _ _ X eT N v3 v4 v5 
    · refine own_ifI hc4 ?_
      refine own_go (fun t k => XS.icmpNo X.here hx rfl (hb hby at_61) rfl (feq hc4).1 k) ?_
      show own_G _ _ _ (T.setTop (mkF m 64 #[.val (.int p0), .val (.int p1), .val (.int p2), .val (.int v3), .val (.int v4), .val (.int v5), .unset, .unset] [])) _ _ _ _
      refine own_go (fun t k => XS.iload X.here hx rfl (hb hby at_64) rfl k) ?_
      show own_G _ _ _ (T.setTop (mkF m 66 #[.val (.int p0), .val (.int p1), .val (.int p2), .val (.int v3), .val (.int v4), .val (.int v5), .unset, .unset] [(.int v5)])) _ _ _ _
      refine own_go (fun t k => XS.bipush X.here hx rfl (hb hby at_66) k) ?_
      show own_G _ _ _ (T.setTop (mkF m 68 #[.val (.int p0), .val (.int p1), .val (.int p2), .val (.int v3), .val (.int v4), .val (.int v5), .unset, .unset] [(.int (113 : Int32)), (.int v5)])) _ _ _ _
      by_cases hc5 : v5 = (113 : Int32)
      · refine own_itI hc5 ?_
        refine own_go (fun t k => XS.icmpYes X.here hx rfl (pc0 := 68) (pc' := 79) rfl (hb hby at_68) rfl (teq hc5).1 (by decide) (by decide) k) ?_
        show own_G _ _ _ (T.setTop (mkF m 79 #[.val (.int p0), .val (.int p1), .val (.int p2), .val (.int v3), .val (.int v4), .val (.int v5), .unset, .unset] [])) _ _ _ _
        exact J79 _ _ X eT N v3 v4 v5 
      · refine own_ifI hc5 ?_
        refine own_go (fun t k => XS.icmpNo X.here hx rfl (hb hby at_68) rfl (feq hc5).1 k) ?_
        show own_G _ _ _ (T.setTop (mkF m 71 #[.val (.int p0), .val (.int p1), .val (.int p2), .val (.int v3), .val (.int v4), .val (.int v5), .unset, .unset] [])) _ _ _ _
        refine own_go (fun t k => XS.iload X.here hx rfl (hb hby at_71) rfl k) ?_
        show own_G _ _ _ (T.setTop (mkF m 73 #[.val (.int p0), .val (.int p1), .val (.int p2), .val (.int v3), .val (.int v4), .val (.int v5), .unset, .unset] [(.int v5)])) _ _ _ _
        refine own_go (fun t k => XS.sipush X.here hx rfl (hb hby at_73) k) ?_
        show own_G _ _ _ (T.setTop (mkF m 76 #[.val (.int p0), .val (.int p1), .val (.int p2), .val (.int v3), .val (.int v4), .val (.int v5), .unset, .unset] [(.int (276 : Int32)), (.int v5)])) _ _ _ _
        by_cases hc6 : v5 = (276 : Int32)
        · refine own_itI hc6 ?_
          refine own_go (fun t k => XS.icmpNo X.here hx rfl (hb hby at_76) rfl (teq hc6).2 k) ?_
          show own_G _ _ _ (T.setTop (mkF m 79 #[.val (.int p0), .val (.int p1), .val (.int p2), .val (.int v3), .val (.int v4), .val (.int v5), .unset, .unset] [])) _ _ _ _
          exact J79 _ _ X eT N v3 v4 v5 
        · refine own_ifI hc6 ?_
          refine own_go (fun t k => XS.icmpYes X.here hx rfl (pc0 := 76) (pc' := 83) rfl (hb hby at_76) rfl (feq hc6).2 (by decide) (by decide) k) ?_
          show own_G _ _ _ (T.setTop (mkF m 83 #[.val (.int p0), .val (.int p1), .val (.int p2), .val (.int v3), .val (.int v4), .val (.int v5), .unset, .unset] [])) _ _ _ _
          refine own_go (fun t k => XS.iconst X.here hx rfl (hb hby at_83) k) ?_
          show own_G _ _ _ (T.setTop (mkF m 84 #[.val (.int p0), .val (.int p1), .val (.int p2), .val (.int v3), .val (.int v4), .val (.int v5), .unset, .unset] [(.int (0 : Int32))])) _ _ _ _
          exact J84 _ _ X eT N v3 v4 v5 (0 : Int32) 
  show own_G p.tables e below (s₁.setTop (entryFrame m #[(.int p0), (.int p1), (.int p2)] maxLocals)) s room_1.cells room_1.slots (own_P n0 h0 (some (.int ((if (p1 &&& (3 : Int32)) = (0 : Int32) then (own_law_58 p0 p1 p2 (p1 &&& (3 : Int32)) ((p2 &&& (3 : Int32)) - (1 : Int32)) ((1 : Int32) + ((p2 &&& (3 : Int32)) - (1 : Int32)))) else (if (p1 &&& (3 : Int32)) = (1 : Int32) then (own_law_58 p0 p1 p2 (p1 &&& (3 : Int32)) ((p2 &&& (3 : Int32)) - (1 : Int32)) ((113 : Int32) + ((p2 &&& (3 : Int32)) - (1 : Int32)))) else (if (p1 &&& (3 : Int32)) = (2 : Int32) then (own_law_58 p0 p1 p2 (p1 &&& (3 : Int32)) ((p2 &&& (3 : Int32)) - (1 : Int32)) ((276 : Int32) + ((p2 &&& (3 : Int32)) - (1 : Int32)))) else (own_law_58 p0 p1 p2 (p1 &&& (3 : Int32)) ((p2 &&& (3 : Int32)) - (1 : Int32)) p0))))))))
  refine own_go (fun t k => castTop (ef_0 m p0 p1 p2) k) ?_
  refine own_go (fun t k => XS.iloadN X0.here hx rfl (hb hby at_0) rfl k) ?_
  show own_G _ _ _ (s₁.setTop (mkF m 1 #[.val (.int p0), .val (.int p1), .val (.int p2), .unset, .unset, .unset, .unset, .unset] [(.int p1)])) _ _ _ _
  refine own_go (fun t k => XS.iconst X0.here hx rfl (hb hby at_1) k) ?_
  show own_G _ _ _ (s₁.setTop (mkF m 2 #[.val (.int p0), .val (.int p1), .val (.int p2), .unset, .unset, .unset, .unset, .unset] [(.int (3 : Int32)), (.int p1)])) _ _ _ _
  refine own_go (fun t k => XS.iand X0.here hx rfl (hb hby at_2) rfl k) ?_
  show own_G _ _ _ (s₁.setTop (mkF m 3 #[.val (.int p0), .val (.int p1), .val (.int p2), .unset, .unset, .unset, .unset, .unset] [(.int (p1 &&& (3 : Int32)))])) _ _ _ _
  refine own_go (fun t k => XS.istoreN X0.here hx rfl (hb hby at_3) rfl (l' := #[.val (.int p0), .val (.int p1), .val (.int p2), .val (.int (p1 &&& (3 : Int32))), .unset, .unset, .unset, .unset]) rfl k) ?_
  show own_G _ _ _ (s₁.setTop (mkF m 4 #[.val (.int p0), .val (.int p1), .val (.int p2), .val (.int (p1 &&& (3 : Int32))), .unset, .unset, .unset, .unset] [])) _ _ _ _
  refine own_go (fun t k => XS.iloadN X0.here hx rfl (hb hby at_4) rfl k) ?_
  show own_G _ _ _ (s₁.setTop (mkF m 5 #[.val (.int p0), .val (.int p1), .val (.int p2), .val (.int (p1 &&& (3 : Int32))), .unset, .unset, .unset, .unset] [(.int p2)])) _ _ _ _
  refine own_go (fun t k => XS.iconst X0.here hx rfl (hb hby at_5) k) ?_
  show own_G _ _ _ (s₁.setTop (mkF m 6 #[.val (.int p0), .val (.int p1), .val (.int p2), .val (.int (p1 &&& (3 : Int32))), .unset, .unset, .unset, .unset] [(.int (3 : Int32)), (.int p2)])) _ _ _ _
  refine own_go (fun t k => XS.iand X0.here hx rfl (hb hby at_6) rfl k) ?_
  show own_G _ _ _ (s₁.setTop (mkF m 7 #[.val (.int p0), .val (.int p1), .val (.int p2), .val (.int (p1 &&& (3 : Int32))), .unset, .unset, .unset, .unset] [(.int (p2 &&& (3 : Int32)))])) _ _ _ _
  refine own_go (fun t k => XS.iconst X0.here hx rfl (hb hby at_7) k) ?_
  show own_G _ _ _ (s₁.setTop (mkF m 8 #[.val (.int p0), .val (.int p1), .val (.int p2), .val (.int (p1 &&& (3 : Int32))), .unset, .unset, .unset, .unset] [(.int (1 : Int32)), (.int (p2 &&& (3 : Int32)))])) _ _ _ _
  refine own_go (fun t k => XS.isub X0.here hx rfl (hb hby at_8) rfl k) ?_
  show own_G _ _ _ (s₁.setTop (mkF m 9 #[.val (.int p0), .val (.int p1), .val (.int p2), .val (.int (p1 &&& (3 : Int32))), .unset, .unset, .unset, .unset] [(.int ((p2 &&& (3 : Int32)) - (1 : Int32)))])) _ _ _ _
  refine own_go (fun t k => XS.istore X0.here hx rfl (hb hby at_9) rfl (l' := #[.val (.int p0), .val (.int p1), .val (.int p2), .val (.int (p1 &&& (3 : Int32))), .val (.int ((p2 &&& (3 : Int32)) - (1 : Int32))), .unset, .unset, .unset]) rfl k) ?_
  show own_G _ _ _ (s₁.setTop (mkF m 11 #[.val (.int p0), .val (.int p1), .val (.int p2), .val (.int (p1 &&& (3 : Int32))), .val (.int ((p2 &&& (3 : Int32)) - (1 : Int32))), .unset, .unset, .unset] [])) _ _ _ _
  refine own_go (fun t k => XS.iloadN X0.here hx rfl (hb hby at_11) rfl k) ?_
  show own_G _ _ _ (s₁.setTop (mkF m 12 #[.val (.int p0), .val (.int p1), .val (.int p2), .val (.int (p1 &&& (3 : Int32))), .val (.int ((p2 &&& (3 : Int32)) - (1 : Int32))), .unset, .unset, .unset] [(.int (p1 &&& (3 : Int32)))])) _ _ _ _
  by_cases hc7 : (p1 &&& (3 : Int32)) = (0 : Int32)
  · refine own_itI hc7 ?_
    refine own_go (fun t k => XS.ifNo X0.here hx rfl (hb hby at_12) rfl ((if0 _ _).trans (teq hc7).2) k) ?_
    show own_G _ _ _ (s₁.setTop (mkF m 15 #[.val (.int p0), .val (.int p1), .val (.int p2), .val (.int (p1 &&& (3 : Int32))), .val (.int ((p2 &&& (3 : Int32)) - (1 : Int32))), .unset, .unset, .unset] [])) _ _ _ _
    refine own_go (fun t k => XS.iconst X0.here hx rfl (hb hby at_15) k) ?_
    show own_G _ _ _ (s₁.setTop (mkF m 16 #[.val (.int p0), .val (.int p1), .val (.int p2), .val (.int (p1 &&& (3 : Int32))), .val (.int ((p2 &&& (3 : Int32)) - (1 : Int32))), .unset, .unset, .unset] [(.int (1 : Int32))])) _ _ _ _
    refine own_go (fun t k => XS.iload X0.here hx rfl (hb hby at_16) rfl k) ?_
    show own_G _ _ _ (s₁.setTop (mkF m 18 #[.val (.int p0), .val (.int p1), .val (.int p2), .val (.int (p1 &&& (3 : Int32))), .val (.int ((p2 &&& (3 : Int32)) - (1 : Int32))), .unset, .unset, .unset] [(.int ((p2 &&& (3 : Int32)) - (1 : Int32))), (.int (1 : Int32))])) _ _ _ _
    refine own_go (fun t k => XS.iadd X0.here hx rfl (hb hby at_18) rfl k) ?_
    show own_G _ _ _ (s₁.setTop (mkF m 19 #[.val (.int p0), .val (.int p1), .val (.int p2), .val (.int (p1 &&& (3 : Int32))), .val (.int ((p2 &&& (3 : Int32)) - (1 : Int32))), .unset, .unset, .unset] [(.int ((1 : Int32) + ((p2 &&& (3 : Int32)) - (1 : Int32))))])) _ _ _ _
    refine own_go (fun t k => XS.istore X0.here hx rfl (hb hby at_19) rfl (l' := #[.val (.int p0), .val (.int p1), .val (.int p2), .val (.int (p1 &&& (3 : Int32))), .val (.int ((p2 &&& (3 : Int32)) - (1 : Int32))), .val (.int ((1 : Int32) + ((p2 &&& (3 : Int32)) - (1 : Int32)))), .unset, .unset]) rfl k) ?_
    show own_G _ _ _ (s₁.setTop (mkF m 21 #[.val (.int p0), .val (.int p1), .val (.int p2), .val (.int (p1 &&& (3 : Int32))), .val (.int ((p2 &&& (3 : Int32)) - (1 : Int32))), .val (.int ((1 : Int32) + ((p2 &&& (3 : Int32)) - (1 : Int32)))), .unset, .unset] [])) _ _ _ _
    refine own_go (fun t k => XS.goto X0.here hx rfl (pc0 := 21) (pc' := 58) rfl (hb hby at_21) (by decide) (by decide) k) ?_
    show own_G _ _ _ (s₁.setTop (mkF m 58 #[.val (.int p0), .val (.int p1), .val (.int p2), .val (.int (p1 &&& (3 : Int32))), .val (.int ((p2 &&& (3 : Int32)) - (1 : Int32))), .val (.int ((1 : Int32) + ((p2 &&& (3 : Int32)) - (1 : Int32)))), .unset, .unset] [])) _ _ _ _
    exact J58 _ _ X0 e0 N0 (p1 &&& (3 : Int32)) ((p2 &&& (3 : Int32)) - (1 : Int32)) ((1 : Int32) + ((p2 &&& (3 : Int32)) - (1 : Int32))) 
  · refine own_ifI hc7 ?_
    refine own_go (fun t k => XS.ifYes X0.here hx rfl (pc0 := 12) (pc' := 24) rfl (hb hby at_12) rfl ((if0 _ _).trans (feq hc7).2) (by decide) (by decide) k) ?_
    show own_G _ _ _ (s₁.setTop (mkF m 24 #[.val (.int p0), .val (.int p1), .val (.int p2), .val (.int (p1 &&& (3 : Int32))), .val (.int ((p2 &&& (3 : Int32)) - (1 : Int32))), .unset, .unset, .unset] [])) _ _ _ _
    refine own_go (fun t k => XS.iloadN X0.here hx rfl (hb hby at_24) rfl k) ?_
    show own_G _ _ _ (s₁.setTop (mkF m 25 #[.val (.int p0), .val (.int p1), .val (.int p2), .val (.int (p1 &&& (3 : Int32))), .val (.int ((p2 &&& (3 : Int32)) - (1 : Int32))), .unset, .unset, .unset] [(.int (p1 &&& (3 : Int32)))])) _ _ _ _
    refine own_go (fun t k => XS.iconst X0.here hx rfl (hb hby at_25) k) ?_
    show own_G _ _ _ (s₁.setTop (mkF m 26 #[.val (.int p0), .val (.int p1), .val (.int p2), .val (.int (p1 &&& (3 : Int32))), .val (.int ((p2 &&& (3 : Int32)) - (1 : Int32))), .unset, .unset, .unset] [(.int (1 : Int32)), (.int (p1 &&& (3 : Int32)))])) _ _ _ _
    by_cases hc8 : (p1 &&& (3 : Int32)) = (1 : Int32)
    · refine own_itI hc8 ?_
      refine own_go (fun t k => XS.icmpNo X0.here hx rfl (hb hby at_26) rfl (teq hc8).2 k) ?_
      show own_G _ _ _ (s₁.setTop (mkF m 29 #[.val (.int p0), .val (.int p1), .val (.int p2), .val (.int (p1 &&& (3 : Int32))), .val (.int ((p2 &&& (3 : Int32)) - (1 : Int32))), .unset, .unset, .unset] [])) _ _ _ _
      refine own_go (fun t k => XS.bipush X0.here hx rfl (hb hby at_29) k) ?_
      show own_G _ _ _ (s₁.setTop (mkF m 31 #[.val (.int p0), .val (.int p1), .val (.int p2), .val (.int (p1 &&& (3 : Int32))), .val (.int ((p2 &&& (3 : Int32)) - (1 : Int32))), .unset, .unset, .unset] [(.int (113 : Int32))])) _ _ _ _
      refine own_go (fun t k => XS.iload X0.here hx rfl (hb hby at_31) rfl k) ?_
      show own_G _ _ _ (s₁.setTop (mkF m 33 #[.val (.int p0), .val (.int p1), .val (.int p2), .val (.int (p1 &&& (3 : Int32))), .val (.int ((p2 &&& (3 : Int32)) - (1 : Int32))), .unset, .unset, .unset] [(.int ((p2 &&& (3 : Int32)) - (1 : Int32))), (.int (113 : Int32))])) _ _ _ _
      refine own_go (fun t k => XS.iadd X0.here hx rfl (hb hby at_33) rfl k) ?_
      show own_G _ _ _ (s₁.setTop (mkF m 34 #[.val (.int p0), .val (.int p1), .val (.int p2), .val (.int (p1 &&& (3 : Int32))), .val (.int ((p2 &&& (3 : Int32)) - (1 : Int32))), .unset, .unset, .unset] [(.int ((113 : Int32) + ((p2 &&& (3 : Int32)) - (1 : Int32))))])) _ _ _ _
      refine own_go (fun t k => XS.istore X0.here hx rfl (hb hby at_34) rfl (l' := #[.val (.int p0), .val (.int p1), .val (.int p2), .val (.int (p1 &&& (3 : Int32))), .val (.int ((p2 &&& (3 : Int32)) - (1 : Int32))), .val (.int ((113 : Int32) + ((p2 &&& (3 : Int32)) - (1 : Int32)))), .unset, .unset]) rfl k) ?_
      show own_G _ _ _ (s₁.setTop (mkF m 36 #[.val (.int p0), .val (.int p1), .val (.int p2), .val (.int (p1 &&& (3 : Int32))), .val (.int ((p2 &&& (3 : Int32)) - (1 : Int32))), .val (.int ((113 : Int32) + ((p2 &&& (3 : Int32)) - (1 : Int32)))), .unset, .unset] [])) _ _ _ _
      refine own_go (fun t k => XS.goto X0.here hx rfl (pc0 := 36) (pc' := 58) rfl (hb hby at_36) (by decide) (by decide) k) ?_
      show own_G _ _ _ (s₁.setTop (mkF m 58 #[.val (.int p0), .val (.int p1), .val (.int p2), .val (.int (p1 &&& (3 : Int32))), .val (.int ((p2 &&& (3 : Int32)) - (1 : Int32))), .val (.int ((113 : Int32) + ((p2 &&& (3 : Int32)) - (1 : Int32)))), .unset, .unset] [])) _ _ _ _
      exact J58 _ _ X0 e0 N0 (p1 &&& (3 : Int32)) ((p2 &&& (3 : Int32)) - (1 : Int32)) ((113 : Int32) + ((p2 &&& (3 : Int32)) - (1 : Int32))) 
    · refine own_ifI hc8 ?_
      refine own_go (fun t k => XS.icmpYes X0.here hx rfl (pc0 := 26) (pc' := 39) rfl (hb hby at_26) rfl (feq hc8).2 (by decide) (by decide) k) ?_
      show own_G _ _ _ (s₁.setTop (mkF m 39 #[.val (.int p0), .val (.int p1), .val (.int p2), .val (.int (p1 &&& (3 : Int32))), .val (.int ((p2 &&& (3 : Int32)) - (1 : Int32))), .unset, .unset, .unset] [])) _ _ _ _
      refine own_go (fun t k => XS.iloadN X0.here hx rfl (hb hby at_39) rfl k) ?_
      show own_G _ _ _ (s₁.setTop (mkF m 40 #[.val (.int p0), .val (.int p1), .val (.int p2), .val (.int (p1 &&& (3 : Int32))), .val (.int ((p2 &&& (3 : Int32)) - (1 : Int32))), .unset, .unset, .unset] [(.int (p1 &&& (3 : Int32)))])) _ _ _ _
      refine own_go (fun t k => XS.iconst X0.here hx rfl (hb hby at_40) k) ?_
      show own_G _ _ _ (s₁.setTop (mkF m 41 #[.val (.int p0), .val (.int p1), .val (.int p2), .val (.int (p1 &&& (3 : Int32))), .val (.int ((p2 &&& (3 : Int32)) - (1 : Int32))), .unset, .unset, .unset] [(.int (2 : Int32)), (.int (p1 &&& (3 : Int32)))])) _ _ _ _
      by_cases hc9 : (p1 &&& (3 : Int32)) = (2 : Int32)
      · refine own_itI hc9 ?_
        refine own_go (fun t k => XS.icmpNo X0.here hx rfl (hb hby at_41) rfl (teq hc9).2 k) ?_
        show own_G _ _ _ (s₁.setTop (mkF m 44 #[.val (.int p0), .val (.int p1), .val (.int p2), .val (.int (p1 &&& (3 : Int32))), .val (.int ((p2 &&& (3 : Int32)) - (1 : Int32))), .unset, .unset, .unset] [])) _ _ _ _
        refine own_go (fun t k => XS.sipush X0.here hx rfl (hb hby at_44) k) ?_
        show own_G _ _ _ (s₁.setTop (mkF m 47 #[.val (.int p0), .val (.int p1), .val (.int p2), .val (.int (p1 &&& (3 : Int32))), .val (.int ((p2 &&& (3 : Int32)) - (1 : Int32))), .unset, .unset, .unset] [(.int (276 : Int32))])) _ _ _ _
        refine own_go (fun t k => XS.iload X0.here hx rfl (hb hby at_47) rfl k) ?_
        show own_G _ _ _ (s₁.setTop (mkF m 49 #[.val (.int p0), .val (.int p1), .val (.int p2), .val (.int (p1 &&& (3 : Int32))), .val (.int ((p2 &&& (3 : Int32)) - (1 : Int32))), .unset, .unset, .unset] [(.int ((p2 &&& (3 : Int32)) - (1 : Int32))), (.int (276 : Int32))])) _ _ _ _
        refine own_go (fun t k => XS.iadd X0.here hx rfl (hb hby at_49) rfl k) ?_
        show own_G _ _ _ (s₁.setTop (mkF m 50 #[.val (.int p0), .val (.int p1), .val (.int p2), .val (.int (p1 &&& (3 : Int32))), .val (.int ((p2 &&& (3 : Int32)) - (1 : Int32))), .unset, .unset, .unset] [(.int ((276 : Int32) + ((p2 &&& (3 : Int32)) - (1 : Int32))))])) _ _ _ _
        refine own_go (fun t k => XS.istore X0.here hx rfl (hb hby at_50) rfl (l' := #[.val (.int p0), .val (.int p1), .val (.int p2), .val (.int (p1 &&& (3 : Int32))), .val (.int ((p2 &&& (3 : Int32)) - (1 : Int32))), .val (.int ((276 : Int32) + ((p2 &&& (3 : Int32)) - (1 : Int32)))), .unset, .unset]) rfl k) ?_
        show own_G _ _ _ (s₁.setTop (mkF m 52 #[.val (.int p0), .val (.int p1), .val (.int p2), .val (.int (p1 &&& (3 : Int32))), .val (.int ((p2 &&& (3 : Int32)) - (1 : Int32))), .val (.int ((276 : Int32) + ((p2 &&& (3 : Int32)) - (1 : Int32)))), .unset, .unset] [])) _ _ _ _
        refine own_go (fun t k => XS.goto X0.here hx rfl (pc0 := 52) (pc' := 58) rfl (hb hby at_52) (by decide) (by decide) k) ?_
        show own_G _ _ _ (s₁.setTop (mkF m 58 #[.val (.int p0), .val (.int p1), .val (.int p2), .val (.int (p1 &&& (3 : Int32))), .val (.int ((p2 &&& (3 : Int32)) - (1 : Int32))), .val (.int ((276 : Int32) + ((p2 &&& (3 : Int32)) - (1 : Int32)))), .unset, .unset] [])) _ _ _ _
        exact J58 _ _ X0 e0 N0 (p1 &&& (3 : Int32)) ((p2 &&& (3 : Int32)) - (1 : Int32)) ((276 : Int32) + ((p2 &&& (3 : Int32)) - (1 : Int32))) 
      · refine own_ifI hc9 ?_
        refine own_go (fun t k => XS.icmpYes X0.here hx rfl (pc0 := 41) (pc' := 55) rfl (hb hby at_41) rfl (feq hc9).2 (by decide) (by decide) k) ?_
        show own_G _ _ _ (s₁.setTop (mkF m 55 #[.val (.int p0), .val (.int p1), .val (.int p2), .val (.int (p1 &&& (3 : Int32))), .val (.int ((p2 &&& (3 : Int32)) - (1 : Int32))), .unset, .unset, .unset] [])) _ _ _ _
        refine own_go (fun t k => XS.iloadN X0.here hx rfl (hb hby at_55) rfl k) ?_
        show own_G _ _ _ (s₁.setTop (mkF m 56 #[.val (.int p0), .val (.int p1), .val (.int p2), .val (.int (p1 &&& (3 : Int32))), .val (.int ((p2 &&& (3 : Int32)) - (1 : Int32))), .unset, .unset, .unset] [(.int p0)])) _ _ _ _
        refine own_go (fun t k => XS.istore X0.here hx rfl (hb hby at_56) rfl (l' := #[.val (.int p0), .val (.int p1), .val (.int p2), .val (.int (p1 &&& (3 : Int32))), .val (.int ((p2 &&& (3 : Int32)) - (1 : Int32))), .val (.int p0), .unset, .unset]) rfl k) ?_
        show own_G _ _ _ (s₁.setTop (mkF m 58 #[.val (.int p0), .val (.int p1), .val (.int p2), .val (.int (p1 &&& (3 : Int32))), .val (.int ((p2 &&& (3 : Int32)) - (1 : Int32))), .val (.int p0), .unset, .unset] [])) _ _ _ _
        exact J58 _ _ X0 e0 N0 (p1 &&& (3 : Int32)) ((p2 &&& (3 : Int32)) - (1 : Int32)) p0 
theorem own_58 (p0 p1 p2 v3 v4 v5 : Int32) : own_law_58 p0 p1 p2 v3 v4 v5 = 1 := by
  simp only [own_law_58, own_law_79, own_law_84, own_law_108, own_law_109, own_reads, if_neg (show ¬ (1 : Int32) = 0 by decide)]
  by_cases h1 : v5 = 1
  · simp only [if_pos h1, if_true]; rfl
  · by_cases h2 : v5 = 113
    · simp only [if_neg h1, if_pos h2, if_true]; rfl
    · by_cases h3 : v5 = 276
      · simp only [if_neg h1, if_neg h2, if_pos h3, if_true]; rfl
      · simp only [if_neg h1, if_neg h2, if_neg h3, if_true]; rfl
theorem own_law_true (a b c : Int32) : own_law a b c = 1 := by
  simp only [own_law, own_58]
  repeat' split
  all_goals rfl

set_option maxRecDepth 65536 in
set_option maxHeartbeats 40000000 in
theorem comes_1 {Post : Tables → Env → Array Value → State → Outcome → State → Prop} (hpost : ∀ tb e args s v u, (limb_1_1.after args s (.returned v) u = true ∧ limb_1_2.after args s (.returned v) u = true ∧ True) → FrameEnd s (.returned v) u (Jvm.fieldLocs frame_1_writes args s ++ Jvm.arrayLocs frame_1_arrays args s ++ Jvm.staticLocs frame_1_statics s) 0 0 → Post tb e args s (.returned v) u) :
    ArmFor flags0 classFile x code maxLocals ret World_1 tables_1 room_1 Calls_1 rest_1 Pre_1 Post := by
  intro l hfl _ _ p e ha hc hk s m args below hf hA hF happ hP
  obtain ⟨hcalls, hrest, hpre⟩ := hP
  obtain ⟨-, -, -, hnamed, -, -, -, hat⟩ := (Spec.applies_iff hf).mp happ
  obtain ⟨hg, hn⟩ := and_e (Cond.before_iff.mp (show (Jvm.Cond.and given_1 narrow_1).before args s = true from hpre))
  obtain ⟨g0, hg1⟩ := and_e hg
  obtain ⟨a0, r0⟩ := and_e hg1
  obtain ⟨a1, r1⟩ := and_e r0
  obtain ⟨w0, w1, w2, rfl⟩ : ∃ w0 w1 w2 : Value, args = #[w0, w1, w2] := by
    have hs : args.size = 3 := by simpa [Cond.value, given_1] using g0
    obtain ⟨L⟩ := args
    match L, hs with
    | [w0, w1, w2], _ => exact ⟨w0, w1, w2, rfl⟩
  have hw := fun d (hd : d ∈ tables_1) => atoms_spec (ws := Jvm.Cond.code x code maxLocals ret :: tables_1) hat d (List.mem_cons_of_mem _ hd)
  have hfit : Fit s := fun {y c} hc i hi => by
    obtain ⟨ha, rfl⟩ := Array.getElem?_eq_some_iff.mp hc
    have q := List.all_eq_true.mp ((Array.all_eq_true_iff_forall_mem.mp hF) _ (Array.getElem_mem ha)) i (List.mem_range.mpr hi)
    simpa [Array.getElem?_eq_getElem hi] using q
  obtain ⟨i0, ei0⟩ := is_v a0
  obtain rfl : w0 = (.int i0) := Option.some.inj ei0
  obtain ⟨i1, ei1⟩ := is_v a1
  obtain rfl : w1 = (.int i1) := Option.some.inj ei1
  obtain ⟨i2, ei2⟩ := is_v r1
  obtain rfl : w2 = (.int i2) := Option.some.inj ei2
  obtain ⟨q1, hn2⟩ := and_e hn
  obtain ⟨q2, q3⟩ := and_e hn2
  obtain ⟨s1, es1⟩ := exa_v q1
  have S1 := Sta.start es1 (Or.inr ⟨(hw _ (List.mem_of_getElem? (i := 2) rfl)), (hw _ (List.mem_of_getElem? (i := 8) rfl))⟩)
  obtain ⟨s2, es2⟩ := exa_v q2
  have S2 := Sta.start es2 (Or.inr ⟨(hw _ (List.mem_of_getElem? (i := 2) rfl)), (hw _ (List.mem_of_getElem? (i := 10) rfl))⟩)
  obtain ⟨s3, es3⟩ := exa_v q3
  have S3 := Sta.start es3 (Or.inr ⟨(hw _ (List.mem_of_getElem? (i := 2) rfl)), (hw _ (List.mem_of_getElem? (i := 12) rfl))⟩)
  obtain ⟨n, o, h1, h2, h3, _, L, rfl, ⟨rfl, N, -⟩, hq⟩ := rm0 l s _ hw tables_1 i0 i1 i2  s.heap s.heap.size s1 s2 s3 (Nat.le_refl _) S1 S2 S3 p e ha hc hk s m _ below hf ((Spec.applies_iff_loose hf).mp happ).1 ⟨rfl, State.Warmed39.refl s, rfl⟩ trivial
  refine ⟨n, _, h1, h2, h3, hpost _ _ _ _ _ _ ⟨Cond.after_iff.mpr rfl, Cond.after_iff.mpr (eq_i res_at (Term.int_eval (1)) (congrArg Value.int (own_law_true i0 i1 i2))), trivial⟩ ⟨hq.1, hq.2.1, (hq.2.2.sift fun y hy => Or.inr (N y hy)).mono (by decide) (by decide)⟩⟩
theorem main_1_1 : Claimed_1_1 := comes_1 fun _ _ _ _ _ _ h hF => ⟨h.1, hF⟩
theorem main_1_2 : Claimed_1_2 := comes_1 fun _ _ _ _ _ _ h hF => ⟨h.2.1, hF⟩
end Jvm.Pilot.@@N@@
namespace Jvm.Pilot.@@N@@
open Jvm Jvm.ClassFile Sem Op Lib Jvm.Free Jvm.Stand Jvm.Pilot.@@N@@.Jvm.D
/-! MADE BY PROGRAM (witnessworld.py) out of the Statement's table words and the real class files: 11 classes; the members and pool entries that the words name. The judged class is class 1, her method 1. -/
namespace start1
open Jvm.ClassFile
def u (s : String) : CpInfo := .utf8 (stringToUtf16 s)
/-- a pool by its gaps: so many unusable entries, then the entry; so many at the end -/
def gap : Nat → List CpInfo → List CpInfo
  | 0, r => r
  | n + 1, r => .unusable :: gap n r
def poolList (es : List (Nat × CpInfo)) (last : Nat) : List CpInfo := es.foldr (fun e r => gap e.1 (e.2 :: r)) (gap last [])
def pool (es : List (Nat × CpInfo)) (last : Nat) : Array CpInfo := ⟨poolList es last⟩
def fileOf (pool : Array CpInfo) (this : Nat) (attrs : Array Attribute := #[]) (ms : Array MethodInfo := #[]) (fl : Nat := 33) (sup : Nat := 0) (ifs : Array Nat := #[]) (fds : Array FieldInfo := #[]) : ClassFile where
  minorVersion := 0
  majorVersion := 65
  constantPool := pool
  accessFlags := fl
  thisClass := this
  superClass := sup
  interfaces := ifs
  fields := fds
  methods := ms
  attributes := attrs
def plain (name : String) (sup : Option ClassId) : Class where
  name := name
  kind := .ordinary
  loader := none
  accessFlags := 33
  super := sup
  interfaces := #[]
  cf := none
  fields := #[]
  methods := #[]
  instanceTypes := #[]
  staticTypes := #[]
  resolved := #[]
  callSites := []
  init := .initialized
  statics := none
  mirror := none

def pool0 : Array CpInfo := pool [(5, u "<init>"), (0, u "()V"), (1, .class_ 10), (1, u "java/lang/Object")] 113

def k0m0 : Method := { name := "<init>", desc := "()V", sig := { parameters := [], returnType := none }, accessFlags := 1, code := none }
/-- java/lang/Object -/
def k0 : Class := { plain "java/lang/Object" none with
  accessFlags := 33
  interfaces := #[]
  cf := some (fileOf pool0 8 #[] #[{ accessFlags := 1, nameIndex := 5, descriptorIndex := 6, attributes := #[] }] 33 0 #[] #[])
  fields := #[]
  methods := #[k0m0]
  instanceTypes := #[]
  staticTypes := #[]
  resolved := Array.replicate 124 none
  statics := none }

def pool1 : Array CpInfo := pool [(2, .class_ 4), (1, u "java/lang/Object"), (0, u "<init>"), (0, u "()V"), (0, .class_ 8), (0, u "com/example/sift5/sift5/capture/UdpDecoder"), (0, .methodref 7 10), (0, .nameAndType 11 12), (0, u "reads"), (0, u "(I)Z"), (0, .class_ 14), (0, u "com/example/sift5/sift5/capture/UdpDecoderReadsPinLaw"), (2, u "law"), (0, u "(III)Z")] 3

def k1m0 : Method := { name := "<init>", desc := "()V", sig := { parameters := [], returnType := none }, accessFlags := 1, code := none }
def k1c1 : Code := { maxStack := 2, maxLocals := 8, code := code, exceptionTable := #[], attributes := #[] }
def k1m1 : Method := { name := "law", desc := "(III)Z", sig := { parameters := [.int, .int, .int], returnType := some .boolean }, accessFlags := 9, code := some k1c1 }
/-- com/example/sift5/sift5/capture/UdpDecoderReadsPinLaw -/
def k1 : Class := { plain "com/example/sift5/sift5/capture/UdpDecoderReadsPinLaw" (some 0) with
  accessFlags := 49
  interfaces := #[]
  cf := some (fileOf pool1 13 #[] #[{ accessFlags := 1, nameIndex := 5, descriptorIndex := 6, attributes := #[] }, { accessFlags := 9, nameIndex := 17, descriptorIndex := 18, attributes := #[] }] 49 2 #[] #[])
  fields := #[]
  methods := #[k1m0, k1m1]
  instanceTypes := #[]
  staticTypes := #[]
  resolved := Array.replicate 22 none
  statics := none }

def pool2 : Array CpInfo := pool [(2, .class_ 4), (1, u "java/lang/Object"), (0, u "<init>"), (0, u "()V"), (4, .class_ 13), (1, u "com/example/sift5/sift5/capture/UdpDecoder"), (0, u "fragments"), (0, u "Lcom/example/sift5/sift5/capture/Reassembly;"), (0, .methodref 11 17), (0, .nameAndType 18 19), (0, u "linkLayer"), (0, u "(I)Lcom/example/sift5/sift5/capture/UdpDecoder$LinkLayer;"), (11, .class_ 33), (1, u "com/example/sift5/sift5/capture/UdpDecoder$LinkLayer"), (22, .fieldref 11 57), (0, .nameAndType 58 59), (0, u "ETHERNET_LAYER"), (0, u "Lcom/example/sift5/sift5/capture/UdpDecoder$LinkLayer;"), (0, .fieldref 11 61), (0, .nameAndType 62 59), (0, u "LINUX_COOKED_LAYER"), (0, .fieldref 11 64), (0, .nameAndType 65 59), (0, u "LINUX_COOKED_V2_LAYER"), (6, u "(I)Z"), (1, .class_ 75), (0, u "com/example/sift5/sift5/capture/UdpDecoder$Packet"), (62, u "ICMP_ERRORS"), (0, u "Ljava/util/Set;"), (28, u "ICMPV6_ERRORS"), (2, u "EXTENSIONS"), (50, u "ETHERNET"), (0, u "I"), (2, u "LINUX_COOKED"), (1, u "LINUX_COOKED_V2"), (1, u "ETHERTYPE_IPV4"), (1, u "ETHERTYPE_IPV6"), (0, u "DOT1Q"), (0, u "DOT1AD"), (0, u "QINQ"), (0, u "VLAN_TAG_BYTES"), (1, u "IPV4_HEADER_BYTES"), (1, u "IPV6_HEADER_BYTES"), (1, u "MORE_FRAGMENTS"), (1, u "FRAGMENT_OFFSET"), (1, u "UDP"), (1, u "UDP_HEADER_BYTES"), (1, u "ICMP"), (0, u "ICMPV6"), (3, u "ICMP_HEADER_BYTES"), (0, u "MAX_QUOTES"), (1, u "HOP_BY_HOP"), (1, u "ROUTING"), (1, u "FRAGMENT"), (1, u "AUTHENTICATION"), (1, u "DESTINATION_OPTIONS"), (1, u "EXTENSION_BYTES"), (2, u "reads")] 17

def k2m0 : Method := { name := "<init>", desc := "()V", sig := { parameters := [], returnType := none }, accessFlags := 1, code := none }
def k2c1 : Code := { maxStack := 1, maxLocals := 1, code := prog_34_method_2_code, exceptionTable := #[], attributes := #[] }
def k2m1 : Method := { name := "reads", desc := "(I)Z", sig := { parameters := [.int], returnType := some .boolean }, accessFlags := 9, code := some k2c1 }
def k2c2 : Code := { maxStack := 1, maxLocals := 1, code := prog_34_method_4_code, exceptionTable := #[], attributes := #[] }
def k2m2 : Method := { name := "linkLayer", desc := "(I)Lcom/example/sift5/sift5/capture/UdpDecoder$LinkLayer;", sig := { parameters := [.int], returnType := some (.object "com/example/sift5/sift5/capture/UdpDecoder$LinkLayer") }, accessFlags := 10, code := some k2c2 }
/-- com/example/sift5/sift5/capture/UdpDecoder -/
def k2 : Class := { plain "com/example/sift5/sift5/capture/UdpDecoder" (some 0) with
  accessFlags := 49
  interfaces := #[]
  cf := some (fileOf pool2 11 #[.nestMembers #[74, 31]] #[{ accessFlags := 1, nameIndex := 5, descriptorIndex := 6, attributes := #[] }, { accessFlags := 9, nameIndex := 271, descriptorIndex := 72, attributes := #[] }, { accessFlags := 10, nameIndex := 18, descriptorIndex := 19, attributes := #[] }] 49 2 #[] #[{ accessFlags := 25, nameIndex := 222, descriptorIndex := 223, attributes := #[] }, { accessFlags := 25, nameIndex := 226, descriptorIndex := 223, attributes := #[] }, { accessFlags := 25, nameIndex := 228, descriptorIndex := 223, attributes := #[] }, { accessFlags := 26, nameIndex := 58, descriptorIndex := 59, attributes := #[] }, { accessFlags := 26, nameIndex := 62, descriptorIndex := 59, attributes := #[] }, { accessFlags := 26, nameIndex := 65, descriptorIndex := 59, attributes := #[] }, { accessFlags := 26, nameIndex := 230, descriptorIndex := 223, attributes := #[] }, { accessFlags := 26, nameIndex := 232, descriptorIndex := 223, attributes := #[] }, { accessFlags := 26, nameIndex := 233, descriptorIndex := 223, attributes := #[] }, { accessFlags := 26, nameIndex := 234, descriptorIndex := 223, attributes := #[] }, { accessFlags := 26, nameIndex := 235, descriptorIndex := 223, attributes := #[] }, { accessFlags := 26, nameIndex := 236, descriptorIndex := 223, attributes := #[] }, { accessFlags := 26, nameIndex := 238, descriptorIndex := 223, attributes := #[] }, { accessFlags := 26, nameIndex := 240, descriptorIndex := 223, attributes := #[] }, { accessFlags := 26, nameIndex := 242, descriptorIndex := 223, attributes := #[] }, { accessFlags := 26, nameIndex := 244, descriptorIndex := 223, attributes := #[] }, { accessFlags := 26, nameIndex := 246, descriptorIndex := 223, attributes := #[] }, { accessFlags := 26, nameIndex := 248, descriptorIndex := 223, attributes := #[] }, { accessFlags := 26, nameIndex := 250, descriptorIndex := 223, attributes := #[] }, { accessFlags := 26, nameIndex := 251, descriptorIndex := 223, attributes := #[] }, { accessFlags := 26, nameIndex := 138, descriptorIndex := 139, attributes := #[] }, { accessFlags := 26, nameIndex := 168, descriptorIndex := 139, attributes := #[] }, { accessFlags := 26, nameIndex := 255, descriptorIndex := 223, attributes := #[] }, { accessFlags := 26, nameIndex := 256, descriptorIndex := 223, attributes := #[] }, { accessFlags := 26, nameIndex := 258, descriptorIndex := 223, attributes := #[] }, { accessFlags := 26, nameIndex := 260, descriptorIndex := 223, attributes := #[] }, { accessFlags := 26, nameIndex := 262, descriptorIndex := 223, attributes := #[] }, { accessFlags := 26, nameIndex := 264, descriptorIndex := 223, attributes := #[] }, { accessFlags := 26, nameIndex := 266, descriptorIndex := 223, attributes := #[] }, { accessFlags := 26, nameIndex := 171, descriptorIndex := 139, attributes := #[] }, { accessFlags := 26, nameIndex := 268, descriptorIndex := 223, attributes := #[] }, { accessFlags := 18, nameIndex := 14, descriptorIndex := 15, attributes := #[] }])
  fields := #[{ name := "ETHERNET", type := .int, accessFlags := 25, slot := 0, constantValue := 0 }, { name := "LINUX_COOKED", type := .int, accessFlags := 25, slot := 1, constantValue := 0 }, { name := "LINUX_COOKED_V2", type := .int, accessFlags := 25, slot := 2, constantValue := 0 }, { name := "ETHERNET_LAYER", type := (.object "com/example/sift5/sift5/capture/UdpDecoder$LinkLayer"), accessFlags := 26, slot := 3, constantValue := 0 }, { name := "LINUX_COOKED_LAYER", type := (.object "com/example/sift5/sift5/capture/UdpDecoder$LinkLayer"), accessFlags := 26, slot := 4, constantValue := 0 }, { name := "LINUX_COOKED_V2_LAYER", type := (.object "com/example/sift5/sift5/capture/UdpDecoder$LinkLayer"), accessFlags := 26, slot := 5, constantValue := 0 }, { name := "ETHERTYPE_IPV4", type := .int, accessFlags := 26, slot := 6, constantValue := 0 }, { name := "ETHERTYPE_IPV6", type := .int, accessFlags := 26, slot := 7, constantValue := 0 }, { name := "DOT1Q", type := .int, accessFlags := 26, slot := 8, constantValue := 0 }, { name := "DOT1AD", type := .int, accessFlags := 26, slot := 9, constantValue := 0 }, { name := "QINQ", type := .int, accessFlags := 26, slot := 10, constantValue := 0 }, { name := "VLAN_TAG_BYTES", type := .int, accessFlags := 26, slot := 11, constantValue := 0 }, { name := "IPV4_HEADER_BYTES", type := .int, accessFlags := 26, slot := 12, constantValue := 0 }, { name := "IPV6_HEADER_BYTES", type := .int, accessFlags := 26, slot := 13, constantValue := 0 }, { name := "MORE_FRAGMENTS", type := .int, accessFlags := 26, slot := 14, constantValue := 0 }, { name := "FRAGMENT_OFFSET", type := .int, accessFlags := 26, slot := 15, constantValue := 0 }, { name := "UDP", type := .int, accessFlags := 26, slot := 16, constantValue := 0 }, { name := "UDP_HEADER_BYTES", type := .int, accessFlags := 26, slot := 17, constantValue := 0 }, { name := "ICMP", type := .int, accessFlags := 26, slot := 18, constantValue := 0 }, { name := "ICMPV6", type := .int, accessFlags := 26, slot := 19, constantValue := 0 }, { name := "ICMP_ERRORS", type := (.object "java/util/Set"), accessFlags := 26, slot := 20, constantValue := 0 }, { name := "ICMPV6_ERRORS", type := (.object "java/util/Set"), accessFlags := 26, slot := 21, constantValue := 0 }, { name := "ICMP_HEADER_BYTES", type := .int, accessFlags := 26, slot := 22, constantValue := 0 }, { name := "MAX_QUOTES", type := .int, accessFlags := 26, slot := 23, constantValue := 0 }, { name := "HOP_BY_HOP", type := .int, accessFlags := 26, slot := 24, constantValue := 0 }, { name := "ROUTING", type := .int, accessFlags := 26, slot := 25, constantValue := 0 }, { name := "FRAGMENT", type := .int, accessFlags := 26, slot := 26, constantValue := 0 }, { name := "AUTHENTICATION", type := .int, accessFlags := 26, slot := 27, constantValue := 0 }, { name := "DESTINATION_OPTIONS", type := .int, accessFlags := 26, slot := 28, constantValue := 0 }, { name := "EXTENSIONS", type := (.object "java/util/Set"), accessFlags := 26, slot := 29, constantValue := 0 }, { name := "EXTENSION_BYTES", type := .int, accessFlags := 26, slot := 30, constantValue := 0 }, { name := "fragments", type := (.object "com/example/sift5/sift5/capture/Reassembly"), accessFlags := 18, slot := 0, constantValue := 0 }]
  methods := #[k2m0, k2m1, k2m2]
  instanceTypes := #[(.object "com/example/sift5/sift5/capture/Reassembly")]
  staticTypes := #[.int, .int, .int, (.object "com/example/sift5/sift5/capture/UdpDecoder$LinkLayer"), (.object "com/example/sift5/sift5/capture/UdpDecoder$LinkLayer"), (.object "com/example/sift5/sift5/capture/UdpDecoder$LinkLayer"), .int, .int, .int, .int, .int, .int, .int, .int, .int, .int, .int, .int, .int, .int, (.object "java/util/Set"), (.object "java/util/Set"), .int, .int, .int, .int, .int, .int, .int, (.object "java/util/Set"), .int]
  resolved := Array.replicate 289 none
  statics := some 0 }

def pool3 : Array CpInfo := pool [(2, .class_ 4), (1, u "java/lang/Object"), (0, u "<init>"), (0, u "()V"), (0, .class_ 8), (0, u "java/lang/Record")] 13

def k3m0 : Method := { name := "<init>", desc := "()V", sig := { parameters := [], returnType := none }, accessFlags := 4, code := none }
/-- java/lang/Record -/
def k3 : Class := { plain "java/lang/Record" (some 0) with
  accessFlags := 1057
  interfaces := #[]
  cf := some (fileOf pool3 7 #[] #[{ accessFlags := 4, nameIndex := 5, descriptorIndex := 6, attributes := #[] }] 1057 2 #[] #[])
  fields := #[]
  methods := #[k3m0]
  instanceTypes := #[]
  staticTypes := #[]
  resolved := Array.replicate 22 none
  statics := none }

def pool4 : Array CpInfo := pool [(2, .class_ 4), (1, u "java/lang/Record"), (3, .class_ 10), (1, u "com/example/sift5/sift5/capture/UdpDecoder$LinkLayer"), (0, u "headerBytes"), (0, u "I"), (2, u "typeAt"), (22, .class_ 39), (0, u "com/example/sift5/sift5/capture/UdpDecoder")] 20

/-- com/example/sift5/sift5/capture/UdpDecoder$LinkLayer -/
def k4 : Class := { plain "com/example/sift5/sift5/capture/UdpDecoder$LinkLayer" (some 3) with
  accessFlags := 48
  interfaces := #[]
  cf := some (fileOf pool4 8 #[.nestHost 38] #[] 48 2 #[] #[{ accessFlags := 18, nameIndex := 11, descriptorIndex := 12, attributes := #[] }, { accessFlags := 18, nameIndex := 15, descriptorIndex := 12, attributes := #[] }])
  fields := #[{ name := "headerBytes", type := .int, accessFlags := 18, slot := 0, constantValue := 0 }, { name := "typeAt", type := .int, accessFlags := 18, slot := 1, constantValue := 0 }]
  methods := #[]
  instanceTypes := #[.int, .int]
  staticTypes := #[]
  resolved := Array.replicate 60 none
  statics := none }

def pool5 : Array CpInfo := pool [(1, u "java/lang/Cloneable"), (0, .class_ 1), (0, u "java/lang/Object"), (0, .class_ 3)] 3

/-- java/lang/Cloneable -/
def k5 : Class := { plain "java/lang/Cloneable" (some 0) with
  accessFlags := 1537
  interfaces := #[]
  cf := some (fileOf pool5 2 #[] #[] 1537 4 #[] #[])
  fields := #[]
  methods := #[]
  instanceTypes := #[]
  staticTypes := #[]
  resolved := Array.replicate 8 none
  statics := none }

def pool6 : Array CpInfo := pool [(1, u "java/io/Serializable"), (0, .class_ 1), (0, u "java/lang/Object"), (0, .class_ 3)] 3

/-- java/io/Serializable -/
def k6 : Class := { plain "java/io/Serializable" (some 0) with
  accessFlags := 1537
  interfaces := #[]
  cf := some (fileOf pool6 2 #[] #[] 1537 4 #[] #[])
  fields := #[]
  methods := #[]
  instanceTypes := #[]
  staticTypes := #[]
  resolved := Array.replicate 8 none
  statics := none }

/-- the primitive byte -/
def k7 : Class := { plain "byte" none with kind := .primitive 'B', accessFlags := 0x411 }
/-- [B -/
def k8 : Class := { plain "[B" (some 0) with kind := .array 7 .byte, interfaces := #[5, 6], accessFlags := 1041 }

/-- the primitive int -/
def k9 : Class := { plain "int" none with kind := .primitive 'I', accessFlags := 0x411 }
/-- [I -/
def k10 : Class := { plain "[I" (some 0) with kind := .array 9 .int, interfaces := #[5, 6], accessFlags := 1041 }

def heap : Heap := #[{ cls := 2, slots := #[.int 0, .int 0, .int 0, .ref 1, .ref 1, .ref 1, .int 0, .int 0, .int 0, .int 0, .int 0, .int 0, .int 0, .int 0, .int 0, .int 0, .int 0, .int 0, .int 0, .int 0, .null, .null, .int 0, .int 0, .int 0, .int 0, .int 0, .int 0, .int 0, .null, .int 0], vm := .statics 2 },
  { cls := 4, slots := #[.int 14, .int 12], vm := .none }]
def classes : Array Class := #[k0, k1, k2, k3, k4, k5, k6, k7, k8, k9, k10]
def interned : List (Array UInt16 × Addr) := []
def slotsUsed : Nat := 33
def theMethod : MethodId := ⟨1, 1⟩
def args0 : Array Value := #[.int 5, .int 6, .int 7]
def aboutOver (below : List Frame) : State where
  vm := { classes := classes, interned := interned.toArray }
  heap := heap
  slotsUsed := slotsUsed
  threads := #[{ frames := .invoking theMethod args0 :: below }]
def below0 : List Frame := [.native { method := ⟨0, 0⟩, args := #[] }]
def about1 : State := aboutOver below0
def p0 : Program := .bare "" "" ""
def e0 : Env := launch0.env 0 0 0
theorem w_frames : about1.frames = Frame.invoking theMethod args0 :: below0 := rfl
set_option maxRecDepth 65536 in
theorem w_args : argsFit about1.vm theMethod args0 = true := by decide +kernel
set_option maxRecDepth 65536 in
theorem w_heap : heapFits about1 = true := by decide +kernel
set_option maxRecDepth 65536 in
theorem w_runnable : about1.curStatus? = some .runnable := by decide +kernel
set_option maxRecDepth 65536 in
theorem w_alone : about1.alone = true := by decide +kernel
set_option maxRecDepth 65536 in
theorem w_named : about1.methodNamed? x = some theMethod := by decide +kernel
set_option maxRecDepth 65536 in
theorem w_hears : about1.hears theMethod below0 = true := by decide +kernel
set_option maxRecDepth 65536 in
theorem w_ripe : about1.ripe theMethod args0 below0 = true := by decide +kernel
theorem w_running : about1.status = .running := rfl
set_option maxRecDepth 65536 in
theorem w_room : about1.hasRoom e0.platform room_1 = true :=
  launch0.hasRoom_least _ room_1 (by decide +kernel) (by decide +kernel) (by decide +kernel) (by decide +kernel) (by decide +kernel) (by decide +kernel)
theorem allAtoms_all (ts : List Jvm.Cond) (a : Array Jvm.Value) (st : Jvm.State) : (allAtoms ts).before a st = ts.all (fun c => c.before a st) := by
  induction ts with
  | nil => rfl
  | cons c t ih =>
    show (Jvm.Cond.and c (allAtoms t)).before a st = _
    rw [Jvm.Cond.before_and, ih, List.all_cons]
def words1 : List Jvm.Cond := Jvm.Cond.code x code maxLocals ret :: tables_1
/-- a 'code' word, met by the world's own term for the bytes: nothing is compared byte by byte -/
theorem code_word {y : MethodName} {bytes : ByteArray} {mx : Nat} {rt : Option FieldType} {a : Array Value} {s : State} {m : MethodId} {meth : Method} {c : Code} (h1 : s.methodNamed? y = some m) (h2 : s.vm.method? m = some meth) (h3 : meth.code = some c) (h4 : c.code = bytes)
    (h5 : (c.maxLocals == mx && c.exceptionTable.isEmpty && decide (c.maxStack ≤ mostOperands) && decide (meth.sig.returnType = rt) && !meth.locks && decide (parseMethodDescriptor y.desc = some meth.sig)) = true) : (Jvm.Cond.code y bytes mx rt).before a s = true := by
  simp only [Bool.and_eq_true, beq_iff_eq, Bool.not_eq_true', decide_eq_true_eq] at h5
  obtain ⟨⟨⟨⟨⟨g1, g2⟩, g3⟩, g4⟩, g5⟩, g6⟩ := h5
  simp [Cond.before, Cond.holds, Cond.value, h1, h2, h3, h4, g1, g2, g3, g4, g5, g6]
def isCode : Jvm.Cond → Bool
  | .code _ _ _ _ => true
  | _ => false
theorem all_split {L : List Jvm.Cond} {P : Jvm.Cond → Bool} (h1 : L.all (fun c => isCode c || P c) = true) (h2 : ∀ c ∈ L.filter isCode, P c = true) : L.all P = true := by
  refine List.all_eq_true.mpr fun c hc => ?_
  have h := List.all_eq_true.mp h1 c hc
  rcases Bool.eq_false_or_eq_true (isCode c) with hi | hi
  · exact h2 c (List.mem_filter.mpr ⟨hc, hi⟩)
  · simpa [hi] using h
set_option maxRecDepth 65536 in
theorem w_c0 : (Jvm.Cond.code x code maxLocals ret).before args0 about1 = true := code_word (m := ⟨1, 1⟩) (meth := k1m1) (c := k1c1) (by decide +kernel) rfl rfl rfl (by decide +kernel)
set_option maxRecDepth 65536 in
theorem w_c1 : (Jvm.Cond.code ({ cls := "com/example/sift5/sift5/capture/UdpDecoder", name := "reads", desc := "(I)Z" } : Jvm.MethodName) prog_34_method_2_code (1 : Nat) (Option.some Jvm.ClassFile.FieldType.boolean)).before args0 about1 = true := code_word (m := ⟨2, 1⟩) (meth := k2m1) (c := k2c1) (by decide +kernel) rfl rfl rfl (by decide +kernel)
set_option maxRecDepth 65536 in
theorem w_c2 : (Jvm.Cond.code ({ cls := "com/example/sift5/sift5/capture/UdpDecoder", name := "linkLayer", desc := "(I)Lcom/example/sift5/sift5/capture/UdpDecoder$LinkLayer;" } : Jvm.MethodName) prog_34_method_4_code (1 : Nat) (Option.some (Jvm.ClassFile.FieldType.object "com/example/sift5/sift5/capture/UdpDecoder$LinkLayer"))).before args0 about1 = true := code_word (m := ⟨2, 2⟩) (meth := k2m2) (c := k2c2) (by decide +kernel) rfl rfl rfl (by decide +kernel)
def codes1 : List Jvm.Cond := [Jvm.Cond.code x code maxLocals ret, Jvm.Cond.code ({ cls := "com/example/sift5/sift5/capture/UdpDecoder", name := "reads", desc := "(I)Z" } : Jvm.MethodName) prog_34_method_2_code (1 : Nat) (Option.some Jvm.ClassFile.FieldType.boolean), Jvm.Cond.code ({ cls := "com/example/sift5/sift5/capture/UdpDecoder", name := "linkLayer", desc := "(I)Lcom/example/sift5/sift5/capture/UdpDecoder$LinkLayer;" } : Jvm.MethodName) prog_34_method_4_code (1 : Nat) (Option.some (Jvm.ClassFile.FieldType.object "com/example/sift5/sift5/capture/UdpDecoder$LinkLayer"))]
set_option maxRecDepth 65536 in
theorem codes_eq : words1.filter isCode = codes1 := rfl
theorem w_codes : ∀ c ∈ words1.filter isCode, c.before args0 about1 = true := by
  rw [codes_eq]
  intro c hc
  simp only [codes1, List.mem_cons, List.not_mem_nil, or_false] at hc
  rcases hc with rfl | rfl | rfl
  · exact w_c0
  · exact w_c1
  · exact w_c2
set_option maxRecDepth 65536 in
theorem w_t1 : words1.all (fun c => isCode c || c.before args0 about1) = true := by decide +kernel
theorem w_tables : (allAtoms (Jvm.Cond.code x code maxLocals ret :: tables_1)).before args0 about1 = true := by
  rw [allAtoms_all]
  show words1.all (fun c => c.before args0 about1) = true
  refine all_split ?_ w_codes
  rw [w_t1]
set_option maxRecDepth 65536 in
theorem w_case : (Jvm.Cond.and given_1 narrow_1).before args0 about1 = true := by decide +kernel
theorem w_applies : (headSpec (Jvm.Cond.code x code maxLocals ret :: tables_1) room_1).applies x e0.platform about1 = true :=
  (Spec.applies_iff w_frames).mpr ⟨w_running, w_runnable, w_alone, w_named, w_hears, w_ripe, w_room, w_tables⟩
theorem atStart : AtStart classFile x code maxLocals ret World_1 tables_1 room_1 Calls_1 rest_1 Pre_1 launch0 p0 e0 about1 theMethod args0 below0 :=
  ⟨lists_1, trivial, launch0.admits_env _ _ _, launch0.least_env, fairChoices_fair.cas, fairChoices_fair.clock, w_frames, w_args, w_heap, w_applies, trivial, trivial, w_case⟩
end start1
theorem witness_1 : WitnessClaimed_1 := ⟨start1.p0, start1.e0, start1.about1, start1.theMethod, start1.args0, start1.below0, start1.atStart⟩
end Jvm.Pilot.@@N@@
