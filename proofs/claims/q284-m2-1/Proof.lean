import JvmDerived
import JvmDerived.Pilot.@@N@@Statement
import JvmDerived.Pilot.@@N@@Code
set_option linter.unusedVariables false
set_option linter.unusedSimpArgs false
namespace Jvm.Pilot.@@N@@
open Jvm Jvm.ClassFile Sem Op Lib Jvm.Free Jvm.Stand Jvm.LawKit Jvm.RoadKit Bundle Jvm.Pilot.@@N@@.Jvm.D
/-! the goal of a walk, carried forward -/
def Goes (p : Program) (e : Env) (below : List Frame) (P : Outcome → State → Prop) (A : State) : Prop :=
  ∃ s₂ o, Steps p.tables e below A s₂ ∧ s₂.status = .running ∧ Ended s₂ below o ∧ P o s₂
theorem Goes.on {p : Program} {e : Env} {below : List Frame} {P : Outcome → State → Prop} {A B : State} (k : ∀ t, Steps p.tables e below B t → Steps p.tables e below A t) (h : Goes p e below P B) : Goes p e below P A := by
  obtain ⟨s₂, o, h1, h2⟩ := h
  exact ⟨s₂, o, k _ h1, h2⟩
theorem Goes.via {p : Program} {e : Env} {below : List Frame} {P : Outcome → State → Prop} {A B : State} (k : Goes p e below P B → Goes p e below P A) (h : Goes p e below P B) : Goes p e below P A := k h
theorem Goes.viaT {p : Program} {e : Env} {below : List Frame} {P : Outcome → State → Prop} {A : State} {Φ : State → Prop} {F : JFrame} (k : (∀ T, Φ T → Goes p e below P (T.setTop F)) → Goes p e below P A) (h : ∀ T, Φ T → Goes p e below P (T.setTop F)) : Goes p e below P A := k h
theorem Goes.leaf {p : Program} {e : Env} {below : List Frame} {P : Outcome → State → Prop} {A t : State} {o : Outcome} (h1 : Steps p.tables e below A t) (h2 : t.status = .running) (h3 : Ended t below o) (h4 : P o t) : Goes p e below P A := ⟨t, o, h1, h2, h3, h4⟩
theorem own_retI {p : Program} {l : Launch} {e : Env} {R : Room} {s : State} {m : MethodId} {args : Array Value} {below : List Frame} {meth : Method} {c : Code} {T : State} {locs : List Loc} {cells slots : Nat} (X : Stand p l e R s m args below meth c T locs cells slots) (hx : p.tables.exec = Jvm.exec) {pc : Nat} {Ls : Array Slot} {z : Int32} {rest : List Value} (hret : meth.sig.returnType = some .int) (hd : decode c.code pc = .ok (.ireturn, 1)) {fs : List Frame}
    (hl : ∀ (f : JFrame) (acts : List Action), f.method = m → f.locked = none → f.entered = [] → (doReturn e (T.setTop f) acts (some (.int z))).1 = T.setFrames fs) : Steps p.tables e below (T.setTop (mkF m pc Ls (.int z :: rest))) (T.setFrames fs) :=
  retOut X hx hret rfl (Or.inl ⟨rfl, Or.inl rfl, z, rfl⟩) hd hl
theorem own_retJ {p : Program} {l : Launch} {e : Env} {R : Room} {s : State} {m : MethodId} {args : Array Value} {below : List Frame} {meth : Method} {c : Code} {T : State} {locs : List Loc} {cells slots : Nat} (X : Stand p l e R s m args below meth c T locs cells slots) (hx : p.tables.exec = Jvm.exec) {pc : Nat} {Ls : Array Slot} {z : Int64} {rest : List Value} (hret : meth.sig.returnType = some .long) (hd : decode c.code pc = .ok (.lreturn, 1)) {fs : List Frame}
    (hl : ∀ (f : JFrame) (acts : List Action), f.method = m → f.locked = none → f.entered = [] → (doReturn e (T.setTop f) acts (some (.long z))).1 = T.setFrames fs) : Steps p.tables e below (T.setTop (mkF m pc Ls (.long z :: rest))) (T.setFrames fs) :=
  retOut X hx hret rfl (Or.inr (Or.inl ⟨rfl, rfl, z, rfl⟩)) hd hl
theorem own_retR {p : Program} {l : Launch} {e : Env} {R : Room} {s : State} {m : MethodId} {args : Array Value} {below : List Frame} {meth : Method} {c : Code} {T : State} {locs : List Loc} {cells slots : Nat} (X : Stand p l e R s m args below meth c T locs cells slots) (hx : p.tables.exec = Jvm.exec) {pc : Nat} {Ls : Array Slot} {z : Addr} {t : FieldType} {rest : List Value} (hret : meth.sig.returnType = some t) (ht : t.isReference = true) (hn : narrow t (.ref z) = .ref z) (hd : decode c.code pc = .ok (.areturn, 1)) {fs : List Frame}
    (hl : ∀ (f : JFrame) (acts : List Action), f.method = m → f.locked = none → f.entered = [] → (doReturn e (T.setTop f) acts (some (.ref z))).1 = T.setFrames fs) : Steps p.tables e below (T.setTop (mkF m pc Ls (.ref z :: rest))) (T.setFrames fs) :=
  retOut X hx hret hn (Or.inr (Or.inr (Or.inr (Or.inr ⟨rfl, ht, rfl⟩)))) hd hl
theorem d1_0 : decode prog_36_method_4_code 0 = .ok (.aload_n 0, 1) := by decide +kernel
theorem d1_1 : decode prog_36_method_4_code 1 = .ok (.getfield 29, 3) := by decide +kernel
theorem d1_4 : decode prog_36_method_4_code 4 = .ok (.areturn, 1) := by decide +kernel
theorem pn_1 : plainName "com/example/roadeq/roadeq/assign/Objective" = true := by first | (simp [plainName, overriddenIn]; done) | decide +kernel
theorem ef_l (m : MethodId) (x0 : Addr) : entryFrame m #[(.ref x0)] 1 = mkF m 0 #[.val (.ref x0)] [] := by first | (simp [entryFrame, mkF, argsToLocals, Value.category]; done) | rfl
def Ql (Z : State) (a : Addr) (w : Addr) (h0 : Heap) (n0 : Nat) (v : Option Value) (h : Heap) (L : List Loc) : Prop := v = some (.ref w) ∧ Fr n0 L ∧ h = h0
set_option maxRecDepth 65536 in
set_option maxHeartbeats 40000000 in
theorem rml (l : Launch) (Z : State) (a0 : Array Value) (hw : ∀ d ∈ tables_1, d.before a0 Z = true) (ws : List Jvm.Cond) (a : Addr) (w : Addr) (h0 : Heap) (n0 : Nat) (Z0 : n0 ≤ h0.size) (F : Fld Z h0 a "com/example/roadeq/roadeq/assign/Objective" "label" "Ljava/lang/String;" (.ref w)) :
    MetFree l (⟨"com/example/roadeq/roadeq/assign/Objective", "label", "()Ljava/lang/String;"⟩ : MethodName) (head1 (Jvm.Cond.code (⟨"com/example/roadeq/roadeq/assign/Objective", "label", "()Ljava/lang/String;"⟩ : MethodName) prog_36_method_4_code 1 (some (.object "java/lang/String")) :: ws) ({ frames := 0, cells := 0, slots := 0, locals := 0 } : Room)) (fun aa U => aa = #[(.ref a)] ∧ Z.Warmed39 U.vm ∧ U.heap = h0) (fun _ _ _ _ _ => True) (fun _ U oo U' => ∃ vv LL, oo = .returned vv ∧ Ql Z a w h0 n0 vv U'.heap LL ∧ FrameEnd U oo U' LL ({ frames := 0, cells := 0, slots := 0, locals := 0 } : Room).cells ({ frames := 0, cells := 0, slots := 0, locals := 0 } : Room).slots) := by
  refine MetFree.of_bodySF (plainFor_of_name pn_1) hisR ?_
  intro p e s m args below meth c s₁ Bd hml0 hP hK
  obtain ⟨rfl, hZ, hh⟩ := hP
  have hx := Bd.exec
  have hby := Bd.bytes
  have hml : c.maxLocals = 1 := hml0
  have hown : s.vm.findClass "com/example/roadeq/roadeq/assign/Objective" = some m.cls := findClass_of_methodNamed Bd.named
  have hnm := (name_of_methodNamed Bd.named Bd.method).1
  have X0 : Stand p l e ({ frames := 0, cells := 0, slots := 0, locals := 0 } : Room) s m #[(.ref a)] below meth c s₁ [] 0 0 := Stand.of_body Bd
  have e0 : s₁.heap = h0 := by rw [← hh, Bd.state]; rfl
  have N0 := Fr.nil n0
  show Goes p e below _ (s₁.setTop (entryFrame m #[(.ref a)] 1))
  refine Goes.on (B := s₁.setTop (mkF m 0 #[.val (.ref a)] [])) (fun t k => castTop (ef_l m a) k) ?_
  refine Goes.on (B := s₁.setTop (mkF m 1 #[.val (.ref a)] [(.ref a)])) (fun _ k => XS.aloadN X0.here hx rfl (hb hby d1_0) rfl rfl  k) ?_
  obtain ⟨T1, X1, e1, st1⟩ := getF X0 hx hZ hown (host := "") (Or.inl (hw _ (List.mem_of_getElem? (i := 8) rfl))) Via.refl e0 F (g := (mkF m 1 #[.val (.ref a)] [(.ref a)])) rfl rfl (hb hby d1_1)
  refine Goes.on (B := T1.setTop (mkF m 4 #[.val (.ref a)] [(.ref w)])) (fun t k => st1 t k) ?_
  obtain ⟨fs, hr, hrun, hended, hW, hsame⟩ := X1.leave (v := some (.ref w)) (fun h => by rw [Bd.returns] at h; cases h)
  exact Goes.leaf (own_retR X1 hx Bd.returns rfl rfl (hb hby d1_4) hr) hrun hended ⟨_, _, rfl, by show Ql Z a w h0 n0 _ T1.heap _; rw [e1]; exact ⟨rfl, N0, rfl⟩, ⟨_, rfl⟩, hW, hsame.mono (by decide) (by decide)⟩
def own_r (a b : Addr) : Int32 := if a = b then 1 else 0
theorem d4_0 : decode prog_36_method_7_code 0 = .ok (.aload_n 0, 1) := by decide +kernel
theorem d4_1 : decode prog_36_method_7_code 1 = .ok (.getstatic 3, 3) := by decide +kernel
theorem d4_4 : decode prog_36_method_7_code 4 = .ok (.if_acmp .ne 7, 3) := by decide +kernel
theorem d4_7 : decode prog_36_method_7_code 7 = .ok (.iconst 1, 1) := by decide +kernel
theorem d4_8 : decode prog_36_method_7_code 8 = .ok (.goto 4, 3) := by decide +kernel
theorem d4_11 : decode prog_36_method_7_code 11 = .ok (.iconst 0, 1) := by decide +kernel
theorem d4_12 : decode prog_36_method_7_code 12 = .ok (.ireturn, 1) := by decide +kernel
theorem pn_4 : plainName "com/example/roadeq/roadeq/assign/Objective" = true := by first | (simp [plainName, overriddenIn]; done) | decide +kernel
theorem ef_r (m : MethodId) (x0 : Addr) : entryFrame m #[(.ref x0)] 1 = mkF m 0 #[.val (.ref x0)] [] := by first | (simp [entryFrame, mkF, argsToLocals, Value.category]; done) | rfl
def Qr (Z : State) (a : Addr) (b1 : Addr) (h0 : Heap) (n0 : Nat) (v : Option Value) (h : Heap) (L : List Loc) : Prop := v = some (.int (own_r a b1)) ∧ Fr n0 L ∧ h = h0
set_option maxRecDepth 65536 in
set_option maxHeartbeats 40000000 in
theorem rmr (l : Launch) (Z : State) (a0 : Array Value) (hw : ∀ d ∈ tables_1, d.before a0 Z = true) (ws : List Jvm.Cond) (a : Addr) (b1 : Addr) (h0 : Heap) (n0 : Nat) (Z0 : n0 ≤ h0.size) (S1 : Sta Z h0 "com/example/roadeq/roadeq/assign/Objective" "UE" "Lcom/example/roadeq/roadeq/assign/Objective;" (.ref b1)) :
    MetFree l (⟨"com/example/roadeq/roadeq/assign/Objective", "routesOnLinkCosts", "()Z"⟩ : MethodName) (head1 (Jvm.Cond.code (⟨"com/example/roadeq/roadeq/assign/Objective", "routesOnLinkCosts", "()Z"⟩ : MethodName) prog_36_method_7_code 1 (some .boolean) :: ws) ({ frames := 0, cells := 0, slots := 0, locals := 0 } : Room)) (fun aa U => aa = #[(.ref a)] ∧ Z.Warmed39 U.vm ∧ U.heap = h0) (fun _ _ _ _ _ => True) (fun _ U oo U' => ∃ vv LL, oo = .returned vv ∧ Qr Z a b1 h0 n0 vv U'.heap LL ∧ FrameEnd U oo U' LL ({ frames := 0, cells := 0, slots := 0, locals := 0 } : Room).cells ({ frames := 0, cells := 0, slots := 0, locals := 0 } : Room).slots) := by
  refine MetFree.of_bodySF (plainFor_of_name pn_4) hisR ?_
  intro p e s m args below meth c s₁ Bd hml0 hP hK
  obtain ⟨rfl, hZ, hh⟩ := hP
  have hx := Bd.exec
  have hby := Bd.bytes
  have hml : c.maxLocals = 1 := hml0
  have hown : s.vm.findClass "com/example/roadeq/roadeq/assign/Objective" = some m.cls := findClass_of_methodNamed Bd.named
  have hnm := (name_of_methodNamed Bd.named Bd.method).1
  have X0 : Stand p l e ({ frames := 0, cells := 0, slots := 0, locals := 0 } : Room) s m #[(.ref a)] below meth c s₁ [] 0 0 := Stand.of_body Bd
  have e0 : s₁.heap = h0 := by rw [← hh, Bd.state]; rfl
  have N0 := Fr.nil n0
  show Goes p e below _ (s₁.setTop (entryFrame m #[(.ref a)] 1))
  refine Goes.on (B := s₁.setTop (mkF m 0 #[.val (.ref a)] [])) (fun t k => castTop (ef_r m a) k) ?_
  refine Goes.on (B := s₁.setTop (mkF m 1 #[.val (.ref a)] [(.ref a)])) (fun _ k => XS.aloadN X0.here hx rfl (hb hby d4_0) rfl rfl  k) ?_
  obtain ⟨T1, X1, e1, st1⟩ := getS2 X0 hx hZ hown (host := "") (Or.inl (hw _ (List.mem_of_getElem? (i := 37) rfl))) Via.refl e0 S1 (g := (mkF m 1 #[.val (.ref a)] [(.ref a)])) rfl (hb hby d4_1)
  refine Goes.on (B := T1.setTop (mkF m 4 #[.val (.ref a)] [(.ref b1), (.ref a)])) (fun t k => st1 t k) ?_
  by_cases hq : a = b1
  · refine Goes.on (B := T1.setTop (mkF m 7 #[.val (.ref a)] [])) (fun _ k => Jvm.RoadKit.acmp (g := (mkF m 4 #[.val (.ref a)] [(.ref b1), (.ref a)])) X1 hx rfl rfl rfl (pc0 := 4) (pc' := 7) (same := true) rfl (hb hby d4_4) rfl (decide_eq_true (congrArg Value.ref hq)) (by decide) (by decide) k) ?_
    refine Goes.on (B := T1.setTop (mkF m 8 #[.val (.ref a)] [(.int (1 : Int32))])) (fun _ k => XS.iconst X1.here hx rfl (hb hby d4_7) k) ?_
    refine Goes.on (B := T1.setTop (mkF m 12 #[.val (.ref a)] [(.int (1 : Int32))])) (fun _ k => XS.goto X1.here hx rfl (pc0 := 8) (pc' := 12) rfl (hb hby d4_8) (by decide) (by decide) k) ?_
    obtain ⟨fs, hr, hrun, hended, hW, hsame⟩ := X1.leave (v := some (.int (1 : Int32))) (fun h => by rw [Bd.returns] at h; cases h)
    exact Goes.leaf (retN X1 hx (t := .boolean) Bd.returns (by simp) (hb hby d4_12) hr) hrun hended ⟨_, _, rfl, by show Qr Z a b1 h0 n0 _ T1.heap _; rw [e1]; exact ⟨by rw [own_r, if_pos hq], N0, rfl⟩, ⟨_, rfl⟩, hW, hsame.mono (by decide) (by decide)⟩
  · refine Goes.on (B := T1.setTop (mkF m 11 #[.val (.ref a)] [])) (fun _ k => Jvm.RoadKit.acmp (g := (mkF m 4 #[.val (.ref a)] [(.ref b1), (.ref a)])) X1 hx rfl rfl rfl (pc0 := 4) (pc' := 11) (same := false) rfl (hb hby d4_4) rfl (decide_eq_false fun q => hq (Value.ref.inj q)) (by decide) (by decide) k) ?_
    refine Goes.on (B := T1.setTop (mkF m 12 #[.val (.ref a)] [(.int (0 : Int32))])) (fun _ k => XS.iconst X1.here hx rfl (hb hby d4_11) k) ?_
    obtain ⟨fs, hr, hrun, hended, hW, hsame⟩ := X1.leave (v := some (.int (0 : Int32))) (fun h => by rw [Bd.returns] at h; cases h)
    exact Goes.leaf (retN X1 hx (t := .boolean) Bd.returns (by simp) (hb hby d4_12) hr) hrun hended ⟨_, _, rfl, by show Qr Z a b1 h0 n0 _ T1.heap _; rw [e1]; exact ⟨by rw [own_r, if_neg hq], N0, rfl⟩, ⟨_, rfl⟩, hW, hsame.mono (by decide) (by decide)⟩
def own_le (c0 c1 f0 f1 : Int32) : Int32 := if c0 = f0 then (if c1 = f1 then 1 else 0) else 0
theorem d3_0 : decode jdk_43_method_13_code 0 = .ok (.aload_n 0, 1) := by decide +kernel
theorem d3_1 : decode jdk_43_method_13_code 1 = .ok (.arraylength, 1) := by decide +kernel
theorem d3_2 : decode jdk_43_method_13_code 2 = .ok (.aload_n 1, 1) := by decide +kernel
theorem d3_3 : decode jdk_43_method_13_code 3 = .ok (.arraylength, 1) := by decide +kernel
theorem d3_4 : decode jdk_43_method_13_code 4 = .ok (.if_icmp .ne 30, 3) := by decide +kernel
theorem d3_7 : decode jdk_43_method_13_code 7 = .ok (.iconst 0, 1) := by decide +kernel
theorem d3_8 : decode jdk_43_method_13_code 8 = .ok (.istore_n 2, 1) := by decide +kernel
theorem d3_9 : decode jdk_43_method_13_code 9 = .ok (.iload_n 2, 1) := by decide +kernel
theorem d3_10 : decode jdk_43_method_13_code 10 = .ok (.aload_n 0, 1) := by decide +kernel
theorem d3_11 : decode jdk_43_method_13_code 11 = .ok (.arraylength, 1) := by decide +kernel
theorem d3_12 : decode jdk_43_method_13_code 12 = .ok (.if_icmp .ge 20, 3) := by decide +kernel
theorem d3_15 : decode jdk_43_method_13_code 15 = .ok (.aload_n 0, 1) := by decide +kernel
theorem d3_16 : decode jdk_43_method_13_code 16 = .ok (.iload_n 2, 1) := by decide +kernel
theorem d3_17 : decode jdk_43_method_13_code 17 = .ok (.baload, 1) := by decide +kernel
theorem d3_18 : decode jdk_43_method_13_code 18 = .ok (.aload_n 1, 1) := by decide +kernel
theorem d3_19 : decode jdk_43_method_13_code 19 = .ok (.iload_n 2, 1) := by decide +kernel
theorem d3_20 : decode jdk_43_method_13_code 20 = .ok (.baload, 1) := by decide +kernel
theorem d3_21 : decode jdk_43_method_13_code 21 = .ok (.if_icmp .eq 5, 3) := by decide +kernel
theorem d3_24 : decode jdk_43_method_13_code 24 = .ok (.iconst 0, 1) := by decide +kernel
theorem d3_25 : decode jdk_43_method_13_code 25 = .ok (.ireturn, 1) := by decide +kernel
theorem d3_26 : decode jdk_43_method_13_code 26 = .ok (.iinc 2 1, 3) := by decide +kernel
theorem d3_29 : decode jdk_43_method_13_code 29 = .ok (.goto (-20), 3) := by decide +kernel
theorem d3_32 : decode jdk_43_method_13_code 32 = .ok (.iconst 1, 1) := by decide +kernel
theorem d3_33 : decode jdk_43_method_13_code 33 = .ok (.ireturn, 1) := by decide +kernel
theorem pn_3 : plainName "java/lang/StringLatin1" = true := by first | (simp [plainName, overriddenIn]; done) | decide +kernel
theorem ef_le (m : MethodId) (x0 : Addr) (x1 : Addr) : entryFrame m #[(.ref x0), (.ref x1)] 3 = mkF m 0 #[.val (.ref x0), .val (.ref x1), .unset] [] := by first | (simp [entryFrame, mkF, argsToLocals, Value.category]; done) | rfl
def Qle (Z : State) (a : Addr) (b : Addr) (ka kb : ClassId) (c0 c1 f0 f1 : Int32) (h0 : Heap) (n0 : Nat) (v : Option Value) (h : Heap) (L : List Loc) : Prop := v = some (.int (own_le c0 c1 f0 f1)) ∧ Fr n0 L ∧ h = h0
set_option maxRecDepth 65536 in
set_option maxHeartbeats 40000000 in
theorem rmle (l : Launch) (Z : State) (a0 : Array Value) (hw : ∀ d ∈ tables_1, d.before a0 Z = true) (ws : List Jvm.Cond) (a : Addr) (b : Addr) (ka kb : ClassId) (c0 c1 f0 f1 : Int32) (h0 : Heap) (n0 : Nat) (Z0 : n0 ≤ h0.size) (VA : Arv Z h0 a ka .byte (2 : Int32) [(.int c0), (.int c1)] (.int (0 : Int32))) (VB : Arv Z h0 b kb .byte (2 : Int32) [(.int f0), (.int f1)] (.int (0 : Int32))) :
    MetFree l (⟨"java/lang/StringLatin1", "equals", "([B[B)Z"⟩ : MethodName) (head1 (Jvm.Cond.code (⟨"java/lang/StringLatin1", "equals", "([B[B)Z"⟩ : MethodName) jdk_43_method_13_code 3 (some .boolean) :: ws) ({ frames := 0, cells := 0, slots := 0, locals := 0 } : Room)) (fun aa U => aa = #[(.ref a), (.ref b)] ∧ Z.Warmed39 U.vm ∧ U.heap = h0) (fun _ _ _ _ _ => True) (fun _ U oo U' => ∃ vv LL, oo = .returned vv ∧ Qle Z a b ka kb c0 c1 f0 f1 h0 n0 vv U'.heap LL ∧ FrameEnd U oo U' LL ({ frames := 0, cells := 0, slots := 0, locals := 0 } : Room).cells ({ frames := 0, cells := 0, slots := 0, locals := 0 } : Room).slots) := by
  refine MetFree.of_bodySF (plainFor_of_name pn_3) hisR ?_
  intro p e s m args below meth c s₁ Bd hml0 hP hK
  obtain ⟨rfl, hZ, hh⟩ := hP
  have hx := Bd.exec
  have hby := Bd.bytes
  have hml : c.maxLocals = 3 := hml0
  have hown : s.vm.findClass "java/lang/StringLatin1" = some m.cls := findClass_of_methodNamed Bd.named
  have hnm := (name_of_methodNamed Bd.named Bd.method).1
  have X0 : Stand p l e ({ frames := 0, cells := 0, slots := 0, locals := 0 } : Room) s m #[(.ref a), (.ref b)] below meth c s₁ [] 0 0 := Stand.of_body Bd
  have e0 : s₁.heap = h0 := by rw [← hh, Bd.state]; rfl
  have N0 := Fr.nil n0
  show Goes p e below _ (s₁.setTop (entryFrame m #[(.ref a), (.ref b)] 3))
  refine Goes.on (B := s₁.setTop (mkF m 0 #[.val (.ref a), .val (.ref b), .unset] [])) (fun t k => castTop (ef_le m a b) k) ?_
  refine Goes.on (B := s₁.setTop (mkF m 1 #[.val (.ref a), .val (.ref b), .unset] [(.ref a)])) (fun _ k => XS.aloadN X0.here hx rfl (hb hby d3_0) rfl rfl  k) ?_
  obtain ⟨cl1, Ar1, -, S1, Nn1, -, -⟩ := id VA
  refine Goes.on (B := s₁.setTop (mkF m 2 #[.val (.ref a), .val (.ref b), .unset] [(.int (2 : Int32))])) (fun t k => X0.arraylength hx (by rw [e0]; exact Ar1.1) (State.isArrayOf_alike hZ.alike Ar1.2.1) (g := (mkF m 1 #[.val (.ref a), .val (.ref b), .unset] [(.ref a)])) rfl rfl (hb hby d3_1) t (by rw [len_of S1 Nn1]; exact k)) ?_
  refine Goes.on (B := s₁.setTop (mkF m 3 #[.val (.ref a), .val (.ref b), .unset] [(.ref b), (.int (2 : Int32))])) (fun _ k => XS.aloadN X0.here hx rfl (hb hby d3_2) rfl rfl  k) ?_
  obtain ⟨cl2, Ar2, -, S2, Nn2, -, -⟩ := id VB
  refine Goes.on (B := s₁.setTop (mkF m 4 #[.val (.ref a), .val (.ref b), .unset] [(.int (2 : Int32)), (.int (2 : Int32))])) (fun t k => X0.arraylength hx (by rw [e0]; exact Ar2.1) (State.isArrayOf_alike hZ.alike Ar2.2.1) (g := (mkF m 3 #[.val (.ref a), .val (.ref b), .unset] [(.ref b), (.int (2 : Int32))])) rfl rfl (hb hby d3_3) t (by rw [len_of S2 Nn2]; exact k)) ?_
  refine Goes.on (B := s₁.setTop (mkF m 7 #[.val (.ref a), .val (.ref b), .unset] [])) (fun _ k => XS.icmpNo X0.here hx rfl (hb hby d3_4) rfl (teq (by decide)).2 k) ?_
  refine Goes.on (B := s₁.setTop (mkF m 8 #[.val (.ref a), .val (.ref b), .unset] [(.int (0 : Int32))])) (fun _ k => XS.iconst X0.here hx rfl (hb hby d3_7) k) ?_
  refine Goes.on (B := s₁.setTop (mkF m 9 #[.val (.ref a), .val (.ref b), .val (.int (0 : Int32))] [])) (fun _ k => XS.istoreN X0.here hx rfl (hb hby d3_8) rfl (l' := #[.val (.ref a), .val (.ref b), .val (.int (0 : Int32))]) rfl k) ?_
  refine Goes.on (B := s₁.setTop (mkF m 10 #[.val (.ref a), .val (.ref b), .val (.int (0 : Int32))] [(.int (0 : Int32))])) (fun _ k => XS.iloadN X0.here hx rfl (hb hby d3_9) rfl  k) ?_
  refine Goes.on (B := s₁.setTop (mkF m 11 #[.val (.ref a), .val (.ref b), .val (.int (0 : Int32))] [(.ref a), (.int (0 : Int32))])) (fun _ k => XS.aloadN X0.here hx rfl (hb hby d3_10) rfl rfl  k) ?_
  obtain ⟨cl3, Ar3, -, S3, Nn3, -, -⟩ := id VA
  refine Goes.on (B := s₁.setTop (mkF m 12 #[.val (.ref a), .val (.ref b), .val (.int (0 : Int32))] [(.int (2 : Int32)), (.int (0 : Int32))])) (fun t k => X0.arraylength hx (by rw [e0]; exact Ar3.1) (State.isArrayOf_alike hZ.alike Ar3.2.1) (g := (mkF m 11 #[.val (.ref a), .val (.ref b), .val (.int (0 : Int32))] [(.ref a), (.int (0 : Int32))])) rfl rfl (hb hby d3_11) t (by rw [len_of S3 Nn3]; exact k)) ?_
  refine Goes.on (B := s₁.setTop (mkF m 15 #[.val (.ref a), .val (.ref b), .val (.int (0 : Int32))] [])) (fun _ k => XS.icmpNo X0.here hx rfl (hb hby d3_12) rfl (tlt (by decide)).2.1 k) ?_
  refine Goes.on (B := s₁.setTop (mkF m 16 #[.val (.ref a), .val (.ref b), .val (.int (0 : Int32))] [(.ref a)])) (fun _ k => XS.aloadN X0.here hx rfl (hb hby d3_15) rfl rfl  k) ?_
  refine Goes.on (B := s₁.setTop (mkF m 17 #[.val (.ref a), .val (.ref b), .val (.int (0 : Int32))] [(.int (0 : Int32)), (.ref a)])) (fun _ k => XS.iloadN X0.here hx rfl (hb hby d3_16) rfl  k) ?_
  obtain ⟨cl4, Ar4, q4, S4, Nn4, H4, G4⟩ := id VA
  have hin4 : ¬ ((0 : Int32) < 0 ∨ cl4.slots.size ≤ ((0 : Int32)).toNatClampNeg) := inb_of S4 ⟨by decide, by decide⟩
  refine Goes.on (B := s₁.setTop (mkF m 18 #[.val (.ref a), .val (.ref b), .val (.int (0 : Int32))] [(.int c0)])) (fun _ k => X0.baloadBytes hx (j := (0 : Int32)) (v := (.int c0)) (by rw [e0]; exact Ar4.1) (State.isArrayOf_alike hZ.alike Ar4.2.1) Ar4.2.2 hin4 (H4.at hin4 rfl) (g := (mkF m 17 #[.val (.ref a), .val (.ref b), .val (.int (0 : Int32))] [(.int (0 : Int32)), (.ref a)])) rfl rfl (hb hby d3_17) _ k) ?_
  refine Goes.on (B := s₁.setTop (mkF m 19 #[.val (.ref a), .val (.ref b), .val (.int (0 : Int32))] [(.ref b), (.int c0)])) (fun _ k => XS.aloadN X0.here hx rfl (hb hby d3_18) rfl rfl  k) ?_
  refine Goes.on (B := s₁.setTop (mkF m 20 #[.val (.ref a), .val (.ref b), .val (.int (0 : Int32))] [(.int (0 : Int32)), (.ref b), (.int c0)])) (fun _ k => XS.iloadN X0.here hx rfl (hb hby d3_19) rfl  k) ?_
  obtain ⟨cl5, Ar5, q5, S5, Nn5, H5, G5⟩ := id VB
  have hin5 : ¬ ((0 : Int32) < 0 ∨ cl5.slots.size ≤ ((0 : Int32)).toNatClampNeg) := inb_of S5 ⟨by decide, by decide⟩
  refine Goes.on (B := s₁.setTop (mkF m 21 #[.val (.ref a), .val (.ref b), .val (.int (0 : Int32))] [(.int f0), (.int c0)])) (fun _ k => X0.baloadBytes hx (j := (0 : Int32)) (v := (.int f0)) (by rw [e0]; exact Ar5.1) (State.isArrayOf_alike hZ.alike Ar5.2.1) Ar5.2.2 hin5 (H5.at hin5 rfl) (g := (mkF m 20 #[.val (.ref a), .val (.ref b), .val (.int (0 : Int32))] [(.int (0 : Int32)), (.ref b), (.int c0)])) rfl rfl (hb hby d3_20) _ k) ?_
  by_cases hc21_6 : c0 = f0
  · refine Goes.on (B := s₁.setTop (mkF m 26 #[.val (.ref a), .val (.ref b), .val (.int (0 : Int32))] [])) (fun _ k => XS.icmpYes X0.here hx rfl (pc0 := 21) (pc' := 26) rfl (hb hby d3_21) rfl (teq hc21_6).1 (by decide) (by decide) k) ?_
    refine Goes.on (B := s₁.setTop (mkF m 29 #[.val (.ref a), .val (.ref b), .val (.int (1 : Int32))] [])) (fun _ k => XS.iinc X0.here hx rfl (hb hby d3_26) rfl (l' := #[.val (.ref a), .val (.ref b), .val (.int (1 : Int32))]) rfl k) ?_
    refine Goes.on (B := s₁.setTop (mkF m 9 #[.val (.ref a), .val (.ref b), .val (.int (1 : Int32))] [])) (fun _ k => XS.goto X0.here hx rfl (pc0 := 29) (pc' := 9) rfl (hb hby d3_29) (by decide) (by decide) k) ?_
    refine Goes.on (B := s₁.setTop (mkF m 10 #[.val (.ref a), .val (.ref b), .val (.int (1 : Int32))] [(.int (1 : Int32))])) (fun _ k => XS.iloadN X0.here hx rfl (hb hby d3_9) rfl  k) ?_
    refine Goes.on (B := s₁.setTop (mkF m 11 #[.val (.ref a), .val (.ref b), .val (.int (1 : Int32))] [(.ref a), (.int (1 : Int32))])) (fun _ k => XS.aloadN X0.here hx rfl (hb hby d3_10) rfl rfl  k) ?_
    obtain ⟨cl7, Ar7, -, S7, Nn7, -, -⟩ := id VA
    refine Goes.on (B := s₁.setTop (mkF m 12 #[.val (.ref a), .val (.ref b), .val (.int (1 : Int32))] [(.int (2 : Int32)), (.int (1 : Int32))])) (fun t k => X0.arraylength hx (by rw [e0]; exact Ar7.1) (State.isArrayOf_alike hZ.alike Ar7.2.1) (g := (mkF m 11 #[.val (.ref a), .val (.ref b), .val (.int (1 : Int32))] [(.ref a), (.int (1 : Int32))])) rfl rfl (hb hby d3_11) t (by rw [len_of S7 Nn7]; exact k)) ?_
    refine Goes.on (B := s₁.setTop (mkF m 15 #[.val (.ref a), .val (.ref b), .val (.int (1 : Int32))] [])) (fun _ k => XS.icmpNo X0.here hx rfl (hb hby d3_12) rfl (tlt (by decide)).2.1 k) ?_
    refine Goes.on (B := s₁.setTop (mkF m 16 #[.val (.ref a), .val (.ref b), .val (.int (1 : Int32))] [(.ref a)])) (fun _ k => XS.aloadN X0.here hx rfl (hb hby d3_15) rfl rfl  k) ?_
    refine Goes.on (B := s₁.setTop (mkF m 17 #[.val (.ref a), .val (.ref b), .val (.int (1 : Int32))] [(.int (1 : Int32)), (.ref a)])) (fun _ k => XS.iloadN X0.here hx rfl (hb hby d3_16) rfl  k) ?_
    obtain ⟨cl8, Ar8, q8, S8, Nn8, H8, G8⟩ := id VA
    have hin8 : ¬ ((1 : Int32) < 0 ∨ cl8.slots.size ≤ ((1 : Int32)).toNatClampNeg) := inb_of S8 ⟨by decide, by decide⟩
    refine Goes.on (B := s₁.setTop (mkF m 18 #[.val (.ref a), .val (.ref b), .val (.int (1 : Int32))] [(.int c1)])) (fun _ k => X0.baloadBytes hx (j := (1 : Int32)) (v := (.int c1)) (by rw [e0]; exact Ar8.1) (State.isArrayOf_alike hZ.alike Ar8.2.1) Ar8.2.2 hin8 (H8.at hin8 rfl) (g := (mkF m 17 #[.val (.ref a), .val (.ref b), .val (.int (1 : Int32))] [(.int (1 : Int32)), (.ref a)])) rfl rfl (hb hby d3_17) _ k) ?_
    refine Goes.on (B := s₁.setTop (mkF m 19 #[.val (.ref a), .val (.ref b), .val (.int (1 : Int32))] [(.ref b), (.int c1)])) (fun _ k => XS.aloadN X0.here hx rfl (hb hby d3_18) rfl rfl  k) ?_
    refine Goes.on (B := s₁.setTop (mkF m 20 #[.val (.ref a), .val (.ref b), .val (.int (1 : Int32))] [(.int (1 : Int32)), (.ref b), (.int c1)])) (fun _ k => XS.iloadN X0.here hx rfl (hb hby d3_19) rfl  k) ?_
    obtain ⟨cl9, Ar9, q9, S9, Nn9, H9, G9⟩ := id VB
    have hin9 : ¬ ((1 : Int32) < 0 ∨ cl9.slots.size ≤ ((1 : Int32)).toNatClampNeg) := inb_of S9 ⟨by decide, by decide⟩
    refine Goes.on (B := s₁.setTop (mkF m 21 #[.val (.ref a), .val (.ref b), .val (.int (1 : Int32))] [(.int f1), (.int c1)])) (fun _ k => X0.baloadBytes hx (j := (1 : Int32)) (v := (.int f1)) (by rw [e0]; exact Ar9.1) (State.isArrayOf_alike hZ.alike Ar9.2.1) Ar9.2.2 hin9 (H9.at hin9 rfl) (g := (mkF m 20 #[.val (.ref a), .val (.ref b), .val (.int (1 : Int32))] [(.int (1 : Int32)), (.ref b), (.int c1)])) rfl rfl (hb hby d3_20) _ k) ?_
    by_cases hc21_10 : c1 = f1
    · refine Goes.on (B := s₁.setTop (mkF m 26 #[.val (.ref a), .val (.ref b), .val (.int (1 : Int32))] [])) (fun _ k => XS.icmpYes X0.here hx rfl (pc0 := 21) (pc' := 26) rfl (hb hby d3_21) rfl (teq hc21_10).1 (by decide) (by decide) k) ?_
      refine Goes.on (B := s₁.setTop (mkF m 29 #[.val (.ref a), .val (.ref b), .val (.int (2 : Int32))] [])) (fun _ k => XS.iinc X0.here hx rfl (hb hby d3_26) rfl (l' := #[.val (.ref a), .val (.ref b), .val (.int (2 : Int32))]) rfl k) ?_
      refine Goes.on (B := s₁.setTop (mkF m 9 #[.val (.ref a), .val (.ref b), .val (.int (2 : Int32))] [])) (fun _ k => XS.goto X0.here hx rfl (pc0 := 29) (pc' := 9) rfl (hb hby d3_29) (by decide) (by decide) k) ?_
      refine Goes.on (B := s₁.setTop (mkF m 10 #[.val (.ref a), .val (.ref b), .val (.int (2 : Int32))] [(.int (2 : Int32))])) (fun _ k => XS.iloadN X0.here hx rfl (hb hby d3_9) rfl  k) ?_
      refine Goes.on (B := s₁.setTop (mkF m 11 #[.val (.ref a), .val (.ref b), .val (.int (2 : Int32))] [(.ref a), (.int (2 : Int32))])) (fun _ k => XS.aloadN X0.here hx rfl (hb hby d3_10) rfl rfl  k) ?_
      obtain ⟨cl11, Ar11, -, S11, Nn11, -, -⟩ := id VA
      refine Goes.on (B := s₁.setTop (mkF m 12 #[.val (.ref a), .val (.ref b), .val (.int (2 : Int32))] [(.int (2 : Int32)), (.int (2 : Int32))])) (fun t k => X0.arraylength hx (by rw [e0]; exact Ar11.1) (State.isArrayOf_alike hZ.alike Ar11.2.1) (g := (mkF m 11 #[.val (.ref a), .val (.ref b), .val (.int (2 : Int32))] [(.ref a), (.int (2 : Int32))])) rfl rfl (hb hby d3_11) t (by rw [len_of S11 Nn11]; exact k)) ?_
      refine Goes.on (B := s₁.setTop (mkF m 32 #[.val (.ref a), .val (.ref b), .val (.int (2 : Int32))] [])) (fun _ k => XS.icmpYes X0.here hx rfl (pc0 := 12) (pc' := 32) rfl (hb hby d3_12) rfl (flt (by decide)).2.1 (by decide) (by decide) k) ?_
      refine Goes.on (B := s₁.setTop (mkF m 33 #[.val (.ref a), .val (.ref b), .val (.int (2 : Int32))] [(.int (1 : Int32))])) (fun _ k => XS.iconst X0.here hx rfl (hb hby d3_32) k) ?_
      obtain ⟨fs, hr, hrun, hended, hW, hsame⟩ := X0.leave (v := some (.int (1 : Int32))) (fun h => by rw [Bd.returns] at h; cases h)
      exact Goes.leaf (retN X0 hx (t := .boolean) Bd.returns (by simp) (hb hby d3_33) hr) hrun hended ⟨_, _, rfl, by show Qle Z a b ka kb c0 c1 f0 f1 h0 n0 _ s₁.heap _; rw [e0]; exact ⟨by rw [own_le, if_pos hc21_6, if_pos hc21_10], N0, rfl⟩, ⟨_, rfl⟩, hW, hsame.mono (by decide) (by decide)⟩
    · refine Goes.on (B := s₁.setTop (mkF m 24 #[.val (.ref a), .val (.ref b), .val (.int (1 : Int32))] [])) (fun _ k => XS.icmpNo X0.here hx rfl (hb hby d3_21) rfl (feq hc21_10).1 k) ?_
      refine Goes.on (B := s₁.setTop (mkF m 25 #[.val (.ref a), .val (.ref b), .val (.int (1 : Int32))] [(.int (0 : Int32))])) (fun _ k => XS.iconst X0.here hx rfl (hb hby d3_24) k) ?_
      obtain ⟨fs, hr, hrun, hended, hW, hsame⟩ := X0.leave (v := some (.int (0 : Int32))) (fun h => by rw [Bd.returns] at h; cases h)
      exact Goes.leaf (retN X0 hx (t := .boolean) Bd.returns (by simp) (hb hby d3_25) hr) hrun hended ⟨_, _, rfl, by show Qle Z a b ka kb c0 c1 f0 f1 h0 n0 _ s₁.heap _; rw [e0]; exact ⟨by rw [own_le, if_pos hc21_6, if_neg hc21_10], N0, rfl⟩, ⟨_, rfl⟩, hW, hsame.mono (by decide) (by decide)⟩
  · refine Goes.on (B := s₁.setTop (mkF m 24 #[.val (.ref a), .val (.ref b), .val (.int (0 : Int32))] [])) (fun _ k => XS.icmpNo X0.here hx rfl (hb hby d3_21) rfl (feq hc21_6).1 k) ?_
    refine Goes.on (B := s₁.setTop (mkF m 25 #[.val (.ref a), .val (.ref b), .val (.int (0 : Int32))] [(.int (0 : Int32))])) (fun _ k => XS.iconst X0.here hx rfl (hb hby d3_24) k) ?_
    obtain ⟨fs, hr, hrun, hended, hW, hsame⟩ := X0.leave (v := some (.int (0 : Int32))) (fun h => by rw [Bd.returns] at h; cases h)
    exact Goes.leaf (retN X0 hx (t := .boolean) Bd.returns (by simp) (hb hby d3_25) hr) hrun hended ⟨_, _, rfl, by show Qle Z a b ka kb c0 c1 f0 f1 h0 n0 _ s₁.heap _; rw [e0]; exact ⟨by rw [own_le, if_neg hc21_6], N0, rfl⟩, ⟨_, rfl⟩, hW, hsame.mono (by decide) (by decide)⟩
def own_se (a o : Addr) (c0 c1 f0 f1 : Int32) : Int32 := if a = o then 1 else (if (own_le c0 c1 f0 f1) = (0 : Int32) then 0 else 1)
theorem d2_0 : decode jdk_42_method_66_code 0 = .ok (.aload_n 0, 1) := by decide +kernel
theorem d2_1 : decode jdk_42_method_66_code 1 = .ok (.aload_n 1, 1) := by decide +kernel
theorem d2_2 : decode jdk_42_method_66_code 2 = .ok (.if_acmp .ne 5, 3) := by decide +kernel
theorem d2_5 : decode jdk_42_method_66_code 5 = .ok (.iconst 1, 1) := by decide +kernel
theorem d2_6 : decode jdk_42_method_66_code 6 = .ok (.ireturn, 1) := by decide +kernel
theorem d2_7 : decode jdk_42_method_66_code 7 = .ok (.aload_n 1, 1) := by decide +kernel
theorem d2_8 : decode jdk_42_method_66_code 8 = .ok (.instanceof 10, 3) := by decide +kernel
theorem d2_11 : decode jdk_42_method_66_code 11 = .ok (.ifCond .eq 43, 3) := by decide +kernel
theorem d2_14 : decode jdk_42_method_66_code 14 = .ok (.aload_n 1, 1) := by decide +kernel
theorem d2_15 : decode jdk_42_method_66_code 15 = .ok (.checkcast 10, 3) := by decide +kernel
theorem d2_18 : decode jdk_42_method_66_code 18 = .ok (.astore_n 2, 1) := by decide +kernel
theorem d2_19 : decode jdk_42_method_66_code 19 = .ok (.getstatic 38, 3) := by decide +kernel
theorem d2_22 : decode jdk_42_method_66_code 22 = .ok (.ifCond .eq 14, 3) := by decide +kernel
theorem d2_25 : decode jdk_42_method_66_code 25 = .ok (.aload_n 0, 1) := by decide +kernel
theorem d2_26 : decode jdk_42_method_66_code 26 = .ok (.getfield 15, 3) := by decide +kernel
theorem d2_29 : decode jdk_42_method_66_code 29 = .ok (.aload_n 2, 1) := by decide +kernel
theorem d2_30 : decode jdk_42_method_66_code 30 = .ok (.getfield 15, 3) := by decide +kernel
theorem d2_33 : decode jdk_42_method_66_code 33 = .ok (.if_icmp .ne 21, 3) := by decide +kernel
theorem d2_36 : decode jdk_42_method_66_code 36 = .ok (.aload_n 0, 1) := by decide +kernel
theorem d2_37 : decode jdk_42_method_66_code 37 = .ok (.getfield 9, 3) := by decide +kernel
theorem d2_40 : decode jdk_42_method_66_code 40 = .ok (.aload_n 2, 1) := by decide +kernel
theorem d2_41 : decode jdk_42_method_66_code 41 = .ok (.getfield 9, 3) := by decide +kernel
theorem d2_44 : decode jdk_42_method_66_code 44 = .ok (.invokestatic 541, 3) := by decide +kernel
theorem d2_47 : decode jdk_42_method_66_code 47 = .ok (.ifCond .eq 7, 3) := by decide +kernel
theorem d2_50 : decode jdk_42_method_66_code 50 = .ok (.iconst 1, 1) := by decide +kernel
theorem d2_51 : decode jdk_42_method_66_code 51 = .ok (.goto 4, 3) := by decide +kernel
theorem d2_54 : decode jdk_42_method_66_code 54 = .ok (.iconst 0, 1) := by decide +kernel
theorem d2_55 : decode jdk_42_method_66_code 55 = .ok (.ireturn, 1) := by decide +kernel
theorem pn_2 : plainName "java/lang/String" = true := by first | (simp [plainName, overriddenIn]; done) | decide +kernel
theorem pd_2___B_B_Z : parseMethodDescriptor "([B[B)Z" = some ⟨[(.array .byte), (.array .byte)], some .boolean⟩ := by decide +kernel
theorem ef_se (m : MethodId) (x0 : Addr) (x1 : Addr) : entryFrame m #[(.ref x0), (.ref x1)] 3 = mkF m 0 #[.val (.ref x0), .val (.ref x1), .unset] [] := by first | (simp [entryFrame, mkF, argsToLocals, Value.category]; done) | rfl
def Qse (Z : State) (a : Addr) (o : Addr) (va vo : Addr) (ka kb : ClassId) (c0 c1 f0 f1 : Int32) (G1 : Int32) (h0 : Heap) (n0 : Nat) (v : Option Value) (h : Heap) (L : List Loc) : Prop := v = some (.int (own_se a o c0 c1 f0 f1)) ∧ Fr n0 L ∧ h = h0
set_option maxRecDepth 65536 in
set_option maxHeartbeats 40000000 in
theorem rmse (l : Launch) (Z : State) (a0 : Array Value) (hw : ∀ d ∈ tables_1, d.before a0 Z = true) (ws : List Jvm.Cond) (a : Addr) (o : Addr) (va vo : Addr) (ka kb : ClassId) (c0 c1 f0 f1 : Int32) (G1 : Int32) (h0 : Heap) (n0 : Nat) (Z0 : n0 ≤ h0.size) (Ea : Exa Z h0 a "java/lang/String") (Ca : Fld Z h0 a "java/lang/String" "coder" "B" (.int (0 : Int32))) (Va : Fld Z h0 a "java/lang/String" "value" "[B" (.ref va)) (Eo : Exa Z h0 o "java/lang/String") (Co : Fld Z h0 o "java/lang/String" "coder" "B" (.int (0 : Int32))) (Vo : Fld Z h0 o "java/lang/String" "value" "[B" (.ref vo)) (VA : Arv Z h0 va ka .byte (2 : Int32) [(.int c0), (.int c1)] (.int (0 : Int32))) (VB : Arv Z h0 vo kb .byte (2 : Int32) [(.int f0), (.int f1)] (.int (0 : Int32))) (OS : Sta Z h0 "java/lang/String" "COMPACT_STRINGS" "Z" (.int G1)) (P5 : ¬ (G1 = (0 : Int32))) :
    MetFree l (⟨"java/lang/String", "equals", "(Ljava/lang/Object;)Z"⟩ : MethodName) (head1 (Jvm.Cond.code (⟨"java/lang/String", "equals", "(Ljava/lang/Object;)Z"⟩ : MethodName) jdk_42_method_66_code 3 (some .boolean) :: ws) ({ frames := 1, cells := 0, slots := 0, locals := 14 } : Room)) (fun aa U => aa = #[(.ref a), (.ref o)] ∧ Z.Warmed39 U.vm ∧ U.heap = h0) (fun _ _ _ _ _ => True) (fun _ U oo U' => ∃ vv LL, oo = .returned vv ∧ Qse Z a o va vo ka kb c0 c1 f0 f1 G1 h0 n0 vv U'.heap LL ∧ FrameEnd U oo U' LL ({ frames := 1, cells := 0, slots := 0, locals := 14 } : Room).cells ({ frames := 1, cells := 0, slots := 0, locals := 14 } : Room).slots) := by
  refine MetFree.of_bodySF (plainFor_of_name pn_2) hisR ?_
  intro p e s m args below meth c s₁ Bd hml0 hP hK
  obtain ⟨rfl, hZ, hh⟩ := hP
  have hx := Bd.exec
  have hby := Bd.bytes
  have hml : c.maxLocals = 3 := hml0
  have hown : s.vm.findClass "java/lang/String" = some m.cls := findClass_of_methodNamed Bd.named
  have hnm := (name_of_methodNamed Bd.named Bd.method).1
  have X0 : Stand p l e ({ frames := 1, cells := 0, slots := 0, locals := 14 } : Room) s m #[(.ref a), (.ref o)] below meth c s₁ [] 0 0 := Stand.of_body Bd
  have e0 : s₁.heap = h0 := by rw [← hh, Bd.state]; rfl
  have N0 := Fr.nil n0
  show Goes p e below _ (s₁.setTop (entryFrame m #[(.ref a), (.ref o)] 3))
  refine Goes.on (B := s₁.setTop (mkF m 0 #[.val (.ref a), .val (.ref o), .unset] [])) (fun t k => castTop (ef_se m a o) k) ?_
  refine Goes.on (B := s₁.setTop (mkF m 1 #[.val (.ref a), .val (.ref o), .unset] [(.ref a)])) (fun _ k => XS.aloadN X0.here hx rfl (hb hby d2_0) rfl rfl  k) ?_
  refine Goes.on (B := s₁.setTop (mkF m 2 #[.val (.ref a), .val (.ref o), .unset] [(.ref o), (.ref a)])) (fun _ k => XS.aloadN X0.here hx rfl (hb hby d2_1) rfl rfl  k) ?_
  by_cases hq : a = o
  · refine Goes.on (B := s₁.setTop (mkF m 5 #[.val (.ref a), .val (.ref o), .unset] [])) (fun _ k => Jvm.RoadKit.acmp (g := (mkF m 2 #[.val (.ref a), .val (.ref o), .unset] [(.ref o), (.ref a)])) X0 hx rfl rfl rfl (pc0 := 2) (pc' := 5) (same := true) rfl (hb hby d2_2) rfl (decide_eq_true (congrArg Value.ref hq)) (by decide) (by decide) k) ?_
    refine Goes.on (B := s₁.setTop (mkF m 6 #[.val (.ref a), .val (.ref o), .unset] [(.int (1 : Int32))])) (fun _ k => XS.iconst X0.here hx rfl (hb hby d2_5) k) ?_
    obtain ⟨fs, hr, hrun, hended, hW, hsame⟩ := X0.leave (v := some (.int (1 : Int32))) (fun h => by rw [Bd.returns] at h; cases h)
    exact Goes.leaf (retN X0 hx (t := .boolean) Bd.returns (by simp) (hb hby d2_6) hr) hrun hended ⟨_, _, rfl, by show Qse Z a o va vo ka kb c0 c1 f0 f1 G1 h0 n0 _ s₁.heap _; rw [e0]; exact ⟨by rw [own_se, if_pos hq], N0, rfl⟩, ⟨_, rfl⟩, hW, hsame.mono (by decide) (by decide)⟩
  · refine Goes.on (B := s₁.setTop (mkF m 7 #[.val (.ref a), .val (.ref o), .unset] [])) (fun _ k => Jvm.RoadKit.acmp (g := (mkF m 2 #[.val (.ref a), .val (.ref o), .unset] [(.ref o), (.ref a)])) X0 hx rfl rfl rfl (pc0 := 2) (pc' := 7) (same := false) rfl (hb hby d2_2) rfl (decide_eq_false fun q => hq (Value.ref.inj q)) (by decide) (by decide) k) ?_
    refine Goes.on (B := s₁.setTop (mkF m 8 #[.val (.ref a), .val (.ref o), .unset] [(.ref o)])) (fun _ k => XS.aloadN X0.here hx rfl (hb hby d2_7) rfl rfl  k) ?_
    obtain ⟨T1, X1, e1, st1⟩ := instY X0 hx hZ hown (hw _ (List.mem_of_getElem? (i := 23) rfl)) e0 (Ins.self Eo) (g := (mkF m 8 #[.val (.ref a), .val (.ref o), .unset] [(.ref o)])) rfl rfl (hb hby d2_8)
    refine Goes.on (B := T1.setTop (mkF m 11 #[.val (.ref a), .val (.ref o), .unset] [(.int (1 : Int32))])) (fun t k => st1 t k) ?_
    refine Goes.on (B := T1.setTop (mkF m 14 #[.val (.ref a), .val (.ref o), .unset] [])) (fun _ k => XS.ifNo X1.here hx rfl (hb hby d2_11) rfl ((if0 _ _).trans (feq (by decide)).1) k) ?_
    refine Goes.on (B := T1.setTop (mkF m 15 #[.val (.ref a), .val (.ref o), .unset] [(.ref o)])) (fun _ k => XS.aloadN X1.here hx rfl (hb hby d2_14) rfl rfl  k) ?_
    obtain ⟨T2, X2, e2, st2⟩ := castY X1 hx hZ hown (hw _ (List.mem_of_getElem? (i := 23) rfl)) e1 (Ins.self Eo) (g := (mkF m 15 #[.val (.ref a), .val (.ref o), .unset] [(.ref o)])) rfl rfl (hb hby d2_15)
    refine Goes.on (B := T2.setTop (mkF m 18 #[.val (.ref a), .val (.ref o), .unset] [(.ref o)])) (fun t k => st2 t k) ?_
    refine Goes.on (B := T2.setTop (mkF m 19 #[.val (.ref a), .val (.ref o), .val (.ref o)] [])) (fun _ k => XS.astoreN X2.here hx rfl (hb hby d2_18) rfl rfl (l' := #[.val (.ref a), .val (.ref o), .val (.ref o)]) rfl k) ?_
    obtain ⟨T3, X3, e3, st3⟩ := getS2 X2 hx hZ hown (host := "") (Or.inl (hw _ (List.mem_of_getElem? (i := 25) rfl))) Via.refl e2 OS (g := (mkF m 19 #[.val (.ref a), .val (.ref o), .val (.ref o)] [])) rfl (hb hby d2_19)
    refine Goes.on (B := T3.setTop (mkF m 22 #[.val (.ref a), .val (.ref o), .val (.ref o)] [(.int G1)])) (fun t k => st3 t k) ?_
    refine Goes.on (B := T3.setTop (mkF m 25 #[.val (.ref a), .val (.ref o), .val (.ref o)] [])) (fun _ k => XS.ifNo X3.here hx rfl (hb hby d2_22) rfl ((if0 _ _).trans (feq P5).1) k) ?_
    refine Goes.on (B := T3.setTop (mkF m 26 #[.val (.ref a), .val (.ref o), .val (.ref o)] [(.ref a)])) (fun _ k => XS.aloadN X3.here hx rfl (hb hby d2_25) rfl rfl  k) ?_
    obtain ⟨T4, X4, e4, st4⟩ := getF X3 hx hZ hown (host := "") (Or.inl (hw _ (List.mem_of_getElem? (i := 26) rfl))) Via.refl e3 Ca (g := (mkF m 26 #[.val (.ref a), .val (.ref o), .val (.ref o)] [(.ref a)])) rfl rfl (hb hby d2_26)
    refine Goes.on (B := T4.setTop (mkF m 29 #[.val (.ref a), .val (.ref o), .val (.ref o)] [(.int (0 : Int32))])) (fun t k => st4 t k) ?_
    refine Goes.on (B := T4.setTop (mkF m 30 #[.val (.ref a), .val (.ref o), .val (.ref o)] [(.ref o), (.int (0 : Int32))])) (fun _ k => XS.aloadN X4.here hx rfl (hb hby d2_29) rfl rfl  k) ?_
    obtain ⟨T5, X5, e5, st5⟩ := getF X4 hx hZ hown (host := "") (Or.inl (hw _ (List.mem_of_getElem? (i := 26) rfl))) Via.refl e4 Co (g := (mkF m 30 #[.val (.ref a), .val (.ref o), .val (.ref o)] [(.ref o), (.int (0 : Int32))])) rfl rfl (hb hby d2_30)
    refine Goes.on (B := T5.setTop (mkF m 33 #[.val (.ref a), .val (.ref o), .val (.ref o)] [(.int (0 : Int32)), (.int (0 : Int32))])) (fun t k => st5 t k) ?_
    refine Goes.on (B := T5.setTop (mkF m 36 #[.val (.ref a), .val (.ref o), .val (.ref o)] [])) (fun _ k => XS.icmpNo X5.here hx rfl (hb hby d2_33) rfl (teq (by decide)).2 k) ?_
    refine Goes.on (B := T5.setTop (mkF m 37 #[.val (.ref a), .val (.ref o), .val (.ref o)] [(.ref a)])) (fun _ k => XS.aloadN X5.here hx rfl (hb hby d2_36) rfl rfl  k) ?_
    obtain ⟨T6, X6, e6, st6⟩ := getF X5 hx hZ hown (host := "") (Or.inl (hw _ (List.mem_of_getElem? (i := 27) rfl))) Via.refl e5 Va (g := (mkF m 37 #[.val (.ref a), .val (.ref o), .val (.ref o)] [(.ref a)])) rfl rfl (hb hby d2_37)
    refine Goes.on (B := T6.setTop (mkF m 40 #[.val (.ref a), .val (.ref o), .val (.ref o)] [(.ref va)])) (fun t k => st6 t k) ?_
    refine Goes.on (B := T6.setTop (mkF m 41 #[.val (.ref a), .val (.ref o), .val (.ref o)] [(.ref o), (.ref va)])) (fun _ k => XS.aloadN X6.here hx rfl (hb hby d2_40) rfl rfl  k) ?_
    obtain ⟨T7, X7, e7, st7⟩ := getF X6 hx hZ hown (host := "") (Or.inl (hw _ (List.mem_of_getElem? (i := 27) rfl))) Via.refl e6 Vo (g := (mkF m 41 #[.val (.ref a), .val (.ref o), .val (.ref o)] [(.ref o), (.ref va)])) rfl rfl (hb hby d2_41)
    refine Goes.on (B := T7.setTop (mkF m 44 #[.val (.ref a), .val (.ref o), .val (.ref o)] [(.ref vo), (.ref va)])) (fun t k => st7 t k) ?_
    obtain ⟨_, _, ⟨T8, L8, k8, n8⟩, -, X8, ⟨Lc8, hQ8, l8, y8, z8⟩, st8⟩ := Jvm.LawKit.callS X7 hx (y := (⟨"java/lang/StringLatin1", "equals", "([B[B)Z"⟩ : MethodName)) hown (mvT hZ (hw _ (List.mem_of_getElem? (i := 28) rfl))) (mvT hZ (hw _ (List.mem_of_getElem? (i := 29) rfl))) (mvT hZ (hw _ (List.mem_of_getElem? (i := 30) rfl))) (mvT hZ (hw _ (List.mem_of_getElem? (i := 31) rfl))) (by decide) (backOf (W := 0) (rmle l Z a0 hw [] va vo ka kb c0 c1 f0 f1 h0 n0 Z0 VA VB) hZ (hw _ (List.mem_of_getElem? (i := 31) rfl)) (hw _ (List.mem_of_getElem? (i := 30) rfl)) (by decide) (by decide)) (g := (mkF m 44 #[.val (.ref a), .val (.ref o), .val (.ref o)] [(.ref vo), (.ref va)])) rfl (by rw [hml]; rfl) (argsL := [(.ref va), (.ref vo)]) (rest := []) (lenOf pd_2___B_B_Z rfl) rfl (by show 2 * 0 + _ ≤ _; exact Nat.le_of_eq rfl) (hb hby d2_44) (fun _ _ => ⟨rfl, e7, (by decide : 0 + 0 ≤ _), (by decide : 0 + 0 ≤ _)⟩)
    dsimp only [Pt.U, Pt.locs, Pt.cells, Pt.slots] at X8 l8 y8 z8 st8 hQ8
    subst l8 y8 z8
    obtain ⟨rfl, Nq8, eh8⟩ := hQ8
    have N8 := Fr.app N0 Nq8
    refine Goes.on (B := T8.setTop (mkF m 47 #[.val (.ref a), .val (.ref o), .val (.ref o)] [(.int (own_le c0 c1 f0 f1))])) (fun t k => st8 t k) ?_
    by_cases hc47_9 : (own_le c0 c1 f0 f1) = (0 : Int32)
    · refine Goes.on (B := T8.setTop (mkF m 54 #[.val (.ref a), .val (.ref o), .val (.ref o)] [])) (fun _ k => XS.ifYes X8.here hx rfl (pc0 := 47) (pc' := 54) rfl (hb hby d2_47) rfl ((if0 _ _).trans (teq hc47_9).1) (by decide) (by decide) k) ?_
      refine Goes.on (B := T8.setTop (mkF m 55 #[.val (.ref a), .val (.ref o), .val (.ref o)] [(.int (0 : Int32))])) (fun _ k => XS.iconst X8.here hx rfl (hb hby d2_54) k) ?_
      obtain ⟨fs, hr, hrun, hended, hW, hsame⟩ := X8.leave (v := some (.int (0 : Int32))) (fun h => by rw [Bd.returns] at h; cases h)
      exact Goes.leaf (retN X8 hx (t := .boolean) Bd.returns (by simp) (hb hby d2_55) hr) hrun hended ⟨_, _, rfl, by show Qse Z a o va vo ka kb c0 c1 f0 f1 G1 h0 n0 _ T8.heap _; rw [eh8]; exact ⟨by rw [own_se, if_neg hq, if_pos hc47_9], N8, rfl⟩, ⟨_, rfl⟩, hW, hsame.mono (by decide) (by decide)⟩
    · refine Goes.on (B := T8.setTop (mkF m 50 #[.val (.ref a), .val (.ref o), .val (.ref o)] [])) (fun _ k => XS.ifNo X8.here hx rfl (hb hby d2_47) rfl ((if0 _ _).trans (feq hc47_9).1) k) ?_
      refine Goes.on (B := T8.setTop (mkF m 51 #[.val (.ref a), .val (.ref o), .val (.ref o)] [(.int (1 : Int32))])) (fun _ k => XS.iconst X8.here hx rfl (hb hby d2_50) k) ?_
      refine Goes.on (B := T8.setTop (mkF m 55 #[.val (.ref a), .val (.ref o), .val (.ref o)] [(.int (1 : Int32))])) (fun _ k => XS.goto X8.here hx rfl (pc0 := 51) (pc' := 55) rfl (hb hby d2_51) (by decide) (by decide) k) ?_
      obtain ⟨fs, hr, hrun, hended, hW, hsame⟩ := X8.leave (v := some (.int (1 : Int32))) (fun h => by rw [Bd.returns] at h; cases h)
      exact Goes.leaf (retN X8 hx (t := .boolean) Bd.returns (by simp) (hb hby d2_55) hr) hrun hended ⟨_, _, rfl, by show Qse Z a o va vo ka kb c0 c1 f0 f1 G1 h0 n0 _ T8.heap _; rw [eh8]; exact ⟨by rw [own_se, if_neg hq, if_neg hc47_9], N8, rfl⟩, ⟨_, rfl⟩, hW, hsame.mono (by decide) (by decide)⟩
theorem own_IB0 {s Z : State} (h : s = Z) : IB Z s.vm [] := by subst h; exact IB.start
theorem own_fr {a b : Nat} {L : List Loc} (h : a = b) (N : Fr a L) : Fr b L := h ▸ N
theorem own_rr (a : Addr) : own_r a a = 1 := by rw [own_r, if_pos rfl]
theorem own_r2 {a b : Addr} (h : a ≠ b) : own_r b a = 0 := by rw [own_r, if_neg (fun q => h q.symm)]
theorem own_r12 {a b : Addr} (h : a ≠ b) : ¬ own_r a a = own_r b a := by rw [own_rr, own_r2 h]; decide
theorem own_seU (a o : Addr) : own_se a o (117 : Int32) (101 : Int32) (117 : Int32) (101 : Int32) = 1 := by
  rw [own_se]; split
  · rfl
  · decide
theorem own_seS {a o : Addr} (h : a ≠ o) : own_se a o (115 : Int32) (111 : Int32) (117 : Int32) (101 : Int32) = 0 := by
  rw [own_se, if_neg h]; decide
theorem own_nev {Z : State} {h : Heap} {v y : Addr} {k k' : ClassId} (A : Arv Z h v k .byte (2 : Int32) [(.int (115 : Int32)), (.int (111 : Int32))] (.int (0 : Int32))) (B : Arv Z h y k' .byte (2 : Int32) [(.int (117 : Int32)), (.int (101 : Int32))] (.int (0 : Int32))) : (Value.ref v) ≠ (Value.ref y) := by
  intro q
  cases Value.ref.inj q
  obtain ⟨c, A1, -, S, -, H, -⟩ := A
  obtain ⟨c', B1, -, S', -, H', -⟩ := B
  cases A1.1.symm.trans B1.1
  have h1 := H 0 (by rw [S]; decide)
  have h2 := H' 0 (by rw [S]; decide)
  rw [h1] at h2
  exact absurd (Option.some.inj h2) (by decide)
theorem own_eI {args : Array Value} {s : State} {t : Term} {k : Int32} (h : (Jvm.Cond.eq t (Term.int k)).value args s none s [] = some true) : t.eval args s none [] s = some (.int k) := by
  obtain ⟨x, y, h1, h2, h3, h4⟩ := cmp_v (Or.inl h)
  have e : y = .int k := Option.some.inj (h2.symm.trans rfl)
  subst e
  obtain ⟨z, rfl⟩ : ∃ z, x = .int z := h4
  have q : z = k := gotT (Cond.eq_ints h1 h2) h
  rw [h1, q]
theorem own_lt {args : Array Value} {s : State} {t : Term} {v : Addr} {w : Value} {cl : Cell} (h : (Term.length t).eval args s none [] s = some w) (ht : t.eval args s none [] s = some (.ref v)) (ha : s.arrayAt? v = some cl) : cl.slots.size < 2 ^ 31 := by
  simp only [Term.eval, ht, Option.bind_eq_bind, Option.bind_some, ha] at h
  by_cases q : cl.slots.size < 2 ^ 31
  · exact q
  · simp [q] at h
theorem own_arv {args : Array Value} {s : State} {t : Term} {v : Addr} {c0 c1 : Int32} (hf : Fit s) (et : t.eval args s none [] s = some (.ref v)) (ha : (Jvm.Cond.arrayOf t .byte).value args s none s [] = some true) (hl : (Term.length t).eval args s none [] s = some (.int (2 : Int32)))
    (h0 : (Term.elem t (Term.int (0 : Int32))).eval args s none [] s = some (.int c0)) (h1 : (Term.elem t (Term.int (1 : Int32))).eval args s none [] s = some (.int c1)) : ∃ k, Arv s s.heap v k .byte (2 : Int32) [(.int c0), (.int c1)] (.int (0 : Int32)) := by
  obtain ⟨cl, A⟩ := Arr.start et ha
  obtain ⟨a', cell, q1, q2, q3⟩ := Term.length_spec hl
  cases et.symm.trans q1
  have hA := Arr.fin (Vm.Alike.refl _) A
  cases hA.symm.trans q2
  have e : cl.slots.size.toInt32 = (2 : Int32) := (Value.int.inj q3).symm
  have hb : cl.slots.size < 2 ^ 31 := own_lt hl et hA
  obtain ⟨-, g0⟩ := elem_in h0 et rfl A.1
  obtain ⟨-, g1⟩ := elem_in h1 et rfl A.1
  exact ⟨cl.cls, Arv.start hf A hb e (by decide) rfl ⟨g0, g1, trivial⟩⟩
theorem pn_0 : plainName "com/example/roadeq/roadeq/assign/ObjectiveRoutesOnLinkCostsPinLaw" = true := by first | (simp [plainName, overriddenIn]; done) | decide +kernel
theorem pd_0___Ljava_lang_String_ : parseMethodDescriptor "()Ljava/lang/String;" = some ⟨[], some (.object "java/lang/String")⟩ := by decide +kernel
theorem pd_0__Ljava_lang_Object__Z : parseMethodDescriptor "(Ljava/lang/Object;)Z" = some ⟨[(.object "java/lang/Object")], some .boolean⟩ := by decide +kernel
theorem pd_0___Z : parseMethodDescriptor "()Z" = some ⟨[], some .boolean⟩ := by decide +kernel
theorem ef_0 (m : MethodId) (x0 : Int32) : entryFrame m #[(.int x0)] maxLocals = mkF m 0 #[.val (.int x0), .unset, .unset, .unset, .unset] [] := by first | (simp [entryFrame, mkF, argsToLocals, Value.category, maxLocals]; done) | rfl
def Q0 (Z : State) (p0 : Int32) (b1 a1 v1 b2 a2 v2 : Addr) (kv1 kv2 : ClassId) (G1 : Int32) (h0 : Heap) (n0 : Nat) (v : Option Value) (h : Heap) (L : List Loc) : Prop := v = some (.int 1) ∧ Fr n0 L
set_option maxRecDepth 65536 in
set_option maxHeartbeats 40000000 in
theorem rm0 (l : Launch) (Z : State) (a0 : Array Value) (hw : ∀ d ∈ tables_1, d.before a0 Z = true) (ws : List Jvm.Cond) (p0 : Int32) (b1 a1 v1 b2 a2 v2 : Addr) (kv1 kv2 : ClassId) (G1 : Int32) (h0 : Heap) (n0 : Nat) (Z0 : n0 ≤ h0.size) (S1 : Sta Z h0 "com/example/roadeq/roadeq/assign/Objective" "UE" "Lcom/example/roadeq/roadeq/assign/Objective;" (.ref b1)) (E1 : Exa Z h0 b1 "com/example/roadeq/roadeq/assign/Objective$1") (L1 : Fld Z h0 b1 "com/example/roadeq/roadeq/assign/Objective" "label" "Ljava/lang/String;" (.ref a1)) (EA1 : Exa Z h0 a1 "java/lang/String") (C1 : Fld Z h0 a1 "java/lang/String" "coder" "B" (.int (0 : Int32))) (VV1 : Fld Z h0 a1 "java/lang/String" "value" "[B" (.ref v1)) (AV1 : Arv Z h0 v1 kv1 .byte (2 : Int32) [(.int (117 : Int32)), (.int (101 : Int32))] (.int (0 : Int32))) (S2 : Sta Z h0 "com/example/roadeq/roadeq/assign/Objective" "SO" "Lcom/example/roadeq/roadeq/assign/Objective;" (.ref b2)) (E2 : Exa Z h0 b2 "com/example/roadeq/roadeq/assign/Objective$2") (L2 : Fld Z h0 b2 "com/example/roadeq/roadeq/assign/Objective" "label" "Ljava/lang/String;" (.ref a2)) (EA2 : Exa Z h0 a2 "java/lang/String") (C2 : Fld Z h0 a2 "java/lang/String" "coder" "B" (.int (0 : Int32))) (VV2 : Fld Z h0 a2 "java/lang/String" "value" "[B" (.ref v2)) (AV2 : Arv Z h0 v2 kv2 .byte (2 : Int32) [(.int (115 : Int32)), (.int (111 : Int32))] (.int (0 : Int32))) (OS : Sta Z h0 "java/lang/String" "COMPACT_STRINGS" "Z" (.int G1)) (P5 : ¬ (G1 = (0 : Int32))) (hcw : Jvm.Lit.compactW.before a0 Z = true) (hheld : Jvm.Lit.constHeld Z "com/example/roadeq/roadeq/assign/ObjectiveRoutesOnLinkCostsPinLaw" 20) (hn0 : n0 = h0.size) :
    MetFree l x (head1 (Jvm.Cond.code x code maxLocals ret :: ws) room_1) (fun aa U => aa = #[(.int p0)] ∧ Z.Warmed39 U.vm ∧ U.heap = h0 ∧ U = Z) (fun _ _ _ _ _ => True) (fun _ U oo U' => ∃ vv LL, oo = .returned vv ∧ Q0 Z p0 b1 a1 v1 b2 a2 v2 kv1 kv2 G1 h0 n0 vv U'.heap LL ∧ ReturnedEndW U oo U' LL room_1.cells room_1.slots) := by
  refine MetFree.of_bodySF (plainFor_of_name pn_0) hisR ?_
  intro p e s m args below meth c s₁ Bd hml0 hP hK
  obtain ⟨rfl, hZ, hh, hUZ⟩ := hP
  have hx := Bd.exec
  have hby := Bd.bytes
  have hml : c.maxLocals = 5 := hml0
  have hown : s.vm.findClass "com/example/roadeq/roadeq/assign/ObjectiveRoutesOnLinkCostsPinLaw" = some m.cls := findClass_of_methodNamed Bd.named
  have hnm := (name_of_methodNamed Bd.named Bd.method).1
  have X0 : Stand p l e room_1 s m #[(.int p0)] below meth c s₁ [] 0 0 := Stand.of_body Bd
  have e0 : s₁.heap = h0 := by rw [← hh, Bd.state]; rfl
  have N0 := Fr.nil n0
  show Goes p e below _ (s₁.setTop (entryFrame m #[(.int p0)] maxLocals))
  refine Goes.on (B := s₁.setTop (mkF m 0 #[.val (.int p0), .unset, .unset, .unset, .unset] [])) (fun t k => castTop (ef_0 m p0) k) ?_
  refine Goes.on (B := s₁.setTop (mkF m 1 #[.val (.int p0), .unset, .unset, .unset, .unset] [(.int p0)])) (fun _ k => XS.iloadN X0.here hx rfl (hb hby at_0) rfl  k) ?_
  refine Goes.on (B := s₁.setTop (mkF m 2 #[.val (.int p0), .unset, .unset, .unset, .unset] [(.int (1 : Int32)), (.int p0)])) (fun _ k => XS.iconst X0.here hx rfl (hb hby at_1) k) ?_
  refine Goes.on (B := s₁.setTop (mkF m 3 #[.val (.int p0), .unset, .unset, .unset, .unset] [(.int (p0 &&& (1 : Int32)))])) (fun _ k => XS.iand X0.here hx rfl (hb hby at_2) rfl k) ?_
  by_cases hc3_1 : (p0 &&& (1 : Int32)) = (0 : Int32)
  · refine Goes.on (B := s₁.setTop (mkF m 6 #[.val (.int p0), .unset, .unset, .unset, .unset] [])) (fun _ k => XS.ifNo X0.here hx rfl (hb hby at_3) rfl ((if0 _ _).trans (teq hc3_1).2) k) ?_
    obtain ⟨T2, X2, e2, st2⟩ := getS2 X0 hx hZ hown (host := "") (Or.inl (hw _ (List.mem_of_getElem? (i := 0) rfl))) Via.refl e0 S1 (g := (mkF m 6 #[.val (.int p0), .unset, .unset, .unset, .unset] [])) rfl (hb hby at_6)
    refine Goes.on (B := T2.setTop (mkF m 9 #[.val (.int p0), .unset, .unset, .unset, .unset] [(.ref b1)])) (fun t k => st2 t k) ?_
    refine Goes.on (B := T2.setTop (mkF m 15 #[.val (.int p0), .unset, .unset, .unset, .unset] [(.ref b1)])) (fun _ k => XS.goto X2.here hx rfl (pc0 := 9) (pc' := 15) rfl (hb hby at_9) (by decide) (by decide) k) ?_
    refine Goes.on (B := T2.setTop (mkF m 16 #[.val (.int p0), .val (.ref b1), .unset, .unset, .unset] [])) (fun _ k => XS.astoreN X2.here hx rfl (hb hby at_15) rfl rfl (l' := #[.val (.int p0), .val (.ref b1), .unset, .unset, .unset]) rfl k) ?_
    refine Goes.on (B := T2.setTop (mkF m 17 #[.val (.int p0), .val (.ref b1), .unset, .unset, .unset] [(.ref b1)])) (fun _ k => XS.aloadN X2.here hx rfl (hb hby at_16) rfl rfl  k) ?_
    obtain ⟨cq3, kq3, q3a, q3b, q3c⟩ := isOf hZ e2 E1
    obtain ⟨_, _, ⟨T3, L3, k3, n3⟩, -, X3, ⟨Lc3, hQ3, l3, y3, z3⟩, st3⟩ := X2.virtualBack hx (y := (⟨"com/example/roadeq/roadeq/assign/Objective", "label", "()Ljava/lang/String;"⟩ : MethodName)) (z := (⟨"com/example/roadeq/roadeq/assign/Objective", "label", "()Ljava/lang/String;"⟩ : MethodName)) hown (mvT hZ (hw _ (List.mem_of_getElem? (i := 3) rfl))) (mvT hZ (hw _ (List.mem_of_getElem? (i := 4) rfl))) (notFace_of_selects (args := #[]) (mvT hZ (hw _ (List.mem_of_getElem? (i := 6) rfl)))) (mvT hZ (hw _ (List.mem_of_getElem? (i := 6) rfl))) (mvT hZ (hw _ (List.mem_of_getElem? (i := 5) rfl))) (by decide) (backOf (W := 0) (rml l Z a0 hw [] b1 a1 h0 n0 Z0 L1) hZ (hw _ (List.mem_of_getElem? (i := 7) rfl)) (hw _ (List.mem_of_getElem? (i := 1) rfl)) (by decide) (by decide)) q3a q3c (g := (mkF m 17 #[.val (.int p0), .val (.ref b1), .unset, .unset, .unset] [(.ref b1)])) rfl (by rw [hml]; rfl) (Steps.refl _) (argsL := []) (rest := []) (lenOf pd_0___Ljava_lang_String_ rfl) rfl (by show 2 * 0 + _ ≤ _; exact Nat.le_of_eq rfl) (hb hby at_17) (fun _ _ => ⟨rfl, e2, (by decide : 0 + 0 ≤ _), (by decide : 0 + 0 ≤ _)⟩)
    dsimp only [Pt.U, Pt.locs, Pt.cells, Pt.slots] at X3 l3 y3 z3 st3 hQ3
    subst l3 y3 z3
    obtain ⟨rfl, Nq3, eh3⟩ := hQ3
    have N3 := Fr.app N0 Nq3
    refine Goes.on (B := T3.setTop (mkF m 20 #[.val (.int p0), .val (.ref b1), .unset, .unset, .unset] [(.ref a1)])) (fun t k => st3.trans k) ?_
    have hwS : ∀ d ∈ Bundle.stringAtoms, d.before a0 Z = true := fun d hd => hw d ((by decide +kernel : ∀ d ∈ Bundle.stringAtoms, d ∈ tables_1) d hd)
    have NF := own_fr (hn0.trans (congrArg Array.size hh.symm)) N3
    obtain ⟨x4, T4, h4, k14, y4, ky4, X4, e4, E4, hS4, hk4, hZ, hown, EX4, CX4, VX4, AX4, -, -, -, st4⟩ := ldcSV (s := s) (vm0 := s.vm) X3 hx hZ hown (hw _ (List.mem_of_getElem? (i := 10) rfl)) hwS eh3 (State.WarmedH.since (State.WarmedH.refl s) 0) (Nat.zero_le _) NF (fun _ _ q => hUZ ▸ q) (own_IB0 hUZ) List.not_mem_nil hheld hcw (vs := [(.int (117 : Int32)), (.int (101 : Int32))]) (z := (2 : Int32)) ⟨by decide, by decide⟩ (by decide) (by decide) (g := (mkF m 20 #[.val (.int p0), .val (.ref b1), .unset, .unset, .unset] [(.ref a1)])) rfl (hb hby at_20) (n := 8) (by decide) (by decide) (by decide) (by decide)
    have f5 := S1.ext E4
    have f6 := E1.ext E4
    have f7 := L1.ext E4
    have f8 := EA1.ext E4
    have f9 := C1.ext E4
    have f10 := VV1.ext E4
    have f11 := AV1.ext E4
    have f12 := S2.ext E4
    have f13 := E2.ext E4
    have f14 := L2.ext E4
    have f15 := EA2.ext E4
    have f16 := C2.ext E4
    have f17 := VV2.ext E4
    have f18 := AV2.ext E4
    have f19 := OS.ext E4
    have z20 : n0 ≤ h4.size := Nat.le_trans Z0 E4.1
    refine Goes.on (B := T4.setTop (mkF m 22 #[.val (.int p0), .val (.ref b1), .unset, .unset, .unset] [(.ref x4), (.ref a1)])) (fun t k => st4 t k) ?_
    obtain ⟨cq21, kq21, q21a, q21b, q21c⟩ := isOf hZ e4 f8
    obtain ⟨_, _, ⟨T21, L21, k21, n21⟩, -, X21, ⟨Lc21, hQ21, l21, y21, z21⟩, st21⟩ := X4.virtualBack hx (y := (⟨"java/lang/String", "equals", "(Ljava/lang/Object;)Z"⟩ : MethodName)) (z := (⟨"java/lang/String", "equals", "(Ljava/lang/Object;)Z"⟩ : MethodName)) hown (mvT hZ (hw _ (List.mem_of_getElem? (i := 18) rfl))) (mvT hZ (hw _ (List.mem_of_getElem? (i := 19) rfl))) (notFace_of_selects (args := #[]) (mvT hZ (hw _ (List.mem_of_getElem? (i := 21) rfl)))) (mvT hZ (hw _ (List.mem_of_getElem? (i := 21) rfl))) (mvT hZ (hw _ (List.mem_of_getElem? (i := 20) rfl))) (by decide) (backOf (W := 0) (rmse l Z a0 hw [] a1 x4 v1 y4 kv1 ky4 (117 : Int32) (101 : Int32) (117 : Int32) (101 : Int32) G1 h4 n0 z20 f8 f9 f10 EX4 CX4 VX4 f11 AX4 f19 P5) hZ (hw _ (List.mem_of_getElem? (i := 22) rfl)) (hw _ (List.mem_of_getElem? (i := 11) rfl)) (by decide) (by decide)) q21a q21c (g := (mkF m 22 #[.val (.int p0), .val (.ref b1), .unset, .unset, .unset] [(.ref x4), (.ref a1)])) rfl (by rw [hml]; rfl) (Steps.refl _) (argsL := [(.ref x4)]) (rest := []) (lenOf pd_0__Ljava_lang_Object__Z rfl) rfl (by show 2 * 0 + _ ≤ _; exact Nat.le_of_eq rfl) (hb hby at_22) (fun _ _ => ⟨rfl, e4, (by decide : 2 + 0 ≤ _), (by decide : 12 + 0 ≤ _)⟩)
    dsimp only [Pt.U, Pt.locs, Pt.cells, Pt.slots] at X21 l21 y21 z21 st21 hQ21
    subst l21 y21 z21
    obtain ⟨rfl, Nq21, eh21⟩ := hQ21
    have N21 := Fr.app N3 Nq21
    refine Goes.on (B := T21.setTop (mkF m 25 #[.val (.int p0), .val (.ref b1), .unset, .unset, .unset] [(.int (own_se a1 x4 (117 : Int32) (101 : Int32) (117 : Int32) (101 : Int32)))])) (fun t k => st21.trans k) ?_
    refine Goes.on (B := T21.setTop (mkF m 26 #[.val (.int p0), .val (.ref b1), .val (.int (own_se a1 x4 (117 : Int32) (101 : Int32) (117 : Int32) (101 : Int32))), .unset, .unset] [])) (fun _ k => XS.istoreN X21.here hx rfl (hb hby at_25) rfl (l' := #[.val (.int p0), .val (.ref b1), .val (.int (own_se a1 x4 (117 : Int32) (101 : Int32) (117 : Int32) (101 : Int32))), .unset, .unset]) rfl k) ?_
    refine Goes.on (B := T21.setTop (mkF m 27 #[.val (.int p0), .val (.ref b1), .val (.int (own_se a1 x4 (117 : Int32) (101 : Int32) (117 : Int32) (101 : Int32))), .unset, .unset] [(.ref b1)])) (fun _ k => XS.aloadN X21.here hx rfl (hb hby at_26) rfl rfl  k) ?_
    obtain ⟨cq22, kq22, q22a, q22b, q22c⟩ := isOf hZ eh21 f6
    obtain ⟨_, _, ⟨T22, L22, k22, n22⟩, -, X22, ⟨Lc22, hQ22, l22, y22, z22⟩, st22⟩ := X21.virtualBack hx (y := (⟨"com/example/roadeq/roadeq/assign/Objective", "routesOnLinkCosts", "()Z"⟩ : MethodName)) (z := (⟨"com/example/roadeq/roadeq/assign/Objective", "routesOnLinkCosts", "()Z"⟩ : MethodName)) hown (mvT hZ (hw _ (List.mem_of_getElem? (i := 32) rfl))) (mvT hZ (hw _ (List.mem_of_getElem? (i := 33) rfl))) (notFace_of_selects (args := #[]) (mvT hZ (hw _ (List.mem_of_getElem? (i := 35) rfl)))) (mvT hZ (hw _ (List.mem_of_getElem? (i := 35) rfl))) (mvT hZ (hw _ (List.mem_of_getElem? (i := 34) rfl))) (by decide) (backOf (W := 0) (rmr l Z a0 hw [] b1 b1 h4 n0 z20 f5) hZ (hw _ (List.mem_of_getElem? (i := 36) rfl)) (hw _ (List.mem_of_getElem? (i := 1) rfl)) (by decide) (by decide)) q22a q22c (g := (mkF m 27 #[.val (.int p0), .val (.ref b1), .val (.int (own_se a1 x4 (117 : Int32) (101 : Int32) (117 : Int32) (101 : Int32))), .unset, .unset] [(.ref b1)])) rfl (by rw [hml]; rfl) (Steps.refl _) (argsL := []) (rest := []) (lenOf pd_0___Z rfl) rfl (by show 2 * 0 + _ ≤ _; exact Nat.le_of_eq rfl) (hb hby at_27) (fun _ _ => ⟨rfl, eh21, (by decide : 2 + 0 ≤ _), (by decide : 12 + 0 ≤ _)⟩)
    dsimp only [Pt.U, Pt.locs, Pt.cells, Pt.slots] at X22 l22 y22 z22 st22 hQ22
    subst l22 y22 z22
    obtain ⟨rfl, Nq22, eh22⟩ := hQ22
    have N22 := Fr.app N21 Nq22
    refine Goes.on (B := T22.setTop (mkF m 30 #[.val (.int p0), .val (.ref b1), .val (.int (own_se a1 x4 (117 : Int32) (101 : Int32) (117 : Int32) (101 : Int32))), .unset, .unset] [(.int (own_r b1 b1))])) (fun t k => st22.trans k) ?_
    refine Goes.on (B := T22.setTop (mkF m 31 #[.val (.int p0), .val (.ref b1), .val (.int (own_se a1 x4 (117 : Int32) (101 : Int32) (117 : Int32) (101 : Int32))), .val (.int (own_r b1 b1)), .unset] [])) (fun _ k => XS.istoreN X22.here hx rfl (hb hby at_30) rfl (l' := #[.val (.int p0), .val (.ref b1), .val (.int (own_se a1 x4 (117 : Int32) (101 : Int32) (117 : Int32) (101 : Int32))), .val (.int (own_r b1 b1)), .unset]) rfl k) ?_
    obtain ⟨T23, X23, e23, st23⟩ := getS2 X22 hx hZ hown (host := "") (Or.inl (hw _ (List.mem_of_getElem? (i := 0) rfl))) Via.refl eh22 f5 (g := (mkF m 31 #[.val (.int p0), .val (.ref b1), .val (.int (own_se a1 x4 (117 : Int32) (101 : Int32) (117 : Int32) (101 : Int32))), .val (.int (own_r b1 b1)), .unset] [])) rfl (hb hby at_31)
    refine Goes.on (B := T23.setTop (mkF m 34 #[.val (.int p0), .val (.ref b1), .val (.int (own_se a1 x4 (117 : Int32) (101 : Int32) (117 : Int32) (101 : Int32))), .val (.int (own_r b1 b1)), .unset] [(.ref b1)])) (fun t k => st23 t k) ?_
    obtain ⟨cq24, kq24, q24a, q24b, q24c⟩ := isOf hZ e23 f6
    obtain ⟨_, _, ⟨T24, L24, k24, n24⟩, -, X24, ⟨Lc24, hQ24, l24, y24, z24⟩, st24⟩ := X23.virtualBack hx (y := (⟨"com/example/roadeq/roadeq/assign/Objective", "routesOnLinkCosts", "()Z"⟩ : MethodName)) (z := (⟨"com/example/roadeq/roadeq/assign/Objective", "routesOnLinkCosts", "()Z"⟩ : MethodName)) hown (mvT hZ (hw _ (List.mem_of_getElem? (i := 32) rfl))) (mvT hZ (hw _ (List.mem_of_getElem? (i := 33) rfl))) (notFace_of_selects (args := #[]) (mvT hZ (hw _ (List.mem_of_getElem? (i := 35) rfl)))) (mvT hZ (hw _ (List.mem_of_getElem? (i := 35) rfl))) (mvT hZ (hw _ (List.mem_of_getElem? (i := 34) rfl))) (by decide) (backOf (W := 0) (rmr l Z a0 hw [] b1 b1 h4 n0 z20 f5) hZ (hw _ (List.mem_of_getElem? (i := 36) rfl)) (hw _ (List.mem_of_getElem? (i := 1) rfl)) (by decide) (by decide)) q24a q24c (g := (mkF m 34 #[.val (.int p0), .val (.ref b1), .val (.int (own_se a1 x4 (117 : Int32) (101 : Int32) (117 : Int32) (101 : Int32))), .val (.int (own_r b1 b1)), .unset] [(.ref b1)])) rfl (by rw [hml]; rfl) (Steps.refl _) (argsL := []) (rest := []) (lenOf pd_0___Z rfl) rfl (by show 2 * 0 + _ ≤ _; exact Nat.le_of_eq rfl) (hb hby at_34) (fun _ _ => ⟨rfl, e23, (by decide : 2 + 0 ≤ _), (by decide : 12 + 0 ≤ _)⟩)
    dsimp only [Pt.U, Pt.locs, Pt.cells, Pt.slots] at X24 l24 y24 z24 st24 hQ24
    subst l24 y24 z24
    obtain ⟨rfl, Nq24, eh24⟩ := hQ24
    have N24 := Fr.app N22 Nq24
    refine Goes.on (B := T24.setTop (mkF m 37 #[.val (.int p0), .val (.ref b1), .val (.int (own_se a1 x4 (117 : Int32) (101 : Int32) (117 : Int32) (101 : Int32))), .val (.int (own_r b1 b1)), .unset] [(.int (own_r b1 b1))])) (fun t k => st24.trans k) ?_
    obtain ⟨T25, X25, e25, st25⟩ := getS2 X24 hx hZ hown (host := "") (Or.inl (hw _ (List.mem_of_getElem? (i := 38) rfl))) Via.refl eh24 f12 (g := (mkF m 37 #[.val (.int p0), .val (.ref b1), .val (.int (own_se a1 x4 (117 : Int32) (101 : Int32) (117 : Int32) (101 : Int32))), .val (.int (own_r b1 b1)), .unset] [(.int (own_r b1 b1))])) rfl (hb hby at_37)
    refine Goes.on (B := T25.setTop (mkF m 40 #[.val (.int p0), .val (.ref b1), .val (.int (own_se a1 x4 (117 : Int32) (101 : Int32) (117 : Int32) (101 : Int32))), .val (.int (own_r b1 b1)), .unset] [(.ref b2), (.int (own_r b1 b1))])) (fun t k => st25 t k) ?_
    obtain ⟨cq26, kq26, q26a, q26b, q26c⟩ := isOf hZ e25 f13
    obtain ⟨_, _, ⟨T26, L26, k26, n26⟩, -, X26, ⟨Lc26, hQ26, l26, y26, z26⟩, st26⟩ := X25.virtualBack hx (y := (⟨"com/example/roadeq/roadeq/assign/Objective", "routesOnLinkCosts", "()Z"⟩ : MethodName)) (z := (⟨"com/example/roadeq/roadeq/assign/Objective", "routesOnLinkCosts", "()Z"⟩ : MethodName)) hown (mvT hZ (hw _ (List.mem_of_getElem? (i := 32) rfl))) (mvT hZ (hw _ (List.mem_of_getElem? (i := 33) rfl))) (notFace_of_selects (args := #[]) (mvT hZ (hw _ (List.mem_of_getElem? (i := 40) rfl)))) (mvT hZ (hw _ (List.mem_of_getElem? (i := 40) rfl))) (mvT hZ (hw _ (List.mem_of_getElem? (i := 34) rfl))) (by decide) (backOf (W := 1) (rmr l Z a0 hw [] b2 b1 h4 n0 z20 f5) hZ (hw _ (List.mem_of_getElem? (i := 36) rfl)) (hw _ (List.mem_of_getElem? (i := 1) rfl)) (by decide) (by decide)) q26a q26c (g := (mkF m 40 #[.val (.int p0), .val (.ref b1), .val (.int (own_se a1 x4 (117 : Int32) (101 : Int32) (117 : Int32) (101 : Int32))), .val (.int (own_r b1 b1)), .unset] [(.ref b2), (.int (own_r b1 b1))])) rfl (by rw [hml]; rfl) (Steps.refl _) (argsL := []) (rest := [(.int (own_r b1 b1))]) (lenOf pd_0___Z rfl) rfl (by show 2 * 0 + _ ≤ _; exact Nat.le_of_eq rfl) (hb hby at_40) (fun _ _ => ⟨rfl, e25, (by decide : 2 + 0 ≤ _), (by decide : 12 + 0 ≤ _)⟩)
    dsimp only [Pt.U, Pt.locs, Pt.cells, Pt.slots] at X26 l26 y26 z26 st26 hQ26
    subst l26 y26 z26
    obtain ⟨rfl, Nq26, eh26⟩ := hQ26
    have N26 := Fr.app N24 Nq26
    refine Goes.on (B := T26.setTop (mkF m 43 #[.val (.int p0), .val (.ref b1), .val (.int (own_se a1 x4 (117 : Int32) (101 : Int32) (117 : Int32) (101 : Int32))), .val (.int (own_r b1 b1)), .unset] [(.int (own_r b2 b1)), (.int (own_r b1 b1))])) (fun t k => st26.trans k) ?_
    refine Goes.on (B := T26.setTop (mkF m 46 #[.val (.int p0), .val (.ref b1), .val (.int (own_se a1 x4 (117 : Int32) (101 : Int32) (117 : Int32) (101 : Int32))), .val (.int (own_r b1 b1)), .unset] [])) (fun _ k => XS.icmpNo X26.here hx rfl (hb hby at_43) rfl (feq (own_r12 (ne_exa E1 E2 (by decide)))).1 k) ?_
    refine Goes.on (B := T26.setTop (mkF m 47 #[.val (.int p0), .val (.ref b1), .val (.int (own_se a1 x4 (117 : Int32) (101 : Int32) (117 : Int32) (101 : Int32))), .val (.int (own_r b1 b1)), .unset] [(.int (1 : Int32))])) (fun _ k => XS.iconst X26.here hx rfl (hb hby at_46) k) ?_
    refine Goes.on (B := T26.setTop (mkF m 51 #[.val (.int p0), .val (.ref b1), .val (.int (own_se a1 x4 (117 : Int32) (101 : Int32) (117 : Int32) (101 : Int32))), .val (.int (own_r b1 b1)), .unset] [(.int (1 : Int32))])) (fun _ k => XS.goto X26.here hx rfl (pc0 := 47) (pc' := 51) rfl (hb hby at_47) (by decide) (by decide) k) ?_
    refine Goes.on (B := T26.setTop (mkF m 53 #[.val (.int p0), .val (.ref b1), .val (.int (own_se a1 x4 (117 : Int32) (101 : Int32) (117 : Int32) (101 : Int32))), .val (.int (own_r b1 b1)), .val (.int (1 : Int32))] [])) (fun _ k => XS.istore X26.here hx rfl (hb hby at_51) rfl (l' := #[.val (.int p0), .val (.ref b1), .val (.int (own_se a1 x4 (117 : Int32) (101 : Int32) (117 : Int32) (101 : Int32))), .val (.int (own_r b1 b1)), .val (.int (1 : Int32))]) rfl k) ?_
    refine Goes.on (B := T26.setTop (mkF m 54 #[.val (.int p0), .val (.ref b1), .val (.int (own_se a1 x4 (117 : Int32) (101 : Int32) (117 : Int32) (101 : Int32))), .val (.int (own_r b1 b1)), .val (.int (1 : Int32))] [(.int (own_r b1 b1))])) (fun _ k => XS.iloadN X26.here hx rfl (hb hby at_53) rfl  k) ?_
    refine Goes.on (B := T26.setTop (mkF m 55 #[.val (.int p0), .val (.ref b1), .val (.int (own_se a1 x4 (117 : Int32) (101 : Int32) (117 : Int32) (101 : Int32))), .val (.int (own_r b1 b1)), .val (.int (1 : Int32))] [(.int (own_se a1 x4 (117 : Int32) (101 : Int32) (117 : Int32) (101 : Int32))), (.int (own_r b1 b1))])) (fun _ k => XS.iloadN X26.here hx rfl (hb hby at_54) rfl  k) ?_
    refine Goes.on (B := T26.setTop (mkF m 58 #[.val (.int p0), .val (.ref b1), .val (.int (own_se a1 x4 (117 : Int32) (101 : Int32) (117 : Int32) (101 : Int32))), .val (.int (own_r b1 b1)), .val (.int (1 : Int32))] [])) (fun _ k => XS.icmpNo X26.here hx rfl (hb hby at_55) rfl (teq ((own_rr b1).trans (own_seU a1 x4).symm)).2 k) ?_
    refine Goes.on (B := T26.setTop (mkF m 60 #[.val (.int p0), .val (.ref b1), .val (.int (own_se a1 x4 (117 : Int32) (101 : Int32) (117 : Int32) (101 : Int32))), .val (.int (own_r b1 b1)), .val (.int (1 : Int32))] [(.int (1 : Int32))])) (fun _ k => XS.iload X26.here hx rfl (hb hby at_58) rfl  k) ?_
    refine Goes.on (B := T26.setTop (mkF m 63 #[.val (.int p0), .val (.ref b1), .val (.int (own_se a1 x4 (117 : Int32) (101 : Int32) (117 : Int32) (101 : Int32))), .val (.int (own_r b1 b1)), .val (.int (1 : Int32))] [])) (fun _ k => XS.ifNo X26.here hx rfl (hb hby at_60) rfl ((if0 _ _).trans (feq (by decide)).1) k) ?_
    refine Goes.on (B := T26.setTop (mkF m 64 #[.val (.int p0), .val (.ref b1), .val (.int (own_se a1 x4 (117 : Int32) (101 : Int32) (117 : Int32) (101 : Int32))), .val (.int (own_r b1 b1)), .val (.int (1 : Int32))] [(.int (1 : Int32))])) (fun _ k => XS.iconst X26.here hx rfl (hb hby at_63) k) ?_
    refine Goes.on (B := T26.setTop (mkF m 68 #[.val (.int p0), .val (.ref b1), .val (.int (own_se a1 x4 (117 : Int32) (101 : Int32) (117 : Int32) (101 : Int32))), .val (.int (own_r b1 b1)), .val (.int (1 : Int32))] [(.int (1 : Int32))])) (fun _ k => XS.goto X26.here hx rfl (pc0 := 64) (pc' := 68) rfl (hb hby at_64) (by decide) (by decide) k) ?_
    obtain ⟨fs, hr, hrun, hended, hend⟩ := X26.leaveW hS4 (by rw [eh26]; first | exact hk4 | exact Nat.le_refl _) (v := some (.int (1 : Int32))) (fun h => by rw [Bd.returns] at h; cases h)
    exact Goes.leaf (retN X26 hx (t := .boolean) Bd.returns (by simp) (hb hby at_68) hr) hrun hended ⟨_, _, rfl, by show Q0 Z p0 b1 a1 v1 b2 a2 v2 kv1 kv2 G1 h0 n0 _ T26.heap _; exact ⟨rfl, N26⟩, hend.1, hend.2.1, hend.2.2.1, hend.2.2.2.mono (by decide) (by decide)⟩
  · refine Goes.on (B := s₁.setTop (mkF m 12 #[.val (.int p0), .unset, .unset, .unset, .unset] [])) (fun _ k => XS.ifYes X0.here hx rfl (pc0 := 3) (pc' := 12) rfl (hb hby at_3) rfl ((if0 _ _).trans (feq hc3_1).2) (by decide) (by decide) k) ?_
    obtain ⟨T27, X27, e27, st27⟩ := getS2 X0 hx hZ hown (host := "") (Or.inl (hw _ (List.mem_of_getElem? (i := 38) rfl))) Via.refl e0 S2 (g := (mkF m 12 #[.val (.int p0), .unset, .unset, .unset, .unset] [])) rfl (hb hby at_12)
    refine Goes.on (B := T27.setTop (mkF m 15 #[.val (.int p0), .unset, .unset, .unset, .unset] [(.ref b2)])) (fun t k => st27 t k) ?_
    refine Goes.on (B := T27.setTop (mkF m 16 #[.val (.int p0), .val (.ref b2), .unset, .unset, .unset] [])) (fun _ k => XS.astoreN X27.here hx rfl (hb hby at_15) rfl rfl (l' := #[.val (.int p0), .val (.ref b2), .unset, .unset, .unset]) rfl k) ?_
    refine Goes.on (B := T27.setTop (mkF m 17 #[.val (.int p0), .val (.ref b2), .unset, .unset, .unset] [(.ref b2)])) (fun _ k => XS.aloadN X27.here hx rfl (hb hby at_16) rfl rfl  k) ?_
    obtain ⟨cq28, kq28, q28a, q28b, q28c⟩ := isOf hZ e27 E2
    obtain ⟨_, _, ⟨T28, L28, k28, n28⟩, -, X28, ⟨Lc28, hQ28, l28, y28, z28⟩, st28⟩ := X27.virtualBack hx (y := (⟨"com/example/roadeq/roadeq/assign/Objective", "label", "()Ljava/lang/String;"⟩ : MethodName)) (z := (⟨"com/example/roadeq/roadeq/assign/Objective", "label", "()Ljava/lang/String;"⟩ : MethodName)) hown (mvT hZ (hw _ (List.mem_of_getElem? (i := 3) rfl))) (mvT hZ (hw _ (List.mem_of_getElem? (i := 4) rfl))) (notFace_of_selects (args := #[]) (mvT hZ (hw _ (List.mem_of_getElem? (i := 41) rfl)))) (mvT hZ (hw _ (List.mem_of_getElem? (i := 41) rfl))) (mvT hZ (hw _ (List.mem_of_getElem? (i := 5) rfl))) (by decide) (backOf (W := 0) (rml l Z a0 hw [] b2 a2 h0 n0 Z0 L2) hZ (hw _ (List.mem_of_getElem? (i := 7) rfl)) (hw _ (List.mem_of_getElem? (i := 1) rfl)) (by decide) (by decide)) q28a q28c (g := (mkF m 17 #[.val (.int p0), .val (.ref b2), .unset, .unset, .unset] [(.ref b2)])) rfl (by rw [hml]; rfl) (Steps.refl _) (argsL := []) (rest := []) (lenOf pd_0___Ljava_lang_String_ rfl) rfl (by show 2 * 0 + _ ≤ _; exact Nat.le_of_eq rfl) (hb hby at_17) (fun _ _ => ⟨rfl, e27, (by decide : 0 + 0 ≤ _), (by decide : 0 + 0 ≤ _)⟩)
    dsimp only [Pt.U, Pt.locs, Pt.cells, Pt.slots] at X28 l28 y28 z28 st28 hQ28
    subst l28 y28 z28
    obtain ⟨rfl, Nq28, eh28⟩ := hQ28
    have N28 := Fr.app N0 Nq28
    refine Goes.on (B := T28.setTop (mkF m 20 #[.val (.int p0), .val (.ref b2), .unset, .unset, .unset] [(.ref a2)])) (fun t k => st28.trans k) ?_
    have hwS : ∀ d ∈ Bundle.stringAtoms, d.before a0 Z = true := fun d hd => hw d ((by decide +kernel : ∀ d ∈ Bundle.stringAtoms, d ∈ tables_1) d hd)
    have NF := own_fr (hn0.trans (congrArg Array.size hh.symm)) N28
    obtain ⟨x29, T29, h29, k129, y29, ky29, X29, e29, E29, hS29, hk29, hZ, hown, EX29, CX29, VX29, AX29, -, -, -, st29⟩ := ldcSV (s := s) (vm0 := s.vm) X28 hx hZ hown (hw _ (List.mem_of_getElem? (i := 10) rfl)) hwS eh28 (State.WarmedH.since (State.WarmedH.refl s) 0) (Nat.zero_le _) NF (fun _ _ q => hUZ ▸ q) (own_IB0 hUZ) List.not_mem_nil hheld hcw (vs := [(.int (117 : Int32)), (.int (101 : Int32))]) (z := (2 : Int32)) ⟨by decide, by decide⟩ (by decide) (by decide) (g := (mkF m 20 #[.val (.int p0), .val (.ref b2), .unset, .unset, .unset] [(.ref a2)])) rfl (hb hby at_20) (n := 8) (by decide) (by decide) (by decide) (by decide)
    have f30 := S1.ext E29
    have f31 := E1.ext E29
    have f32 := L1.ext E29
    have f33 := EA1.ext E29
    have f34 := C1.ext E29
    have f35 := VV1.ext E29
    have f36 := AV1.ext E29
    have f37 := S2.ext E29
    have f38 := E2.ext E29
    have f39 := L2.ext E29
    have f40 := EA2.ext E29
    have f41 := C2.ext E29
    have f42 := VV2.ext E29
    have f43 := AV2.ext E29
    have f44 := OS.ext E29
    have z45 : n0 ≤ h29.size := Nat.le_trans Z0 E29.1
    refine Goes.on (B := T29.setTop (mkF m 22 #[.val (.int p0), .val (.ref b2), .unset, .unset, .unset] [(.ref x29), (.ref a2)])) (fun t k => st29 t k) ?_
    obtain ⟨cq46, kq46, q46a, q46b, q46c⟩ := isOf hZ e29 f40
    obtain ⟨_, _, ⟨T46, L46, k46, n46⟩, -, X46, ⟨Lc46, hQ46, l46, y46, z46⟩, st46⟩ := X29.virtualBack hx (y := (⟨"java/lang/String", "equals", "(Ljava/lang/Object;)Z"⟩ : MethodName)) (z := (⟨"java/lang/String", "equals", "(Ljava/lang/Object;)Z"⟩ : MethodName)) hown (mvT hZ (hw _ (List.mem_of_getElem? (i := 18) rfl))) (mvT hZ (hw _ (List.mem_of_getElem? (i := 19) rfl))) (notFace_of_selects (args := #[]) (mvT hZ (hw _ (List.mem_of_getElem? (i := 21) rfl)))) (mvT hZ (hw _ (List.mem_of_getElem? (i := 21) rfl))) (mvT hZ (hw _ (List.mem_of_getElem? (i := 20) rfl))) (by decide) (backOf (W := 0) (rmse l Z a0 hw [] a2 x29 v2 y29 kv2 ky29 (115 : Int32) (111 : Int32) (117 : Int32) (101 : Int32) G1 h29 n0 z45 f40 f41 f42 EX29 CX29 VX29 f43 AX29 f44 P5) hZ (hw _ (List.mem_of_getElem? (i := 22) rfl)) (hw _ (List.mem_of_getElem? (i := 11) rfl)) (by decide) (by decide)) q46a q46c (g := (mkF m 22 #[.val (.int p0), .val (.ref b2), .unset, .unset, .unset] [(.ref x29), (.ref a2)])) rfl (by rw [hml]; rfl) (Steps.refl _) (argsL := [(.ref x29)]) (rest := []) (lenOf pd_0__Ljava_lang_Object__Z rfl) rfl (by show 2 * 0 + _ ≤ _; exact Nat.le_of_eq rfl) (hb hby at_22) (fun _ _ => ⟨rfl, e29, (by decide : 2 + 0 ≤ _), (by decide : 12 + 0 ≤ _)⟩)
    dsimp only [Pt.U, Pt.locs, Pt.cells, Pt.slots] at X46 l46 y46 z46 st46 hQ46
    subst l46 y46 z46
    obtain ⟨rfl, Nq46, eh46⟩ := hQ46
    have N46 := Fr.app N28 Nq46
    refine Goes.on (B := T46.setTop (mkF m 25 #[.val (.int p0), .val (.ref b2), .unset, .unset, .unset] [(.int (own_se a2 x29 (115 : Int32) (111 : Int32) (117 : Int32) (101 : Int32)))])) (fun t k => st46.trans k) ?_
    refine Goes.on (B := T46.setTop (mkF m 26 #[.val (.int p0), .val (.ref b2), .val (.int (own_se a2 x29 (115 : Int32) (111 : Int32) (117 : Int32) (101 : Int32))), .unset, .unset] [])) (fun _ k => XS.istoreN X46.here hx rfl (hb hby at_25) rfl (l' := #[.val (.int p0), .val (.ref b2), .val (.int (own_se a2 x29 (115 : Int32) (111 : Int32) (117 : Int32) (101 : Int32))), .unset, .unset]) rfl k) ?_
    refine Goes.on (B := T46.setTop (mkF m 27 #[.val (.int p0), .val (.ref b2), .val (.int (own_se a2 x29 (115 : Int32) (111 : Int32) (117 : Int32) (101 : Int32))), .unset, .unset] [(.ref b2)])) (fun _ k => XS.aloadN X46.here hx rfl (hb hby at_26) rfl rfl  k) ?_
    obtain ⟨cq47, kq47, q47a, q47b, q47c⟩ := isOf hZ eh46 f38
    obtain ⟨_, _, ⟨T47, L47, k47, n47⟩, -, X47, ⟨Lc47, hQ47, l47, y47, z47⟩, st47⟩ := X46.virtualBack hx (y := (⟨"com/example/roadeq/roadeq/assign/Objective", "routesOnLinkCosts", "()Z"⟩ : MethodName)) (z := (⟨"com/example/roadeq/roadeq/assign/Objective", "routesOnLinkCosts", "()Z"⟩ : MethodName)) hown (mvT hZ (hw _ (List.mem_of_getElem? (i := 32) rfl))) (mvT hZ (hw _ (List.mem_of_getElem? (i := 33) rfl))) (notFace_of_selects (args := #[]) (mvT hZ (hw _ (List.mem_of_getElem? (i := 40) rfl)))) (mvT hZ (hw _ (List.mem_of_getElem? (i := 40) rfl))) (mvT hZ (hw _ (List.mem_of_getElem? (i := 34) rfl))) (by decide) (backOf (W := 0) (rmr l Z a0 hw [] b2 b1 h29 n0 z45 f30) hZ (hw _ (List.mem_of_getElem? (i := 36) rfl)) (hw _ (List.mem_of_getElem? (i := 1) rfl)) (by decide) (by decide)) q47a q47c (g := (mkF m 27 #[.val (.int p0), .val (.ref b2), .val (.int (own_se a2 x29 (115 : Int32) (111 : Int32) (117 : Int32) (101 : Int32))), .unset, .unset] [(.ref b2)])) rfl (by rw [hml]; rfl) (Steps.refl _) (argsL := []) (rest := []) (lenOf pd_0___Z rfl) rfl (by show 2 * 0 + _ ≤ _; exact Nat.le_of_eq rfl) (hb hby at_27) (fun _ _ => ⟨rfl, eh46, (by decide : 2 + 0 ≤ _), (by decide : 12 + 0 ≤ _)⟩)
    dsimp only [Pt.U, Pt.locs, Pt.cells, Pt.slots] at X47 l47 y47 z47 st47 hQ47
    subst l47 y47 z47
    obtain ⟨rfl, Nq47, eh47⟩ := hQ47
    have N47 := Fr.app N46 Nq47
    refine Goes.on (B := T47.setTop (mkF m 30 #[.val (.int p0), .val (.ref b2), .val (.int (own_se a2 x29 (115 : Int32) (111 : Int32) (117 : Int32) (101 : Int32))), .unset, .unset] [(.int (own_r b2 b1))])) (fun t k => st47.trans k) ?_
    refine Goes.on (B := T47.setTop (mkF m 31 #[.val (.int p0), .val (.ref b2), .val (.int (own_se a2 x29 (115 : Int32) (111 : Int32) (117 : Int32) (101 : Int32))), .val (.int (own_r b2 b1)), .unset] [])) (fun _ k => XS.istoreN X47.here hx rfl (hb hby at_30) rfl (l' := #[.val (.int p0), .val (.ref b2), .val (.int (own_se a2 x29 (115 : Int32) (111 : Int32) (117 : Int32) (101 : Int32))), .val (.int (own_r b2 b1)), .unset]) rfl k) ?_
    obtain ⟨T48, X48, e48, st48⟩ := getS2 X47 hx hZ hown (host := "") (Or.inl (hw _ (List.mem_of_getElem? (i := 0) rfl))) Via.refl eh47 f30 (g := (mkF m 31 #[.val (.int p0), .val (.ref b2), .val (.int (own_se a2 x29 (115 : Int32) (111 : Int32) (117 : Int32) (101 : Int32))), .val (.int (own_r b2 b1)), .unset] [])) rfl (hb hby at_31)
    refine Goes.on (B := T48.setTop (mkF m 34 #[.val (.int p0), .val (.ref b2), .val (.int (own_se a2 x29 (115 : Int32) (111 : Int32) (117 : Int32) (101 : Int32))), .val (.int (own_r b2 b1)), .unset] [(.ref b1)])) (fun t k => st48 t k) ?_
    obtain ⟨cq49, kq49, q49a, q49b, q49c⟩ := isOf hZ e48 f31
    obtain ⟨_, _, ⟨T49, L49, k49, n49⟩, -, X49, ⟨Lc49, hQ49, l49, y49, z49⟩, st49⟩ := X48.virtualBack hx (y := (⟨"com/example/roadeq/roadeq/assign/Objective", "routesOnLinkCosts", "()Z"⟩ : MethodName)) (z := (⟨"com/example/roadeq/roadeq/assign/Objective", "routesOnLinkCosts", "()Z"⟩ : MethodName)) hown (mvT hZ (hw _ (List.mem_of_getElem? (i := 32) rfl))) (mvT hZ (hw _ (List.mem_of_getElem? (i := 33) rfl))) (notFace_of_selects (args := #[]) (mvT hZ (hw _ (List.mem_of_getElem? (i := 35) rfl)))) (mvT hZ (hw _ (List.mem_of_getElem? (i := 35) rfl))) (mvT hZ (hw _ (List.mem_of_getElem? (i := 34) rfl))) (by decide) (backOf (W := 0) (rmr l Z a0 hw [] b1 b1 h29 n0 z45 f30) hZ (hw _ (List.mem_of_getElem? (i := 36) rfl)) (hw _ (List.mem_of_getElem? (i := 1) rfl)) (by decide) (by decide)) q49a q49c (g := (mkF m 34 #[.val (.int p0), .val (.ref b2), .val (.int (own_se a2 x29 (115 : Int32) (111 : Int32) (117 : Int32) (101 : Int32))), .val (.int (own_r b2 b1)), .unset] [(.ref b1)])) rfl (by rw [hml]; rfl) (Steps.refl _) (argsL := []) (rest := []) (lenOf pd_0___Z rfl) rfl (by show 2 * 0 + _ ≤ _; exact Nat.le_of_eq rfl) (hb hby at_34) (fun _ _ => ⟨rfl, e48, (by decide : 2 + 0 ≤ _), (by decide : 12 + 0 ≤ _)⟩)
    dsimp only [Pt.U, Pt.locs, Pt.cells, Pt.slots] at X49 l49 y49 z49 st49 hQ49
    subst l49 y49 z49
    obtain ⟨rfl, Nq49, eh49⟩ := hQ49
    have N49 := Fr.app N47 Nq49
    refine Goes.on (B := T49.setTop (mkF m 37 #[.val (.int p0), .val (.ref b2), .val (.int (own_se a2 x29 (115 : Int32) (111 : Int32) (117 : Int32) (101 : Int32))), .val (.int (own_r b2 b1)), .unset] [(.int (own_r b1 b1))])) (fun t k => st49.trans k) ?_
    obtain ⟨T50, X50, e50, st50⟩ := getS2 X49 hx hZ hown (host := "") (Or.inl (hw _ (List.mem_of_getElem? (i := 38) rfl))) Via.refl eh49 f37 (g := (mkF m 37 #[.val (.int p0), .val (.ref b2), .val (.int (own_se a2 x29 (115 : Int32) (111 : Int32) (117 : Int32) (101 : Int32))), .val (.int (own_r b2 b1)), .unset] [(.int (own_r b1 b1))])) rfl (hb hby at_37)
    refine Goes.on (B := T50.setTop (mkF m 40 #[.val (.int p0), .val (.ref b2), .val (.int (own_se a2 x29 (115 : Int32) (111 : Int32) (117 : Int32) (101 : Int32))), .val (.int (own_r b2 b1)), .unset] [(.ref b2), (.int (own_r b1 b1))])) (fun t k => st50 t k) ?_
    obtain ⟨cq51, kq51, q51a, q51b, q51c⟩ := isOf hZ e50 f38
    obtain ⟨_, _, ⟨T51, L51, k51, n51⟩, -, X51, ⟨Lc51, hQ51, l51, y51, z51⟩, st51⟩ := X50.virtualBack hx (y := (⟨"com/example/roadeq/roadeq/assign/Objective", "routesOnLinkCosts", "()Z"⟩ : MethodName)) (z := (⟨"com/example/roadeq/roadeq/assign/Objective", "routesOnLinkCosts", "()Z"⟩ : MethodName)) hown (mvT hZ (hw _ (List.mem_of_getElem? (i := 32) rfl))) (mvT hZ (hw _ (List.mem_of_getElem? (i := 33) rfl))) (notFace_of_selects (args := #[]) (mvT hZ (hw _ (List.mem_of_getElem? (i := 40) rfl)))) (mvT hZ (hw _ (List.mem_of_getElem? (i := 40) rfl))) (mvT hZ (hw _ (List.mem_of_getElem? (i := 34) rfl))) (by decide) (backOf (W := 1) (rmr l Z a0 hw [] b2 b1 h29 n0 z45 f30) hZ (hw _ (List.mem_of_getElem? (i := 36) rfl)) (hw _ (List.mem_of_getElem? (i := 1) rfl)) (by decide) (by decide)) q51a q51c (g := (mkF m 40 #[.val (.int p0), .val (.ref b2), .val (.int (own_se a2 x29 (115 : Int32) (111 : Int32) (117 : Int32) (101 : Int32))), .val (.int (own_r b2 b1)), .unset] [(.ref b2), (.int (own_r b1 b1))])) rfl (by rw [hml]; rfl) (Steps.refl _) (argsL := []) (rest := [(.int (own_r b1 b1))]) (lenOf pd_0___Z rfl) rfl (by show 2 * 0 + _ ≤ _; exact Nat.le_of_eq rfl) (hb hby at_40) (fun _ _ => ⟨rfl, e50, (by decide : 2 + 0 ≤ _), (by decide : 12 + 0 ≤ _)⟩)
    dsimp only [Pt.U, Pt.locs, Pt.cells, Pt.slots] at X51 l51 y51 z51 st51 hQ51
    subst l51 y51 z51
    obtain ⟨rfl, Nq51, eh51⟩ := hQ51
    have N51 := Fr.app N49 Nq51
    refine Goes.on (B := T51.setTop (mkF m 43 #[.val (.int p0), .val (.ref b2), .val (.int (own_se a2 x29 (115 : Int32) (111 : Int32) (117 : Int32) (101 : Int32))), .val (.int (own_r b2 b1)), .unset] [(.int (own_r b2 b1)), (.int (own_r b1 b1))])) (fun t k => st51.trans k) ?_
    refine Goes.on (B := T51.setTop (mkF m 46 #[.val (.int p0), .val (.ref b2), .val (.int (own_se a2 x29 (115 : Int32) (111 : Int32) (117 : Int32) (101 : Int32))), .val (.int (own_r b2 b1)), .unset] [])) (fun _ k => XS.icmpNo X51.here hx rfl (hb hby at_43) rfl (feq (own_r12 (ne_exa E1 E2 (by decide)))).1 k) ?_
    refine Goes.on (B := T51.setTop (mkF m 47 #[.val (.int p0), .val (.ref b2), .val (.int (own_se a2 x29 (115 : Int32) (111 : Int32) (117 : Int32) (101 : Int32))), .val (.int (own_r b2 b1)), .unset] [(.int (1 : Int32))])) (fun _ k => XS.iconst X51.here hx rfl (hb hby at_46) k) ?_
    refine Goes.on (B := T51.setTop (mkF m 51 #[.val (.int p0), .val (.ref b2), .val (.int (own_se a2 x29 (115 : Int32) (111 : Int32) (117 : Int32) (101 : Int32))), .val (.int (own_r b2 b1)), .unset] [(.int (1 : Int32))])) (fun _ k => XS.goto X51.here hx rfl (pc0 := 47) (pc' := 51) rfl (hb hby at_47) (by decide) (by decide) k) ?_
    refine Goes.on (B := T51.setTop (mkF m 53 #[.val (.int p0), .val (.ref b2), .val (.int (own_se a2 x29 (115 : Int32) (111 : Int32) (117 : Int32) (101 : Int32))), .val (.int (own_r b2 b1)), .val (.int (1 : Int32))] [])) (fun _ k => XS.istore X51.here hx rfl (hb hby at_51) rfl (l' := #[.val (.int p0), .val (.ref b2), .val (.int (own_se a2 x29 (115 : Int32) (111 : Int32) (117 : Int32) (101 : Int32))), .val (.int (own_r b2 b1)), .val (.int (1 : Int32))]) rfl k) ?_
    refine Goes.on (B := T51.setTop (mkF m 54 #[.val (.int p0), .val (.ref b2), .val (.int (own_se a2 x29 (115 : Int32) (111 : Int32) (117 : Int32) (101 : Int32))), .val (.int (own_r b2 b1)), .val (.int (1 : Int32))] [(.int (own_r b2 b1))])) (fun _ k => XS.iloadN X51.here hx rfl (hb hby at_53) rfl  k) ?_
    refine Goes.on (B := T51.setTop (mkF m 55 #[.val (.int p0), .val (.ref b2), .val (.int (own_se a2 x29 (115 : Int32) (111 : Int32) (117 : Int32) (101 : Int32))), .val (.int (own_r b2 b1)), .val (.int (1 : Int32))] [(.int (own_se a2 x29 (115 : Int32) (111 : Int32) (117 : Int32) (101 : Int32))), (.int (own_r b2 b1))])) (fun _ k => XS.iloadN X51.here hx rfl (hb hby at_54) rfl  k) ?_
    refine Goes.on (B := T51.setTop (mkF m 58 #[.val (.int p0), .val (.ref b2), .val (.int (own_se a2 x29 (115 : Int32) (111 : Int32) (117 : Int32) (101 : Int32))), .val (.int (own_r b2 b1)), .val (.int (1 : Int32))] [])) (fun _ k => XS.icmpNo X51.here hx rfl (hb hby at_55) rfl (teq ((own_r2 (ne_exa E1 E2 (by decide))).trans (own_seS (Fld.ne f42 VX29 (own_nev f43 AX29))).symm)).2 k) ?_
    refine Goes.on (B := T51.setTop (mkF m 60 #[.val (.int p0), .val (.ref b2), .val (.int (own_se a2 x29 (115 : Int32) (111 : Int32) (117 : Int32) (101 : Int32))), .val (.int (own_r b2 b1)), .val (.int (1 : Int32))] [(.int (1 : Int32))])) (fun _ k => XS.iload X51.here hx rfl (hb hby at_58) rfl  k) ?_
    refine Goes.on (B := T51.setTop (mkF m 63 #[.val (.int p0), .val (.ref b2), .val (.int (own_se a2 x29 (115 : Int32) (111 : Int32) (117 : Int32) (101 : Int32))), .val (.int (own_r b2 b1)), .val (.int (1 : Int32))] [])) (fun _ k => XS.ifNo X51.here hx rfl (hb hby at_60) rfl ((if0 _ _).trans (feq (by decide)).1) k) ?_
    refine Goes.on (B := T51.setTop (mkF m 64 #[.val (.int p0), .val (.ref b2), .val (.int (own_se a2 x29 (115 : Int32) (111 : Int32) (117 : Int32) (101 : Int32))), .val (.int (own_r b2 b1)), .val (.int (1 : Int32))] [(.int (1 : Int32))])) (fun _ k => XS.iconst X51.here hx rfl (hb hby at_63) k) ?_
    refine Goes.on (B := T51.setTop (mkF m 68 #[.val (.int p0), .val (.ref b2), .val (.int (own_se a2 x29 (115 : Int32) (111 : Int32) (117 : Int32) (101 : Int32))), .val (.int (own_r b2 b1)), .val (.int (1 : Int32))] [(.int (1 : Int32))])) (fun _ k => XS.goto X51.here hx rfl (pc0 := 64) (pc' := 68) rfl (hb hby at_64) (by decide) (by decide) k) ?_
    obtain ⟨fs, hr, hrun, hended, hend⟩ := X51.leaveW hS29 (by rw [eh51]; first | exact hk29 | exact Nat.le_refl _) (v := some (.int (1 : Int32))) (fun h => by rw [Bd.returns] at h; cases h)
    exact Goes.leaf (retN X51 hx (t := .boolean) Bd.returns (by simp) (hb hby at_68) hr) hrun hended ⟨_, _, rfl, by show Q0 Z p0 b1 a1 v1 b2 a2 v2 kv1 kv2 G1 h0 n0 _ T51.heap _; exact ⟨rfl, N51⟩, hend.1, hend.2.1, hend.2.2.1, hend.2.2.2.mono (by decide) (by decide)⟩
set_option maxRecDepth 65536 in
set_option maxHeartbeats 40000000 in
theorem comes_1 {Post : Tables → Env → Array Value → State → Outcome → State → Prop} (hpost : ∀ tb e args s v u, (limb_1_1.after args s (.returned v) u = true ∧ limb_1_2.after args s (.returned v) u = true ∧ True) → ReturnedEndW s (.returned v) u (Jvm.fieldLocs frame_1_writes args s ++ Jvm.arrayLocs frame_1_arrays args s ++ Jvm.staticLocs frame_1_statics s) 8 1088 → Post tb e args s (.returned v) u) :
    ArmFor flags0 classFile x code maxLocals ret World_1 tables_1 room_1 Calls_1 rest_1 Pre_1 Post := by
  intro l hfl _ _ p e ha hc hk s m args below hf hA hF happ hP
  obtain ⟨hcalls, hrest, hpre⟩ := hP
  obtain ⟨-, -, -, hnamed, -, -, -, hat⟩ := (Spec.applies_iff hf).mp happ
  obtain ⟨hg, hn⟩ := and_e (Cond.before_iff.mp (show (Jvm.Cond.and given_1 narrow_1).before args s = true from hpre))
  obtain ⟨hg0, hg0r⟩ := and_e hg
  obtain ⟨w0, rfl⟩ : ∃ w0 : Value, args = #[w0] := by
    have hs : args.size = 1 := by simpa [Cond.value, given_1] using hg0
    obtain ⟨L⟩ := args
    match L, hs with
    | [w0], _ => exact ⟨w0, rfl⟩
  have hw := fun d (hd : d ∈ tables_1) => atoms_spec (ws := Jvm.Cond.code x code maxLocals ret :: tables_1) hat d (List.mem_cons_of_mem _ hd)
  have hfit : Fit s := fun {y c} hc i hi => by
    obtain ⟨ha, rfl⟩ := Array.getElem?_eq_some_iff.mp hc
    have q := List.all_eq_true.mp ((Array.all_eq_true_iff_forall_mem.mp hF) _ (Array.getElem_mem ha)) i (List.mem_range.mpr hi)
    simpa [Array.getElem?_eq_getElem hi] using q
  obtain ⟨hsets, hown0⟩ := atoms_of _ (rest_1_c_eq ▸ (show rest_1_c.before _ s = true from hrest))
  have hr0 := Cond.before_iff.mp hown0
  obtain ⟨i0, ei0⟩ := is_v hg0r
  obtain rfl : w0 = (.int i0) := Option.some.inj ei0
  obtain ⟨ne1_x, r1_0⟩ := and_e hn
  obtain ⟨ne1_lx, r1_1⟩ := and_e r1_0
  obtain ⟨ne1_co, r1_2⟩ := and_e r1_1
  obtain ⟨ne1_ar, r1_3⟩ := and_e r1_2
  obtain ⟨ne1_ln, r1_4⟩ := and_e r1_3
  obtain ⟨ne1_e0, r1_5⟩ := and_e r1_4
  obtain ⟨ne1_e1, r1_6⟩ := and_e r1_5
  obtain ⟨b1, eb1⟩ := exa_v ne1_x
  obtain ⟨a1, ea1⟩ := exa_v ne1_lx
  obtain ⟨v1, ev1⟩ := arr_v ne1_ar
  have S1 : Sta s s.heap "com/example/roadeq/roadeq/assign/Objective" "UE" "Lcom/example/roadeq/roadeq/assign/Objective;" (.ref b1) := Sta.start eb1 (Or.inr ⟨(hw _ (List.mem_of_getElem? (i := 1) rfl)), (hw _ (List.mem_of_getElem? (i := 2) rfl))⟩)
  have E1 := Exa.start eb1 ne1_x
  have L1 : Fld s s.heap b1 "com/example/roadeq/roadeq/assign/Objective" "label" "Ljava/lang/String;" (.ref a1) := Fld.start ((fld_at eb1).symm.trans ea1)
  have EA1 := Exa.start ea1 ne1_lx
  have C1 : Fld s s.heap a1 "java/lang/String" "coder" "B" (.int (0 : Int32)) := Fld.start ((fld_at ea1).symm.trans (own_eI ne1_co))
  have V1 : Fld s s.heap a1 "java/lang/String" "value" "[B" (.ref v1) := Fld.start ((fld_at ea1).symm.trans ev1)
  obtain ⟨kv1, A1⟩ := own_arv (c0 := (117 : Int32)) (c1 := (101 : Int32)) hfit ev1 ne1_ar (own_eI ne1_ln) (own_eI ne1_e0) (own_eI ne1_e1)
  obtain ⟨ne2_x, r2_0⟩ := and_e r1_6
  obtain ⟨ne2_lx, r2_1⟩ := and_e r2_0
  obtain ⟨ne2_co, r2_2⟩ := and_e r2_1
  obtain ⟨ne2_ar, r2_3⟩ := and_e r2_2
  obtain ⟨ne2_ln, r2_4⟩ := and_e r2_3
  obtain ⟨ne2_e0, r2_5⟩ := and_e r2_4
  have ne2_e1 := r2_5
  obtain ⟨b2, eb2⟩ := exa_v ne2_x
  obtain ⟨a2, ea2⟩ := exa_v ne2_lx
  obtain ⟨v2, ev2⟩ := arr_v ne2_ar
  have S2 : Sta s s.heap "com/example/roadeq/roadeq/assign/Objective" "SO" "Lcom/example/roadeq/roadeq/assign/Objective;" (.ref b2) := Sta.start eb2 (Or.inr ⟨(hw _ (List.mem_of_getElem? (i := 1) rfl)), (hw _ (List.mem_of_getElem? (i := 39) rfl))⟩)
  have E2 := Exa.start eb2 ne2_x
  have L2 : Fld s s.heap b2 "com/example/roadeq/roadeq/assign/Objective" "label" "Ljava/lang/String;" (.ref a2) := Fld.start ((fld_at eb2).symm.trans ea2)
  have EA2 := Exa.start ea2 ne2_lx
  have C2 : Fld s s.heap a2 "java/lang/String" "coder" "B" (.int (0 : Int32)) := Fld.start ((fld_at ea2).symm.trans (own_eI ne2_co))
  have V2 : Fld s s.heap a2 "java/lang/String" "value" "[B" (.ref v2) := Fld.start ((fld_at ea2).symm.trans ev2)
  obtain ⟨kv2, A2⟩ := own_arv (c0 := (115 : Int32)) (c1 := (111 : Int32)) hfit ev2 ne2_ar (own_eI ne2_ln) (own_eI ne2_e0) (own_eI ne2_e1)
  have n5 := not_v (Cond.before_iff.mp (hsets _ (List.mem_of_getElem? (i := 2) rfl)))
  obtain ⟨j1, ej1⟩ := is_v (Cond.before_iff.mp (hsets _ (List.mem_of_getElem? (i := 1) rfl)))
  have S12 : Sta s s.heap "java/lang/String" "COMPACT_STRINGS" "Z" (.int j1) := Sta.start ej1 (Or.inl (hsets _ (List.mem_of_getElem? (i := 0) rfl)))
  have c17 : ¬ (j1 = (0 : Int32)) := gotF (Cond.eq_ints ej1 (Term.int_eval (0))) n5
  obtain ⟨n, o, h1, h2, h3, _, L, rfl, ⟨rfl, N⟩, hq⟩ := rm0 l s _ hw tables_1 i0 b1 a1 v1 b2 a2 v2 kv1 kv2 j1 s.heap s.heap.size (Nat.le_refl _) S1 E1 L1 EA1 C1 V1 A1 S2 E2 L2 EA2 C2 V2 A2 S12 c17 (hsets _ (List.mem_of_getElem? (i := 2) rfl)) (hcalls.1 _ (List.mem_cons_self ..)) rfl p e ha hc hk s m _ below hf ((Spec.applies_iff_loose hf).mp happ).1 ⟨rfl, State.Warmed39.refl s, rfl, rfl⟩ trivial
  refine ⟨n, _, h1, h2, h3, hpost _ _ _ _ _ _ ⟨Cond.after_iff.mpr rfl, Cond.after_iff.mpr (eq_i res_at (Term.int_eval (1)) rfl), trivial⟩ ⟨hq.1, hq.2.1, hq.2.2.1, (hq.2.2.2.sift fun y hy => Or.inr (N y hy)).mono (by decide) (by decide)⟩⟩
theorem main_1_1 : Claimed_1_1 := comes_1 fun _ _ _ _ _ _ h hF => ⟨h.1, hF⟩
theorem main_1_2 : Claimed_1_2 := comes_1 fun _ _ _ _ _ _ h hF => ⟨h.2.1, hF⟩
end Jvm.Pilot.@@N@@
namespace Jvm.Pilot.@@N@@
open Jvm Jvm.ClassFile Sem Op Lib Jvm.Free Jvm.Stand Jvm.Pilot.@@N@@.Jvm.D
/-! MADE BY PROGRAM (witnessworld.py) out of the Statement's table words and the real class files: 20 classes; the members and pool entries that the words name. The judged class is class 1, her method 1. -/
namespace start1
open Jvm.ClassFile
def u (s : String) : CpInfo := .utf8 (stringToUtf16 s)
/-- a pool by its gaps: so many unusable entries, then the entry; so many at the end -/
def gap : Nat → List CpInfo → List CpInfo
  | 0, r => r
  | n + 1, r => .unusable :: gap n r
def poolList (es : List (Nat × CpInfo)) (last : Nat) : List CpInfo := es.foldr (fun e r => gap e.1 (e.2 :: r)) (gap last [])
def pool (es : List (Nat × CpInfo)) (last : Nat) : Array CpInfo := ⟨poolList es last⟩
def fileOf (pool : Array CpInfo) (this : Nat) (attrs : Array Attribute := #[]) (ms : Array MethodInfo := #[]) (fl : Nat := 33) (sup : Nat := 0) (ifs : Array Nat := #[]) (fds : Array FieldInfo := #[]) : ClassFile where
  minorVersion := 0
  majorVersion := 65
  constantPool := pool
  accessFlags := fl
  thisClass := this
  superClass := sup
  interfaces := ifs
  fields := fds
  methods := ms
  attributes := attrs
def plain (name : String) (sup : Option ClassId) : Class where
  name := name
  kind := .ordinary
  loader := none
  accessFlags := 33
  super := sup
  interfaces := #[]
  cf := none
  fields := #[]
  methods := #[]
  instanceTypes := #[]
  staticTypes := #[]
  resolved := #[]
  callSites := []
  init := .initialized
  statics := none
  mirror := none

def pool0 : Array CpInfo := pool [(5, u "<init>"), (0, u "()V"), (1, .class_ 10), (1, u "java/lang/Object")] 113

def k0m0 : Method := { name := "<init>", desc := "()V", sig := { parameters := [], returnType := none }, accessFlags := 1, code := none }
/-- java/lang/Object -/
def k0 : Class := { plain "java/lang/Object" none with
  accessFlags := 33
  interfaces := #[]
  cf := some (fileOf pool0 8 #[] #[{ accessFlags := 1, nameIndex := 5, descriptorIndex := 6, attributes := #[] }] 33 0 #[] #[])
  fields := #[]
  methods := #[k0m0]
  instanceTypes := #[]
  staticTypes := #[]
  resolved := Array.replicate 124 none
  statics := none }

def pool1 : Array CpInfo := pool [(2, .class_ 4), (1, u "java/lang/Object"), (0, u "<init>"), (0, u "()V"), (0, .fieldref 8 9), (0, .class_ 10), (0, .nameAndType 11 12), (0, u "com/example/roadeq/roadeq/assign/Objective"), (0, u "UE"), (0, u "Lcom/example/roadeq/roadeq/assign/Objective;"), (0, .fieldref 8 14), (0, .nameAndType 15 12), (0, u "SO"), (0, .methodref 8 17), (0, .nameAndType 18 19), (0, u "label"), (0, u "()Ljava/lang/String;"), (0, .string 21), (0, u "ue"), (0, .methodref 23 24), (0, .class_ 25), (0, .nameAndType 26 27), (0, u "java/lang/String"), (0, u "equals"), (0, u "(Ljava/lang/Object;)Z"), (0, .methodref 8 29), (0, .nameAndType 30 31), (0, u "routesOnLinkCosts"), (0, u "()Z"), (0, .class_ 33), (0, u "com/example/roadeq/roadeq/assign/ObjectiveRoutesOnLinkCostsPinLaw"), (2, u "law"), (0, u "(I)Z")] 3

def k1m0 : Method := { name := "<init>", desc := "()V", sig := { parameters := [], returnType := none }, accessFlags := 2, code := none }
def k1c1 : Code := { maxStack := 2, maxLocals := 5, code := code, exceptionTable := #[], attributes := #[] }
def k1m1 : Method := { name := "law", desc := "(I)Z", sig := { parameters := [.int], returnType := some .boolean }, accessFlags := 9, code := some k1c1 }
/-- com/example/roadeq/roadeq/assign/ObjectiveRoutesOnLinkCostsPinLaw -/
def k1 : Class := { plain "com/example/roadeq/roadeq/assign/ObjectiveRoutesOnLinkCostsPinLaw" (some 0) with
  accessFlags := 49
  interfaces := #[]
  cf := some (fileOf pool1 32 #[] #[{ accessFlags := 2, nameIndex := 5, descriptorIndex := 6, attributes := #[] }, { accessFlags := 9, nameIndex := 36, descriptorIndex := 37, attributes := #[] }] 49 2 #[] #[])
  fields := #[]
  methods := #[k1m0, k1m1]
  instanceTypes := #[]
  staticTypes := #[]
  resolved := Array.replicate 41 none
  statics := none }

def pool2 : Array CpInfo := pool [(1, .class_ 2), (0, u "java/lang/constant/Constable"), (0, .class_ 4), (0, u "java/lang/Object")] 6

/-- java/lang/constant/Constable -/
def k2 : Class := { plain "java/lang/constant/Constable" (some 0) with
  accessFlags := 1537
  interfaces := #[]
  cf := some (fileOf pool2 1 #[] #[] 1537 3 #[] #[])
  fields := #[]
  methods := #[]
  instanceTypes := #[]
  staticTypes := #[]
  resolved := Array.replicate 11 none
  statics := none }

def pool3 : Array CpInfo := pool [(1, .class_ 2), (0, u "java/lang/Comparable"), (0, .class_ 4), (0, u "java/lang/Object")] 7

/-- java/lang/Comparable -/
def k3 : Class := { plain "java/lang/Comparable" (some 0) with
  accessFlags := 1537
  interfaces := #[]
  cf := some (fileOf pool3 1 #[] #[] 1537 3 #[] #[])
  fields := #[]
  methods := #[]
  instanceTypes := #[]
  staticTypes := #[]
  resolved := Array.replicate 12 none
  statics := none }

def pool4 : Array CpInfo := pool [(1, .class_ 2), (0, u "java/io/Serializable"), (0, .class_ 4), (0, u "java/lang/Object")] 2

/-- java/io/Serializable -/
def k4 : Class := { plain "java/io/Serializable" (some 0) with
  accessFlags := 1537
  interfaces := #[]
  cf := some (fileOf pool4 1 #[] #[] 1537 3 #[] #[])
  fields := #[]
  methods := #[]
  instanceTypes := #[]
  staticTypes := #[]
  resolved := Array.replicate 7 none
  statics := none }

def pool5 : Array CpInfo := pool [(2, .class_ 4), (1, u "java/lang/Enum"), (0, u "name"), (0, u "Ljava/lang/String;"), (2, u "ordinal"), (0, u "I"), (1, .class_ 14), (1, u "java/lang/Object"), (4, u "hash"), (86, .class_ 108), (1, u "java/lang/Enum$EnumDesc"), (2, .class_ 112), (0, u "java/lang/constant/Constable"), (0, .class_ 114), (0, u "java/lang/Comparable"), (0, .class_ 116), (0, u "java/io/Serializable")] 87

/-- java/lang/Enum -/
def k5 : Class := { plain "java/lang/Enum" (some 0) with
  accessFlags := 1057
  interfaces := #[2, 3, 4]
  cf := some (fileOf pool5 2 #[.nestMembers #[106]] #[] 1057 12 #[111, 113, 115] #[{ accessFlags := 18, nameIndex := 5, descriptorIndex := 6, attributes := #[] }, { accessFlags := 18, nameIndex := 9, descriptorIndex := 10, attributes := #[] }, { accessFlags := 2, nameIndex := 19, descriptorIndex := 10, attributes := #[] }])
  fields := #[{ name := "name", type := (.object "java/lang/String"), accessFlags := 18, slot := 0, constantValue := 0 }, { name := "ordinal", type := .int, accessFlags := 18, slot := 1, constantValue := 0 }, { name := "hash", type := .int, accessFlags := 2, slot := 2, constantValue := 0 }]
  methods := #[]
  instanceTypes := #[(.object "java/lang/String"), .int, .int]
  staticTypes := #[]
  resolved := Array.replicate 204 none
  statics := none }

def pool6 : Array CpInfo := pool [(1, .class_ 2), (0, u "com/example/roadeq/roadeq/assign/Objective"), (0, .fieldref 1 4), (0, .nameAndType 5 6), (0, u "UE"), (0, u "Lcom/example/roadeq/roadeq/assign/Objective;"), (2, u "SO"), (2, u "$VALUES"), (0, u "[Lcom/example/roadeq/roadeq/assign/Objective;"), (6, .class_ 22), (1, u "java/lang/Enum"), (6, .fieldref 1 30), (0, .nameAndType 31 32), (0, u "label"), (0, u "Ljava/lang/String;"), (54, .class_ 88), (0, u "com/example/roadeq/roadeq/assign/Objective$1"), (6, .class_ 96), (0, u "com/example/roadeq/roadeq/assign/Objective$2"), (13, u "()Ljava/lang/String;"), (6, u "routesOnLinkCosts"), (0, u "()Z")] 34

def k6c0 : Code := { maxStack := 1, maxLocals := 1, code := prog_36_method_4_code, exceptionTable := #[], attributes := #[] }
def k6m0 : Method := { name := "label", desc := "()Ljava/lang/String;", sig := { parameters := [], returnType := some (.object "java/lang/String") }, accessFlags := 1, code := some k6c0 }
def k6c1 : Code := { maxStack := 2, maxLocals := 1, code := prog_36_method_7_code, exceptionTable := #[], attributes := #[] }
def k6m1 : Method := { name := "routesOnLinkCosts", desc := "()Z", sig := { parameters := [], returnType := some .boolean }, accessFlags := 0, code := some k6c1 }
/-- com/example/roadeq/roadeq/assign/Objective -/
def k6 : Class := { plain "com/example/roadeq/roadeq/assign/Objective" (some 5) with
  accessFlags := 17441
  interfaces := #[]
  cf := some (fileOf pool6 1 #[.nestMembers #[95, 87]] #[{ accessFlags := 1, nameIndex := 31, descriptorIndex := 110, attributes := #[] }, { accessFlags := 0, nameIndex := 117, descriptorIndex := 118, attributes := #[] }] 17441 20 #[] #[{ accessFlags := 16409, nameIndex := 5, descriptorIndex := 6, attributes := #[] }, { accessFlags := 16409, nameIndex := 9, descriptorIndex := 6, attributes := #[] }, { accessFlags := 18, nameIndex := 31, descriptorIndex := 32, attributes := #[] }, { accessFlags := 4122, nameIndex := 12, descriptorIndex := 13, attributes := #[] }])
  fields := #[{ name := "UE", type := (.object "com/example/roadeq/roadeq/assign/Objective"), accessFlags := 16409, slot := 0, constantValue := 0 }, { name := "SO", type := (.object "com/example/roadeq/roadeq/assign/Objective"), accessFlags := 16409, slot := 1, constantValue := 0 }, { name := "label", type := (.object "java/lang/String"), accessFlags := 18, slot := 3, constantValue := 0 }, { name := "$VALUES", type := (.array (.object "com/example/roadeq/roadeq/assign/Objective")), accessFlags := 4122, slot := 2, constantValue := 0 }]
  methods := #[k6m0, k6m1]
  instanceTypes := #[(.object "java/lang/String"), .int, .int, (.object "java/lang/String")]
  staticTypes := #[(.object "com/example/roadeq/roadeq/assign/Objective"), (.object "com/example/roadeq/roadeq/assign/Objective"), (.array (.object "com/example/roadeq/roadeq/assign/Objective"))]
  resolved := Array.replicate 153 none
  statics := some 0 }

def pool7 : Array CpInfo := pool [(2, .class_ 4), (1, u "com/example/roadeq/roadeq/assign/Objective"), (14, .class_ 20), (0, u "com/example/roadeq/roadeq/assign/Objective$1")] 10

/-- com/example/roadeq/roadeq/assign/Objective$1 -/
def k7 : Class := { plain "com/example/roadeq/roadeq/assign/Objective$1" (some 6) with
  accessFlags := 16432
  interfaces := #[]
  cf := some (fileOf pool7 19 #[.nestHost 2] #[] 16432 2 #[] #[])
  fields := #[]
  methods := #[]
  instanceTypes := #[(.object "java/lang/String"), .int, .int, (.object "java/lang/String")]
  staticTypes := #[]
  resolved := Array.replicate 31 none
  statics := none }

def pool8 : Array CpInfo := pool [(2, .class_ 4), (1, u "java/lang/CharSequence"), (42, .class_ 48), (0, u "java/lang/CharSequence$1CodePointIterator"), (10, .class_ 60), (0, u "java/lang/CharSequence$1CharIterator"), (5, .class_ 67), (0, u "java/lang/Object")] 63

/-- java/lang/CharSequence -/
def k8 : Class := { plain "java/lang/CharSequence" (some 0) with
  accessFlags := 1537
  interfaces := #[]
  cf := some (fileOf pool8 2 #[.nestMembers #[47, 59]] #[] 1537 66 #[] #[])
  fields := #[]
  methods := #[]
  instanceTypes := #[]
  staticTypes := #[]
  resolved := Array.replicate 131 none
  statics := none }

def pool9 : Array CpInfo := pool [(1, .class_ 2), (0, u "java/lang/constant/ConstantDesc"), (0, .class_ 4), (0, u "java/lang/Object")] 32

/-- java/lang/constant/ConstantDesc -/
def k9 : Class := { plain "java/lang/constant/ConstantDesc" (some 0) with
  accessFlags := 1537
  interfaces := #[]
  cf := some (fileOf pool9 1 #[] #[] 1537 3 #[] #[])
  fields := #[]
  methods := #[]
  instanceTypes := #[]
  staticTypes := #[]
  resolved := Array.replicate 37 none
  statics := none }

def pool10 : Array CpInfo := pool [(2, .class_ 4), (1, u "java/lang/Object"), (0, u "<init>"), (0, u "()V"), (2, .fieldref 10 11), (0, .class_ 12), (0, .nameAndType 13 14), (0, u "java/lang/String"), (0, u "value"), (0, u "[B"), (0, .fieldref 10 16), (0, .nameAndType 17 18), (0, u "coder"), (0, u "B"), (2, u "hash"), (0, u "I"), (2, u "hashIsZero"), (0, u "Z"), (11, .fieldref 10 39), (0, .nameAndType 40 26), (0, u "COMPACT_STRINGS"), (66, .class_ 109), (1, u "java/lang/StringLatin1"), (431, .methodref 107 542), (0, .nameAndType 543 544), (0, u "equals"), (0, u "([B[B)Z"), (28, u "(Ljava/lang/Object;)Z"), (1, .class_ 576), (0, u "java/lang/CharSequence"), (22, u "CASE_INSENSITIVE_ORDER"), (0, u "Ljava/util/Comparator;"), (500, u "serialPersistentFields"), (0, u "[Ljava/io/ObjectStreamField;"), (0, .class_ 1104), (0, u "java/lang/String$CaseInsensitiveComparator"), (1, .class_ 1107), (0, u "java/io/Serializable"), (0, .class_ 1109), (0, u "java/lang/Comparable"), (0, .class_ 1111), (0, u "java/lang/constant/Constable"), (0, .class_ 1113), (0, u "java/lang/constant/ConstantDesc"), (2, u "serialVersionUID"), (0, u "J"), (3, u "REPL"), (0, u "C"), (2, u "LATIN1"), (1, u "UTF16")] 323

def k10m0 : Method := { name := "<init>", desc := "()V", sig := { parameters := [], returnType := none }, accessFlags := 1, code := none }
def k10c1 : Code := { maxStack := 2, maxLocals := 3, code := jdk_42_method_66_code, exceptionTable := #[], attributes := #[] }
def k10m1 : Method := { name := "equals", desc := "(Ljava/lang/Object;)Z", sig := { parameters := [(.object "java/lang/Object")], returnType := some .boolean }, accessFlags := 1, code := some k10c1 }
/-- java/lang/String -/
def k10 : Class := { plain "java/lang/String" (some 0) with
  accessFlags := 49
  interfaces := #[4, 3, 8, 2, 9]
  cf := some (fileOf pool10 10 #[.nestMembers #[1103]] #[{ accessFlags := 1, nameIndex := 5, descriptorIndex := 6, attributes := #[] }, { accessFlags := 1, nameIndex := 543, descriptorIndex := 573, attributes := #[] }] 49 2 #[1106, 1108, 575, 1110, 1112] #[{ accessFlags := 18, nameIndex := 13, descriptorIndex := 14, attributes := #[] }, { accessFlags := 18, nameIndex := 17, descriptorIndex := 18, attributes := #[] }, { accessFlags := 2, nameIndex := 21, descriptorIndex := 22, attributes := #[] }, { accessFlags := 2, nameIndex := 25, descriptorIndex := 26, attributes := #[] }, { accessFlags := 26, nameIndex := 1116, descriptorIndex := 1117, attributes := #[] }, { accessFlags := 24, nameIndex := 40, descriptorIndex := 26, attributes := #[] }, { accessFlags := 26, nameIndex := 1101, descriptorIndex := 1102, attributes := #[] }, { accessFlags := 26, nameIndex := 1121, descriptorIndex := 1122, attributes := #[] }, { accessFlags := 25, nameIndex := 599, descriptorIndex := 600, attributes := #[] }, { accessFlags := 24, nameIndex := 1125, descriptorIndex := 18, attributes := #[] }, { accessFlags := 24, nameIndex := 1127, descriptorIndex := 18, attributes := #[] }])
  fields := #[{ name := "value", type := (.array .byte), accessFlags := 18, slot := 0, constantValue := 0 }, { name := "coder", type := .byte, accessFlags := 18, slot := 1, constantValue := 0 }, { name := "hash", type := .int, accessFlags := 2, slot := 2, constantValue := 0 }, { name := "hashIsZero", type := .boolean, accessFlags := 2, slot := 3, constantValue := 0 }, { name := "serialVersionUID", type := .long, accessFlags := 26, slot := 0, constantValue := 0 }, { name := "COMPACT_STRINGS", type := .boolean, accessFlags := 24, slot := 1, constantValue := 0 }, { name := "serialPersistentFields", type := (.array (.object "java/io/ObjectStreamField")), accessFlags := 26, slot := 2, constantValue := 0 }, { name := "REPL", type := .char, accessFlags := 26, slot := 3, constantValue := 0 }, { name := "CASE_INSENSITIVE_ORDER", type := (.object "java/util/Comparator"), accessFlags := 25, slot := 4, constantValue := 0 }, { name := "LATIN1", type := .byte, accessFlags := 24, slot := 5, constantValue := 0 }, { name := "UTF16", type := .byte, accessFlags := 24, slot := 6, constantValue := 0 }]
  methods := #[k10m0, k10m1]
  instanceTypes := #[(.array .byte), .byte, .int, .boolean]
  staticTypes := #[.long, .boolean, (.array (.object "java/io/ObjectStreamField")), .char, (.object "java/util/Comparator"), .byte, .byte]
  resolved := Array.replicate 1451 none
  statics := some 1 }

def pool11 : Array CpInfo := pool [(4, .class_ 6), (1, u "java/lang/Object"), (0, u "<init>"), (0, u "()V"), (5, .class_ 16), (1, u "java/lang/StringLatin1"), (104, u "$assertionsDisabled"), (0, u "Z"), (98, .class_ 223), (1, u "java/lang/StringLatin1$LinesSpliterator"), (57, u "equals"), (0, u "([B[B)Z"), (107, .class_ 391), (0, u "java/lang/StringLatin1$CharsSpliterator")] 3

def k11m0 : Method := { name := "<init>", desc := "()V", sig := { parameters := [], returnType := none }, accessFlags := 0, code := none }
def k11c1 : Code := { maxStack := 3, maxLocals := 3, code := jdk_43_method_13_code, exceptionTable := #[], attributes := #[] }
def k11m1 : Method := { name := "equals", desc := "([B[B)Z", sig := { parameters := [(.array .byte), (.array .byte)], returnType := some .boolean }, accessFlags := 9, code := some k11c1 }
/-- java/lang/StringLatin1 -/
def k11 : Class := { plain "java/lang/StringLatin1" (some 0) with
  accessFlags := 48
  interfaces := #[]
  cf := some (fileOf pool11 14 #[.nestMembers #[390, 221]] #[{ accessFlags := 0, nameIndex := 7, descriptorIndex := 8, attributes := #[] }, { accessFlags := 9, nameIndex := 281, descriptorIndex := 282, attributes := #[] }] 48 4 #[] #[{ accessFlags := 4120, nameIndex := 121, descriptorIndex := 122, attributes := #[] }])
  fields := #[{ name := "$assertionsDisabled", type := .boolean, accessFlags := 4120, slot := 0, constantValue := 0 }]
  methods := #[k11m0, k11m1]
  instanceTypes := #[]
  staticTypes := #[.boolean]
  resolved := Array.replicate 395 none
  statics := none }

def pool12 : Array CpInfo := pool [(2, .class_ 4), (1, u "com/example/roadeq/roadeq/assign/Objective"), (14, .class_ 20), (0, u "com/example/roadeq/roadeq/assign/Objective$2")] 11

/-- com/example/roadeq/roadeq/assign/Objective$2 -/
def k12 : Class := { plain "com/example/roadeq/roadeq/assign/Objective$2" (some 6) with
  accessFlags := 16432
  interfaces := #[]
  cf := some (fileOf pool12 19 #[.nestHost 2] #[] 16432 2 #[] #[])
  fields := #[]
  methods := #[]
  instanceTypes := #[(.object "java/lang/String"), .int, .int, (.object "java/lang/String")]
  staticTypes := #[]
  resolved := Array.replicate 32 none
  statics := none }

def pool13 : Array CpInfo := pool [(2, .class_ 4), (1, u "java/lang/Object"), (0, u "<init>"), (0, u "()V"), (17, .class_ 26), (1, u "jdk/internal/util/Preconditions"), (28, .class_ 56), (0, u "jdk/internal/util/Preconditions$4"), (57, .class_ 115), (0, u "jdk/internal/util/Preconditions$1"), (7, u "SIOOBE_FORMATTER"), (0, u "Ljava/util/function/BiFunction;"), (0, .class_ 126), (0, u "jdk/internal/util/Preconditions$2"), (3, u "AIOOBE_FORMATTER"), (0, .class_ 132), (0, u "jdk/internal/util/Preconditions$3"), (3, u "IOOBE_FORMATTER")] 57

def k13m0 : Method := { name := "<init>", desc := "()V", sig := { parameters := [], returnType := none }, accessFlags := 1, code := none }
/-- jdk/internal/util/Preconditions -/
def k13 : Class := { plain "jdk/internal/util/Preconditions" (some 0) with
  accessFlags := 33
  interfaces := #[]
  cf := some (fileOf pool13 24 #[.nestMembers #[55, 131, 125, 114]] #[{ accessFlags := 1, nameIndex := 5, descriptorIndex := 6, attributes := #[] }] 33 2 #[] #[{ accessFlags := 25, nameIndex := 123, descriptorIndex := 124, attributes := #[] }, { accessFlags := 25, nameIndex := 130, descriptorIndex := 124, attributes := #[] }, { accessFlags := 25, nameIndex := 136, descriptorIndex := 124, attributes := #[] }])
  fields := #[{ name := "SIOOBE_FORMATTER", type := (.object "java/util/function/BiFunction"), accessFlags := 25, slot := 0, constantValue := 0 }, { name := "AIOOBE_FORMATTER", type := (.object "java/util/function/BiFunction"), accessFlags := 25, slot := 1, constantValue := 0 }, { name := "IOOBE_FORMATTER", type := (.object "java/util/function/BiFunction"), accessFlags := 25, slot := 2, constantValue := 0 }]
  methods := #[k13m0]
  instanceTypes := #[]
  staticTypes := #[(.object "java/util/function/BiFunction"), (.object "java/util/function/BiFunction"), (.object "java/util/function/BiFunction")]
  resolved := Array.replicate 194 none
  statics := some 2 }

def pool14 : Array CpInfo := pool [(9, u "<init>"), (6, .class_ 18), (1, u "java/lang/Object"), (0, u "()V"), (1, .class_ 23), (1, u "jdk/internal/util/ArraysSupport"), (0, u "LOG2_ARRAY_LONG_INDEX_SCALE"), (0, u "I"), (2, u "U"), (0, u "Ljdk/internal/misc/Unsafe;"), (8, u "BIG_ENDIAN"), (0, u "Z"), (8, u "LOG2_BYTE_BIT_SIZE"), (4, u "LOG2_ARRAY_INT_INDEX_SCALE"), (54, u "JLA"), (0, u "Ljdk/internal/access/JavaLangAccess;"), (11, u "LOG2_ARRAY_BOOLEAN_INDEX_SCALE"), (9, u "LOG2_ARRAY_BYTE_INDEX_SCALE"), (5, u "LOG2_ARRAY_CHAR_INDEX_SCALE"), (5, u "LOG2_ARRAY_SHORT_INDEX_SCALE"), (18, u "LOG2_ARRAY_FLOAT_INDEX_SCALE"), (24, u "LOG2_ARRAY_DOUBLE_INDEX_SCALE"), (89, u "T_BOOLEAN"), (2, u "T_CHAR"), (1, u "T_FLOAT"), (1, u "T_DOUBLE"), (1, u "T_BYTE"), (1, u "T_SHORT"), (1, u "T_INT"), (1, u "T_LONG"), (1, u "SOFT_MAX_ARRAY_LENGTH")] 83

def k14m0 : Method := { name := "<init>", desc := "()V", sig := { parameters := [], returnType := none }, accessFlags := 2, code := none }
/-- jdk/internal/util/ArraysSupport -/
def k14 : Class := { plain "jdk/internal/util/ArraysSupport" (some 0) with
  accessFlags := 33
  interfaces := #[]
  cf := some (fileOf pool14 21 #[] #[{ accessFlags := 2, nameIndex := 9, descriptorIndex := 19, attributes := #[] }] 33 16 #[] #[{ accessFlags := 24, nameIndex := 28, descriptorIndex := 29, attributes := #[] }, { accessFlags := 26, nameIndex := 38, descriptorIndex := 39, attributes := #[] }, { accessFlags := 25, nameIndex := 121, descriptorIndex := 25, attributes := #[] }, { accessFlags := 25, nameIndex := 131, descriptorIndex := 25, attributes := #[] }, { accessFlags := 25, nameIndex := 137, descriptorIndex := 25, attributes := #[] }, { accessFlags := 25, nameIndex := 143, descriptorIndex := 25, attributes := #[] }, { accessFlags := 25, nameIndex := 53, descriptorIndex := 25, attributes := #[] }, { accessFlags := 25, nameIndex := 24, descriptorIndex := 25, attributes := #[] }, { accessFlags := 25, nameIndex := 162, descriptorIndex := 25, attributes := #[] }, { accessFlags := 25, nameIndex := 187, descriptorIndex := 25, attributes := #[] }, { accessFlags := 26, nameIndex := 48, descriptorIndex := 25, attributes := #[] }, { accessFlags := 25, nameIndex := 277, descriptorIndex := 25, attributes := #[] }, { accessFlags := 25, nameIndex := 280, descriptorIndex := 25, attributes := #[] }, { accessFlags := 25, nameIndex := 282, descriptorIndex := 25, attributes := #[] }, { accessFlags := 25, nameIndex := 284, descriptorIndex := 25, attributes := #[] }, { accessFlags := 25, nameIndex := 286, descriptorIndex := 25, attributes := #[] }, { accessFlags := 25, nameIndex := 288, descriptorIndex := 25, attributes := #[] }, { accessFlags := 25, nameIndex := 290, descriptorIndex := 25, attributes := #[] }, { accessFlags := 25, nameIndex := 292, descriptorIndex := 25, attributes := #[] }, { accessFlags := 26, nameIndex := 108, descriptorIndex := 109, attributes := #[] }, { accessFlags := 25, nameIndex := 294, descriptorIndex := 25, attributes := #[] }])
  fields := #[{ name := "U", type := (.object "jdk/internal/misc/Unsafe"), accessFlags := 24, slot := 0, constantValue := 0 }, { name := "BIG_ENDIAN", type := .boolean, accessFlags := 26, slot := 1, constantValue := 0 }, { name := "LOG2_ARRAY_BOOLEAN_INDEX_SCALE", type := .int, accessFlags := 25, slot := 2, constantValue := 0 }, { name := "LOG2_ARRAY_BYTE_INDEX_SCALE", type := .int, accessFlags := 25, slot := 3, constantValue := 0 }, { name := "LOG2_ARRAY_CHAR_INDEX_SCALE", type := .int, accessFlags := 25, slot := 4, constantValue := 0 }, { name := "LOG2_ARRAY_SHORT_INDEX_SCALE", type := .int, accessFlags := 25, slot := 5, constantValue := 0 }, { name := "LOG2_ARRAY_INT_INDEX_SCALE", type := .int, accessFlags := 25, slot := 6, constantValue := 0 }, { name := "LOG2_ARRAY_LONG_INDEX_SCALE", type := .int, accessFlags := 25, slot := 7, constantValue := 0 }, { name := "LOG2_ARRAY_FLOAT_INDEX_SCALE", type := .int, accessFlags := 25, slot := 8, constantValue := 0 }, { name := "LOG2_ARRAY_DOUBLE_INDEX_SCALE", type := .int, accessFlags := 25, slot := 9, constantValue := 0 }, { name := "LOG2_BYTE_BIT_SIZE", type := .int, accessFlags := 26, slot := 10, constantValue := 0 }, { name := "T_BOOLEAN", type := .int, accessFlags := 25, slot := 11, constantValue := 0 }, { name := "T_CHAR", type := .int, accessFlags := 25, slot := 12, constantValue := 0 }, { name := "T_FLOAT", type := .int, accessFlags := 25, slot := 13, constantValue := 0 }, { name := "T_DOUBLE", type := .int, accessFlags := 25, slot := 14, constantValue := 0 }, { name := "T_BYTE", type := .int, accessFlags := 25, slot := 15, constantValue := 0 }, { name := "T_SHORT", type := .int, accessFlags := 25, slot := 16, constantValue := 0 }, { name := "T_INT", type := .int, accessFlags := 25, slot := 17, constantValue := 0 }, { name := "T_LONG", type := .int, accessFlags := 25, slot := 18, constantValue := 0 }, { name := "JLA", type := (.object "jdk/internal/access/JavaLangAccess"), accessFlags := 26, slot := 19, constantValue := 0 }, { name := "SOFT_MAX_ARRAY_LENGTH", type := .int, accessFlags := 25, slot := 20, constantValue := 0 }]
  methods := #[k14m0]
  instanceTypes := #[]
  staticTypes := #[(.object "jdk/internal/misc/Unsafe"), .boolean, .int, .int, .int, .int, .int, .int, .int, .int, .int, .int, .int, .int, .int, .int, .int, .int, .int, (.object "jdk/internal/access/JavaLangAccess"), .int]
  resolved := Array.replicate 378 none
  statics := none }

def pool15 : Array CpInfo := pool [(1, u "java/lang/Cloneable"), (0, .class_ 1), (0, u "java/lang/Object"), (0, .class_ 3)] 3

/-- java/lang/Cloneable -/
def k15 : Class := { plain "java/lang/Cloneable" (some 0) with
  accessFlags := 1537
  interfaces := #[]
  cf := some (fileOf pool15 2 #[] #[] 1537 4 #[] #[])
  fields := #[]
  methods := #[]
  instanceTypes := #[]
  staticTypes := #[]
  resolved := Array.replicate 8 none
  statics := none }

/-- the primitive byte -/
def k16 : Class := { plain "byte" none with kind := .primitive 'B', accessFlags := 0x411 }
/-- [B -/
def k17 : Class := { plain "[B" (some 0) with kind := .array 16 .byte, interfaces := #[15, 4], accessFlags := 1041 }

/-- the primitive int -/
def k18 : Class := { plain "int" none with kind := .primitive 'I', accessFlags := 0x411 }
/-- [I -/
def k19 : Class := { plain "[I" (some 0) with kind := .array 18 .int, interfaces := #[15, 4], accessFlags := 1041 }

def heap : Heap := #[{ cls := 6, slots := #[.ref 5, .ref 8, .null], vm := .statics 6 },
  { cls := 10, slots := #[.long 0, .int 1, .null, .int 0, .null, .int 0, .int 0], vm := .statics 10 },
  { cls := 13, slots := #[.null, .null, .null], vm := .statics 13 },
  { cls := 17, slots := #[.int 117, .int 101], vm := .none },
  { cls := 10, slots := #[.ref 3, .int 0, .int 0, .int 0], vm := .none },
  { cls := 7, slots := #[.null, .int 0, .int 0, .ref 4], vm := .none },
  { cls := 17, slots := #[.int 115, .int 111], vm := .none },
  { cls := 10, slots := #[.ref 6, .int 0, .int 0, .int 0], vm := .none },
  { cls := 12, slots := #[.null, .int 1, .int 0, .ref 7], vm := .none }]
def classes : Array Class := #[k0, k1, k2, k3, k4, k5, k6, k7, k8, k9, k10, k11, k12, k13, k14, k15, k16, k17, k18, k19]
def interned : List (Array UInt16 × Addr) := []
def slotsUsed : Nat := 33
def theMethod : MethodId := ⟨1, 1⟩
def args0 : Array Value := #[.int 5]
def aboutOver (below : List Frame) : State where
  vm := { classes := classes, interned := interned.toArray }
  heap := heap
  slotsUsed := slotsUsed
  threads := #[{ frames := .invoking theMethod args0 :: below }]
def below0 : List Frame := [.native { method := ⟨0, 0⟩, args := #[] }]
def about1 : State := aboutOver below0
def p0 : Program := .bare "" "" ""
def e0 : Env := launch0.env 0 0 0
theorem w_frames : about1.frames = Frame.invoking theMethod args0 :: below0 := rfl
set_option maxRecDepth 65536 in
theorem w_args : argsFit about1.vm theMethod args0 = true := by decide +kernel
set_option maxRecDepth 65536 in
theorem w_heap : heapFits about1 = true := by decide +kernel
set_option maxRecDepth 65536 in
theorem w_runnable : about1.curStatus? = some .runnable := by decide +kernel
set_option maxRecDepth 65536 in
theorem w_alone : about1.alone = true := by decide +kernel
set_option maxRecDepth 65536 in
theorem w_named : about1.methodNamed? x = some theMethod := by decide +kernel
set_option maxRecDepth 65536 in
theorem w_hears : about1.hears theMethod below0 = true := by decide +kernel
set_option maxRecDepth 65536 in
theorem w_ripe : about1.ripe theMethod args0 below0 = true := by decide +kernel
theorem w_running : about1.status = .running := rfl
set_option maxRecDepth 65536 in
theorem w_room : about1.hasRoom e0.platform room_1 = true :=
  launch0.hasRoom_least _ room_1 (by decide +kernel) (by decide +kernel) (by decide +kernel) (by decide +kernel) (by decide +kernel) (by decide +kernel)
theorem allAtoms_all (ts : List Jvm.Cond) (a : Array Jvm.Value) (st : Jvm.State) : (allAtoms ts).before a st = ts.all (fun c => c.before a st) := by
  induction ts with
  | nil => rfl
  | cons c t ih =>
    show (Jvm.Cond.and c (allAtoms t)).before a st = _
    rw [Jvm.Cond.before_and, ih, List.all_cons]
def words1 : List Jvm.Cond := Jvm.Cond.code x code maxLocals ret :: tables_1
/-- a 'code' word, met by the world's own term for the bytes: nothing is compared byte by byte -/
theorem code_word {y : MethodName} {bytes : ByteArray} {mx : Nat} {rt : Option FieldType} {a : Array Value} {s : State} {m : MethodId} {meth : Method} {c : Code} (h1 : s.methodNamed? y = some m) (h2 : s.vm.method? m = some meth) (h3 : meth.code = some c) (h4 : c.code = bytes)
    (h5 : (c.maxLocals == mx && c.exceptionTable.isEmpty && decide (c.maxStack ≤ mostOperands) && decide (meth.sig.returnType = rt) && !meth.locks && decide (parseMethodDescriptor y.desc = some meth.sig)) = true) : (Jvm.Cond.code y bytes mx rt).before a s = true := by
  simp only [Bool.and_eq_true, beq_iff_eq, Bool.not_eq_true', decide_eq_true_eq] at h5
  obtain ⟨⟨⟨⟨⟨g1, g2⟩, g3⟩, g4⟩, g5⟩, g6⟩ := h5
  simp [Cond.before, Cond.holds, Cond.value, h1, h2, h3, h4, g1, g2, g3, g4, g5, g6]
def isCode : Jvm.Cond → Bool
  | .code _ _ _ _ => true
  | _ => false
theorem all_split {L : List Jvm.Cond} {P : Jvm.Cond → Bool} (h1 : L.all (fun c => isCode c || P c) = true) (h2 : ∀ c ∈ L.filter isCode, P c = true) : L.all P = true := by
  refine List.all_eq_true.mpr fun c hc => ?_
  have h := List.all_eq_true.mp h1 c hc
  rcases Bool.eq_false_or_eq_true (isCode c) with hi | hi
  · exact h2 c (List.mem_filter.mpr ⟨hc, hi⟩)
  · simpa [hi] using h
set_option maxRecDepth 65536 in
theorem w_c0 : (Jvm.Cond.code x code maxLocals ret).before args0 about1 = true := code_word (m := ⟨1, 1⟩) (meth := k1m1) (c := k1c1) (by decide +kernel) rfl rfl rfl (by decide +kernel)
set_option maxRecDepth 65536 in
theorem w_c1 : (Jvm.Cond.code ({ cls := "com/example/roadeq/roadeq/assign/Objective", name := "label", desc := "()Ljava/lang/String;" } : Jvm.MethodName) prog_36_method_4_code (1 : Nat) (Option.some (Jvm.ClassFile.FieldType.object "java/lang/String"))).before args0 about1 = true := code_word (m := ⟨6, 0⟩) (meth := k6m0) (c := k6c0) (by decide +kernel) rfl rfl rfl (by decide +kernel)
set_option maxRecDepth 65536 in
theorem w_c2 : (Jvm.Cond.code ({ cls := "java/lang/String", name := "equals", desc := "(Ljava/lang/Object;)Z" } : Jvm.MethodName) jdk_42_method_66_code (3 : Nat) (Option.some Jvm.ClassFile.FieldType.boolean)).before args0 about1 = true := code_word (m := ⟨10, 1⟩) (meth := k10m1) (c := k10c1) (by decide +kernel) rfl rfl rfl (by decide +kernel)
set_option maxRecDepth 65536 in
theorem w_c3 : (Jvm.Cond.code ({ cls := "java/lang/StringLatin1", name := "equals", desc := "([B[B)Z" } : Jvm.MethodName) jdk_43_method_13_code (3 : Nat) (Option.some Jvm.ClassFile.FieldType.boolean)).before args0 about1 = true := code_word (m := ⟨11, 1⟩) (meth := k11m1) (c := k11c1) (by decide +kernel) rfl rfl rfl (by decide +kernel)
set_option maxRecDepth 65536 in
theorem w_c4 : (Jvm.Cond.code ({ cls := "com/example/roadeq/roadeq/assign/Objective", name := "routesOnLinkCosts", desc := "()Z" } : Jvm.MethodName) prog_36_method_7_code (1 : Nat) (Option.some Jvm.ClassFile.FieldType.boolean)).before args0 about1 = true := code_word (m := ⟨6, 1⟩) (meth := k6m1) (c := k6c1) (by decide +kernel) rfl rfl rfl (by decide +kernel)
def codes1 : List Jvm.Cond := [Jvm.Cond.code x code maxLocals ret, Jvm.Cond.code ({ cls := "com/example/roadeq/roadeq/assign/Objective", name := "label", desc := "()Ljava/lang/String;" } : Jvm.MethodName) prog_36_method_4_code (1 : Nat) (Option.some (Jvm.ClassFile.FieldType.object "java/lang/String")), Jvm.Cond.code ({ cls := "java/lang/String", name := "equals", desc := "(Ljava/lang/Object;)Z" } : Jvm.MethodName) jdk_42_method_66_code (3 : Nat) (Option.some Jvm.ClassFile.FieldType.boolean), Jvm.Cond.code ({ cls := "java/lang/StringLatin1", name := "equals", desc := "([B[B)Z" } : Jvm.MethodName) jdk_43_method_13_code (3 : Nat) (Option.some Jvm.ClassFile.FieldType.boolean), Jvm.Cond.code ({ cls := "com/example/roadeq/roadeq/assign/Objective", name := "routesOnLinkCosts", desc := "()Z" } : Jvm.MethodName) prog_36_method_7_code (1 : Nat) (Option.some Jvm.ClassFile.FieldType.boolean)]
set_option maxRecDepth 65536 in
theorem codes_eq : words1.filter isCode = codes1 := rfl
theorem w_codes : ∀ c ∈ words1.filter isCode, c.before args0 about1 = true := by
  rw [codes_eq]
  intro c hc
  simp only [codes1, List.mem_cons, List.not_mem_nil, or_false] at hc
  rcases hc with rfl | rfl | rfl | rfl | rfl
  · exact w_c0
  · exact w_c1
  · exact w_c2
  · exact w_c3
  · exact w_c4
set_option maxRecDepth 65536 in
theorem w_t1 : (words1.take 24).all (fun c => isCode c || c.before args0 about1) = true := by decide +kernel
set_option maxRecDepth 65536 in
theorem w_t2 : (words1.drop 24).all (fun c => isCode c || c.before args0 about1) = true := by decide +kernel
theorem w_tables : (allAtoms (Jvm.Cond.code x code maxLocals ret :: tables_1)).before args0 about1 = true := by
  rw [allAtoms_all]
  show words1.all (fun c => c.before args0 about1) = true
  refine all_split ?_ w_codes
  rw [← List.take_append_drop 24 words1, List.all_append, w_t1, w_t2]
  rfl
set_option maxRecDepth 65536 in
theorem w_rest : rest_1_c.before args0 about1 = true := by decide +kernel
set_option maxRecDepth 65536 in
theorem w_case : (Jvm.Cond.and given_1 narrow_1).before args0 about1 = true := by decide +kernel
set_option maxRecDepth 65536 in
theorem w_consts : constsHeld consts_1 about1 := Jvm.Lit.constsHeldB_iff.mp (by decide +kernel)
theorem w_applies : (headSpec (Jvm.Cond.code x code maxLocals ret :: tables_1) room_1).applies x e0.platform about1 = true :=
  (Spec.applies_iff w_frames).mpr ⟨w_running, w_runnable, w_alone, w_named, w_hears, w_ripe, w_room, w_tables⟩
theorem atStart : AtStart classFile x code maxLocals ret World_1 tables_1 room_1 Calls_1 rest_1 Pre_1 launch0 p0 e0 about1 theMethod args0 below0 :=
  ⟨lists_1, trivial, launch0.admits_env _ _ _, launch0.least_env, fairChoices_fair.cas, fairChoices_fair.clock, w_frames, w_args, w_heap, w_applies, ⟨w_consts, trivial⟩, w_rest, w_case⟩
end start1
theorem witness_1 : WitnessClaimed_1 := ⟨start1.p0, start1.e0, start1.about1, start1.theMethod, start1.args0, start1.below0, start1.atStart⟩
end Jvm.Pilot.@@N@@
