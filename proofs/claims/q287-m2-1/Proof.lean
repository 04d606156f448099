import JvmDerived
import JvmDerived.Pilot.@@N@@Statement
import JvmDerived.Pilot.@@N@@Code
set_option linter.unusedVariables false
set_option linter.unusedSimpArgs false
namespace Jvm.Pilot.@@N@@
open Jvm Jvm.ClassFile Sem Op Lib Jvm.Free Jvm.Stand Jvm.LawKit Jvm.RoadKit Bundle Jvm.Pilot.@@N@@.Jvm.D
/-! the goal of a walk, carried forward -/
def Goes (p : Program) (e : Env) (below : List Frame) (P : Outcome → State → Prop) (A : State) : Prop :=
  ∃ s₂ o, Steps p.tables e below A s₂ ∧ s₂.status = .running ∧ Ended s₂ below o ∧ P o s₂
theorem Goes.on {p : Program} {e : Env} {below : List Frame} {P : Outcome → State → Prop} {A B : State} (k : ∀ t, Steps p.tables e below B t → Steps p.tables e below A t) (h : Goes p e below P B) : Goes p e below P A := by
  obtain ⟨s₂, o, h1, h2⟩ := h
  exact ⟨s₂, o, k _ h1, h2⟩
theorem Goes.via {p : Program} {e : Env} {below : List Frame} {P : Outcome → State → Prop} {A B : State} (k : Goes p e below P B → Goes p e below P A) (h : Goes p e below P B) : Goes p e below P A := k h
theorem Goes.viaT {p : Program} {e : Env} {below : List Frame} {P : Outcome → State → Prop} {A : State} {Φ : State → Prop} {F : JFrame} (k : (∀ T, Φ T → Goes p e below P (T.setTop F)) → Goes p e below P A) (h : ∀ T, Φ T → Goes p e below P (T.setTop F)) : Goes p e below P A := k h
theorem Goes.leaf {p : Program} {e : Env} {below : List Frame} {P : Outcome → State → Prop} {A t : State} {o : Outcome} (h1 : Steps p.tables e below A t) (h2 : t.status = .running) (h3 : Ended t below o) (h4 : P o t) : Goes p e below P A := ⟨t, o, h1, h2, h3, h4⟩
theorem own_retI {p : Program} {l : Launch} {e : Env} {R : Room} {s : State} {m : MethodId} {args : Array Value} {below : List Frame} {meth : Method} {c : Code} {T : State} {locs : List Loc} {cells slots : Nat} (X : Stand p l e R s m args below meth c T locs cells slots) (hx : p.tables.exec = Jvm.exec) {pc : Nat} {Ls : Array Slot} {z : Int32} {rest : List Value} (hret : meth.sig.returnType = some .int) (hd : decode c.code pc = .ok (.ireturn, 1)) {fs : List Frame}
    (hl : ∀ (f : JFrame) (acts : List Action), f.method = m → f.locked = none → f.entered = [] → (doReturn e (T.setTop f) acts (some (.int z))).1 = T.setFrames fs) : Steps p.tables e below (T.setTop (mkF m pc Ls (.int z :: rest))) (T.setFrames fs) :=
  retOut X hx hret rfl (Or.inl ⟨rfl, Or.inl rfl, z, rfl⟩) hd hl
theorem own_retJ {p : Program} {l : Launch} {e : Env} {R : Room} {s : State} {m : MethodId} {args : Array Value} {below : List Frame} {meth : Method} {c : Code} {T : State} {locs : List Loc} {cells slots : Nat} (X : Stand p l e R s m args below meth c T locs cells slots) (hx : p.tables.exec = Jvm.exec) {pc : Nat} {Ls : Array Slot} {z : Int64} {rest : List Value} (hret : meth.sig.returnType = some .long) (hd : decode c.code pc = .ok (.lreturn, 1)) {fs : List Frame}
    (hl : ∀ (f : JFrame) (acts : List Action), f.method = m → f.locked = none → f.entered = [] → (doReturn e (T.setTop f) acts (some (.long z))).1 = T.setFrames fs) : Steps p.tables e below (T.setTop (mkF m pc Ls (.long z :: rest))) (T.setFrames fs) :=
  retOut X hx hret rfl (Or.inr (Or.inl ⟨rfl, rfl, z, rfl⟩)) hd hl
theorem own_retR {p : Program} {l : Launch} {e : Env} {R : Room} {s : State} {m : MethodId} {args : Array Value} {below : List Frame} {meth : Method} {c : Code} {T : State} {locs : List Loc} {cells slots : Nat} (X : Stand p l e R s m args below meth c T locs cells slots) (hx : p.tables.exec = Jvm.exec) {pc : Nat} {Ls : Array Slot} {z : Addr} {t : FieldType} {rest : List Value} (hret : meth.sig.returnType = some t) (ht : t.isReference = true) (hn : narrow t (.ref z) = .ref z) (hd : decode c.code pc = .ok (.areturn, 1)) {fs : List Frame}
    (hl : ∀ (f : JFrame) (acts : List Action), f.method = m → f.locked = none → f.entered = [] → (doReturn e (T.setTop f) acts (some (.ref z))).1 = T.setFrames fs) : Steps p.tables e below (T.setTop (mkF m pc Ls (.ref z :: rest))) (T.setFrames fs) :=
  retOut X hx hret hn (Or.inr (Or.inr (Or.inr (Or.inr ⟨rfl, ht, rfl⟩)))) hd hl
def own_ws (p0 : Int32) : Int32 := (if p0 = (32 : Int32) then (1 : Int32) else (if p0 = (9 : Int32) then (1 : Int32) else (if p0 = (13 : Int32) then (1 : Int32) else (if p0 = (10 : Int32) then (1 : Int32) else (0 : Int32)))))
theorem d1_0 : decode prog_97_method_10_code 0 = .ok (.iload_n 0, 1) := by decide +kernel
theorem d1_1 : decode prog_97_method_10_code 1 = .ok (.bipush 32, 2) := by decide +kernel
theorem d1_3 : decode prog_97_method_10_code 3 = .ok (.if_icmp .eq 21, 3) := by decide +kernel
theorem d1_6 : decode prog_97_method_10_code 6 = .ok (.iload_n 0, 1) := by decide +kernel
theorem d1_7 : decode prog_97_method_10_code 7 = .ok (.bipush 9, 2) := by decide +kernel
theorem d1_9 : decode prog_97_method_10_code 9 = .ok (.if_icmp .eq 15, 3) := by decide +kernel
theorem d1_12 : decode prog_97_method_10_code 12 = .ok (.iload_n 0, 1) := by decide +kernel
theorem d1_13 : decode prog_97_method_10_code 13 = .ok (.bipush 13, 2) := by decide +kernel
theorem d1_15 : decode prog_97_method_10_code 15 = .ok (.if_icmp .eq 9, 3) := by decide +kernel
theorem d1_18 : decode prog_97_method_10_code 18 = .ok (.iload_n 0, 1) := by decide +kernel
theorem d1_19 : decode prog_97_method_10_code 19 = .ok (.bipush 10, 2) := by decide +kernel
theorem d1_21 : decode prog_97_method_10_code 21 = .ok (.if_icmp .ne 7, 3) := by decide +kernel
theorem d1_24 : decode prog_97_method_10_code 24 = .ok (.iconst 1, 1) := by decide +kernel
theorem d1_25 : decode prog_97_method_10_code 25 = .ok (.goto 4, 3) := by decide +kernel
theorem d1_28 : decode prog_97_method_10_code 28 = .ok (.iconst 0, 1) := by decide +kernel
theorem d1_29 : decode prog_97_method_10_code 29 = .ok (.ireturn, 1) := by decide +kernel
theorem pn_1 : plainName "com/example/heirloom_archive/heirloomarchive/model/Text" = true := by first | (simp [plainName, overriddenIn]; done) | decide +kernel
theorem ef_1 (m : MethodId) (x0 : Int32) : entryFrame m #[(.int x0)] 1 = mkF m 0 #[.val (.int x0)] [] := by first | (simp [entryFrame, mkF, argsToLocals, Value.category]; done) | rfl
def Q1 (Z : State) (p0 : Int32)  (h0 : Heap) (n0 : Nat) (v : Option Value) (h : Heap) (L : List Loc) : Prop := v = some (.int (own_ws p0)) ∧ Fr n0 L ∧ h = h0
set_option maxRecDepth 65536 in
set_option maxHeartbeats 40000000 in
theorem rm1 (l : Launch) (Z : State) (a0 : Array Value) (hw : ∀ d ∈ tables_1, d.before a0 Z = true) (ws : List Jvm.Cond) (p0 : Int32)  (h0 : Heap) (n0 : Nat) (Z0 : n0 ≤ h0.size)  :
    MetFree l (⟨"com/example/heirloom_archive/heirloomarchive/model/Text", "isWhiteSpace", "(C)Z"⟩ : MethodName) (head1 (Jvm.Cond.code (⟨"com/example/heirloom_archive/heirloomarchive/model/Text", "isWhiteSpace", "(C)Z"⟩ : MethodName) prog_97_method_10_code 1 (some .boolean) :: ws) ({ frames := 0, cells := 0, slots := 0, locals := 0 } : Room)) (fun a U => a = #[(.int p0)] ∧ Z.Warmed39 U.vm ∧ U.heap = h0) (fun _ _ _ _ _ => True) (fun _ U o U' => ∃ v L, o = .returned v ∧ Q1 Z p0 h0 n0 v U'.heap L ∧ FrameEnd U o U' L ({ frames := 0, cells := 0, slots := 0, locals := 0 } : Room).cells ({ frames := 0, cells := 0, slots := 0, locals := 0 } : Room).slots) := by
  refine MetFree.of_bodySF (plainFor_of_name pn_1) hisR ?_
  intro p e s m args below meth c s₁ Bd hml0 hP hK
  obtain ⟨rfl, hZ, hh⟩ := hP
  have hx := Bd.exec
  have hby := Bd.bytes
  have hml : c.maxLocals = 1 := hml0
  have hown : s.vm.findClass "com/example/heirloom_archive/heirloomarchive/model/Text" = some m.cls := findClass_of_methodNamed Bd.named
  have hnm := (name_of_methodNamed Bd.named Bd.method).1
  have X0 : Stand p l e ({ frames := 0, cells := 0, slots := 0, locals := 0 } : Room) s m #[(.int p0)] below meth c s₁ [] 0 0 := Stand.of_body Bd
  have e0 : s₁.heap = h0 := by rw [← hh, Bd.state]; rfl
  have N0 := Fr.nil n0
  show Goes p e below _ (s₁.setTop (entryFrame m #[(.int p0)] 1))
  refine Goes.on (B := s₁.setTop (mkF m 0 #[.val (.int p0)] [])) (fun t k => castTop (ef_1 m p0) k) ?_
  refine Goes.on (B := s₁.setTop (mkF m 1 #[.val (.int p0)] [(.int p0)])) (fun _ k => XS.iloadN X0.here hx rfl (hb hby d1_0) rfl  k) ?_
  refine Goes.on (B := s₁.setTop (mkF m 3 #[.val (.int p0)] [(.int (32 : Int32)), (.int p0)])) (fun _ k => XS.bipush X0.here hx rfl (hb hby d1_1) k) ?_
  by_cases hc3_1 : p0 = (32 : Int32)
  · refine Goes.on (B := s₁.setTop (mkF m 24 #[.val (.int p0)] [])) (fun _ k => XS.icmpYes X0.here hx rfl (pc0 := 3) (pc' := 24) rfl (hb hby d1_3) rfl (teq hc3_1).1 (by decide) (by decide) k) ?_
    refine Goes.on (B := s₁.setTop (mkF m 25 #[.val (.int p0)] [(.int (1 : Int32))])) (fun _ k => XS.iconst X0.here hx rfl (hb hby d1_24) k) ?_
    refine Goes.on (B := s₁.setTop (mkF m 29 #[.val (.int p0)] [(.int (1 : Int32))])) (fun _ k => XS.goto X0.here hx rfl (pc0 := 25) (pc' := 29) rfl (hb hby d1_25) (by decide) (by decide) k) ?_
    obtain ⟨fs, hr, hrun, hended, hW, hsame⟩ := X0.leave (v := some (.int (1 : Int32))) (fun h => by rw [Bd.returns] at h; cases h)
    exact Goes.leaf (retN X0 hx (t := .boolean) Bd.returns (by simp) (hb hby d1_29) hr) hrun hended ⟨_, _, rfl, by show Q1 Z p0 h0 n0 _ s₁.heap _; rw [e0]; exact ⟨by rw [own_ws, if_pos hc3_1], N0, rfl⟩, ⟨_, rfl⟩, hW, hsame.mono (by decide) (by decide)⟩
  · refine Goes.on (B := s₁.setTop (mkF m 6 #[.val (.int p0)] [])) (fun _ k => XS.icmpNo X0.here hx rfl (hb hby d1_3) rfl (feq hc3_1).1 k) ?_
    refine Goes.on (B := s₁.setTop (mkF m 7 #[.val (.int p0)] [(.int p0)])) (fun _ k => XS.iloadN X0.here hx rfl (hb hby d1_6) rfl  k) ?_
    refine Goes.on (B := s₁.setTop (mkF m 9 #[.val (.int p0)] [(.int (9 : Int32)), (.int p0)])) (fun _ k => XS.bipush X0.here hx rfl (hb hby d1_7) k) ?_
    by_cases hc9_2 : p0 = (9 : Int32)
    · refine Goes.on (B := s₁.setTop (mkF m 24 #[.val (.int p0)] [])) (fun _ k => XS.icmpYes X0.here hx rfl (pc0 := 9) (pc' := 24) rfl (hb hby d1_9) rfl (teq hc9_2).1 (by decide) (by decide) k) ?_
      refine Goes.on (B := s₁.setTop (mkF m 25 #[.val (.int p0)] [(.int (1 : Int32))])) (fun _ k => XS.iconst X0.here hx rfl (hb hby d1_24) k) ?_
      refine Goes.on (B := s₁.setTop (mkF m 29 #[.val (.int p0)] [(.int (1 : Int32))])) (fun _ k => XS.goto X0.here hx rfl (pc0 := 25) (pc' := 29) rfl (hb hby d1_25) (by decide) (by decide) k) ?_
      obtain ⟨fs, hr, hrun, hended, hW, hsame⟩ := X0.leave (v := some (.int (1 : Int32))) (fun h => by rw [Bd.returns] at h; cases h)
      exact Goes.leaf (retN X0 hx (t := .boolean) Bd.returns (by simp) (hb hby d1_29) hr) hrun hended ⟨_, _, rfl, by show Q1 Z p0 h0 n0 _ s₁.heap _; rw [e0]; exact ⟨by rw [own_ws, if_neg hc3_1, if_pos hc9_2], N0, rfl⟩, ⟨_, rfl⟩, hW, hsame.mono (by decide) (by decide)⟩
    · refine Goes.on (B := s₁.setTop (mkF m 12 #[.val (.int p0)] [])) (fun _ k => XS.icmpNo X0.here hx rfl (hb hby d1_9) rfl (feq hc9_2).1 k) ?_
      refine Goes.on (B := s₁.setTop (mkF m 13 #[.val (.int p0)] [(.int p0)])) (fun _ k => XS.iloadN X0.here hx rfl (hb hby d1_12) rfl  k) ?_
      refine Goes.on (B := s₁.setTop (mkF m 15 #[.val (.int p0)] [(.int (13 : Int32)), (.int p0)])) (fun _ k => XS.bipush X0.here hx rfl (hb hby d1_13) k) ?_
      by_cases hc15_3 : p0 = (13 : Int32)
      · refine Goes.on (B := s₁.setTop (mkF m 24 #[.val (.int p0)] [])) (fun _ k => XS.icmpYes X0.here hx rfl (pc0 := 15) (pc' := 24) rfl (hb hby d1_15) rfl (teq hc15_3).1 (by decide) (by decide) k) ?_
        refine Goes.on (B := s₁.setTop (mkF m 25 #[.val (.int p0)] [(.int (1 : Int32))])) (fun _ k => XS.iconst X0.here hx rfl (hb hby d1_24) k) ?_
        refine Goes.on (B := s₁.setTop (mkF m 29 #[.val (.int p0)] [(.int (1 : Int32))])) (fun _ k => XS.goto X0.here hx rfl (pc0 := 25) (pc' := 29) rfl (hb hby d1_25) (by decide) (by decide) k) ?_
        obtain ⟨fs, hr, hrun, hended, hW, hsame⟩ := X0.leave (v := some (.int (1 : Int32))) (fun h => by rw [Bd.returns] at h; cases h)
        exact Goes.leaf (retN X0 hx (t := .boolean) Bd.returns (by simp) (hb hby d1_29) hr) hrun hended ⟨_, _, rfl, by show Q1 Z p0 h0 n0 _ s₁.heap _; rw [e0]; exact ⟨by rw [own_ws, if_neg hc3_1, if_neg hc9_2, if_pos hc15_3], N0, rfl⟩, ⟨_, rfl⟩, hW, hsame.mono (by decide) (by decide)⟩
      · refine Goes.on (B := s₁.setTop (mkF m 18 #[.val (.int p0)] [])) (fun _ k => XS.icmpNo X0.here hx rfl (hb hby d1_15) rfl (feq hc15_3).1 k) ?_
        refine Goes.on (B := s₁.setTop (mkF m 19 #[.val (.int p0)] [(.int p0)])) (fun _ k => XS.iloadN X0.here hx rfl (hb hby d1_18) rfl  k) ?_
        refine Goes.on (B := s₁.setTop (mkF m 21 #[.val (.int p0)] [(.int (10 : Int32)), (.int p0)])) (fun _ k => XS.bipush X0.here hx rfl (hb hby d1_19) k) ?_
        by_cases hc21_4 : p0 = (10 : Int32)
        · refine Goes.on (B := s₁.setTop (mkF m 24 #[.val (.int p0)] [])) (fun _ k => XS.icmpNo X0.here hx rfl (hb hby d1_21) rfl (teq hc21_4).2 k) ?_
          refine Goes.on (B := s₁.setTop (mkF m 25 #[.val (.int p0)] [(.int (1 : Int32))])) (fun _ k => XS.iconst X0.here hx rfl (hb hby d1_24) k) ?_
          refine Goes.on (B := s₁.setTop (mkF m 29 #[.val (.int p0)] [(.int (1 : Int32))])) (fun _ k => XS.goto X0.here hx rfl (pc0 := 25) (pc' := 29) rfl (hb hby d1_25) (by decide) (by decide) k) ?_
          obtain ⟨fs, hr, hrun, hended, hW, hsame⟩ := X0.leave (v := some (.int (1 : Int32))) (fun h => by rw [Bd.returns] at h; cases h)
          exact Goes.leaf (retN X0 hx (t := .boolean) Bd.returns (by simp) (hb hby d1_29) hr) hrun hended ⟨_, _, rfl, by show Q1 Z p0 h0 n0 _ s₁.heap _; rw [e0]; exact ⟨by rw [own_ws, if_neg hc3_1, if_neg hc9_2, if_neg hc15_3, if_pos hc21_4], N0, rfl⟩, ⟨_, rfl⟩, hW, hsame.mono (by decide) (by decide)⟩
        · refine Goes.on (B := s₁.setTop (mkF m 28 #[.val (.int p0)] [])) (fun _ k => XS.icmpYes X0.here hx rfl (pc0 := 21) (pc' := 28) rfl (hb hby d1_21) rfl (feq hc21_4).2 (by decide) (by decide) k) ?_
          refine Goes.on (B := s₁.setTop (mkF m 29 #[.val (.int p0)] [(.int (0 : Int32))])) (fun _ k => XS.iconst X0.here hx rfl (hb hby d1_28) k) ?_
          obtain ⟨fs, hr, hrun, hended, hW, hsame⟩ := X0.leave (v := some (.int (0 : Int32))) (fun h => by rw [Bd.returns] at h; cases h)
          exact Goes.leaf (retN X0 hx (t := .boolean) Bd.returns (by simp) (hb hby d1_29) hr) hrun hended ⟨_, _, rfl, by show Q1 Z p0 h0 n0 _ s₁.heap _; rw [e0]; exact ⟨by rw [own_ws, if_neg hc3_1, if_neg hc9_2, if_neg hc15_3, if_neg hc21_4], N0, rfl⟩, ⟨_, rfl⟩, hW, hsame.mono (by decide) (by decide)⟩
def own_le (p0 : Int32) (p1 : Int32) : Int32 := (if p0 = (10 : Int32) then (1 : Int32) else (if p0 = (13 : Int32) then (1 : Int32) else (if p1 = (0 : Int32) then (0 : Int32) else (if p0 = (133 : Int32) then (1 : Int32) else (if p0 = (8232 : Int32) then (1 : Int32) else (0 : Int32))))))
theorem d2_0 : decode prog_153_method_15_code 0 = .ok (.iload_n 0, 1) := by decide +kernel
theorem d2_1 : decode prog_153_method_15_code 1 = .ok (.bipush 10, 2) := by decide +kernel
theorem d2_3 : decode prog_153_method_15_code 3 = .ok (.if_icmp .eq 27, 3) := by decide +kernel
theorem d2_6 : decode prog_153_method_15_code 6 = .ok (.iload_n 0, 1) := by decide +kernel
theorem d2_7 : decode prog_153_method_15_code 7 = .ok (.bipush 13, 2) := by decide +kernel
theorem d2_9 : decode prog_153_method_15_code 9 = .ok (.if_icmp .eq 21, 3) := by decide +kernel
theorem d2_12 : decode prog_153_method_15_code 12 = .ok (.iload_n 1, 1) := by decide +kernel
theorem d2_13 : decode prog_153_method_15_code 13 = .ok (.ifCond .eq 21, 3) := by decide +kernel
theorem d2_16 : decode prog_153_method_15_code 16 = .ok (.iload_n 0, 1) := by decide +kernel
theorem d2_17 : decode prog_153_method_15_code 17 = .ok (.sipush 133, 3) := by decide +kernel
theorem d2_20 : decode prog_153_method_15_code 20 = .ok (.if_icmp .eq 10, 3) := by decide +kernel
theorem d2_23 : decode prog_153_method_15_code 23 = .ok (.iload_n 0, 1) := by decide +kernel
theorem d2_24 : decode prog_153_method_15_code 24 = .ok (.sipush 8232, 3) := by decide +kernel
theorem d2_27 : decode prog_153_method_15_code 27 = .ok (.if_icmp .ne 7, 3) := by decide +kernel
theorem d2_30 : decode prog_153_method_15_code 30 = .ok (.iconst 1, 1) := by decide +kernel
theorem d2_31 : decode prog_153_method_15_code 31 = .ok (.goto 4, 3) := by decide +kernel
theorem d2_34 : decode prog_153_method_15_code 34 = .ok (.iconst 0, 1) := by decide +kernel
theorem d2_35 : decode prog_153_method_15_code 35 = .ok (.ireturn, 1) := by decide +kernel
theorem pn_2 : plainName "com/example/heirloom_archive/heirloomarchive/xml/XmlDecoder" = true := by first | (simp [plainName, overriddenIn]; done) | decide +kernel
theorem ef_2 (m : MethodId) (x0 : Int32) (x1 : Int32) : entryFrame m #[(.int x0), (.int x1)] 2 = mkF m 0 #[.val (.int x0), .val (.int x1)] [] := by first | (simp [entryFrame, mkF, argsToLocals, Value.category]; done) | rfl
def Q2 (Z : State) (p0 : Int32) (p1 : Int32)  (h0 : Heap) (n0 : Nat) (v : Option Value) (h : Heap) (L : List Loc) : Prop := v = some (.int (own_le p0 p1)) ∧ Fr n0 L ∧ h = h0
set_option maxRecDepth 65536 in
set_option maxHeartbeats 40000000 in
theorem rm2 (l : Launch) (Z : State) (a0 : Array Value) (hw : ∀ d ∈ tables_1, d.before a0 Z = true) (ws : List Jvm.Cond) (p0 : Int32) (p1 : Int32)  (h0 : Heap) (n0 : Nat) (Z0 : n0 ≤ h0.size)  :
    MetFree l (⟨"com/example/heirloom_archive/heirloomarchive/xml/XmlDecoder", "isLineEnd", "(CZ)Z"⟩ : MethodName) (head1 (Jvm.Cond.code (⟨"com/example/heirloom_archive/heirloomarchive/xml/XmlDecoder", "isLineEnd", "(CZ)Z"⟩ : MethodName) prog_153_method_15_code 2 (some .boolean) :: ws) ({ frames := 0, cells := 0, slots := 0, locals := 0 } : Room)) (fun a U => a = #[(.int p0), (.int p1)] ∧ Z.Warmed39 U.vm ∧ U.heap = h0) (fun _ _ _ _ _ => True) (fun _ U o U' => ∃ v L, o = .returned v ∧ Q2 Z p0 p1 h0 n0 v U'.heap L ∧ FrameEnd U o U' L ({ frames := 0, cells := 0, slots := 0, locals := 0 } : Room).cells ({ frames := 0, cells := 0, slots := 0, locals := 0 } : Room).slots) := by
  refine MetFree.of_bodySF (plainFor_of_name pn_2) hisR ?_
  intro p e s m args below meth c s₁ Bd hml0 hP hK
  obtain ⟨rfl, hZ, hh⟩ := hP
  have hx := Bd.exec
  have hby := Bd.bytes
  have hml : c.maxLocals = 2 := hml0
  have hown : s.vm.findClass "com/example/heirloom_archive/heirloomarchive/xml/XmlDecoder" = some m.cls := findClass_of_methodNamed Bd.named
  have hnm := (name_of_methodNamed Bd.named Bd.method).1
  have X0 : Stand p l e ({ frames := 0, cells := 0, slots := 0, locals := 0 } : Room) s m #[(.int p0), (.int p1)] below meth c s₁ [] 0 0 := Stand.of_body Bd
  have e0 : s₁.heap = h0 := by rw [← hh, Bd.state]; rfl
  have N0 := Fr.nil n0
  show Goes p e below _ (s₁.setTop (entryFrame m #[(.int p0), (.int p1)] 2))
  refine Goes.on (B := s₁.setTop (mkF m 0 #[.val (.int p0), .val (.int p1)] [])) (fun t k => castTop (ef_2 m p0 p1) k) ?_
  refine Goes.on (B := s₁.setTop (mkF m 1 #[.val (.int p0), .val (.int p1)] [(.int p0)])) (fun _ k => XS.iloadN X0.here hx rfl (hb hby d2_0) rfl  k) ?_
  refine Goes.on (B := s₁.setTop (mkF m 3 #[.val (.int p0), .val (.int p1)] [(.int (10 : Int32)), (.int p0)])) (fun _ k => XS.bipush X0.here hx rfl (hb hby d2_1) k) ?_
  by_cases hc3_1 : p0 = (10 : Int32)
  · refine Goes.on (B := s₁.setTop (mkF m 30 #[.val (.int p0), .val (.int p1)] [])) (fun _ k => XS.icmpYes X0.here hx rfl (pc0 := 3) (pc' := 30) rfl (hb hby d2_3) rfl (teq hc3_1).1 (by decide) (by decide) k) ?_
    refine Goes.on (B := s₁.setTop (mkF m 31 #[.val (.int p0), .val (.int p1)] [(.int (1 : Int32))])) (fun _ k => XS.iconst X0.here hx rfl (hb hby d2_30) k) ?_
    refine Goes.on (B := s₁.setTop (mkF m 35 #[.val (.int p0), .val (.int p1)] [(.int (1 : Int32))])) (fun _ k => XS.goto X0.here hx rfl (pc0 := 31) (pc' := 35) rfl (hb hby d2_31) (by decide) (by decide) k) ?_
    obtain ⟨fs, hr, hrun, hended, hW, hsame⟩ := X0.leave (v := some (.int (1 : Int32))) (fun h => by rw [Bd.returns] at h; cases h)
    exact Goes.leaf (retN X0 hx (t := .boolean) Bd.returns (by simp) (hb hby d2_35) hr) hrun hended ⟨_, _, rfl, by show Q2 Z p0 p1 h0 n0 _ s₁.heap _; rw [e0]; exact ⟨by rw [own_le, if_pos hc3_1], N0, rfl⟩, ⟨_, rfl⟩, hW, hsame.mono (by decide) (by decide)⟩
  · refine Goes.on (B := s₁.setTop (mkF m 6 #[.val (.int p0), .val (.int p1)] [])) (fun _ k => XS.icmpNo X0.here hx rfl (hb hby d2_3) rfl (feq hc3_1).1 k) ?_
    refine Goes.on (B := s₁.setTop (mkF m 7 #[.val (.int p0), .val (.int p1)] [(.int p0)])) (fun _ k => XS.iloadN X0.here hx rfl (hb hby d2_6) rfl  k) ?_
    refine Goes.on (B := s₁.setTop (mkF m 9 #[.val (.int p0), .val (.int p1)] [(.int (13 : Int32)), (.int p0)])) (fun _ k => XS.bipush X0.here hx rfl (hb hby d2_7) k) ?_
    by_cases hc9_2 : p0 = (13 : Int32)
    · refine Goes.on (B := s₁.setTop (mkF m 30 #[.val (.int p0), .val (.int p1)] [])) (fun _ k => XS.icmpYes X0.here hx rfl (pc0 := 9) (pc' := 30) rfl (hb hby d2_9) rfl (teq hc9_2).1 (by decide) (by decide) k) ?_
      refine Goes.on (B := s₁.setTop (mkF m 31 #[.val (.int p0), .val (.int p1)] [(.int (1 : Int32))])) (fun _ k => XS.iconst X0.here hx rfl (hb hby d2_30) k) ?_
      refine Goes.on (B := s₁.setTop (mkF m 35 #[.val (.int p0), .val (.int p1)] [(.int (1 : Int32))])) (fun _ k => XS.goto X0.here hx rfl (pc0 := 31) (pc' := 35) rfl (hb hby d2_31) (by decide) (by decide) k) ?_
      obtain ⟨fs, hr, hrun, hended, hW, hsame⟩ := X0.leave (v := some (.int (1 : Int32))) (fun h => by rw [Bd.returns] at h; cases h)
      exact Goes.leaf (retN X0 hx (t := .boolean) Bd.returns (by simp) (hb hby d2_35) hr) hrun hended ⟨_, _, rfl, by show Q2 Z p0 p1 h0 n0 _ s₁.heap _; rw [e0]; exact ⟨by rw [own_le, if_neg hc3_1, if_pos hc9_2], N0, rfl⟩, ⟨_, rfl⟩, hW, hsame.mono (by decide) (by decide)⟩
    · refine Goes.on (B := s₁.setTop (mkF m 12 #[.val (.int p0), .val (.int p1)] [])) (fun _ k => XS.icmpNo X0.here hx rfl (hb hby d2_9) rfl (feq hc9_2).1 k) ?_
      refine Goes.on (B := s₁.setTop (mkF m 13 #[.val (.int p0), .val (.int p1)] [(.int p1)])) (fun _ k => XS.iloadN X0.here hx rfl (hb hby d2_12) rfl  k) ?_
      by_cases hc13_3 : p1 = (0 : Int32)
      · refine Goes.on (B := s₁.setTop (mkF m 34 #[.val (.int p0), .val (.int p1)] [])) (fun _ k => XS.ifYes X0.here hx rfl (pc0 := 13) (pc' := 34) rfl (hb hby d2_13) rfl ((if0 _ _).trans (teq hc13_3).1) (by decide) (by decide) k) ?_
        refine Goes.on (B := s₁.setTop (mkF m 35 #[.val (.int p0), .val (.int p1)] [(.int (0 : Int32))])) (fun _ k => XS.iconst X0.here hx rfl (hb hby d2_34) k) ?_
        obtain ⟨fs, hr, hrun, hended, hW, hsame⟩ := X0.leave (v := some (.int (0 : Int32))) (fun h => by rw [Bd.returns] at h; cases h)
        exact Goes.leaf (retN X0 hx (t := .boolean) Bd.returns (by simp) (hb hby d2_35) hr) hrun hended ⟨_, _, rfl, by show Q2 Z p0 p1 h0 n0 _ s₁.heap _; rw [e0]; exact ⟨by rw [own_le, if_neg hc3_1, if_neg hc9_2, if_pos hc13_3], N0, rfl⟩, ⟨_, rfl⟩, hW, hsame.mono (by decide) (by decide)⟩
      · refine Goes.on (B := s₁.setTop (mkF m 16 #[.val (.int p0), .val (.int p1)] [])) (fun _ k => XS.ifNo X0.here hx rfl (hb hby d2_13) rfl ((if0 _ _).trans (feq hc13_3).1) k) ?_
        refine Goes.on (B := s₁.setTop (mkF m 17 #[.val (.int p0), .val (.int p1)] [(.int p0)])) (fun _ k => XS.iloadN X0.here hx rfl (hb hby d2_16) rfl  k) ?_
        refine Goes.on (B := s₁.setTop (mkF m 20 #[.val (.int p0), .val (.int p1)] [(.int (133 : Int32)), (.int p0)])) (fun _ k => XS.sipush X0.here hx rfl (hb hby d2_17) k) ?_
        by_cases hc20_4 : p0 = (133 : Int32)
        · refine Goes.on (B := s₁.setTop (mkF m 30 #[.val (.int p0), .val (.int p1)] [])) (fun _ k => XS.icmpYes X0.here hx rfl (pc0 := 20) (pc' := 30) rfl (hb hby d2_20) rfl (teq hc20_4).1 (by decide) (by decide) k) ?_
          refine Goes.on (B := s₁.setTop (mkF m 31 #[.val (.int p0), .val (.int p1)] [(.int (1 : Int32))])) (fun _ k => XS.iconst X0.here hx rfl (hb hby d2_30) k) ?_
          refine Goes.on (B := s₁.setTop (mkF m 35 #[.val (.int p0), .val (.int p1)] [(.int (1 : Int32))])) (fun _ k => XS.goto X0.here hx rfl (pc0 := 31) (pc' := 35) rfl (hb hby d2_31) (by decide) (by decide) k) ?_
          obtain ⟨fs, hr, hrun, hended, hW, hsame⟩ := X0.leave (v := some (.int (1 : Int32))) (fun h => by rw [Bd.returns] at h; cases h)
          exact Goes.leaf (retN X0 hx (t := .boolean) Bd.returns (by simp) (hb hby d2_35) hr) hrun hended ⟨_, _, rfl, by show Q2 Z p0 p1 h0 n0 _ s₁.heap _; rw [e0]; exact ⟨by rw [own_le, if_neg hc3_1, if_neg hc9_2, if_neg hc13_3, if_pos hc20_4], N0, rfl⟩, ⟨_, rfl⟩, hW, hsame.mono (by decide) (by decide)⟩
        · refine Goes.on (B := s₁.setTop (mkF m 23 #[.val (.int p0), .val (.int p1)] [])) (fun _ k => XS.icmpNo X0.here hx rfl (hb hby d2_20) rfl (feq hc20_4).1 k) ?_
          refine Goes.on (B := s₁.setTop (mkF m 24 #[.val (.int p0), .val (.int p1)] [(.int p0)])) (fun _ k => XS.iloadN X0.here hx rfl (hb hby d2_23) rfl  k) ?_
          refine Goes.on (B := s₁.setTop (mkF m 27 #[.val (.int p0), .val (.int p1)] [(.int (8232 : Int32)), (.int p0)])) (fun _ k => XS.sipush X0.here hx rfl (hb hby d2_24) k) ?_
          by_cases hc27_5 : p0 = (8232 : Int32)
          · refine Goes.on (B := s₁.setTop (mkF m 30 #[.val (.int p0), .val (.int p1)] [])) (fun _ k => XS.icmpNo X0.here hx rfl (hb hby d2_27) rfl (teq hc27_5).2 k) ?_
            refine Goes.on (B := s₁.setTop (mkF m 31 #[.val (.int p0), .val (.int p1)] [(.int (1 : Int32))])) (fun _ k => XS.iconst X0.here hx rfl (hb hby d2_30) k) ?_
            refine Goes.on (B := s₁.setTop (mkF m 35 #[.val (.int p0), .val (.int p1)] [(.int (1 : Int32))])) (fun _ k => XS.goto X0.here hx rfl (pc0 := 31) (pc' := 35) rfl (hb hby d2_31) (by decide) (by decide) k) ?_
            obtain ⟨fs, hr, hrun, hended, hW, hsame⟩ := X0.leave (v := some (.int (1 : Int32))) (fun h => by rw [Bd.returns] at h; cases h)
            exact Goes.leaf (retN X0 hx (t := .boolean) Bd.returns (by simp) (hb hby d2_35) hr) hrun hended ⟨_, _, rfl, by show Q2 Z p0 p1 h0 n0 _ s₁.heap _; rw [e0]; exact ⟨by rw [own_le, if_neg hc3_1, if_neg hc9_2, if_neg hc13_3, if_neg hc20_4, if_pos hc27_5], N0, rfl⟩, ⟨_, rfl⟩, hW, hsame.mono (by decide) (by decide)⟩
          · refine Goes.on (B := s₁.setTop (mkF m 34 #[.val (.int p0), .val (.int p1)] [])) (fun _ k => XS.icmpYes X0.here hx rfl (pc0 := 27) (pc' := 34) rfl (hb hby d2_27) rfl (feq hc27_5).2 (by decide) (by decide) k) ?_
            refine Goes.on (B := s₁.setTop (mkF m 35 #[.val (.int p0), .val (.int p1)] [(.int (0 : Int32))])) (fun _ k => XS.iconst X0.here hx rfl (hb hby d2_34) k) ?_
            obtain ⟨fs, hr, hrun, hended, hW, hsame⟩ := X0.leave (v := some (.int (0 : Int32))) (fun h => by rw [Bd.returns] at h; cases h)
            exact Goes.leaf (retN X0 hx (t := .boolean) Bd.returns (by simp) (hb hby d2_35) hr) hrun hended ⟨_, _, rfl, by show Q2 Z p0 p1 h0 n0 _ s₁.heap _; rw [e0]; exact ⟨by rw [own_le, if_neg hc3_1, if_neg hc9_2, if_neg hc13_3, if_neg hc20_4, if_neg hc27_5], N0, rfl⟩, ⟨_, rfl⟩, hW, hsame.mono (by decide) (by decide)⟩
def own_x11 (p1 : Int32) : Int32 := (if (p1 &&& (1 : Int32)) = (0 : Int32) then (0 : Int32) else (1 : Int32))
def own_l10 (w : Int32) (c : Int32) : Int32 := (if w = (0 : Int32) then (0 : Int32) else (if c = (32 : Int32) then (0 : Int32) else (if c = (9 : Int32) then (0 : Int32) else (1 : Int32))))
def own_e11 (c : Int32) : Int32 := (if c = (133 : Int32) then (1 : Int32) else (if c = (8232 : Int32) then (1 : Int32) else (0 : Int32)))
def own_exp (a : Int32) (b : Int32) (c : Int32) : Int32 := (if a = (0 : Int32) then (if b = (0 : Int32) then (0 : Int32) else (if c = (0 : Int32) then (0 : Int32) else (1 : Int32))) else (1 : Int32))
theorem own_law (ch f : Int32) : own_le ch (own_x11 f) = own_exp (own_l10 (own_ws ch) ch) (own_x11 f) (own_e11 ch) := by
  have hx : own_x11 f = 0 ∨ own_x11 f = 1 := by
    unfold own_x11; split
    · exact Or.inl rfl
    · exact Or.inr rfl
  generalize own_x11 f = x at *
  unfold own_le own_exp own_l10 own_e11 own_ws
  simp only [← Int32.toInt_inj]
  rcases hx with rfl | rfl
  all_goals simp only [show (0 : Int32).toInt = 0 from rfl, show (1 : Int32).toInt = 1 from rfl, show (9 : Int32).toInt = 9 from rfl, show (10 : Int32).toInt = 10 from rfl, show (13 : Int32).toInt = 13 from rfl, show (32 : Int32).toInt = 32 from rfl, show (133 : Int32).toInt = 133 from rfl, show (8232 : Int32).toInt = 8232 from rfl]
  all_goals (repeat' split)
  all_goals first | rfl | omega | (simp_all; done) | (simp_all; omega)
theorem pn_0 : plainName "com/example/heirloom_archive/heirloomarchive/xml/XmlDecoderIsLineEndPinLaw" = true := by first | (simp [plainName, overriddenIn]; done) | decide +kernel
theorem pd_0__C_Z : parseMethodDescriptor "(C)Z" = some ⟨[.char], some .boolean⟩ := by decide +kernel
theorem pd_0__CZ_Z : parseMethodDescriptor "(CZ)Z" = some ⟨[.char, .boolean], some .boolean⟩ := by decide +kernel
theorem ef_0 (m : MethodId) (x0 : Int32) (x1 : Int32) : entryFrame m #[(.int x0), (.int x1)] maxLocals = mkF m 0 #[.val (.int x0), .val (.int x1), .unset, .unset, .unset, .unset, .unset] [] := by first | (simp [entryFrame, mkF, argsToLocals, Value.category, maxLocals]; done) | rfl
def Q0 (Z : State) (p0 : Int32) (p1 : Int32)  (h0 : Heap) (n0 : Nat) (v : Option Value) (h : Heap) (L : List Loc) : Prop := v = some (.int 1) ∧ Fr n0 L
set_option maxRecDepth 65536 in
set_option maxHeartbeats 40000000 in
theorem rm0 (l : Launch) (Z : State) (a0 : Array Value) (hw : ∀ d ∈ tables_1, d.before a0 Z = true) (ws : List Jvm.Cond) (p0 : Int32) (p1 : Int32)  (h0 : Heap) (n0 : Nat) (Z0 : n0 ≤ h0.size)  :
    MetFree l x (head1 (Jvm.Cond.code x code maxLocals ret :: ws) room_1) (fun a U => a = #[(.int p0), (.int p1)] ∧ Z.Warmed39 U.vm ∧ U.heap = h0) (fun _ _ _ _ _ => True) (fun _ U o U' => ∃ v L, o = .returned v ∧ Q0 Z p0 p1 h0 n0 v U'.heap L ∧ FrameEnd U o U' L room_1.cells room_1.slots) := by
  refine MetFree.of_bodySF (plainFor_of_name pn_0) hisR ?_
  intro p e s m args below meth c s₁ Bd hml0 hP hK
  obtain ⟨rfl, hZ, hh⟩ := hP
  have hx := Bd.exec
  have hby := Bd.bytes
  have hml : c.maxLocals = 7 := hml0
  have hown : s.vm.findClass "com/example/heirloom_archive/heirloomarchive/xml/XmlDecoderIsLineEndPinLaw" = some m.cls := findClass_of_methodNamed Bd.named
  have hnm := (name_of_methodNamed Bd.named Bd.method).1
  have X0 : Stand p l e room_1 s m #[(.int p0), (.int p1)] below meth c s₁ [] 0 0 := Stand.of_body Bd
  have e0 : s₁.heap = h0 := by rw [← hh, Bd.state]; rfl
  have N0 := Fr.nil n0
  show Goes p e below _ (s₁.setTop (entryFrame m #[(.int p0), (.int p1)] maxLocals))
  refine Goes.on (B := s₁.setTop (mkF m 0 #[.val (.int p0), .val (.int p1), .unset, .unset, .unset, .unset, .unset] [])) (fun t k => castTop (ef_0 m p0 p1) k) ?_
  refine Goes.on (B := s₁.setTop (mkF m 1 #[.val (.int p0), .val (.int p1), .unset, .unset, .unset, .unset, .unset] [(.int p0)])) (fun _ k => XS.iloadN X0.here hx rfl (hb hby at_0) rfl  k) ?_
  refine Goes.on (B := s₁.setTop (mkF m 3 #[.val (.int p0), .val (.int p1), .unset, .unset, .unset, .unset, .unset] [(.int (65535 : Int32)), (.int p0)])) (fun _ k => X0.ldcInt hx hown (mvT hZ (hw _ (List.mem_of_getElem? (i := 0) rfl))) (g := (mkF m 1 #[.val (.int p0), .val (.int p1), .unset, .unset, .unset, .unset, .unset] [(.int p0)])) rfl (hb hby at_1) _ k) ?_
  refine Goes.on (B := s₁.setTop (mkF m 4 #[.val (.int p0), .val (.int p1), .unset, .unset, .unset, .unset, .unset] [(.int (p0 &&& (65535 : Int32)))])) (fun _ k => XS.iand X0.here hx rfl (hb hby at_3) rfl k) ?_
  refine Goes.on (B := s₁.setTop (mkF m 5 #[.val (.int p0), .val (.int p1), .unset, .unset, .unset, .unset, .unset] [(.int ((p0 &&& (65535 : Int32)).toUInt32.toUInt16.toUInt32.toInt32))])) (fun _ k => XS.i2c X0.here hx rfl (hb hby at_4) rfl k) ?_
  generalize hch : ((p0 &&& (65535 : Int32)).toUInt32.toUInt16.toUInt32.toInt32) = ch
  refine Goes.on (B := s₁.setTop (mkF m 6 #[.val (.int p0), .val (.int p1), .val (.int ch), .unset, .unset, .unset, .unset] [])) (fun _ k => XS.istoreN X0.here hx rfl (hb hby at_5) rfl (l' := #[.val (.int p0), .val (.int p1), .val (.int ch), .unset, .unset, .unset, .unset]) rfl k) ?_
  refine Goes.on (B := s₁.setTop (mkF m 7 #[.val (.int p0), .val (.int p1), .val (.int ch), .unset, .unset, .unset, .unset] [(.int p1)])) (fun _ k => XS.iloadN X0.here hx rfl (hb hby at_6) rfl  k) ?_
  refine Goes.on (B := s₁.setTop (mkF m 8 #[.val (.int p0), .val (.int p1), .val (.int ch), .unset, .unset, .unset, .unset] [(.int (1 : Int32)), (.int p1)])) (fun _ k => XS.iconst X0.here hx rfl (hb hby at_7) k) ?_
  refine Goes.on (B := s₁.setTop (mkF m 9 #[.val (.int p0), .val (.int p1), .val (.int ch), .unset, .unset, .unset, .unset] [(.int (p1 &&& (1 : Int32)))])) (fun _ k => XS.iand X0.here hx rfl (hb hby at_8) rfl k) ?_
  refine Goes.via (B := s₁.setTop (mkF m 17 #[.val (.int p0), .val (.int p1), .val (.int ch), .unset, .unset, .unset, .unset] [(.int (own_x11 p1))])) (fun J1 => ?_) ?_
  · skip
    by_cases hc9_2 : (p1 &&& (1 : Int32)) = (0 : Int32)
    · refine Goes.on (B := s₁.setTop (mkF m 16 #[.val (.int p0), .val (.int p1), .val (.int ch), .unset, .unset, .unset, .unset] [])) (fun _ k => XS.ifYes X0.here hx rfl (pc0 := 9) (pc' := 16) rfl (hb hby at_9) rfl ((if0 _ _).trans (teq hc9_2).1) (by decide) (by decide) k) ?_
      refine Goes.on (B := s₁.setTop (mkF m 17 #[.val (.int p0), .val (.int p1), .val (.int ch), .unset, .unset, .unset, .unset] [(.int (0 : Int32))])) (fun _ k => XS.iconst X0.here hx rfl (hb hby at_16) k) ?_
      have hj : (own_x11 p1) = (0 : Int32) := by rw [own_x11, if_pos hc9_2]
      rw [hj] at J1; exact J1
    · refine Goes.on (B := s₁.setTop (mkF m 12 #[.val (.int p0), .val (.int p1), .val (.int ch), .unset, .unset, .unset, .unset] [])) (fun _ k => XS.ifNo X0.here hx rfl (hb hby at_9) rfl ((if0 _ _).trans (feq hc9_2).1) k) ?_
      refine Goes.on (B := s₁.setTop (mkF m 13 #[.val (.int p0), .val (.int p1), .val (.int ch), .unset, .unset, .unset, .unset] [(.int (1 : Int32))])) (fun _ k => XS.iconst X0.here hx rfl (hb hby at_12) k) ?_
      refine Goes.on (B := s₁.setTop (mkF m 17 #[.val (.int p0), .val (.int p1), .val (.int ch), .unset, .unset, .unset, .unset] [(.int (1 : Int32))])) (fun _ k => XS.goto X0.here hx rfl (pc0 := 13) (pc' := 17) rfl (hb hby at_13) (by decide) (by decide) k) ?_
      have hj : (own_x11 p1) = (1 : Int32) := by rw [own_x11, if_neg hc9_2]
      rw [hj] at J1; exact J1
  refine Goes.on (B := s₁.setTop (mkF m 18 #[.val (.int p0), .val (.int p1), .val (.int ch), .val (.int (own_x11 p1)), .unset, .unset, .unset] [])) (fun _ k => XS.istoreN X0.here hx rfl (hb hby at_17) rfl (l' := #[.val (.int p0), .val (.int p1), .val (.int ch), .val (.int (own_x11 p1)), .unset, .unset, .unset]) rfl k) ?_
  refine Goes.on (B := s₁.setTop (mkF m 19 #[.val (.int p0), .val (.int p1), .val (.int ch), .val (.int (own_x11 p1)), .unset, .unset, .unset] [(.int ch)])) (fun _ k => XS.iloadN X0.here hx rfl (hb hby at_18) rfl  k) ?_
  obtain ⟨_, _, ⟨T3, L3, k3, n3⟩, -, X3, ⟨Lc3, hQ3, l3, y3, z3⟩, st3⟩ := Jvm.LawKit.callS X0 hx (y := (⟨"com/example/heirloom_archive/heirloomarchive/model/Text", "isWhiteSpace", "(C)Z"⟩ : MethodName)) hown (mvT hZ (hw _ (List.mem_of_getElem? (i := 1) rfl))) (mvT hZ (hw _ (List.mem_of_getElem? (i := 2) rfl))) (mvT hZ (hw _ (List.mem_of_getElem? (i := 3) rfl))) (mvT hZ (hw _ (List.mem_of_getElem? (i := 4) rfl))) (by decide) (backOf (W := 0) (rm1 l Z a0 hw [] ch h0 n0 Z0) hZ (hw _ (List.mem_of_getElem? (i := 4) rfl)) (hw _ (List.mem_of_getElem? (i := 3) rfl)) (by decide) (by decide)) (g := (mkF m 19 #[.val (.int p0), .val (.int p1), .val (.int ch), .val (.int (own_x11 p1)), .unset, .unset, .unset] [(.int ch)])) rfl (by rw [hml]; rfl) (argsL := [(.int ch)]) (rest := []) (lenOf pd_0__C_Z rfl) rfl (by show 2 * 0 + _ ≤ _; exact Nat.le_of_eq rfl) (hb hby at_19) (fun _ _ => ⟨rfl, e0, (by decide : 0 + 0 ≤ _), (by decide : 0 + 0 ≤ _)⟩)
  dsimp only [Pt.U, Pt.locs, Pt.cells, Pt.slots] at X3 l3 y3 z3 st3 hQ3
  subst l3 y3 z3
  obtain ⟨rfl, Nq3, eh3⟩ := hQ3
  have N3 := Fr.app N0 Nq3
  refine Goes.on (B := T3.setTop (mkF m 22 #[.val (.int p0), .val (.int p1), .val (.int ch), .val (.int (own_x11 p1)), .unset, .unset, .unset] [(.int (own_ws ch))])) (fun t k => st3 t k) ?_
  refine Goes.via (B := T3.setTop (mkF m 42 #[.val (.int p0), .val (.int p1), .val (.int ch), .val (.int (own_x11 p1)), .unset, .unset, .unset] [(.int (own_l10 (own_ws ch) ch))])) (fun J4 => ?_) ?_
  · skip
    by_cases hc22_5 : (own_ws ch) = (0 : Int32)
    · refine Goes.on (B := T3.setTop (mkF m 41 #[.val (.int p0), .val (.int p1), .val (.int ch), .val (.int (own_x11 p1)), .unset, .unset, .unset] [])) (fun _ k => XS.ifYes X3.here hx rfl (pc0 := 22) (pc' := 41) rfl (hb hby at_22) rfl ((if0 _ _).trans (teq hc22_5).1) (by decide) (by decide) k) ?_
      refine Goes.on (B := T3.setTop (mkF m 42 #[.val (.int p0), .val (.int p1), .val (.int ch), .val (.int (own_x11 p1)), .unset, .unset, .unset] [(.int (0 : Int32))])) (fun _ k => XS.iconst X3.here hx rfl (hb hby at_41) k) ?_
      have hj : (own_l10 (own_ws ch) ch) = (0 : Int32) := by rw [own_l10, if_pos hc22_5]
      rw [hj] at J4; exact J4
    · refine Goes.on (B := T3.setTop (mkF m 25 #[.val (.int p0), .val (.int p1), .val (.int ch), .val (.int (own_x11 p1)), .unset, .unset, .unset] [])) (fun _ k => XS.ifNo X3.here hx rfl (hb hby at_22) rfl ((if0 _ _).trans (feq hc22_5).1) k) ?_
      refine Goes.on (B := T3.setTop (mkF m 26 #[.val (.int p0), .val (.int p1), .val (.int ch), .val (.int (own_x11 p1)), .unset, .unset, .unset] [(.int ch)])) (fun _ k => XS.iloadN X3.here hx rfl (hb hby at_25) rfl  k) ?_
      refine Goes.on (B := T3.setTop (mkF m 28 #[.val (.int p0), .val (.int p1), .val (.int ch), .val (.int (own_x11 p1)), .unset, .unset, .unset] [(.int (32 : Int32)), (.int ch)])) (fun _ k => XS.bipush X3.here hx rfl (hb hby at_26) k) ?_
      by_cases hc28_6 : ch = (32 : Int32)
      · refine Goes.on (B := T3.setTop (mkF m 41 #[.val (.int p0), .val (.int p1), .val (.int ch), .val (.int (own_x11 p1)), .unset, .unset, .unset] [])) (fun _ k => XS.icmpYes X3.here hx rfl (pc0 := 28) (pc' := 41) rfl (hb hby at_28) rfl (teq hc28_6).1 (by decide) (by decide) k) ?_
        refine Goes.on (B := T3.setTop (mkF m 42 #[.val (.int p0), .val (.int p1), .val (.int ch), .val (.int (own_x11 p1)), .unset, .unset, .unset] [(.int (0 : Int32))])) (fun _ k => XS.iconst X3.here hx rfl (hb hby at_41) k) ?_
        have hj : (own_l10 (own_ws ch) ch) = (0 : Int32) := by rw [own_l10, if_neg hc22_5, if_pos hc28_6]
        rw [hj] at J4; exact J4
      · refine Goes.on (B := T3.setTop (mkF m 31 #[.val (.int p0), .val (.int p1), .val (.int ch), .val (.int (own_x11 p1)), .unset, .unset, .unset] [])) (fun _ k => XS.icmpNo X3.here hx rfl (hb hby at_28) rfl (feq hc28_6).1 k) ?_
        refine Goes.on (B := T3.setTop (mkF m 32 #[.val (.int p0), .val (.int p1), .val (.int ch), .val (.int (own_x11 p1)), .unset, .unset, .unset] [(.int ch)])) (fun _ k => XS.iloadN X3.here hx rfl (hb hby at_31) rfl  k) ?_
        refine Goes.on (B := T3.setTop (mkF m 34 #[.val (.int p0), .val (.int p1), .val (.int ch), .val (.int (own_x11 p1)), .unset, .unset, .unset] [(.int (9 : Int32)), (.int ch)])) (fun _ k => XS.bipush X3.here hx rfl (hb hby at_32) k) ?_
        by_cases hc34_7 : ch = (9 : Int32)
        · refine Goes.on (B := T3.setTop (mkF m 41 #[.val (.int p0), .val (.int p1), .val (.int ch), .val (.int (own_x11 p1)), .unset, .unset, .unset] [])) (fun _ k => XS.icmpYes X3.here hx rfl (pc0 := 34) (pc' := 41) rfl (hb hby at_34) rfl (teq hc34_7).1 (by decide) (by decide) k) ?_
          refine Goes.on (B := T3.setTop (mkF m 42 #[.val (.int p0), .val (.int p1), .val (.int ch), .val (.int (own_x11 p1)), .unset, .unset, .unset] [(.int (0 : Int32))])) (fun _ k => XS.iconst X3.here hx rfl (hb hby at_41) k) ?_
          have hj : (own_l10 (own_ws ch) ch) = (0 : Int32) := by rw [own_l10, if_neg hc22_5, if_neg hc28_6, if_pos hc34_7]
          rw [hj] at J4; exact J4
        · refine Goes.on (B := T3.setTop (mkF m 37 #[.val (.int p0), .val (.int p1), .val (.int ch), .val (.int (own_x11 p1)), .unset, .unset, .unset] [])) (fun _ k => XS.icmpNo X3.here hx rfl (hb hby at_34) rfl (feq hc34_7).1 k) ?_
          refine Goes.on (B := T3.setTop (mkF m 38 #[.val (.int p0), .val (.int p1), .val (.int ch), .val (.int (own_x11 p1)), .unset, .unset, .unset] [(.int (1 : Int32))])) (fun _ k => XS.iconst X3.here hx rfl (hb hby at_37) k) ?_
          refine Goes.on (B := T3.setTop (mkF m 42 #[.val (.int p0), .val (.int p1), .val (.int ch), .val (.int (own_x11 p1)), .unset, .unset, .unset] [(.int (1 : Int32))])) (fun _ k => XS.goto X3.here hx rfl (pc0 := 38) (pc' := 42) rfl (hb hby at_38) (by decide) (by decide) k) ?_
          have hj : (own_l10 (own_ws ch) ch) = (1 : Int32) := by rw [own_l10, if_neg hc22_5, if_neg hc28_6, if_neg hc34_7]
          rw [hj] at J4; exact J4
  refine Goes.on (B := T3.setTop (mkF m 44 #[.val (.int p0), .val (.int p1), .val (.int ch), .val (.int (own_x11 p1)), .val (.int (own_l10 (own_ws ch) ch)), .unset, .unset] [])) (fun _ k => XS.istore X3.here hx rfl (hb hby at_42) rfl (l' := #[.val (.int p0), .val (.int p1), .val (.int ch), .val (.int (own_x11 p1)), .val (.int (own_l10 (own_ws ch) ch)), .unset, .unset]) rfl k) ?_
  refine Goes.on (B := T3.setTop (mkF m 45 #[.val (.int p0), .val (.int p1), .val (.int ch), .val (.int (own_x11 p1)), .val (.int (own_l10 (own_ws ch) ch)), .unset, .unset] [(.int ch)])) (fun _ k => XS.iloadN X3.here hx rfl (hb hby at_44) rfl  k) ?_
  refine Goes.on (B := T3.setTop (mkF m 48 #[.val (.int p0), .val (.int p1), .val (.int ch), .val (.int (own_x11 p1)), .val (.int (own_l10 (own_ws ch) ch)), .unset, .unset] [(.int (133 : Int32)), (.int ch)])) (fun _ k => XS.sipush X3.here hx rfl (hb hby at_45) k) ?_
  refine Goes.via (B := T3.setTop (mkF m 63 #[.val (.int p0), .val (.int p1), .val (.int ch), .val (.int (own_x11 p1)), .val (.int (own_l10 (own_ws ch) ch)), .unset, .unset] [(.int (own_e11 ch))])) (fun J8 => ?_) ?_
  · skip
    by_cases hc48_9 : ch = (133 : Int32)
    · refine Goes.on (B := T3.setTop (mkF m 58 #[.val (.int p0), .val (.int p1), .val (.int ch), .val (.int (own_x11 p1)), .val (.int (own_l10 (own_ws ch) ch)), .unset, .unset] [])) (fun _ k => XS.icmpYes X3.here hx rfl (pc0 := 48) (pc' := 58) rfl (hb hby at_48) rfl (teq hc48_9).1 (by decide) (by decide) k) ?_
      refine Goes.on (B := T3.setTop (mkF m 59 #[.val (.int p0), .val (.int p1), .val (.int ch), .val (.int (own_x11 p1)), .val (.int (own_l10 (own_ws ch) ch)), .unset, .unset] [(.int (1 : Int32))])) (fun _ k => XS.iconst X3.here hx rfl (hb hby at_58) k) ?_
      refine Goes.on (B := T3.setTop (mkF m 63 #[.val (.int p0), .val (.int p1), .val (.int ch), .val (.int (own_x11 p1)), .val (.int (own_l10 (own_ws ch) ch)), .unset, .unset] [(.int (1 : Int32))])) (fun _ k => XS.goto X3.here hx rfl (pc0 := 59) (pc' := 63) rfl (hb hby at_59) (by decide) (by decide) k) ?_
      have hj : (own_e11 ch) = (1 : Int32) := by rw [own_e11, if_pos hc48_9]
      rw [hj] at J8; exact J8
    · refine Goes.on (B := T3.setTop (mkF m 51 #[.val (.int p0), .val (.int p1), .val (.int ch), .val (.int (own_x11 p1)), .val (.int (own_l10 (own_ws ch) ch)), .unset, .unset] [])) (fun _ k => XS.icmpNo X3.here hx rfl (hb hby at_48) rfl (feq hc48_9).1 k) ?_
      refine Goes.on (B := T3.setTop (mkF m 52 #[.val (.int p0), .val (.int p1), .val (.int ch), .val (.int (own_x11 p1)), .val (.int (own_l10 (own_ws ch) ch)), .unset, .unset] [(.int ch)])) (fun _ k => XS.iloadN X3.here hx rfl (hb hby at_51) rfl  k) ?_
      refine Goes.on (B := T3.setTop (mkF m 55 #[.val (.int p0), .val (.int p1), .val (.int ch), .val (.int (own_x11 p1)), .val (.int (own_l10 (own_ws ch) ch)), .unset, .unset] [(.int (8232 : Int32)), (.int ch)])) (fun _ k => XS.sipush X3.here hx rfl (hb hby at_52) k) ?_
      by_cases hc55_10 : ch = (8232 : Int32)
      · refine Goes.on (B := T3.setTop (mkF m 58 #[.val (.int p0), .val (.int p1), .val (.int ch), .val (.int (own_x11 p1)), .val (.int (own_l10 (own_ws ch) ch)), .unset, .unset] [])) (fun _ k => XS.icmpNo X3.here hx rfl (hb hby at_55) rfl (teq hc55_10).2 k) ?_
        refine Goes.on (B := T3.setTop (mkF m 59 #[.val (.int p0), .val (.int p1), .val (.int ch), .val (.int (own_x11 p1)), .val (.int (own_l10 (own_ws ch) ch)), .unset, .unset] [(.int (1 : Int32))])) (fun _ k => XS.iconst X3.here hx rfl (hb hby at_58) k) ?_
        refine Goes.on (B := T3.setTop (mkF m 63 #[.val (.int p0), .val (.int p1), .val (.int ch), .val (.int (own_x11 p1)), .val (.int (own_l10 (own_ws ch) ch)), .unset, .unset] [(.int (1 : Int32))])) (fun _ k => XS.goto X3.here hx rfl (pc0 := 59) (pc' := 63) rfl (hb hby at_59) (by decide) (by decide) k) ?_
        have hj : (own_e11 ch) = (1 : Int32) := by rw [own_e11, if_neg hc48_9, if_pos hc55_10]
        rw [hj] at J8; exact J8
      · refine Goes.on (B := T3.setTop (mkF m 62 #[.val (.int p0), .val (.int p1), .val (.int ch), .val (.int (own_x11 p1)), .val (.int (own_l10 (own_ws ch) ch)), .unset, .unset] [])) (fun _ k => XS.icmpYes X3.here hx rfl (pc0 := 55) (pc' := 62) rfl (hb hby at_55) rfl (feq hc55_10).2 (by decide) (by decide) k) ?_
        refine Goes.on (B := T3.setTop (mkF m 63 #[.val (.int p0), .val (.int p1), .val (.int ch), .val (.int (own_x11 p1)), .val (.int (own_l10 (own_ws ch) ch)), .unset, .unset] [(.int (0 : Int32))])) (fun _ k => XS.iconst X3.here hx rfl (hb hby at_62) k) ?_
        have hj : (own_e11 ch) = (0 : Int32) := by rw [own_e11, if_neg hc48_9, if_neg hc55_10]
        rw [hj] at J8; exact J8
  refine Goes.on (B := T3.setTop (mkF m 65 #[.val (.int p0), .val (.int p1), .val (.int ch), .val (.int (own_x11 p1)), .val (.int (own_l10 (own_ws ch) ch)), .val (.int (own_e11 ch)), .unset] [])) (fun _ k => XS.istore X3.here hx rfl (hb hby at_63) rfl (l' := #[.val (.int p0), .val (.int p1), .val (.int ch), .val (.int (own_x11 p1)), .val (.int (own_l10 (own_ws ch) ch)), .val (.int (own_e11 ch)), .unset]) rfl k) ?_
  refine Goes.on (B := T3.setTop (mkF m 67 #[.val (.int p0), .val (.int p1), .val (.int ch), .val (.int (own_x11 p1)), .val (.int (own_l10 (own_ws ch) ch)), .val (.int (own_e11 ch)), .unset] [(.int (own_l10 (own_ws ch) ch))])) (fun _ k => XS.iload X3.here hx rfl (hb hby at_65) rfl  k) ?_
  refine Goes.via (B := T3.setTop (mkF m 84 #[.val (.int p0), .val (.int p1), .val (.int ch), .val (.int (own_x11 p1)), .val (.int (own_l10 (own_ws ch) ch)), .val (.int (own_e11 ch)), .unset] [(.int (own_exp (own_l10 (own_ws ch) ch) (own_x11 p1) (own_e11 ch)))])) (fun J11 => ?_) ?_
  · skip
    by_cases hc67_12 : (own_l10 (own_ws ch) ch) = (0 : Int32)
    · refine Goes.on (B := T3.setTop (mkF m 70 #[.val (.int p0), .val (.int p1), .val (.int ch), .val (.int (own_x11 p1)), .val (.int (own_l10 (own_ws ch) ch)), .val (.int (own_e11 ch)), .unset] [])) (fun _ k => XS.ifNo X3.here hx rfl (hb hby at_67) rfl ((if0 _ _).trans (teq hc67_12).2) k) ?_
      refine Goes.on (B := T3.setTop (mkF m 71 #[.val (.int p0), .val (.int p1), .val (.int ch), .val (.int (own_x11 p1)), .val (.int (own_l10 (own_ws ch) ch)), .val (.int (own_e11 ch)), .unset] [(.int (own_x11 p1))])) (fun _ k => XS.iloadN X3.here hx rfl (hb hby at_70) rfl  k) ?_
      by_cases hc71_13 : (own_x11 p1) = (0 : Int32)
      · refine Goes.on (B := T3.setTop (mkF m 83 #[.val (.int p0), .val (.int p1), .val (.int ch), .val (.int (own_x11 p1)), .val (.int (own_l10 (own_ws ch) ch)), .val (.int (own_e11 ch)), .unset] [])) (fun _ k => XS.ifYes X3.here hx rfl (pc0 := 71) (pc' := 83) rfl (hb hby at_71) rfl ((if0 _ _).trans (teq hc71_13).1) (by decide) (by decide) k) ?_
        refine Goes.on (B := T3.setTop (mkF m 84 #[.val (.int p0), .val (.int p1), .val (.int ch), .val (.int (own_x11 p1)), .val (.int (own_l10 (own_ws ch) ch)), .val (.int (own_e11 ch)), .unset] [(.int (0 : Int32))])) (fun _ k => XS.iconst X3.here hx rfl (hb hby at_83) k) ?_
        have hj : (own_exp (own_l10 (own_ws ch) ch) (own_x11 p1) (own_e11 ch)) = (0 : Int32) := by rw [own_exp, if_pos hc67_12, if_pos hc71_13]
        rw [hj] at J11; exact J11
      · refine Goes.on (B := T3.setTop (mkF m 74 #[.val (.int p0), .val (.int p1), .val (.int ch), .val (.int (own_x11 p1)), .val (.int (own_l10 (own_ws ch) ch)), .val (.int (own_e11 ch)), .unset] [])) (fun _ k => XS.ifNo X3.here hx rfl (hb hby at_71) rfl ((if0 _ _).trans (feq hc71_13).1) k) ?_
        refine Goes.on (B := T3.setTop (mkF m 76 #[.val (.int p0), .val (.int p1), .val (.int ch), .val (.int (own_x11 p1)), .val (.int (own_l10 (own_ws ch) ch)), .val (.int (own_e11 ch)), .unset] [(.int (own_e11 ch))])) (fun _ k => XS.iload X3.here hx rfl (hb hby at_74) rfl  k) ?_
        by_cases hc76_14 : (own_e11 ch) = (0 : Int32)
        · refine Goes.on (B := T3.setTop (mkF m 83 #[.val (.int p0), .val (.int p1), .val (.int ch), .val (.int (own_x11 p1)), .val (.int (own_l10 (own_ws ch) ch)), .val (.int (own_e11 ch)), .unset] [])) (fun _ k => XS.ifYes X3.here hx rfl (pc0 := 76) (pc' := 83) rfl (hb hby at_76) rfl ((if0 _ _).trans (teq hc76_14).1) (by decide) (by decide) k) ?_
          refine Goes.on (B := T3.setTop (mkF m 84 #[.val (.int p0), .val (.int p1), .val (.int ch), .val (.int (own_x11 p1)), .val (.int (own_l10 (own_ws ch) ch)), .val (.int (own_e11 ch)), .unset] [(.int (0 : Int32))])) (fun _ k => XS.iconst X3.here hx rfl (hb hby at_83) k) ?_
          have hj : (own_exp (own_l10 (own_ws ch) ch) (own_x11 p1) (own_e11 ch)) = (0 : Int32) := by rw [own_exp, if_pos hc67_12, if_neg hc71_13, if_pos hc76_14]
          rw [hj] at J11; exact J11
        · refine Goes.on (B := T3.setTop (mkF m 79 #[.val (.int p0), .val (.int p1), .val (.int ch), .val (.int (own_x11 p1)), .val (.int (own_l10 (own_ws ch) ch)), .val (.int (own_e11 ch)), .unset] [])) (fun _ k => XS.ifNo X3.here hx rfl (hb hby at_76) rfl ((if0 _ _).trans (feq hc76_14).1) k) ?_
          refine Goes.on (B := T3.setTop (mkF m 80 #[.val (.int p0), .val (.int p1), .val (.int ch), .val (.int (own_x11 p1)), .val (.int (own_l10 (own_ws ch) ch)), .val (.int (own_e11 ch)), .unset] [(.int (1 : Int32))])) (fun _ k => XS.iconst X3.here hx rfl (hb hby at_79) k) ?_
          refine Goes.on (B := T3.setTop (mkF m 84 #[.val (.int p0), .val (.int p1), .val (.int ch), .val (.int (own_x11 p1)), .val (.int (own_l10 (own_ws ch) ch)), .val (.int (own_e11 ch)), .unset] [(.int (1 : Int32))])) (fun _ k => XS.goto X3.here hx rfl (pc0 := 80) (pc' := 84) rfl (hb hby at_80) (by decide) (by decide) k) ?_
          have hj : (own_exp (own_l10 (own_ws ch) ch) (own_x11 p1) (own_e11 ch)) = (1 : Int32) := by rw [own_exp, if_pos hc67_12, if_neg hc71_13, if_neg hc76_14]
          rw [hj] at J11; exact J11
    · refine Goes.on (B := T3.setTop (mkF m 79 #[.val (.int p0), .val (.int p1), .val (.int ch), .val (.int (own_x11 p1)), .val (.int (own_l10 (own_ws ch) ch)), .val (.int (own_e11 ch)), .unset] [])) (fun _ k => XS.ifYes X3.here hx rfl (pc0 := 67) (pc' := 79) rfl (hb hby at_67) rfl ((if0 _ _).trans (feq hc67_12).2) (by decide) (by decide) k) ?_
      refine Goes.on (B := T3.setTop (mkF m 80 #[.val (.int p0), .val (.int p1), .val (.int ch), .val (.int (own_x11 p1)), .val (.int (own_l10 (own_ws ch) ch)), .val (.int (own_e11 ch)), .unset] [(.int (1 : Int32))])) (fun _ k => XS.iconst X3.here hx rfl (hb hby at_79) k) ?_
      refine Goes.on (B := T3.setTop (mkF m 84 #[.val (.int p0), .val (.int p1), .val (.int ch), .val (.int (own_x11 p1)), .val (.int (own_l10 (own_ws ch) ch)), .val (.int (own_e11 ch)), .unset] [(.int (1 : Int32))])) (fun _ k => XS.goto X3.here hx rfl (pc0 := 80) (pc' := 84) rfl (hb hby at_80) (by decide) (by decide) k) ?_
      have hj : (own_exp (own_l10 (own_ws ch) ch) (own_x11 p1) (own_e11 ch)) = (1 : Int32) := by rw [own_exp, if_neg hc67_12]
      rw [hj] at J11; exact J11
  refine Goes.on (B := T3.setTop (mkF m 86 #[.val (.int p0), .val (.int p1), .val (.int ch), .val (.int (own_x11 p1)), .val (.int (own_l10 (own_ws ch) ch)), .val (.int (own_e11 ch)), .val (.int (own_exp (own_l10 (own_ws ch) ch) (own_x11 p1) (own_e11 ch)))] [])) (fun _ k => XS.istore X3.here hx rfl (hb hby at_84) rfl (l' := #[.val (.int p0), .val (.int p1), .val (.int ch), .val (.int (own_x11 p1)), .val (.int (own_l10 (own_ws ch) ch)), .val (.int (own_e11 ch)), .val (.int (own_exp (own_l10 (own_ws ch) ch) (own_x11 p1) (own_e11 ch)))]) rfl k) ?_
  refine Goes.on (B := T3.setTop (mkF m 87 #[.val (.int p0), .val (.int p1), .val (.int ch), .val (.int (own_x11 p1)), .val (.int (own_l10 (own_ws ch) ch)), .val (.int (own_e11 ch)), .val (.int (own_exp (own_l10 (own_ws ch) ch) (own_x11 p1) (own_e11 ch)))] [(.int ch)])) (fun _ k => XS.iloadN X3.here hx rfl (hb hby at_86) rfl  k) ?_
  refine Goes.on (B := T3.setTop (mkF m 88 #[.val (.int p0), .val (.int p1), .val (.int ch), .val (.int (own_x11 p1)), .val (.int (own_l10 (own_ws ch) ch)), .val (.int (own_e11 ch)), .val (.int (own_exp (own_l10 (own_ws ch) ch) (own_x11 p1) (own_e11 ch)))] [(.int (own_x11 p1)), (.int ch)])) (fun _ k => XS.iloadN X3.here hx rfl (hb hby at_87) rfl  k) ?_
  obtain ⟨_, _, ⟨T15, L15, k15, n15⟩, -, X15, ⟨Lc15, hQ15, l15, y15, z15⟩, st15⟩ := Jvm.LawKit.callS X3 hx (y := (⟨"com/example/heirloom_archive/heirloomarchive/xml/XmlDecoder", "isLineEnd", "(CZ)Z"⟩ : MethodName)) hown (mvT hZ (hw _ (List.mem_of_getElem? (i := 5) rfl))) (mvT hZ (hw _ (List.mem_of_getElem? (i := 6) rfl))) (mvT hZ (hw _ (List.mem_of_getElem? (i := 7) rfl))) (mvT hZ (hw _ (List.mem_of_getElem? (i := 8) rfl))) (by decide) (backOf (W := 0) (rm2 l Z a0 hw [] ch (own_x11 p1) h0 n0 Z0) hZ (hw _ (List.mem_of_getElem? (i := 8) rfl)) (hw _ (List.mem_of_getElem? (i := 7) rfl)) (by decide) (by decide)) (g := (mkF m 88 #[.val (.int p0), .val (.int p1), .val (.int ch), .val (.int (own_x11 p1)), .val (.int (own_l10 (own_ws ch) ch)), .val (.int (own_e11 ch)), .val (.int (own_exp (own_l10 (own_ws ch) ch) (own_x11 p1) (own_e11 ch)))] [(.int (own_x11 p1)), (.int ch)])) rfl (by rw [hml]; rfl) (argsL := [(.int ch), (.int (own_x11 p1))]) (rest := []) (lenOf pd_0__CZ_Z rfl) rfl (by show 2 * 0 + _ ≤ _; exact Nat.le_of_eq rfl) (hb hby at_88) (fun _ _ => ⟨rfl, eh3, (by decide : 0 + 0 ≤ _), (by decide : 0 + 0 ≤ _)⟩)
  dsimp only [Pt.U, Pt.locs, Pt.cells, Pt.slots] at X15 l15 y15 z15 st15 hQ15
  subst l15 y15 z15
  obtain ⟨rfl, Nq15, eh15⟩ := hQ15
  have N15 := Fr.app N3 Nq15
  refine Goes.on (B := T15.setTop (mkF m 91 #[.val (.int p0), .val (.int p1), .val (.int ch), .val (.int (own_x11 p1)), .val (.int (own_l10 (own_ws ch) ch)), .val (.int (own_e11 ch)), .val (.int (own_exp (own_l10 (own_ws ch) ch) (own_x11 p1) (own_e11 ch)))] [(.int (own_le ch (own_x11 p1)))])) (fun t k => st15 t k) ?_
  refine Goes.on (B := T15.setTop (mkF m 93 #[.val (.int p0), .val (.int p1), .val (.int ch), .val (.int (own_x11 p1)), .val (.int (own_l10 (own_ws ch) ch)), .val (.int (own_e11 ch)), .val (.int (own_exp (own_l10 (own_ws ch) ch) (own_x11 p1) (own_e11 ch)))] [(.int (own_exp (own_l10 (own_ws ch) ch) (own_x11 p1) (own_e11 ch))), (.int (own_le ch (own_x11 p1)))])) (fun _ k => XS.iload X15.here hx rfl (hb hby at_91) rfl  k) ?_
  refine Goes.on (B := T15.setTop (mkF m 96 #[.val (.int p0), .val (.int p1), .val (.int ch), .val (.int (own_x11 p1)), .val (.int (own_l10 (own_ws ch) ch)), .val (.int (own_e11 ch)), .val (.int (own_exp (own_l10 (own_ws ch) ch) (own_x11 p1) (own_e11 ch)))] [])) (fun _ k => XS.icmpNo X15.here hx rfl (hb hby at_93) rfl (teq (own_law ch p1)).2 k) ?_
  refine Goes.on (B := T15.setTop (mkF m 97 #[.val (.int p0), .val (.int p1), .val (.int ch), .val (.int (own_x11 p1)), .val (.int (own_l10 (own_ws ch) ch)), .val (.int (own_e11 ch)), .val (.int (own_exp (own_l10 (own_ws ch) ch) (own_x11 p1) (own_e11 ch)))] [(.int (1 : Int32))])) (fun _ k => XS.iconst X15.here hx rfl (hb hby at_96) k) ?_
  refine Goes.on (B := T15.setTop (mkF m 101 #[.val (.int p0), .val (.int p1), .val (.int ch), .val (.int (own_x11 p1)), .val (.int (own_l10 (own_ws ch) ch)), .val (.int (own_e11 ch)), .val (.int (own_exp (own_l10 (own_ws ch) ch) (own_x11 p1) (own_e11 ch)))] [(.int (1 : Int32))])) (fun _ k => XS.goto X15.here hx rfl (pc0 := 97) (pc' := 101) rfl (hb hby at_97) (by decide) (by decide) k) ?_
  obtain ⟨fs, hr, hrun, hended, hW, hsame⟩ := X15.leave (v := some (.int (1 : Int32))) (fun h => by rw [Bd.returns] at h; cases h)
  exact Goes.leaf (retN X15 hx (t := .boolean) Bd.returns (by simp) (hb hby at_101) hr) hrun hended ⟨_, _, rfl, by show Q0 Z p0 p1 h0 n0 _ T15.heap _; exact ⟨rfl, N15⟩, ⟨_, rfl⟩, hW, hsame.mono (by decide) (by decide)⟩
set_option maxRecDepth 65536 in
set_option maxHeartbeats 40000000 in
theorem comes_1 {Post : Tables → Env → Array Value → State → Outcome → State → Prop} (hpost : ∀ tb e args s v u, (limb_1_1.after args s (.returned v) u = true ∧ limb_1_2.after args s (.returned v) u = true ∧ True) → FrameEnd s (.returned v) u (Jvm.fieldLocs frame_1_writes args s ++ Jvm.arrayLocs frame_1_arrays args s ++ Jvm.staticLocs frame_1_statics s) 0 0 → Post tb e args s (.returned v) u) :
    ArmFor flags0 classFile x code maxLocals ret World_1 tables_1 room_1 Calls_1 rest_1 Pre_1 Post := by
  intro l hfl _ _ p e ha hc hk s m args below hf hA hF happ hP
  obtain ⟨hcalls, hrest, hpre⟩ := hP
  obtain ⟨-, -, -, hnamed, -, -, -, hat⟩ := (Spec.applies_iff hf).mp happ
  obtain ⟨hg, hn⟩ := and_e (Cond.before_iff.mp (show (Jvm.Cond.and given_1 narrow_1).before args s = true from hpre))
  obtain ⟨hg0, hg0r⟩ := and_e hg
  obtain ⟨hg1, hg1r⟩ := and_e hg0r
  obtain ⟨w0, w1, rfl⟩ : ∃ w0 w1 : Value, args = #[w0, w1] := by
    have hs : args.size = 2 := by simpa [Cond.value, given_1] using hg0
    obtain ⟨L⟩ := args
    match L, hs with
    | [w0, w1], _ => exact ⟨w0, w1, rfl⟩
  have hw := fun d (hd : d ∈ tables_1) => atoms_spec (ws := Jvm.Cond.code x code maxLocals ret :: tables_1) hat d (List.mem_cons_of_mem _ hd)
  have hfit : Fit s := fun {y c} hc i hi => by
    obtain ⟨ha, rfl⟩ := Array.getElem?_eq_some_iff.mp hc
    have q := List.all_eq_true.mp ((Array.all_eq_true_iff_forall_mem.mp hF) _ (Array.getElem_mem ha)) i (List.mem_range.mpr hi)
    simpa [Array.getElem?_eq_getElem hi] using q
  obtain ⟨i0, ei0⟩ := is_v hg1
  obtain rfl : w0 = (.int i0) := Option.some.inj ei0
  obtain ⟨i1, ei1⟩ := is_v hg1r
  obtain rfl : w1 = (.int i1) := Option.some.inj ei1
  obtain ⟨n, o, h1, h2, h3, _, L, rfl, ⟨rfl, N⟩, hq⟩ := rm0 l s _ hw tables_1 i0 i1  s.heap s.heap.size (Nat.le_refl _)  p e ha hc hk s m _ below hf ((Spec.applies_iff_loose hf).mp happ).1 ⟨rfl, State.Warmed39.refl s, rfl⟩ trivial
  refine ⟨n, _, h1, h2, h3, hpost _ _ _ _ _ _ ⟨Cond.after_iff.mpr rfl, Cond.after_iff.mpr (eq_i res_at (Term.int_eval (1)) rfl), trivial⟩ ⟨hq.1, hq.2.1, (hq.2.2.sift fun y hy => Or.inr (N y hy)).mono (by decide) (by decide)⟩⟩
theorem main_1_1 : Claimed_1_1 := comes_1 fun _ _ _ _ _ _ h hF => ⟨h.1, hF⟩
theorem main_1_2 : Claimed_1_2 := comes_1 fun _ _ _ _ _ _ h hF => ⟨h.2.1, hF⟩
end Jvm.Pilot.@@N@@
namespace Jvm.Pilot.@@N@@
open Jvm Jvm.ClassFile Sem Op Lib Jvm.Free Jvm.Stand Jvm.Pilot.@@N@@.Jvm.D
/-! MADE BY PROGRAM (witnessworld.py) out of the Statement's table words and the real class files: 16 classes; the members and pool entries that the words name. The judged class is class 1, her method 1. -/
namespace start1
open Jvm.ClassFile
def u (s : String) : CpInfo := .utf8 (stringToUtf16 s)
/-- a pool by its gaps: so many unusable entries, then the entry; so many at the end -/
def gap : Nat → List CpInfo → List CpInfo
  | 0, r => r
  | n + 1, r => .unusable :: gap n r
def poolList (es : List (Nat × CpInfo)) (last : Nat) : List CpInfo := es.foldr (fun e r => gap e.1 (e.2 :: r)) (gap last [])
def pool (es : List (Nat × CpInfo)) (last : Nat) : Array CpInfo := ⟨poolList es last⟩
def fileOf (pool : Array CpInfo) (this : Nat) (attrs : Array Attribute := #[]) (ms : Array MethodInfo := #[]) (fl : Nat := 33) (sup : Nat := 0) (ifs : Array Nat := #[]) (fds : Array FieldInfo := #[]) : ClassFile where
  minorVersion := 0
  majorVersion := 65
  constantPool := pool
  accessFlags := fl
  thisClass := this
  superClass := sup
  interfaces := ifs
  fields := fds
  methods := ms
  attributes := attrs
def plain (name : String) (sup : Option ClassId) : Class where
  name := name
  kind := .ordinary
  loader := none
  accessFlags := 33
  super := sup
  interfaces := #[]
  cf := none
  fields := #[]
  methods := #[]
  instanceTypes := #[]
  staticTypes := #[]
  resolved := #[]
  callSites := []
  init := .initialized
  statics := none
  mirror := none

def pool0 : Array CpInfo := pool [(5, u "<init>"), (0, u "()V"), (1, .class_ 10), (1, u "java/lang/Object")] 113

def k0m0 : Method := { name := "<init>", desc := "()V", sig := { parameters := [], returnType := none }, accessFlags := 1, code := none }
/-- java/lang/Object -/
def k0 : Class := { plain "java/lang/Object" none with
  accessFlags := 33
  interfaces := #[]
  cf := some (fileOf pool0 8 #[] #[{ accessFlags := 1, nameIndex := 5, descriptorIndex := 6, attributes := #[] }] 33 0 #[] #[])
  fields := #[]
  methods := #[k0m0]
  instanceTypes := #[]
  staticTypes := #[]
  resolved := Array.replicate 124 none
  statics := none }

def pool1 : Array CpInfo := pool [(2, .class_ 4), (1, u "java/lang/Object"), (0, u "<init>"), (0, u "()V"), (0, .integer 65535), (0, .methodref 9 10), (0, .class_ 11), (0, .nameAndType 12 13), (0, u "com/example/heirloom_archive/heirloomarchive/model/Text"), (0, u "isWhiteSpace"), (0, u "(C)Z"), (0, .methodref 15 16), (0, .class_ 17), (0, .nameAndType 18 19), (0, u "com/example/heirloom_archive/heirloomarchive/xml/XmlDecoder"), (0, u "isLineEnd"), (0, u "(CZ)Z"), (0, .class_ 21), (0, u "com/example/heirloom_archive/heirloomarchive/xml/XmlDecoderIsLineEndPinLaw"), (2, u "law"), (0, u "(II)Z")] 3

def k1m0 : Method := { name := "<init>", desc := "()V", sig := { parameters := [], returnType := none }, accessFlags := 1, code := none }
def k1c1 : Code := { maxStack := 2, maxLocals := 7, code := code, exceptionTable := #[], attributes := #[] }
def k1m1 : Method := { name := "law", desc := "(II)Z", sig := { parameters := [.int, .int], returnType := some .boolean }, accessFlags := 9, code := some k1c1 }
/-- com/example/heirloom_archive/heirloomarchive/xml/XmlDecoderIsLineEndPinLaw -/
def k1 : Class := { plain "com/example/heirloom_archive/heirloomarchive/xml/XmlDecoderIsLineEndPinLaw" (some 0) with
  accessFlags := 49
  interfaces := #[]
  cf := some (fileOf pool1 20 #[] #[{ accessFlags := 1, nameIndex := 5, descriptorIndex := 6, attributes := #[] }, { accessFlags := 9, nameIndex := 24, descriptorIndex := 25, attributes := #[] }] 49 2 #[] #[])
  fields := #[]
  methods := #[k1m0, k1m1]
  instanceTypes := #[]
  staticTypes := #[]
  resolved := Array.replicate 29 none
  statics := none }

def pool2 : Array CpInfo := pool [(2, .class_ 4), (1, u "java/lang/Object"), (0, u "<init>"), (0, u "()V"), (0, .class_ 8), (0, u "java/lang/Record")] 13

def k2m0 : Method := { name := "<init>", desc := "()V", sig := { parameters := [], returnType := none }, accessFlags := 4, code := none }
/-- java/lang/Record -/
def k2 : Class := { plain "java/lang/Record" (some 0) with
  accessFlags := 1057
  interfaces := #[]
  cf := some (fileOf pool2 7 #[] #[{ accessFlags := 4, nameIndex := 5, descriptorIndex := 6, attributes := #[] }] 1057 2 #[] #[])
  fields := #[]
  methods := #[k2m0]
  instanceTypes := #[]
  staticTypes := #[]
  resolved := Array.replicate 22 none
  statics := none }

def pool3 : Array CpInfo := pool [(1, .class_ 2), (0, u "com/example/heirloom_archive/heirloomarchive/model/Node"), (0, .class_ 4), (0, u "java/lang/Object")] 11

/-- com/example/heirloom_archive/heirloomarchive/model/Node -/
def k3 : Class := { plain "com/example/heirloom_archive/heirloomarchive/model/Node" (some 0) with
  accessFlags := 1537
  interfaces := #[]
  cf := some (fileOf pool3 1 #[] #[] 1537 3 #[] #[])
  fields := #[]
  methods := #[]
  instanceTypes := #[]
  staticTypes := #[]
  resolved := Array.replicate 16 none
  statics := none }

def pool4 : Array CpInfo := pool [(2, .class_ 4), (1, u "java/lang/Record"), (3, .class_ 10), (1, u "com/example/heirloom_archive/heirloomarchive/model/Text"), (0, u "text"), (0, u "Ljava/lang/String;"), (12, u "isWhiteSpace"), (0, u "(C)Z"), (86, .class_ 114), (0, u "com/example/heirloom_archive/heirloomarchive/model/Node")] 32

def k4c0 : Code := { maxStack := 2, maxLocals := 1, code := prog_97_method_10_code, exceptionTable := #[], attributes := #[] }
def k4m0 : Method := { name := "isWhiteSpace", desc := "(C)Z", sig := { parameters := [.char], returnType := some .boolean }, accessFlags := 9, code := some k4c0 }
/-- com/example/heirloom_archive/heirloomarchive/model/Text -/
def k4 : Class := { plain "com/example/heirloom_archive/heirloomarchive/model/Text" (some 2) with
  accessFlags := 49
  interfaces := #[3]
  cf := some (fileOf pool4 8 #[] #[{ accessFlags := 9, nameIndex := 25, descriptorIndex := 26, attributes := #[] }] 49 2 #[113] #[{ accessFlags := 18, nameIndex := 11, descriptorIndex := 12, attributes := #[] }])
  fields := #[{ name := "text", type := (.object "java/lang/String"), accessFlags := 18, slot := 0, constantValue := 0 }]
  methods := #[k4m0]
  instanceTypes := #[(.object "java/lang/String")]
  staticTypes := #[]
  resolved := Array.replicate 147 none
  statics := none }

def pool5 : Array CpInfo := pool [(1, .class_ 2), (0, u "java/lang/Readable"), (0, .class_ 4), (0, u "java/lang/Object")] 7

/-- java/lang/Readable -/
def k5 : Class := { plain "java/lang/Readable" (some 0) with
  accessFlags := 1537
  interfaces := #[]
  cf := some (fileOf pool5 1 #[] #[] 1537 3 #[] #[])
  fields := #[]
  methods := #[]
  instanceTypes := #[]
  staticTypes := #[]
  resolved := Array.replicate 12 none
  statics := none }

def pool6 : Array CpInfo := pool [(1, .class_ 2), (0, u "java/lang/AutoCloseable"), (0, .class_ 4), (0, u "java/lang/Object")] 7

/-- java/lang/AutoCloseable -/
def k6 : Class := { plain "java/lang/AutoCloseable" (some 0) with
  accessFlags := 1537
  interfaces := #[]
  cf := some (fileOf pool6 1 #[] #[] 1537 3 #[] #[])
  fields := #[]
  methods := #[]
  instanceTypes := #[]
  staticTypes := #[]
  resolved := Array.replicate 12 none
  statics := none }

def pool7 : Array CpInfo := pool [(1, .class_ 2), (0, u "java/io/Closeable"), (0, .class_ 4), (0, u "java/lang/Object"), (0, .class_ 6), (0, u "java/lang/AutoCloseable")] 7

/-- java/io/Closeable -/
def k7 : Class := { plain "java/io/Closeable" (some 0) with
  accessFlags := 1537
  interfaces := #[6]
  cf := some (fileOf pool7 1 #[] #[] 1537 3 #[5] #[])
  fields := #[]
  methods := #[]
  instanceTypes := #[]
  staticTypes := #[]
  resolved := Array.replicate 14 none
  statics := none }

def pool8 : Array CpInfo := pool [(1, .class_ 2), (0, u "java/io/Reader$1"), (2, u "<init>"), (0, u "()V"), (1, .class_ 9), (0, u "java/lang/Object"), (1, .class_ 13), (1, u "java/io/Reader"), (0, u "skipBuffer"), (0, u "[C"), (2, u "lock"), (0, u "Ljava/lang/Object;"), (117, .class_ 138), (0, u "java/lang/Readable"), (0, .class_ 140), (0, u "java/io/Closeable"), (0, u "TRANSFER_BUFFER_SIZE"), (0, u "I"), (2, u "maxSkipBufferSize")] 59

def k8m0 : Method := { name := "<init>", desc := "()V", sig := { parameters := [], returnType := none }, accessFlags := 4, code := none }
/-- java/io/Reader -/
def k8 : Class := { plain "java/io/Reader" (some 0) with
  accessFlags := 1057
  interfaces := #[5, 7]
  cf := some (fileOf pool8 11 #[.nestMembers #[1]] #[{ accessFlags := 4, nameIndex := 5, descriptorIndex := 6, attributes := #[] }] 1057 8 #[137, 139] #[{ accessFlags := 26, nameIndex := 141, descriptorIndex := 142, attributes := #[] }, { accessFlags := 4, nameIndex := 18, descriptorIndex := 19, attributes := #[] }, { accessFlags := 26, nameIndex := 145, descriptorIndex := 142, attributes := #[] }, { accessFlags := 2, nameIndex := 14, descriptorIndex := 15, attributes := #[] }])
  fields := #[{ name := "TRANSFER_BUFFER_SIZE", type := .int, accessFlags := 26, slot := 0, constantValue := 0 }, { name := "lock", type := (.object "java/lang/Object"), accessFlags := 4, slot := 0, constantValue := 0 }, { name := "maxSkipBufferSize", type := .int, accessFlags := 26, slot := 1, constantValue := 0 }, { name := "skipBuffer", type := (.array .char), accessFlags := 2, slot := 1, constantValue := 0 }]
  methods := #[k8m0]
  instanceTypes := #[(.object "java/lang/Object"), (.array .char)]
  staticTypes := #[.int, .int]
  resolved := Array.replicate 205 none
  statics := none }

def pool9 : Array CpInfo := pool [(2, .class_ 4), (1, u "java/io/Reader"), (2, .class_ 8), (0, u "com/example/heirloom_archive/heirloomarchive/xml/XmlDecoder"), (12, u "bytes"), (0, u "Ljava/nio/ByteBuffer;"), (10, u "characters"), (0, u "Ljava/nio/CharBuffer;"), (2, u "line"), (0, u "I"), (2, u "first"), (2, u "in"), (0, u "Ljava/io/InputStream;"), (2, u "decoder"), (0, u "Ljava/nio/charset/CharsetDecoder;"), (38, u "xml11"), (0, u "Z"), (5, u "OTHER_START"), (0, u "Lcom/example/heirloom_archive/heirloomarchive/xml/XmlDecoder$Start;"), (2, u "STARTS"), (0, u "Ljava/util/List;"), (15, .class_ 117), (0, u "com/example/heirloom_archive/heirloomarchive/xml/XmlDecoder$Start"), (22, u "DECLARATION"), (0, u "Ljava/util/regex/Pattern;"), (20, u "bytesEnded"), (19, u "ORDERED_BY_THE_START"), (0, u "Ljava/util/Map;"), (97, u "charactersEnded"), (88, u "isLineEnd"), (0, u "(CZ)Z"), (2, u "previous"), (0, u "C"), (49, u "BUFFER_SIZE"), (5, u "SPACE"), (0, u "Ljava/lang/String;"), (2, u "QUOTED"), (2, u "NAME"), (2, u "MISWRITTEN")] 42

def k9c0 : Code := { maxStack := 2, maxLocals := 2, code := prog_153_method_15_code, exceptionTable := #[], attributes := #[] }
def k9m0 : Method := { name := "isLineEnd", desc := "(CZ)Z", sig := { parameters := [.char, .boolean], returnType := some .boolean }, accessFlags := 8, code := some k9c0 }
/-- com/example/heirloom_archive/heirloomarchive/xml/XmlDecoder -/
def k9 : Class := { plain "com/example/heirloom_archive/heirloomarchive/xml/XmlDecoder" (some 8) with
  accessFlags := 48
  interfaces := #[]
  cf := some (fileOf pool9 7 #[.nestMembers #[116]] #[{ accessFlags := 8, nameIndex := 370, descriptorIndex := 371, attributes := #[] }] 48 2 #[] #[{ accessFlags := 26, nameIndex := 425, descriptorIndex := 38, attributes := #[] }, { accessFlags := 26, nameIndex := 99, descriptorIndex := 100, attributes := #[] }, { accessFlags := 26, nameIndex := 95, descriptorIndex := 96, attributes := #[] }, { accessFlags := 26, nameIndex := 182, descriptorIndex := 183, attributes := #[] }, { accessFlags := 26, nameIndex := 431, descriptorIndex := 432, attributes := #[] }, { accessFlags := 26, nameIndex := 435, descriptorIndex := 432, attributes := #[] }, { accessFlags := 26, nameIndex := 438, descriptorIndex := 432, attributes := #[] }, { accessFlags := 26, nameIndex := 140, descriptorIndex := 141, attributes := #[] }, { accessFlags := 26, nameIndex := 441, descriptorIndex := 38, attributes := #[] }, { accessFlags := 18, nameIndex := 44, descriptorIndex := 45, attributes := #[] }, { accessFlags := 18, nameIndex := 21, descriptorIndex := 22, attributes := #[] }, { accessFlags := 18, nameIndex := 33, descriptorIndex := 34, attributes := #[] }, { accessFlags := 2, nameIndex := 48, descriptorIndex := 49, attributes := #[] }, { accessFlags := 2, nameIndex := 88, descriptorIndex := 89, attributes := #[] }, { accessFlags := 2, nameIndex := 162, descriptorIndex := 89, attributes := #[] }, { accessFlags := 2, nameIndex := 281, descriptorIndex := 89, attributes := #[] }, { accessFlags := 2, nameIndex := 37, descriptorIndex := 38, attributes := #[] }, { accessFlags := 2, nameIndex := 374, descriptorIndex := 375, attributes := #[] }, { accessFlags := 2, nameIndex := 41, descriptorIndex := 38, attributes := #[] }])
  fields := #[{ name := "BUFFER_SIZE", type := .int, accessFlags := 26, slot := 0, constantValue := 0 }, { name := "STARTS", type := (.object "java/util/List"), accessFlags := 26, slot := 1, constantValue := 0 }, { name := "OTHER_START", type := (.object "com/example/heirloom_archive/heirloomarchive/xml/XmlDecoder$Start"), accessFlags := 26, slot := 2, constantValue := 0 }, { name := "ORDERED_BY_THE_START", type := (.object "java/util/Map"), accessFlags := 26, slot := 3, constantValue := 0 }, { name := "SPACE", type := (.object "java/lang/String"), accessFlags := 26, slot := 4, constantValue := 0 }, { name := "QUOTED", type := (.object "java/lang/String"), accessFlags := 26, slot := 5, constantValue := 0 }, { name := "NAME", type := (.object "java/lang/String"), accessFlags := 26, slot := 6, constantValue := 0 }, { name := "DECLARATION", type := (.object "java/util/regex/Pattern"), accessFlags := 26, slot := 7, constantValue := 0 }, { name := "MISWRITTEN", type := .int, accessFlags := 26, slot := 8, constantValue := 0 }, { name := "in", type := (.object "java/io/InputStream"), accessFlags := 18, slot := 2, constantValue := 0 }, { name := "bytes", type := (.object "java/nio/ByteBuffer"), accessFlags := 18, slot := 3, constantValue := 0 }, { name := "characters", type := (.object "java/nio/CharBuffer"), accessFlags := 18, slot := 4, constantValue := 0 }, { name := "decoder", type := (.object "java/nio/charset/CharsetDecoder"), accessFlags := 2, slot := 5, constantValue := 0 }, { name := "xml11", type := .boolean, accessFlags := 2, slot := 6, constantValue := 0 }, { name := "bytesEnded", type := .boolean, accessFlags := 2, slot := 7, constantValue := 0 }, { name := "charactersEnded", type := .boolean, accessFlags := 2, slot := 8, constantValue := 0 }, { name := "line", type := .int, accessFlags := 2, slot := 9, constantValue := 0 }, { name := "previous", type := .char, accessFlags := 2, slot := 10, constantValue := 0 }, { name := "first", type := .int, accessFlags := 2, slot := 11, constantValue := 0 }]
  methods := #[k9m0]
  instanceTypes := #[(.object "java/lang/Object"), (.array .char), (.object "java/io/InputStream"), (.object "java/nio/ByteBuffer"), (.object "java/nio/CharBuffer"), (.object "java/nio/charset/CharsetDecoder"), .boolean, .boolean, .boolean, .int, .char, .int]
  staticTypes := #[.int, (.object "java/util/List"), (.object "com/example/heirloom_archive/heirloomarchive/xml/XmlDecoder$Start"), (.object "java/util/Map"), (.object "java/lang/String"), (.object "java/lang/String"), (.object "java/lang/String"), (.object "java/util/regex/Pattern"), .int]
  resolved := Array.replicate 484 none
  statics := none }

def pool10 : Array CpInfo := pool [(1, u "java/lang/Cloneable"), (0, .class_ 1), (0, u "java/lang/Object"), (0, .class_ 3)] 3

/-- java/lang/Cloneable -/
def k10 : Class := { plain "java/lang/Cloneable" (some 0) with
  accessFlags := 1537
  interfaces := #[]
  cf := some (fileOf pool10 2 #[] #[] 1537 4 #[] #[])
  fields := #[]
  methods := #[]
  instanceTypes := #[]
  staticTypes := #[]
  resolved := Array.replicate 8 none
  statics := none }

def pool11 : Array CpInfo := pool [(1, u "java/io/Serializable"), (0, .class_ 1), (0, u "java/lang/Object"), (0, .class_ 3)] 3

/-- java/io/Serializable -/
def k11 : Class := { plain "java/io/Serializable" (some 0) with
  accessFlags := 1537
  interfaces := #[]
  cf := some (fileOf pool11 2 #[] #[] 1537 4 #[] #[])
  fields := #[]
  methods := #[]
  instanceTypes := #[]
  staticTypes := #[]
  resolved := Array.replicate 8 none
  statics := none }

/-- the primitive byte -/
def k12 : Class := { plain "byte" none with kind := .primitive 'B', accessFlags := 0x411 }
/-- [B -/
def k13 : Class := { plain "[B" (some 0) with kind := .array 12 .byte, interfaces := #[10, 11], accessFlags := 1041 }

/-- the primitive int -/
def k14 : Class := { plain "int" none with kind := .primitive 'I', accessFlags := 0x411 }
/-- [I -/
def k15 : Class := { plain "[I" (some 0) with kind := .array 14 .int, interfaces := #[10, 11], accessFlags := 1041 }

def heap : Heap := #[]
def classes : Array Class := #[k0, k1, k2, k3, k4, k5, k6, k7, k8, k9, k10, k11, k12, k13, k14, k15]
def interned : List (Array UInt16 × Addr) := []
def slotsUsed : Nat := 0
def theMethod : MethodId := ⟨1, 1⟩
def args0 : Array Value := #[.int 5, .int 1]
def aboutOver (below : List Frame) : State where
  vm := { classes := classes, interned := interned.toArray }
  heap := heap
  slotsUsed := slotsUsed
  threads := #[{ frames := .invoking theMethod args0 :: below }]
def below0 : List Frame := [.native { method := ⟨0, 0⟩, args := #[] }]
def about1 : State := aboutOver below0
def p0 : Program := .bare "" "" ""
def e0 : Env := launch0.env 0 0 0
theorem w_frames : about1.frames = Frame.invoking theMethod args0 :: below0 := rfl
set_option maxRecDepth 65536 in
theorem w_args : argsFit about1.vm theMethod args0 = true := by decide +kernel
set_option maxRecDepth 65536 in
theorem w_heap : heapFits about1 = true := by decide +kernel
set_option maxRecDepth 65536 in
theorem w_runnable : about1.curStatus? = some .runnable := by decide +kernel
set_option maxRecDepth 65536 in
theorem w_alone : about1.alone = true := by decide +kernel
set_option maxRecDepth 65536 in
theorem w_named : about1.methodNamed? x = some theMethod := by decide +kernel
set_option maxRecDepth 65536 in
theorem w_hears : about1.hears theMethod below0 = true := by decide +kernel
set_option maxRecDepth 65536 in
theorem w_ripe : about1.ripe theMethod args0 below0 = true := by decide +kernel
theorem w_running : about1.status = .running := rfl
set_option maxRecDepth 65536 in
theorem w_room : about1.hasRoom e0.platform room_1 = true :=
  launch0.hasRoom_least _ room_1 (by decide +kernel) (by decide +kernel) (by decide +kernel) (by decide +kernel) (by decide +kernel) (by decide +kernel)
theorem allAtoms_all (ts : List Jvm.Cond) (a : Array Jvm.Value) (st : Jvm.State) : (allAtoms ts).before a st = ts.all (fun c => c.before a st) := by
  induction ts with
  | nil => rfl
  | cons c t ih =>
    show (Jvm.Cond.and c (allAtoms t)).before a st = _
    rw [Jvm.Cond.before_and, ih, List.all_cons]
def words1 : List Jvm.Cond := Jvm.Cond.code x code maxLocals ret :: tables_1
/-- a 'code' word, met by the world's own term for the bytes: nothing is compared byte by byte -/
theorem code_word {y : MethodName} {bytes : ByteArray} {mx : Nat} {rt : Option FieldType} {a : Array Value} {s : State} {m : MethodId} {meth : Method} {c : Code} (h1 : s.methodNamed? y = some m) (h2 : s.vm.method? m = some meth) (h3 : meth.code = some c) (h4 : c.code = bytes)
    (h5 : (c.maxLocals == mx && c.exceptionTable.isEmpty && decide (c.maxStack ≤ mostOperands) && decide (meth.sig.returnType = rt) && !meth.locks && decide (parseMethodDescriptor y.desc = some meth.sig)) = true) : (Jvm.Cond.code y bytes mx rt).before a s = true := by
  simp only [Bool.and_eq_true, beq_iff_eq, Bool.not_eq_true', decide_eq_true_eq] at h5
  obtain ⟨⟨⟨⟨⟨g1, g2⟩, g3⟩, g4⟩, g5⟩, g6⟩ := h5
  simp [Cond.before, Cond.holds, Cond.value, h1, h2, h3, h4, g1, g2, g3, g4, g5, g6]
def isCode : Jvm.Cond → Bool
  | .code _ _ _ _ => true
  | _ => false
theorem all_split {L : List Jvm.Cond} {P : Jvm.Cond → Bool} (h1 : L.all (fun c => isCode c || P c) = true) (h2 : ∀ c ∈ L.filter isCode, P c = true) : L.all P = true := by
  refine List.all_eq_true.mpr fun c hc => ?_
  have h := List.all_eq_true.mp h1 c hc
  rcases Bool.eq_false_or_eq_true (isCode c) with hi | hi
  · exact h2 c (List.mem_filter.mpr ⟨hc, hi⟩)
  · simpa [hi] using h
set_option maxRecDepth 65536 in
theorem w_c0 : (Jvm.Cond.code x code maxLocals ret).before args0 about1 = true := code_word (m := ⟨1, 1⟩) (meth := k1m1) (c := k1c1) (by decide +kernel) rfl rfl rfl (by decide +kernel)
set_option maxRecDepth 65536 in
theorem w_c1 : (Jvm.Cond.code ({ cls := "com/example/heirloom_archive/heirloomarchive/model/Text", name := "isWhiteSpace", desc := "(C)Z" } : Jvm.MethodName) prog_97_method_10_code (1 : Nat) (Option.some Jvm.ClassFile.FieldType.boolean)).before args0 about1 = true := code_word (m := ⟨4, 0⟩) (meth := k4m0) (c := k4c0) (by decide +kernel) rfl rfl rfl (by decide +kernel)
set_option maxRecDepth 65536 in
theorem w_c2 : (Jvm.Cond.code ({ cls := "com/example/heirloom_archive/heirloomarchive/xml/XmlDecoder", name := "isLineEnd", desc := "(CZ)Z" } : Jvm.MethodName) prog_153_method_15_code (2 : Nat) (Option.some Jvm.ClassFile.FieldType.boolean)).before args0 about1 = true := code_word (m := ⟨9, 0⟩) (meth := k9m0) (c := k9c0) (by decide +kernel) rfl rfl rfl (by decide +kernel)
def codes1 : List Jvm.Cond := [Jvm.Cond.code x code maxLocals ret, Jvm.Cond.code ({ cls := "com/example/heirloom_archive/heirloomarchive/model/Text", name := "isWhiteSpace", desc := "(C)Z" } : Jvm.MethodName) prog_97_method_10_code (1 : Nat) (Option.some Jvm.ClassFile.FieldType.boolean), Jvm.Cond.code ({ cls := "com/example/heirloom_archive/heirloomarchive/xml/XmlDecoder", name := "isLineEnd", desc := "(CZ)Z" } : Jvm.MethodName) prog_153_method_15_code (2 : Nat) (Option.some Jvm.ClassFile.FieldType.boolean)]
set_option maxRecDepth 65536 in
theorem codes_eq : words1.filter isCode = codes1 := rfl
theorem w_codes : ∀ c ∈ words1.filter isCode, c.before args0 about1 = true := by
  rw [codes_eq]
  intro c hc
  simp only [codes1, List.mem_cons, List.not_mem_nil, or_false] at hc
  rcases hc with rfl | rfl | rfl
  · exact w_c0
  · exact w_c1
  · exact w_c2
set_option maxRecDepth 65536 in
theorem w_t1 : words1.all (fun c => isCode c || c.before args0 about1) = true := by decide +kernel
theorem w_tables : (allAtoms (Jvm.Cond.code x code maxLocals ret :: tables_1)).before args0 about1 = true := by
  rw [allAtoms_all]
  show words1.all (fun c => c.before args0 about1) = true
  refine all_split ?_ w_codes
  rw [w_t1]
set_option maxRecDepth 65536 in
theorem w_case : (Jvm.Cond.and given_1 narrow_1).before args0 about1 = true := by decide +kernel
theorem w_applies : (headSpec (Jvm.Cond.code x code maxLocals ret :: tables_1) room_1).applies x e0.platform about1 = true :=
  (Spec.applies_iff w_frames).mpr ⟨w_running, w_runnable, w_alone, w_named, w_hears, w_ripe, w_room, w_tables⟩
theorem atStart : AtStart classFile x code maxLocals ret World_1 tables_1 room_1 Calls_1 rest_1 Pre_1 launch0 p0 e0 about1 theMethod args0 below0 :=
  ⟨lists_1, trivial, launch0.admits_env _ _ _, launch0.least_env, fairChoices_fair.cas, fairChoices_fair.clock, w_frames, w_args, w_heap, w_applies, trivial, trivial, w_case⟩
end start1
theorem witness_1 : WitnessClaimed_1 := ⟨start1.p0, start1.e0, start1.about1, start1.theMethod, start1.args0, start1.below0, start1.atStart⟩
end Jvm.Pilot.@@N@@
