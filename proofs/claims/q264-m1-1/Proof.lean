import JvmDerived
import JvmDerived.Pilot.@@N@@Statement
import JvmDerived.Pilot.@@N@@Code
set_option linter.unusedVariables false
set_option linter.unusedSimpArgs false
@@BLOCK:NumsL.lean.txt@@
namespace Jvm.Pilot.@@N@@
open Jvm Jvm.ClassFile Sem Op Lib Jvm.Free Jvm.Stand Jvm.LawKit Jvm.RoadKit Bundle Jvm.Pilot.@@N@@.Jvm.D
/-! the goal of a walk, carried forward -/
def Goes (p : Program) (e : Env) (below : List Frame) (P : Outcome → State → Prop) (A : State) : Prop :=
  ∃ s₂ o, Steps p.tables e below A s₂ ∧ s₂.status = .running ∧ Ended s₂ below o ∧ P o s₂
theorem Goes.on {p : Program} {e : Env} {below : List Frame} {P : Outcome → State → Prop} {A B : State} (k : ∀ t, Steps p.tables e below B t → Steps p.tables e below A t) (h : Goes p e below P B) : Goes p e below P A := by
  obtain ⟨s₂, o, h1, h2⟩ := h
  exact ⟨s₂, o, k _ h1, h2⟩
theorem Goes.via {p : Program} {e : Env} {below : List Frame} {P : Outcome → State → Prop} {A B : State} (k : Goes p e below P B → Goes p e below P A) (h : Goes p e below P B) : Goes p e below P A := k h
theorem Goes.viaT {p : Program} {e : Env} {below : List Frame} {P : Outcome → State → Prop} {A : State} {Φ : State → Prop} {F : JFrame} (k : (∀ T, Φ T → Goes p e below P (T.setTop F)) → Goes p e below P A) (h : ∀ T, Φ T → Goes p e below P (T.setTop F)) : Goes p e below P A := k h
theorem Goes.leaf {p : Program} {e : Env} {below : List Frame} {P : Outcome → State → Prop} {A t : State} {o : Outcome} (h1 : Steps p.tables e below A t) (h2 : t.status = .running) (h3 : Ended t below o) (h4 : P o t) : Goes p e below P A := ⟨t, o, h1, h2, h3, h4⟩
theorem own_retI {p : Program} {l : Launch} {e : Env} {R : Room} {s : State} {m : MethodId} {args : Array Value} {below : List Frame} {meth : Method} {c : Code} {T : State} {locs : List Loc} {cells slots : Nat} (X : Stand p l e R s m args below meth c T locs cells slots) (hx : p.tables.exec = Jvm.exec) {pc : Nat} {Ls : Array Slot} {z : Int32} {rest : List Value} (hret : meth.sig.returnType = some .int) (hd : decode c.code pc = .ok (.ireturn, 1)) {fs : List Frame}
    (hl : ∀ (f : JFrame) (acts : List Action), f.method = m → f.locked = none → f.entered = [] → (doReturn e (T.setTop f) acts (some (.int z))).1 = T.setFrames fs) : Steps p.tables e below (T.setTop (mkF m pc Ls (.int z :: rest))) (T.setFrames fs) :=
  retOut X hx hret rfl (Or.inl ⟨rfl, Or.inl rfl, z, rfl⟩) hd hl
theorem own_retJ {p : Program} {l : Launch} {e : Env} {R : Room} {s : State} {m : MethodId} {args : Array Value} {below : List Frame} {meth : Method} {c : Code} {T : State} {locs : List Loc} {cells slots : Nat} (X : Stand p l e R s m args below meth c T locs cells slots) (hx : p.tables.exec = Jvm.exec) {pc : Nat} {Ls : Array Slot} {z : Int64} {rest : List Value} (hret : meth.sig.returnType = some .long) (hd : decode c.code pc = .ok (.lreturn, 1)) {fs : List Frame}
    (hl : ∀ (f : JFrame) (acts : List Action), f.method = m → f.locked = none → f.entered = [] → (doReturn e (T.setTop f) acts (some (.long z))).1 = T.setFrames fs) : Steps p.tables e below (T.setTop (mkF m pc Ls (.long z :: rest))) (T.setFrames fs) :=
  retOut X hx hret rfl (Or.inr (Or.inl ⟨rfl, rfl, z, rfl⟩)) hd hl
theorem own_retR {p : Program} {l : Launch} {e : Env} {R : Room} {s : State} {m : MethodId} {args : Array Value} {below : List Frame} {meth : Method} {c : Code} {T : State} {locs : List Loc} {cells slots : Nat} (X : Stand p l e R s m args below meth c T locs cells slots) (hx : p.tables.exec = Jvm.exec) {pc : Nat} {Ls : Array Slot} {z : Addr} {t : FieldType} {rest : List Value} (hret : meth.sig.returnType = some t) (ht : t.isReference = true) (hn : narrow t (.ref z) = .ref z) (hd : decode c.code pc = .ok (.areturn, 1)) {fs : List Frame}
    (hl : ∀ (f : JFrame) (acts : List Action), f.method = m → f.locked = none → f.entered = [] → (doReturn e (T.setTop f) acts (some (.ref z))).1 = T.setFrames fs) : Steps p.tables e below (T.setTop (mkF m pc Ls (.ref z :: rest))) (T.setFrames fs) :=
  retOut X hx hret hn (Or.inr (Or.inr (Or.inr (Or.inr ⟨rfl, ht, rfl⟩)))) hd hl
def own_in (p0 : Int32) (p1 : Int32) (p2 : Int32) : Int32 := (if p0 < p2 then (if p0 < p1 then (if p2 < p1 then (0 : Int32) else (1 : Int32)) else (0 : Int32)) else (if p0 < p1 then (1 : Int32) else (if p2 < p1 then (0 : Int32) else (1 : Int32))))
def own_mb (p0 : Int32) (p1 : Int32) (p2 : Int32) : Int32 := (if (own_in p0 p1 p2) = (0 : Int32) then (1 : Int32) else (0 : Int32))
theorem d1_0 : decode prog_39_method_3_code 0 = .ok (.iload_n 0, 1) := by decide +kernel
theorem d1_1 : decode prog_39_method_3_code 1 = .ok (.iload_n 2, 1) := by decide +kernel
theorem d1_2 : decode prog_39_method_3_code 2 = .ok (.if_icmp .ge 21, 3) := by decide +kernel
theorem d1_5 : decode prog_39_method_3_code 5 = .ok (.iload_n 0, 1) := by decide +kernel
theorem d1_6 : decode prog_39_method_3_code 6 = .ok (.iload_n 1, 1) := by decide +kernel
theorem d1_7 : decode prog_39_method_3_code 7 = .ok (.if_icmp .ge 12, 3) := by decide +kernel
theorem d1_10 : decode prog_39_method_3_code 10 = .ok (.iload_n 1, 1) := by decide +kernel
theorem d1_11 : decode prog_39_method_3_code 11 = .ok (.iload_n 2, 1) := by decide +kernel
theorem d1_12 : decode prog_39_method_3_code 12 = .ok (.if_icmp .gt 7, 3) := by decide +kernel
theorem d1_15 : decode prog_39_method_3_code 15 = .ok (.iconst 1, 1) := by decide +kernel
theorem d1_16 : decode prog_39_method_3_code 16 = .ok (.goto 22, 3) := by decide +kernel
theorem d1_19 : decode prog_39_method_3_code 19 = .ok (.iconst 0, 1) := by decide +kernel
theorem d1_20 : decode prog_39_method_3_code 20 = .ok (.goto 18, 3) := by decide +kernel
theorem d1_23 : decode prog_39_method_3_code 23 = .ok (.iload_n 0, 1) := by decide +kernel
theorem d1_24 : decode prog_39_method_3_code 24 = .ok (.iload_n 1, 1) := by decide +kernel
theorem d1_25 : decode prog_39_method_3_code 25 = .ok (.if_icmp .lt 8, 3) := by decide +kernel
theorem d1_28 : decode prog_39_method_3_code 28 = .ok (.iload_n 1, 1) := by decide +kernel
theorem d1_29 : decode prog_39_method_3_code 29 = .ok (.iload_n 2, 1) := by decide +kernel
theorem d1_30 : decode prog_39_method_3_code 30 = .ok (.if_icmp .gt 7, 3) := by decide +kernel
theorem d1_33 : decode prog_39_method_3_code 33 = .ok (.iconst 1, 1) := by decide +kernel
theorem d1_34 : decode prog_39_method_3_code 34 = .ok (.goto 4, 3) := by decide +kernel
theorem d1_37 : decode prog_39_method_3_code 37 = .ok (.iconst 0, 1) := by decide +kernel
theorem d1_38 : decode prog_39_method_3_code 38 = .ok (.istore_n 3, 1) := by decide +kernel
theorem d1_39 : decode prog_39_method_3_code 39 = .ok (.iload_n 3, 1) := by decide +kernel
theorem d1_40 : decode prog_39_method_3_code 40 = .ok (.ifCond .ne 7, 3) := by decide +kernel
theorem d1_43 : decode prog_39_method_3_code 43 = .ok (.iconst 1, 1) := by decide +kernel
theorem d1_44 : decode prog_39_method_3_code 44 = .ok (.goto 4, 3) := by decide +kernel
theorem d1_47 : decode prog_39_method_3_code 47 = .ok (.iconst 0, 1) := by decide +kernel
theorem d1_48 : decode prog_39_method_3_code 48 = .ok (.ireturn, 1) := by decide +kernel
theorem pn_1 : plainName "com/example/wise_broker/wisebroker/filter/Slots" = true := by first | (simp [plainName, overriddenIn]; done) | decide +kernel
theorem ef_1 (m : MethodId) (x0 : Int32) (x1 : Int32) (x2 : Int32) : entryFrame m #[(.int x0), (.int x1), (.int x2)] 4 = mkF m 0 #[.val (.int x0), .val (.int x1), .val (.int x2), .unset] [] := by first | (simp [entryFrame, mkF, argsToLocals, Value.category]; done) | rfl
def Q1 (Z : State) (p0 : Int32) (p1 : Int32) (p2 : Int32)  (h0 : Heap) (n0 : Nat) (v : Option Value) (h : Heap) (L : List Loc) : Prop := v = some (.int (own_mb p0 p1 p2)) ∧ Fr n0 L ∧ h = h0
set_option maxRecDepth 65536 in
set_option maxHeartbeats 40000000 in
theorem rm1 (l : Launch) (Z : State) (a0 : Array Value) (hw : ∀ d ∈ tables_1, d.before a0 Z = true) (ws : List Jvm.Cond) (p0 : Int32) (p1 : Int32) (p2 : Int32)  (h0 : Heap) (n0 : Nat) (Z0 : n0 ≤ h0.size)  :
    MetFree l (⟨"com/example/wise_broker/wisebroker/filter/Slots", "movesBack", "(III)Z"⟩ : MethodName) (head1 (Jvm.Cond.code (⟨"com/example/wise_broker/wisebroker/filter/Slots", "movesBack", "(III)Z"⟩ : MethodName) prog_39_method_3_code 4 (some .boolean) :: ws) ({ frames := 0, cells := 0, slots := 0, locals := 0 } : Room)) (fun a U => a = #[(.int p0), (.int p1), (.int p2)] ∧ Z.Warmed39 U.vm ∧ U.heap = h0) (fun _ _ _ _ _ => True) (fun _ U o U' => ∃ v L, o = .returned v ∧ Q1 Z p0 p1 p2 h0 n0 v U'.heap L ∧ FrameEnd U o U' L ({ frames := 0, cells := 0, slots := 0, locals := 0 } : Room).cells ({ frames := 0, cells := 0, slots := 0, locals := 0 } : Room).slots) := by
  refine MetFree.of_bodySF (plainFor_of_name pn_1) hisR ?_
  intro p e s m args below meth c s₁ Bd hml0 hP hK
  obtain ⟨rfl, hZ, hh⟩ := hP
  have hx := Bd.exec
  have hby := Bd.bytes
  have hml : c.maxLocals = 4 := hml0
  have hown : s.vm.findClass "com/example/wise_broker/wisebroker/filter/Slots" = some m.cls := findClass_of_methodNamed Bd.named
  have hnm := (name_of_methodNamed Bd.named Bd.method).1
  have X0 : Stand p l e ({ frames := 0, cells := 0, slots := 0, locals := 0 } : Room) s m #[(.int p0), (.int p1), (.int p2)] below meth c s₁ [] 0 0 := Stand.of_body Bd
  have e0 : s₁.heap = h0 := by rw [← hh, Bd.state]; rfl
  have N0 := Fr.nil n0
  show Goes p e below _ (s₁.setTop (entryFrame m #[(.int p0), (.int p1), (.int p2)] 4))
  refine Goes.on (B := s₁.setTop (mkF m 0 #[.val (.int p0), .val (.int p1), .val (.int p2), .unset] [])) (fun t k => castTop (ef_1 m p0 p1 p2) k) ?_
  refine Goes.on (B := s₁.setTop (mkF m 1 #[.val (.int p0), .val (.int p1), .val (.int p2), .unset] [(.int p0)])) (fun _ k => XS.iloadN X0.here hx rfl (hb hby d1_0) rfl  k) ?_
  refine Goes.on (B := s₁.setTop (mkF m 2 #[.val (.int p0), .val (.int p1), .val (.int p2), .unset] [(.int p2), (.int p0)])) (fun _ k => XS.iloadN X0.here hx rfl (hb hby d1_1) rfl  k) ?_
  refine Goes.via (B := s₁.setTop (mkF m 38 #[.val (.int p0), .val (.int p1), .val (.int p2), .unset] [(.int (own_in p0 p1 p2))])) (fun J1 => ?_) ?_
  · skip
    by_cases hc2_2 : p0 < p2
    · refine Goes.on (B := s₁.setTop (mkF m 5 #[.val (.int p0), .val (.int p1), .val (.int p2), .unset] [])) (fun _ k => XS.icmpNo X0.here hx rfl (hb hby d1_2) rfl (tlt hc2_2).2.1 k) ?_
      refine Goes.on (B := s₁.setTop (mkF m 6 #[.val (.int p0), .val (.int p1), .val (.int p2), .unset] [(.int p0)])) (fun _ k => XS.iloadN X0.here hx rfl (hb hby d1_5) rfl  k) ?_
      refine Goes.on (B := s₁.setTop (mkF m 7 #[.val (.int p0), .val (.int p1), .val (.int p2), .unset] [(.int p1), (.int p0)])) (fun _ k => XS.iloadN X0.here hx rfl (hb hby d1_6) rfl  k) ?_
      by_cases hc7_3 : p0 < p1
      · refine Goes.on (B := s₁.setTop (mkF m 10 #[.val (.int p0), .val (.int p1), .val (.int p2), .unset] [])) (fun _ k => XS.icmpNo X0.here hx rfl (hb hby d1_7) rfl (tlt hc7_3).2.1 k) ?_
        refine Goes.on (B := s₁.setTop (mkF m 11 #[.val (.int p0), .val (.int p1), .val (.int p2), .unset] [(.int p1)])) (fun _ k => XS.iloadN X0.here hx rfl (hb hby d1_10) rfl  k) ?_
        refine Goes.on (B := s₁.setTop (mkF m 12 #[.val (.int p0), .val (.int p1), .val (.int p2), .unset] [(.int p2), (.int p1)])) (fun _ k => XS.iloadN X0.here hx rfl (hb hby d1_11) rfl  k) ?_
        by_cases hc12_4 : p2 < p1
        · refine Goes.on (B := s₁.setTop (mkF m 19 #[.val (.int p0), .val (.int p1), .val (.int p2), .unset] [])) (fun _ k => XS.icmpYes X0.here hx rfl (pc0 := 12) (pc' := 19) rfl (hb hby d1_12) rfl (tlt hc12_4).2.2.1 (by decide) (by decide) k) ?_
          refine Goes.on (B := s₁.setTop (mkF m 20 #[.val (.int p0), .val (.int p1), .val (.int p2), .unset] [(.int (0 : Int32))])) (fun _ k => XS.iconst X0.here hx rfl (hb hby d1_19) k) ?_
          refine Goes.on (B := s₁.setTop (mkF m 38 #[.val (.int p0), .val (.int p1), .val (.int p2), .unset] [(.int (0 : Int32))])) (fun _ k => XS.goto X0.here hx rfl (pc0 := 20) (pc' := 38) rfl (hb hby d1_20) (by decide) (by decide) k) ?_
          have hj : (own_in p0 p1 p2) = (0 : Int32) := by rw [own_in, if_pos hc2_2, if_pos hc7_3, if_pos hc12_4]
          rw [hj] at J1; exact J1
        · refine Goes.on (B := s₁.setTop (mkF m 15 #[.val (.int p0), .val (.int p1), .val (.int p2), .unset] [])) (fun _ k => XS.icmpNo X0.here hx rfl (hb hby d1_12) rfl (flt hc12_4).2.2.1 k) ?_
          refine Goes.on (B := s₁.setTop (mkF m 16 #[.val (.int p0), .val (.int p1), .val (.int p2), .unset] [(.int (1 : Int32))])) (fun _ k => XS.iconst X0.here hx rfl (hb hby d1_15) k) ?_
          refine Goes.on (B := s₁.setTop (mkF m 38 #[.val (.int p0), .val (.int p1), .val (.int p2), .unset] [(.int (1 : Int32))])) (fun _ k => XS.goto X0.here hx rfl (pc0 := 16) (pc' := 38) rfl (hb hby d1_16) (by decide) (by decide) k) ?_
          have hj : (own_in p0 p1 p2) = (1 : Int32) := by rw [own_in, if_pos hc2_2, if_pos hc7_3, if_neg hc12_4]
          rw [hj] at J1; exact J1
      · refine Goes.on (B := s₁.setTop (mkF m 19 #[.val (.int p0), .val (.int p1), .val (.int p2), .unset] [])) (fun _ k => XS.icmpYes X0.here hx rfl (pc0 := 7) (pc' := 19) rfl (hb hby d1_7) rfl (flt hc7_3).2.1 (by decide) (by decide) k) ?_
        refine Goes.on (B := s₁.setTop (mkF m 20 #[.val (.int p0), .val (.int p1), .val (.int p2), .unset] [(.int (0 : Int32))])) (fun _ k => XS.iconst X0.here hx rfl (hb hby d1_19) k) ?_
        refine Goes.on (B := s₁.setTop (mkF m 38 #[.val (.int p0), .val (.int p1), .val (.int p2), .unset] [(.int (0 : Int32))])) (fun _ k => XS.goto X0.here hx rfl (pc0 := 20) (pc' := 38) rfl (hb hby d1_20) (by decide) (by decide) k) ?_
        have hj : (own_in p0 p1 p2) = (0 : Int32) := by rw [own_in, if_pos hc2_2, if_neg hc7_3]
        rw [hj] at J1; exact J1
    · refine Goes.on (B := s₁.setTop (mkF m 23 #[.val (.int p0), .val (.int p1), .val (.int p2), .unset] [])) (fun _ k => XS.icmpYes X0.here hx rfl (pc0 := 2) (pc' := 23) rfl (hb hby d1_2) rfl (flt hc2_2).2.1 (by decide) (by decide) k) ?_
      refine Goes.on (B := s₁.setTop (mkF m 24 #[.val (.int p0), .val (.int p1), .val (.int p2), .unset] [(.int p0)])) (fun _ k => XS.iloadN X0.here hx rfl (hb hby d1_23) rfl  k) ?_
      refine Goes.on (B := s₁.setTop (mkF m 25 #[.val (.int p0), .val (.int p1), .val (.int p2), .unset] [(.int p1), (.int p0)])) (fun _ k => XS.iloadN X0.here hx rfl (hb hby d1_24) rfl  k) ?_
      by_cases hc25_5 : p0 < p1
      · refine Goes.on (B := s₁.setTop (mkF m 33 #[.val (.int p0), .val (.int p1), .val (.int p2), .unset] [])) (fun _ k => XS.icmpYes X0.here hx rfl (pc0 := 25) (pc' := 33) rfl (hb hby d1_25) rfl (tlt hc25_5).1 (by decide) (by decide) k) ?_
        refine Goes.on (B := s₁.setTop (mkF m 34 #[.val (.int p0), .val (.int p1), .val (.int p2), .unset] [(.int (1 : Int32))])) (fun _ k => XS.iconst X0.here hx rfl (hb hby d1_33) k) ?_
        refine Goes.on (B := s₁.setTop (mkF m 38 #[.val (.int p0), .val (.int p1), .val (.int p2), .unset] [(.int (1 : Int32))])) (fun _ k => XS.goto X0.here hx rfl (pc0 := 34) (pc' := 38) rfl (hb hby d1_34) (by decide) (by decide) k) ?_
        have hj : (own_in p0 p1 p2) = (1 : Int32) := by rw [own_in, if_neg hc2_2, if_pos hc25_5]
        rw [hj] at J1; exact J1
      · refine Goes.on (B := s₁.setTop (mkF m 28 #[.val (.int p0), .val (.int p1), .val (.int p2), .unset] [])) (fun _ k => XS.icmpNo X0.here hx rfl (hb hby d1_25) rfl (flt hc25_5).1 k) ?_
        refine Goes.on (B := s₁.setTop (mkF m 29 #[.val (.int p0), .val (.int p1), .val (.int p2), .unset] [(.int p1)])) (fun _ k => XS.iloadN X0.here hx rfl (hb hby d1_28) rfl  k) ?_
        refine Goes.on (B := s₁.setTop (mkF m 30 #[.val (.int p0), .val (.int p1), .val (.int p2), .unset] [(.int p2), (.int p1)])) (fun _ k => XS.iloadN X0.here hx rfl (hb hby d1_29) rfl  k) ?_
        by_cases hc30_6 : p2 < p1
        · refine Goes.on (B := s₁.setTop (mkF m 37 #[.val (.int p0), .val (.int p1), .val (.int p2), .unset] [])) (fun _ k => XS.icmpYes X0.here hx rfl (pc0 := 30) (pc' := 37) rfl (hb hby d1_30) rfl (tlt hc30_6).2.2.1 (by decide) (by decide) k) ?_
          refine Goes.on (B := s₁.setTop (mkF m 38 #[.val (.int p0), .val (.int p1), .val (.int p2), .unset] [(.int (0 : Int32))])) (fun _ k => XS.iconst X0.here hx rfl (hb hby d1_37) k) ?_
          have hj : (own_in p0 p1 p2) = (0 : Int32) := by rw [own_in, if_neg hc2_2, if_neg hc25_5, if_pos hc30_6]
          rw [hj] at J1; exact J1
        · refine Goes.on (B := s₁.setTop (mkF m 33 #[.val (.int p0), .val (.int p1), .val (.int p2), .unset] [])) (fun _ k => XS.icmpNo X0.here hx rfl (hb hby d1_30) rfl (flt hc30_6).2.2.1 k) ?_
          refine Goes.on (B := s₁.setTop (mkF m 34 #[.val (.int p0), .val (.int p1), .val (.int p2), .unset] [(.int (1 : Int32))])) (fun _ k => XS.iconst X0.here hx rfl (hb hby d1_33) k) ?_
          refine Goes.on (B := s₁.setTop (mkF m 38 #[.val (.int p0), .val (.int p1), .val (.int p2), .unset] [(.int (1 : Int32))])) (fun _ k => XS.goto X0.here hx rfl (pc0 := 34) (pc' := 38) rfl (hb hby d1_34) (by decide) (by decide) k) ?_
          have hj : (own_in p0 p1 p2) = (1 : Int32) := by rw [own_in, if_neg hc2_2, if_neg hc25_5, if_neg hc30_6]
          rw [hj] at J1; exact J1
  refine Goes.on (B := s₁.setTop (mkF m 39 #[.val (.int p0), .val (.int p1), .val (.int p2), .val (.int (own_in p0 p1 p2))] [])) (fun _ k => XS.istoreN X0.here hx rfl (hb hby d1_38) rfl (l' := #[.val (.int p0), .val (.int p1), .val (.int p2), .val (.int (own_in p0 p1 p2))]) rfl k) ?_
  refine Goes.on (B := s₁.setTop (mkF m 40 #[.val (.int p0), .val (.int p1), .val (.int p2), .val (.int (own_in p0 p1 p2))] [(.int (own_in p0 p1 p2))])) (fun _ k => XS.iloadN X0.here hx rfl (hb hby d1_39) rfl  k) ?_
  by_cases hc40_7 : (own_in p0 p1 p2) = (0 : Int32)
  · refine Goes.on (B := s₁.setTop (mkF m 43 #[.val (.int p0), .val (.int p1), .val (.int p2), .val (.int (own_in p0 p1 p2))] [])) (fun _ k => XS.ifNo X0.here hx rfl (hb hby d1_40) rfl ((if0 _ _).trans (teq hc40_7).2) k) ?_
    refine Goes.on (B := s₁.setTop (mkF m 44 #[.val (.int p0), .val (.int p1), .val (.int p2), .val (.int (own_in p0 p1 p2))] [(.int (1 : Int32))])) (fun _ k => XS.iconst X0.here hx rfl (hb hby d1_43) k) ?_
    refine Goes.on (B := s₁.setTop (mkF m 48 #[.val (.int p0), .val (.int p1), .val (.int p2), .val (.int (own_in p0 p1 p2))] [(.int (1 : Int32))])) (fun _ k => XS.goto X0.here hx rfl (pc0 := 44) (pc' := 48) rfl (hb hby d1_44) (by decide) (by decide) k) ?_
    obtain ⟨fs, hr, hrun, hended, hW, hsame⟩ := X0.leave (v := some (.int (1 : Int32))) (fun h => by rw [Bd.returns] at h; cases h)
    exact Goes.leaf (retN X0 hx (t := .boolean) Bd.returns (by simp) (hb hby d1_48) hr) hrun hended ⟨_, _, rfl, by show Q1 Z p0 p1 p2 h0 n0 _ s₁.heap _; rw [e0]; exact ⟨by rw [own_mb, if_pos hc40_7], N0, rfl⟩, ⟨_, rfl⟩, hW, hsame.mono (by decide) (by decide)⟩
  · refine Goes.on (B := s₁.setTop (mkF m 47 #[.val (.int p0), .val (.int p1), .val (.int p2), .val (.int (own_in p0 p1 p2))] [])) (fun _ k => XS.ifYes X0.here hx rfl (pc0 := 40) (pc' := 47) rfl (hb hby d1_40) rfl ((if0 _ _).trans (feq hc40_7).2) (by decide) (by decide) k) ?_
    refine Goes.on (B := s₁.setTop (mkF m 48 #[.val (.int p0), .val (.int p1), .val (.int p2), .val (.int (own_in p0 p1 p2))] [(.int (0 : Int32))])) (fun _ k => XS.iconst X0.here hx rfl (hb hby d1_47) k) ?_
    obtain ⟨fs, hr, hrun, hended, hW, hsame⟩ := X0.leave (v := some (.int (0 : Int32))) (fun h => by rw [Bd.returns] at h; cases h)
    exact Goes.leaf (retN X0 hx (t := .boolean) Bd.returns (by simp) (hb hby d1_48) hr) hrun hended ⟨_, _, rfl, by show Q1 Z p0 p1 p2 h0 n0 _ s₁.heap _; rw [e0]; exact ⟨by rw [own_mb, if_neg hc40_7], N0, rfl⟩, ⟨_, rfl⟩, hW, hsame.mono (by decide) (by decide)⟩
def own_exp (a : Int32) (b : Int32) : Int32 := (if a < b then (0 : Int32) else (1 : Int32))
theorem own_fin : ∀ j : Fin 31, 1 ≤ j.val → (((1 : Int32) <<< (Int32.ofNat j.val &&& 31)) - (1 : Int32)).toBitVec.toNat = 2 ^ j.val - 1 ∧ (((1 : Int32) <<< (Int32.ofNat j.val &&& 31)) - (1 : Int32)).toInt = 2 ^ j.val - 1 := by decide +kernel
theorem own_mask {p kk mm : Int32} (hkk : ((1 : Int32) + ((p &&& (2147483647 : Int32)) % (30 : Int32))) = kk) (hmm : (((1 : Int32) <<< (kk &&& 31)) - (1 : Int32)) = mm) :
    ∃ j : Nat, 1 ≤ j ∧ j ≤ 30 ∧ mm.toBitVec.toNat = 2 ^ j - 1 ∧ mm.toInt = 2 ^ j - 1 := by
  have e1 : (p &&& (2147483647 : Int32)).toInt = p.toInt % 2 ^ 31 := Jvm.Kit.i32_mask p 2147483647 (k := 31) (by decide) (by decide)
  have e2 : ((p &&& (2147483647 : Int32)) % (30 : Int32)).toInt = (p &&& (2147483647 : Int32)).toInt % 30 := Jvm.Kit.i32_rem_nonneg (by omega)
  have e0 : (1 : Int32).toInt = 1 := rfl
  have e3 : kk.toInt = 1 + ((p &&& (2147483647 : Int32)) % (30 : Int32)).toInt := by
    rw [← hkk, Jvm.Kit.i32_add (by omega) (by omega)]; rfl
  have hk : kk = Int32.ofNat kk.toInt.toNat := by
    apply Int32.toInt_inj.mp
    rw [Int32.toInt_ofNat_of_lt (by omega)]
    omega
  have f := own_fin ⟨kk.toInt.toNat, by omega⟩ (by show 1 ≤ kk.toInt.toNat; omega)
  simp only [← hk, hmm] at f
  exact ⟨kk.toInt.toNat, by omega, by omega, f.1, f.2⟩
theorem own_nz {p kk mm : Int32} (hkk : ((1 : Int32) + ((p &&& (2147483647 : Int32)) % (30 : Int32))) = kk) (hmm : (((1 : Int32) <<< (kk &&& 31)) - (1 : Int32)) = mm) : mm ≠ 0 := by
  obtain ⟨j, h1, h2, -, h4⟩ := own_mask hkk hmm
  intro q
  rw [q] at h4
  have : (2 : Int) ^ 1 ≤ 2 ^ j := by exact_mod_cast Nat.pow_le_pow_right (by decide) h1
  have e0 : (0 : Int32).toInt = 0 := rfl
  omega
theorem own_em {M x : Int} (h : 0 < M) (h1 : -M ≤ x) (h2 : x < 2 * M) : (x < 0 ∧ x % M = x + M) ∨ (0 ≤ x ∧ x < M ∧ x % M = x) ∨ (M ≤ x ∧ x % M = x - M) := by
  rcases Int.lt_or_le x 0 with a | a
  · exact Or.inl ⟨a, by rw [← Int.add_emod_right]; exact Int.emod_eq_of_lt (by omega) (by omega)⟩
  · rcases Int.lt_or_le x M with b | b
    · exact Or.inr (Or.inl ⟨a, b, Int.emod_eq_of_lt a b⟩)
    · exact Or.inr (Or.inr ⟨b, by rw [← Int.sub_emod_right]; exact Int.emod_eq_of_lt (by omega) (by omega)⟩)
theorem own_law {p f h z kk mm fr ho rr sl da db : Int32} (hkk : ((1 : Int32) + ((p &&& (2147483647 : Int32)) % (30 : Int32))) = kk) (hmm : (((1 : Int32) <<< (kk &&& 31)) - (1 : Int32)) = mm)
    (hfr : (f &&& mm) = fr) (hho : (h &&& mm) = ho) (hrr : ((z &&& (2147483647 : Int32)) % mm) = rr) (hsl : (((fr + (1 : Int32)) + rr) &&& mm) = sl) (hda : ((sl - ho) &&& mm) = da) (hdb : ((sl - fr) &&& mm) = db) : own_mb fr ho sl = own_exp da db := by
  obtain ⟨j, h1, h2, h3, h4⟩ := own_mask hkk hmm
  have hm : ∀ x : Int32, (x &&& mm).toInt = x.toInt % 2 ^ j := fun x => Jvm.Kit.i32_mask x mm (by omega) h3
  have b1 : (2 : Int) ^ 1 ≤ 2 ^ j := by exact_mod_cast Nat.pow_le_pow_right (by decide) h1
  have b2 : (2 : Int) ^ j ≤ 2 ^ 30 := by exact_mod_cast Nat.pow_le_pow_right (by decide) h2
  have e0 : (1 : Int32).toInt = 1 := rfl
  generalize (2 : Int) ^ j = M at *
  have f1 : 0 ≤ fr.toInt ∧ fr.toInt < M := by rw [← hfr, hm]; exact ⟨Int.emod_nonneg _ (by omega), Int.emod_lt_of_pos _ (by omega)⟩
  have f2 : 0 ≤ ho.toInt ∧ ho.toInt < M := by rw [← hho, hm]; exact ⟨Int.emod_nonneg _ (by omega), Int.emod_lt_of_pos _ (by omega)⟩
  have e1 : (z &&& (2147483647 : Int32)).toInt = z.toInt % 2 ^ 31 := Jvm.Kit.i32_mask z 2147483647 (k := 31) (by decide) (by decide)
  have f3 : 0 ≤ rr.toInt ∧ rr.toInt < M - 1 := by
    rw [← hrr, Jvm.Kit.i32_rem_nonneg (by omega), h4]
    exact ⟨Int.emod_nonneg _ (by omega), Int.emod_lt_of_pos _ (by omega)⟩
  have g1 : (fr + (1 : Int32)).toInt = fr.toInt + 1 := by rw [Jvm.Kit.i32_add (by omega) (by omega)]; rfl
  have g2 : ((fr + (1 : Int32)) + rr).toInt = fr.toInt + 1 + rr.toInt := by rw [Jvm.Kit.i32_add (by omega) (by omega), g1]
  have s1 : sl.toInt = (fr.toInt + 1 + rr.toInt) % M := by rw [← hsl, hm, g2]
  have f4 : 0 ≤ sl.toInt ∧ sl.toInt < M := by rw [s1]; exact ⟨Int.emod_nonneg _ (by omega), Int.emod_lt_of_pos _ (by omega)⟩
  have d1 : da.toInt = (sl.toInt - ho.toInt) % M := by rw [← hda, hm, Jvm.Kit.i32_sub (by omega) (by omega)]
  have d2 : db.toInt = (sl.toInt - fr.toInt) % M := by rw [← hdb, hm, Jvm.Kit.i32_sub (by omega) (by omega)]
  have q1 := own_em (M := M) (x := fr.toInt + 1 + rr.toInt) (by omega) (by omega) (by omega)
  have q2 := own_em (M := M) (x := sl.toInt - ho.toInt) (by omega) (by omega) (by omega)
  have q3 := own_em (M := M) (x := sl.toInt - fr.toInt) (by omega) (by omega) (by omega)
  rw [← s1] at q1
  rw [← d1] at q2
  rw [← d2] at q3
  clear hm hfr hho hrr hsl hda hdb s1 d1 d2 hkk hmm h3 h4 e1 g1 g2
  unfold own_mb own_exp own_in
  simp only [Int32.lt_iff_toInt_lt]
  have c1 : ¬ ((1 : Int32) = 0) := by decide
  repeat' split
  all_goals first | rfl | (exfalso; omega) | (exfalso; simp_all; done) | (exfalso; simp_all; omega)
theorem pn_0 : plainName "com/example/wise_broker/wisebroker/filter/SlotsMovesBackPinLaw" = true := by first | (simp [plainName, overriddenIn]; done) | decide +kernel
theorem pd_0__III_Z : parseMethodDescriptor "(III)Z" = some ⟨[.int, .int, .int], some .boolean⟩ := by decide +kernel
theorem ef_0 (m : MethodId) (x0 : Int32) (x1 : Int32) (x2 : Int32) (x3 : Int32) : entryFrame m #[(.int x0), (.int x1), (.int x2), (.int x3)] maxLocals = mkF m 0 #[.val (.int x0), .val (.int x1), .val (.int x2), .val (.int x3), .unset, .unset, .unset, .unset, .unset, .unset, .unset, .unset] [] := by first | (simp [entryFrame, mkF, argsToLocals, Value.category, maxLocals]; done) | rfl
def Q0 (Z : State) (p0 : Int32) (p1 : Int32) (p2 : Int32) (p3 : Int32)  (h0 : Heap) (n0 : Nat) (v : Option Value) (h : Heap) (L : List Loc) : Prop := v = some (.int 1) ∧ Fr n0 L
set_option maxRecDepth 65536 in
set_option maxHeartbeats 40000000 in
theorem rm0 (l : Launch) (Z : State) (a0 : Array Value) (hw : ∀ d ∈ tables_1, d.before a0 Z = true) (ws : List Jvm.Cond) (p0 : Int32) (p1 : Int32) (p2 : Int32) (p3 : Int32)  (h0 : Heap) (n0 : Nat) (Z0 : n0 ≤ h0.size)  :
    MetFree l x (head1 (Jvm.Cond.code x code maxLocals ret :: ws) room_1) (fun a U => a = #[(.int p0), (.int p1), (.int p2), (.int p3)] ∧ Z.Warmed39 U.vm ∧ U.heap = h0) (fun _ _ _ _ _ => True) (fun _ U o U' => ∃ v L, o = .returned v ∧ Q0 Z p0 p1 p2 p3 h0 n0 v U'.heap L ∧ FrameEnd U o U' L room_1.cells room_1.slots) := by
  refine MetFree.of_bodySF (plainFor_of_name pn_0) hisR ?_
  intro p e s m args below meth c s₁ Bd hml0 hP hK
  obtain ⟨rfl, hZ, hh⟩ := hP
  have hx := Bd.exec
  have hby := Bd.bytes
  have hml : c.maxLocals = 12 := hml0
  have hown : s.vm.findClass "com/example/wise_broker/wisebroker/filter/SlotsMovesBackPinLaw" = some m.cls := findClass_of_methodNamed Bd.named
  have hnm := (name_of_methodNamed Bd.named Bd.method).1
  have X0 : Stand p l e room_1 s m #[(.int p0), (.int p1), (.int p2), (.int p3)] below meth c s₁ [] 0 0 := Stand.of_body Bd
  have e0 : s₁.heap = h0 := by rw [← hh, Bd.state]; rfl
  have N0 := Fr.nil n0
  show Goes p e below _ (s₁.setTop (entryFrame m #[(.int p0), (.int p1), (.int p2), (.int p3)] maxLocals))
  refine Goes.on (B := s₁.setTop (mkF m 0 #[.val (.int p0), .val (.int p1), .val (.int p2), .val (.int p3), .unset, .unset, .unset, .unset, .unset, .unset, .unset, .unset] [])) (fun t k => castTop (ef_0 m p0 p1 p2 p3) k) ?_
  refine Goes.on (B := s₁.setTop (mkF m 1 #[.val (.int p0), .val (.int p1), .val (.int p2), .val (.int p3), .unset, .unset, .unset, .unset, .unset, .unset, .unset, .unset] [(.int (1 : Int32))])) (fun _ k => XS.iconst X0.here hx rfl (hb hby at_0) k) ?_
  refine Goes.on (B := s₁.setTop (mkF m 2 #[.val (.int p0), .val (.int p1), .val (.int p2), .val (.int p3), .unset, .unset, .unset, .unset, .unset, .unset, .unset, .unset] [(.int p0), (.int (1 : Int32))])) (fun _ k => XS.iloadN X0.here hx rfl (hb hby at_1) rfl  k) ?_
  refine Goes.on (B := s₁.setTop (mkF m 4 #[.val (.int p0), .val (.int p1), .val (.int p2), .val (.int p3), .unset, .unset, .unset, .unset, .unset, .unset, .unset, .unset] [(.int (2147483647 : Int32)), (.int p0), (.int (1 : Int32))])) (fun _ k => X0.ldcInt hx hown (mvT hZ (hw _ (List.mem_of_getElem? (i := 0) rfl))) (g := (mkF m 2 #[.val (.int p0), .val (.int p1), .val (.int p2), .val (.int p3), .unset, .unset, .unset, .unset, .unset, .unset, .unset, .unset] [(.int p0), (.int (1 : Int32))])) rfl (hb hby at_2) _ k) ?_
  refine Goes.on (B := s₁.setTop (mkF m 5 #[.val (.int p0), .val (.int p1), .val (.int p2), .val (.int p3), .unset, .unset, .unset, .unset, .unset, .unset, .unset, .unset] [(.int (p0 &&& (2147483647 : Int32))), (.int (1 : Int32))])) (fun _ k => XS.iand X0.here hx rfl (hb hby at_4) rfl k) ?_
  refine Goes.on (B := s₁.setTop (mkF m 7 #[.val (.int p0), .val (.int p1), .val (.int p2), .val (.int p3), .unset, .unset, .unset, .unset, .unset, .unset, .unset, .unset] [(.int (30 : Int32)), (.int (p0 &&& (2147483647 : Int32))), (.int (1 : Int32))])) (fun _ k => XS.bipush X0.here hx rfl (hb hby at_5) k) ?_
  refine Goes.on (B := s₁.setTop (mkF m 8 #[.val (.int p0), .val (.int p1), .val (.int p2), .val (.int p3), .unset, .unset, .unset, .unset, .unset, .unset, .unset, .unset] [(.int ((p0 &&& (2147483647 : Int32)) % (30 : Int32))), (.int (1 : Int32))])) (fun _ k => iremM X0 hx rfl (hb hby at_7) rfl (by decide) k) ?_
  refine Goes.on (B := s₁.setTop (mkF m 9 #[.val (.int p0), .val (.int p1), .val (.int p2), .val (.int p3), .unset, .unset, .unset, .unset, .unset, .unset, .unset, .unset] [(.int ((1 : Int32) + ((p0 &&& (2147483647 : Int32)) % (30 : Int32))))])) (fun _ k => XS.iadd X0.here hx rfl (hb hby at_8) rfl k) ?_
  generalize hkk : ((1 : Int32) + ((p0 &&& (2147483647 : Int32)) % (30 : Int32))) = kk
  refine Goes.on (B := s₁.setTop (mkF m 11 #[.val (.int p0), .val (.int p1), .val (.int p2), .val (.int p3), .val (.int kk), .unset, .unset, .unset, .unset, .unset, .unset, .unset] [])) (fun _ k => XS.istore X0.here hx rfl (hb hby at_9) rfl (l' := #[.val (.int p0), .val (.int p1), .val (.int p2), .val (.int p3), .val (.int kk), .unset, .unset, .unset, .unset, .unset, .unset, .unset]) rfl k) ?_
  refine Goes.on (B := s₁.setTop (mkF m 12 #[.val (.int p0), .val (.int p1), .val (.int p2), .val (.int p3), .val (.int kk), .unset, .unset, .unset, .unset, .unset, .unset, .unset] [(.int (1 : Int32))])) (fun _ k => XS.iconst X0.here hx rfl (hb hby at_11) k) ?_
  refine Goes.on (B := s₁.setTop (mkF m 14 #[.val (.int p0), .val (.int p1), .val (.int p2), .val (.int p3), .val (.int kk), .unset, .unset, .unset, .unset, .unset, .unset, .unset] [(.int kk), (.int (1 : Int32))])) (fun _ k => XS.iload X0.here hx rfl (hb hby at_12) rfl  k) ?_
  refine Goes.on (B := s₁.setTop (mkF m 15 #[.val (.int p0), .val (.int p1), .val (.int p2), .val (.int p3), .val (.int kk), .unset, .unset, .unset, .unset, .unset, .unset, .unset] [(.int ((1 : Int32) <<< (kk &&& 31)))])) (fun _ k => XS.ishl X0.here hx rfl (hb hby at_14) rfl k) ?_
  refine Goes.on (B := s₁.setTop (mkF m 16 #[.val (.int p0), .val (.int p1), .val (.int p2), .val (.int p3), .val (.int kk), .unset, .unset, .unset, .unset, .unset, .unset, .unset] [(.int (1 : Int32)), (.int ((1 : Int32) <<< (kk &&& 31)))])) (fun _ k => XS.iconst X0.here hx rfl (hb hby at_15) k) ?_
  refine Goes.on (B := s₁.setTop (mkF m 17 #[.val (.int p0), .val (.int p1), .val (.int p2), .val (.int p3), .val (.int kk), .unset, .unset, .unset, .unset, .unset, .unset, .unset] [(.int (((1 : Int32) <<< (kk &&& 31)) - (1 : Int32)))])) (fun _ k => XS.isub X0.here hx rfl (hb hby at_16) rfl k) ?_
  generalize hmm : (((1 : Int32) <<< (kk &&& 31)) - (1 : Int32)) = mm
  refine Goes.on (B := s₁.setTop (mkF m 19 #[.val (.int p0), .val (.int p1), .val (.int p2), .val (.int p3), .val (.int kk), .val (.int mm), .unset, .unset, .unset, .unset, .unset, .unset] [])) (fun _ k => XS.istore X0.here hx rfl (hb hby at_17) rfl (l' := #[.val (.int p0), .val (.int p1), .val (.int p2), .val (.int p3), .val (.int kk), .val (.int mm), .unset, .unset, .unset, .unset, .unset, .unset]) rfl k) ?_
  refine Goes.on (B := s₁.setTop (mkF m 20 #[.val (.int p0), .val (.int p1), .val (.int p2), .val (.int p3), .val (.int kk), .val (.int mm), .unset, .unset, .unset, .unset, .unset, .unset] [(.int p1)])) (fun _ k => XS.iloadN X0.here hx rfl (hb hby at_19) rfl  k) ?_
  refine Goes.on (B := s₁.setTop (mkF m 22 #[.val (.int p0), .val (.int p1), .val (.int p2), .val (.int p3), .val (.int kk), .val (.int mm), .unset, .unset, .unset, .unset, .unset, .unset] [(.int mm), (.int p1)])) (fun _ k => XS.iload X0.here hx rfl (hb hby at_20) rfl  k) ?_
  refine Goes.on (B := s₁.setTop (mkF m 23 #[.val (.int p0), .val (.int p1), .val (.int p2), .val (.int p3), .val (.int kk), .val (.int mm), .unset, .unset, .unset, .unset, .unset, .unset] [(.int (p1 &&& mm))])) (fun _ k => XS.iand X0.here hx rfl (hb hby at_22) rfl k) ?_
  generalize hfr : (p1 &&& mm) = fr
  refine Goes.on (B := s₁.setTop (mkF m 25 #[.val (.int p0), .val (.int p1), .val (.int p2), .val (.int p3), .val (.int kk), .val (.int mm), .val (.int fr), .unset, .unset, .unset, .unset, .unset] [])) (fun _ k => XS.istore X0.here hx rfl (hb hby at_23) rfl (l' := #[.val (.int p0), .val (.int p1), .val (.int p2), .val (.int p3), .val (.int kk), .val (.int mm), .val (.int fr), .unset, .unset, .unset, .unset, .unset]) rfl k) ?_
  refine Goes.on (B := s₁.setTop (mkF m 26 #[.val (.int p0), .val (.int p1), .val (.int p2), .val (.int p3), .val (.int kk), .val (.int mm), .val (.int fr), .unset, .unset, .unset, .unset, .unset] [(.int p2)])) (fun _ k => XS.iloadN X0.here hx rfl (hb hby at_25) rfl  k) ?_
  refine Goes.on (B := s₁.setTop (mkF m 28 #[.val (.int p0), .val (.int p1), .val (.int p2), .val (.int p3), .val (.int kk), .val (.int mm), .val (.int fr), .unset, .unset, .unset, .unset, .unset] [(.int mm), (.int p2)])) (fun _ k => XS.iload X0.here hx rfl (hb hby at_26) rfl  k) ?_
  refine Goes.on (B := s₁.setTop (mkF m 29 #[.val (.int p0), .val (.int p1), .val (.int p2), .val (.int p3), .val (.int kk), .val (.int mm), .val (.int fr), .unset, .unset, .unset, .unset, .unset] [(.int (p2 &&& mm))])) (fun _ k => XS.iand X0.here hx rfl (hb hby at_28) rfl k) ?_
  generalize hho : (p2 &&& mm) = ho
  refine Goes.on (B := s₁.setTop (mkF m 31 #[.val (.int p0), .val (.int p1), .val (.int p2), .val (.int p3), .val (.int kk), .val (.int mm), .val (.int fr), .val (.int ho), .unset, .unset, .unset, .unset] [])) (fun _ k => XS.istore X0.here hx rfl (hb hby at_29) rfl (l' := #[.val (.int p0), .val (.int p1), .val (.int p2), .val (.int p3), .val (.int kk), .val (.int mm), .val (.int fr), .val (.int ho), .unset, .unset, .unset, .unset]) rfl k) ?_
  refine Goes.on (B := s₁.setTop (mkF m 33 #[.val (.int p0), .val (.int p1), .val (.int p2), .val (.int p3), .val (.int kk), .val (.int mm), .val (.int fr), .val (.int ho), .unset, .unset, .unset, .unset] [(.int fr)])) (fun _ k => XS.iload X0.here hx rfl (hb hby at_31) rfl  k) ?_
  refine Goes.on (B := s₁.setTop (mkF m 34 #[.val (.int p0), .val (.int p1), .val (.int p2), .val (.int p3), .val (.int kk), .val (.int mm), .val (.int fr), .val (.int ho), .unset, .unset, .unset, .unset] [(.int (1 : Int32)), (.int fr)])) (fun _ k => XS.iconst X0.here hx rfl (hb hby at_33) k) ?_
  refine Goes.on (B := s₁.setTop (mkF m 35 #[.val (.int p0), .val (.int p1), .val (.int p2), .val (.int p3), .val (.int kk), .val (.int mm), .val (.int fr), .val (.int ho), .unset, .unset, .unset, .unset] [(.int (fr + (1 : Int32)))])) (fun _ k => XS.iadd X0.here hx rfl (hb hby at_34) rfl k) ?_
  refine Goes.on (B := s₁.setTop (mkF m 36 #[.val (.int p0), .val (.int p1), .val (.int p2), .val (.int p3), .val (.int kk), .val (.int mm), .val (.int fr), .val (.int ho), .unset, .unset, .unset, .unset] [(.int p3), (.int (fr + (1 : Int32)))])) (fun _ k => XS.iloadN X0.here hx rfl (hb hby at_35) rfl  k) ?_
  refine Goes.on (B := s₁.setTop (mkF m 38 #[.val (.int p0), .val (.int p1), .val (.int p2), .val (.int p3), .val (.int kk), .val (.int mm), .val (.int fr), .val (.int ho), .unset, .unset, .unset, .unset] [(.int (2147483647 : Int32)), (.int p3), (.int (fr + (1 : Int32)))])) (fun _ k => X0.ldcInt hx hown (mvT hZ (hw _ (List.mem_of_getElem? (i := 0) rfl))) (g := (mkF m 36 #[.val (.int p0), .val (.int p1), .val (.int p2), .val (.int p3), .val (.int kk), .val (.int mm), .val (.int fr), .val (.int ho), .unset, .unset, .unset, .unset] [(.int p3), (.int (fr + (1 : Int32)))])) rfl (hb hby at_36) _ k) ?_
  refine Goes.on (B := s₁.setTop (mkF m 39 #[.val (.int p0), .val (.int p1), .val (.int p2), .val (.int p3), .val (.int kk), .val (.int mm), .val (.int fr), .val (.int ho), .unset, .unset, .unset, .unset] [(.int (p3 &&& (2147483647 : Int32))), (.int (fr + (1 : Int32)))])) (fun _ k => XS.iand X0.here hx rfl (hb hby at_38) rfl k) ?_
  refine Goes.on (B := s₁.setTop (mkF m 41 #[.val (.int p0), .val (.int p1), .val (.int p2), .val (.int p3), .val (.int kk), .val (.int mm), .val (.int fr), .val (.int ho), .unset, .unset, .unset, .unset] [(.int mm), (.int (p3 &&& (2147483647 : Int32))), (.int (fr + (1 : Int32)))])) (fun _ k => XS.iload X0.here hx rfl (hb hby at_39) rfl  k) ?_
  refine Goes.on (B := s₁.setTop (mkF m 42 #[.val (.int p0), .val (.int p1), .val (.int p2), .val (.int p3), .val (.int kk), .val (.int mm), .val (.int fr), .val (.int ho), .unset, .unset, .unset, .unset] [(.int ((p3 &&& (2147483647 : Int32)) % mm)), (.int (fr + (1 : Int32)))])) (fun _ k => iremM X0 hx rfl (hb hby at_41) rfl (own_nz hkk hmm) k) ?_
  generalize hrr : ((p3 &&& (2147483647 : Int32)) % mm) = rr
  refine Goes.on (B := s₁.setTop (mkF m 43 #[.val (.int p0), .val (.int p1), .val (.int p2), .val (.int p3), .val (.int kk), .val (.int mm), .val (.int fr), .val (.int ho), .unset, .unset, .unset, .unset] [(.int ((fr + (1 : Int32)) + rr))])) (fun _ k => XS.iadd X0.here hx rfl (hb hby at_42) rfl k) ?_
  refine Goes.on (B := s₁.setTop (mkF m 45 #[.val (.int p0), .val (.int p1), .val (.int p2), .val (.int p3), .val (.int kk), .val (.int mm), .val (.int fr), .val (.int ho), .unset, .unset, .unset, .unset] [(.int mm), (.int ((fr + (1 : Int32)) + rr))])) (fun _ k => XS.iload X0.here hx rfl (hb hby at_43) rfl  k) ?_
  refine Goes.on (B := s₁.setTop (mkF m 46 #[.val (.int p0), .val (.int p1), .val (.int p2), .val (.int p3), .val (.int kk), .val (.int mm), .val (.int fr), .val (.int ho), .unset, .unset, .unset, .unset] [(.int (((fr + (1 : Int32)) + rr) &&& mm))])) (fun _ k => XS.iand X0.here hx rfl (hb hby at_45) rfl k) ?_
  generalize hsl : (((fr + (1 : Int32)) + rr) &&& mm) = sl
  refine Goes.on (B := s₁.setTop (mkF m 48 #[.val (.int p0), .val (.int p1), .val (.int p2), .val (.int p3), .val (.int kk), .val (.int mm), .val (.int fr), .val (.int ho), .val (.int sl), .unset, .unset, .unset] [])) (fun _ k => XS.istore X0.here hx rfl (hb hby at_46) rfl (l' := #[.val (.int p0), .val (.int p1), .val (.int p2), .val (.int p3), .val (.int kk), .val (.int mm), .val (.int fr), .val (.int ho), .val (.int sl), .unset, .unset, .unset]) rfl k) ?_
  refine Goes.on (B := s₁.setTop (mkF m 50 #[.val (.int p0), .val (.int p1), .val (.int p2), .val (.int p3), .val (.int kk), .val (.int mm), .val (.int fr), .val (.int ho), .val (.int sl), .unset, .unset, .unset] [(.int sl)])) (fun _ k => XS.iload X0.here hx rfl (hb hby at_48) rfl  k) ?_
  refine Goes.on (B := s₁.setTop (mkF m 52 #[.val (.int p0), .val (.int p1), .val (.int p2), .val (.int p3), .val (.int kk), .val (.int mm), .val (.int fr), .val (.int ho), .val (.int sl), .unset, .unset, .unset] [(.int ho), (.int sl)])) (fun _ k => XS.iload X0.here hx rfl (hb hby at_50) rfl  k) ?_
  refine Goes.on (B := s₁.setTop (mkF m 53 #[.val (.int p0), .val (.int p1), .val (.int p2), .val (.int p3), .val (.int kk), .val (.int mm), .val (.int fr), .val (.int ho), .val (.int sl), .unset, .unset, .unset] [(.int (sl - ho))])) (fun _ k => XS.isub X0.here hx rfl (hb hby at_52) rfl k) ?_
  refine Goes.on (B := s₁.setTop (mkF m 55 #[.val (.int p0), .val (.int p1), .val (.int p2), .val (.int p3), .val (.int kk), .val (.int mm), .val (.int fr), .val (.int ho), .val (.int sl), .unset, .unset, .unset] [(.int mm), (.int (sl - ho))])) (fun _ k => XS.iload X0.here hx rfl (hb hby at_53) rfl  k) ?_
  refine Goes.on (B := s₁.setTop (mkF m 56 #[.val (.int p0), .val (.int p1), .val (.int p2), .val (.int p3), .val (.int kk), .val (.int mm), .val (.int fr), .val (.int ho), .val (.int sl), .unset, .unset, .unset] [(.int ((sl - ho) &&& mm))])) (fun _ k => XS.iand X0.here hx rfl (hb hby at_55) rfl k) ?_
  generalize hda : ((sl - ho) &&& mm) = da
  refine Goes.on (B := s₁.setTop (mkF m 58 #[.val (.int p0), .val (.int p1), .val (.int p2), .val (.int p3), .val (.int kk), .val (.int mm), .val (.int fr), .val (.int ho), .val (.int sl), .val (.int da), .unset, .unset] [])) (fun _ k => XS.istore X0.here hx rfl (hb hby at_56) rfl (l' := #[.val (.int p0), .val (.int p1), .val (.int p2), .val (.int p3), .val (.int kk), .val (.int mm), .val (.int fr), .val (.int ho), .val (.int sl), .val (.int da), .unset, .unset]) rfl k) ?_
  refine Goes.on (B := s₁.setTop (mkF m 60 #[.val (.int p0), .val (.int p1), .val (.int p2), .val (.int p3), .val (.int kk), .val (.int mm), .val (.int fr), .val (.int ho), .val (.int sl), .val (.int da), .unset, .unset] [(.int sl)])) (fun _ k => XS.iload X0.here hx rfl (hb hby at_58) rfl  k) ?_
  refine Goes.on (B := s₁.setTop (mkF m 62 #[.val (.int p0), .val (.int p1), .val (.int p2), .val (.int p3), .val (.int kk), .val (.int mm), .val (.int fr), .val (.int ho), .val (.int sl), .val (.int da), .unset, .unset] [(.int fr), (.int sl)])) (fun _ k => XS.iload X0.here hx rfl (hb hby at_60) rfl  k) ?_
  refine Goes.on (B := s₁.setTop (mkF m 63 #[.val (.int p0), .val (.int p1), .val (.int p2), .val (.int p3), .val (.int kk), .val (.int mm), .val (.int fr), .val (.int ho), .val (.int sl), .val (.int da), .unset, .unset] [(.int (sl - fr))])) (fun _ k => XS.isub X0.here hx rfl (hb hby at_62) rfl k) ?_
  refine Goes.on (B := s₁.setTop (mkF m 65 #[.val (.int p0), .val (.int p1), .val (.int p2), .val (.int p3), .val (.int kk), .val (.int mm), .val (.int fr), .val (.int ho), .val (.int sl), .val (.int da), .unset, .unset] [(.int mm), (.int (sl - fr))])) (fun _ k => XS.iload X0.here hx rfl (hb hby at_63) rfl  k) ?_
  refine Goes.on (B := s₁.setTop (mkF m 66 #[.val (.int p0), .val (.int p1), .val (.int p2), .val (.int p3), .val (.int kk), .val (.int mm), .val (.int fr), .val (.int ho), .val (.int sl), .val (.int da), .unset, .unset] [(.int ((sl - fr) &&& mm))])) (fun _ k => XS.iand X0.here hx rfl (hb hby at_65) rfl k) ?_
  generalize hdb : ((sl - fr) &&& mm) = db
  refine Goes.on (B := s₁.setTop (mkF m 68 #[.val (.int p0), .val (.int p1), .val (.int p2), .val (.int p3), .val (.int kk), .val (.int mm), .val (.int fr), .val (.int ho), .val (.int sl), .val (.int da), .val (.int db), .unset] [])) (fun _ k => XS.istore X0.here hx rfl (hb hby at_66) rfl (l' := #[.val (.int p0), .val (.int p1), .val (.int p2), .val (.int p3), .val (.int kk), .val (.int mm), .val (.int fr), .val (.int ho), .val (.int sl), .val (.int da), .val (.int db), .unset]) rfl k) ?_
  refine Goes.on (B := s₁.setTop (mkF m 70 #[.val (.int p0), .val (.int p1), .val (.int p2), .val (.int p3), .val (.int kk), .val (.int mm), .val (.int fr), .val (.int ho), .val (.int sl), .val (.int da), .val (.int db), .unset] [(.int da)])) (fun _ k => XS.iload X0.here hx rfl (hb hby at_68) rfl  k) ?_
  refine Goes.on (B := s₁.setTop (mkF m 72 #[.val (.int p0), .val (.int p1), .val (.int p2), .val (.int p3), .val (.int kk), .val (.int mm), .val (.int fr), .val (.int ho), .val (.int sl), .val (.int da), .val (.int db), .unset] [(.int db), (.int da)])) (fun _ k => XS.iload X0.here hx rfl (hb hby at_70) rfl  k) ?_
  refine Goes.via (B := s₁.setTop (mkF m 80 #[.val (.int p0), .val (.int p1), .val (.int p2), .val (.int p3), .val (.int kk), .val (.int mm), .val (.int fr), .val (.int ho), .val (.int sl), .val (.int da), .val (.int db), .unset] [(.int (own_exp da db))])) (fun J1 => ?_) ?_
  · skip
    by_cases hc72_2 : da < db
    · refine Goes.on (B := s₁.setTop (mkF m 79 #[.val (.int p0), .val (.int p1), .val (.int p2), .val (.int p3), .val (.int kk), .val (.int mm), .val (.int fr), .val (.int ho), .val (.int sl), .val (.int da), .val (.int db), .unset] [])) (fun _ k => XS.icmpYes X0.here hx rfl (pc0 := 72) (pc' := 79) rfl (hb hby at_72) rfl (tlt hc72_2).1 (by decide) (by decide) k) ?_
      refine Goes.on (B := s₁.setTop (mkF m 80 #[.val (.int p0), .val (.int p1), .val (.int p2), .val (.int p3), .val (.int kk), .val (.int mm), .val (.int fr), .val (.int ho), .val (.int sl), .val (.int da), .val (.int db), .unset] [(.int (0 : Int32))])) (fun _ k => XS.iconst X0.here hx rfl (hb hby at_79) k) ?_
      have hj : (own_exp da db) = (0 : Int32) := by rw [own_exp, if_pos hc72_2]
      rw [hj] at J1; exact J1
    · refine Goes.on (B := s₁.setTop (mkF m 75 #[.val (.int p0), .val (.int p1), .val (.int p2), .val (.int p3), .val (.int kk), .val (.int mm), .val (.int fr), .val (.int ho), .val (.int sl), .val (.int da), .val (.int db), .unset] [])) (fun _ k => XS.icmpNo X0.here hx rfl (hb hby at_72) rfl (flt hc72_2).1 k) ?_
      refine Goes.on (B := s₁.setTop (mkF m 76 #[.val (.int p0), .val (.int p1), .val (.int p2), .val (.int p3), .val (.int kk), .val (.int mm), .val (.int fr), .val (.int ho), .val (.int sl), .val (.int da), .val (.int db), .unset] [(.int (1 : Int32))])) (fun _ k => XS.iconst X0.here hx rfl (hb hby at_75) k) ?_
      refine Goes.on (B := s₁.setTop (mkF m 80 #[.val (.int p0), .val (.int p1), .val (.int p2), .val (.int p3), .val (.int kk), .val (.int mm), .val (.int fr), .val (.int ho), .val (.int sl), .val (.int da), .val (.int db), .unset] [(.int (1 : Int32))])) (fun _ k => XS.goto X0.here hx rfl (pc0 := 76) (pc' := 80) rfl (hb hby at_76) (by decide) (by decide) k) ?_
      have hj : (own_exp da db) = (1 : Int32) := by rw [own_exp, if_neg hc72_2]
      rw [hj] at J1; exact J1
  refine Goes.on (B := s₁.setTop (mkF m 82 #[.val (.int p0), .val (.int p1), .val (.int p2), .val (.int p3), .val (.int kk), .val (.int mm), .val (.int fr), .val (.int ho), .val (.int sl), .val (.int da), .val (.int db), .val (.int (own_exp da db))] [])) (fun _ k => XS.istore X0.here hx rfl (hb hby at_80) rfl (l' := #[.val (.int p0), .val (.int p1), .val (.int p2), .val (.int p3), .val (.int kk), .val (.int mm), .val (.int fr), .val (.int ho), .val (.int sl), .val (.int da), .val (.int db), .val (.int (own_exp da db))]) rfl k) ?_
  refine Goes.on (B := s₁.setTop (mkF m 84 #[.val (.int p0), .val (.int p1), .val (.int p2), .val (.int p3), .val (.int kk), .val (.int mm), .val (.int fr), .val (.int ho), .val (.int sl), .val (.int da), .val (.int db), .val (.int (own_exp da db))] [(.int fr)])) (fun _ k => XS.iload X0.here hx rfl (hb hby at_82) rfl  k) ?_
  refine Goes.on (B := s₁.setTop (mkF m 86 #[.val (.int p0), .val (.int p1), .val (.int p2), .val (.int p3), .val (.int kk), .val (.int mm), .val (.int fr), .val (.int ho), .val (.int sl), .val (.int da), .val (.int db), .val (.int (own_exp da db))] [(.int ho), (.int fr)])) (fun _ k => XS.iload X0.here hx rfl (hb hby at_84) rfl  k) ?_
  refine Goes.on (B := s₁.setTop (mkF m 88 #[.val (.int p0), .val (.int p1), .val (.int p2), .val (.int p3), .val (.int kk), .val (.int mm), .val (.int fr), .val (.int ho), .val (.int sl), .val (.int da), .val (.int db), .val (.int (own_exp da db))] [(.int sl), (.int ho), (.int fr)])) (fun _ k => XS.iload X0.here hx rfl (hb hby at_86) rfl  k) ?_
  obtain ⟨_, _, ⟨T3, L3, k3, n3⟩, -, X3, ⟨Lc3, hQ3, l3, y3, z3⟩, st3⟩ := Jvm.LawKit.callS X0 hx (y := (⟨"com/example/wise_broker/wisebroker/filter/Slots", "movesBack", "(III)Z"⟩ : MethodName)) hown (mvT hZ (hw _ (List.mem_of_getElem? (i := 1) rfl))) (mvT hZ (hw _ (List.mem_of_getElem? (i := 2) rfl))) (mvT hZ (hw _ (List.mem_of_getElem? (i := 3) rfl))) (mvT hZ (hw _ (List.mem_of_getElem? (i := 4) rfl))) (by decide) (backOf (W := 0) (rm1 l Z a0 hw [] fr ho sl h0 n0 Z0) hZ (hw _ (List.mem_of_getElem? (i := 4) rfl)) (hw _ (List.mem_of_getElem? (i := 3) rfl)) (by decide) (by decide)) (g := (mkF m 88 #[.val (.int p0), .val (.int p1), .val (.int p2), .val (.int p3), .val (.int kk), .val (.int mm), .val (.int fr), .val (.int ho), .val (.int sl), .val (.int da), .val (.int db), .val (.int (own_exp da db))] [(.int sl), (.int ho), (.int fr)])) rfl (by rw [hml]; rfl) (argsL := [(.int fr), (.int ho), (.int sl)]) (rest := []) (lenOf pd_0__III_Z rfl) rfl (by show 2 * 0 + _ ≤ _; exact Nat.le_of_eq rfl) (hb hby at_88) (fun _ _ => ⟨rfl, e0, (by decide : 0 + 0 ≤ _), (by decide : 0 + 0 ≤ _)⟩)
  dsimp only [Pt.U, Pt.locs, Pt.cells, Pt.slots] at X3 l3 y3 z3 st3 hQ3
  subst l3 y3 z3
  obtain ⟨rfl, Nq3, eh3⟩ := hQ3
  have N3 := Fr.app N0 Nq3
  refine Goes.on (B := T3.setTop (mkF m 91 #[.val (.int p0), .val (.int p1), .val (.int p2), .val (.int p3), .val (.int kk), .val (.int mm), .val (.int fr), .val (.int ho), .val (.int sl), .val (.int da), .val (.int db), .val (.int (own_exp da db))] [(.int (own_mb fr ho sl))])) (fun t k => st3 t k) ?_
  refine Goes.on (B := T3.setTop (mkF m 93 #[.val (.int p0), .val (.int p1), .val (.int p2), .val (.int p3), .val (.int kk), .val (.int mm), .val (.int fr), .val (.int ho), .val (.int sl), .val (.int da), .val (.int db), .val (.int (own_exp da db))] [(.int (own_exp da db)), (.int (own_mb fr ho sl))])) (fun _ k => XS.iload X3.here hx rfl (hb hby at_91) rfl  k) ?_
  refine Goes.on (B := T3.setTop (mkF m 96 #[.val (.int p0), .val (.int p1), .val (.int p2), .val (.int p3), .val (.int kk), .val (.int mm), .val (.int fr), .val (.int ho), .val (.int sl), .val (.int da), .val (.int db), .val (.int (own_exp da db))] [])) (fun _ k => XS.icmpNo X3.here hx rfl (hb hby at_93) rfl (teq (own_law hkk hmm hfr hho hrr hsl hda hdb)).2 k) ?_
  refine Goes.on (B := T3.setTop (mkF m 97 #[.val (.int p0), .val (.int p1), .val (.int p2), .val (.int p3), .val (.int kk), .val (.int mm), .val (.int fr), .val (.int ho), .val (.int sl), .val (.int da), .val (.int db), .val (.int (own_exp da db))] [(.int (1 : Int32))])) (fun _ k => XS.iconst X3.here hx rfl (hb hby at_96) k) ?_
  refine Goes.on (B := T3.setTop (mkF m 101 #[.val (.int p0), .val (.int p1), .val (.int p2), .val (.int p3), .val (.int kk), .val (.int mm), .val (.int fr), .val (.int ho), .val (.int sl), .val (.int da), .val (.int db), .val (.int (own_exp da db))] [(.int (1 : Int32))])) (fun _ k => XS.goto X3.here hx rfl (pc0 := 97) (pc' := 101) rfl (hb hby at_97) (by decide) (by decide) k) ?_
  obtain ⟨fs, hr, hrun, hended, hW, hsame⟩ := X3.leave (v := some (.int (1 : Int32))) (fun h => by rw [Bd.returns] at h; cases h)
  exact Goes.leaf (retN X3 hx (t := .boolean) Bd.returns (by simp) (hb hby at_101) hr) hrun hended ⟨_, _, rfl, by show Q0 Z p0 p1 p2 p3 h0 n0 _ T3.heap _; exact ⟨rfl, N3⟩, ⟨_, rfl⟩, hW, hsame.mono (by decide) (by decide)⟩
set_option maxRecDepth 65536 in
set_option maxHeartbeats 40000000 in
theorem comes_1 {Post : Tables → Env → Array Value → State → Outcome → State → Prop} (hpost : ∀ tb e args s v u, (limb_1_1.after args s (.returned v) u = true ∧ limb_1_2.after args s (.returned v) u = true ∧ True) → FrameEnd s (.returned v) u (Jvm.fieldLocs frame_1_writes args s ++ Jvm.arrayLocs frame_1_arrays args s ++ Jvm.staticLocs frame_1_statics s) 0 0 → Post tb e args s (.returned v) u) :
    ArmFor flags0 classFile x code maxLocals ret World_1 tables_1 room_1 Calls_1 rest_1 Pre_1 Post := by
  intro l hfl _ _ p e ha hc hk s m args below hf hA hF happ hP
  obtain ⟨hcalls, hrest, hpre⟩ := hP
  obtain ⟨-, -, -, hnamed, -, -, -, hat⟩ := (Spec.applies_iff hf).mp happ
  obtain ⟨hg, hn⟩ := and_e (Cond.before_iff.mp (show (Jvm.Cond.and given_1 narrow_1).before args s = true from hpre))
  obtain ⟨hg0, hg0r⟩ := and_e hg
  obtain ⟨hg1, hg1r⟩ := and_e hg0r
  obtain ⟨hg2, hg2r⟩ := and_e hg1r
  obtain ⟨hg3, hg3r⟩ := and_e hg2r
  obtain ⟨w0, w1, w2, w3, rfl⟩ : ∃ w0 w1 w2 w3 : Value, args = #[w0, w1, w2, w3] := by
    have hs : args.size = 4 := by simpa [Cond.value, given_1] using hg0
    obtain ⟨L⟩ := args
    match L, hs with
    | [w0, w1, w2, w3], _ => exact ⟨w0, w1, w2, w3, rfl⟩
  have hw := fun d (hd : d ∈ tables_1) => atoms_spec (ws := Jvm.Cond.code x code maxLocals ret :: tables_1) hat d (List.mem_cons_of_mem _ hd)
  have hfit : Fit s := fun {y c} hc i hi => by
    obtain ⟨ha, rfl⟩ := Array.getElem?_eq_some_iff.mp hc
    have q := List.all_eq_true.mp ((Array.all_eq_true_iff_forall_mem.mp hF) _ (Array.getElem_mem ha)) i (List.mem_range.mpr hi)
    simpa [Array.getElem?_eq_getElem hi] using q
  obtain ⟨i0, ei0⟩ := is_v hg1
  obtain rfl : w0 = (.int i0) := Option.some.inj ei0
  obtain ⟨i1, ei1⟩ := is_v hg2
  obtain rfl : w1 = (.int i1) := Option.some.inj ei1
  obtain ⟨i2, ei2⟩ := is_v hg3
  obtain rfl : w2 = (.int i2) := Option.some.inj ei2
  obtain ⟨i3, ei3⟩ := is_v hg3r
  obtain rfl : w3 = (.int i3) := Option.some.inj ei3
  obtain ⟨n, o, h1, h2, h3, _, L, rfl, ⟨rfl, N⟩, hq⟩ := rm0 l s _ hw tables_1 i0 i1 i2 i3  s.heap s.heap.size (Nat.le_refl _)  p e ha hc hk s m _ below hf ((Spec.applies_iff_loose hf).mp happ).1 ⟨rfl, State.Warmed39.refl s, rfl⟩ trivial
  refine ⟨n, _, h1, h2, h3, hpost _ _ _ _ _ _ ⟨Cond.after_iff.mpr rfl, Cond.after_iff.mpr (eq_i res_at (Term.int_eval (1)) rfl), trivial⟩ ⟨hq.1, hq.2.1, (hq.2.2.sift fun y hy => Or.inr (N y hy)).mono (by decide) (by decide)⟩⟩
theorem main_1_1 : Claimed_1_1 := comes_1 fun _ _ _ _ _ _ h hF => ⟨h.1, hF⟩
theorem main_1_2 : Claimed_1_2 := comes_1 fun _ _ _ _ _ _ h hF => ⟨h.2.1, hF⟩
end Jvm.Pilot.@@N@@
namespace Jvm.Pilot.@@N@@
open Jvm Jvm.ClassFile Sem Op Lib Jvm.Free Jvm.Stand Jvm.Pilot.@@N@@.Jvm.D
/-! MADE BY PROGRAM (witnessworld.py) out of the Statement's table words and the real class files: 9 classes; the members and pool entries that the words name. The judged class is class 1, her method 1. -/
namespace start1
open Jvm.ClassFile
def u (s : String) : CpInfo := .utf8 (stringToUtf16 s)
/-- a pool by its gaps: so many unusable entries, then the entry; so many at the end -/
def gap : Nat → List CpInfo → List CpInfo
  | 0, r => r
  | n + 1, r => .unusable :: gap n r
def poolList (es : List (Nat × CpInfo)) (last : Nat) : List CpInfo := es.foldr (fun e r => gap e.1 (e.2 :: r)) (gap last [])
def pool (es : List (Nat × CpInfo)) (last : Nat) : Array CpInfo := ⟨poolList es last⟩
def fileOf (pool : Array CpInfo) (this : Nat) (attrs : Array Attribute := #[]) (ms : Array MethodInfo := #[]) (fl : Nat := 33) (sup : Nat := 0) (ifs : Array Nat := #[]) (fds : Array FieldInfo := #[]) : ClassFile where
  minorVersion := 0
  majorVersion := 65
  constantPool := pool
  accessFlags := fl
  thisClass := this
  superClass := sup
  interfaces := ifs
  fields := fds
  methods := ms
  attributes := attrs
def plain (name : String) (sup : Option ClassId) : Class where
  name := name
  kind := .ordinary
  loader := none
  accessFlags := 33
  super := sup
  interfaces := #[]
  cf := none
  fields := #[]
  methods := #[]
  instanceTypes := #[]
  staticTypes := #[]
  resolved := #[]
  callSites := []
  init := .initialized
  statics := none
  mirror := none

def pool0 : Array CpInfo := pool [(5, u "<init>"), (0, u "()V"), (1, .class_ 10), (1, u "java/lang/Object")] 113

def k0m0 : Method := { name := "<init>", desc := "()V", sig := { parameters := [], returnType := none }, accessFlags := 1, code := none }
/-- java/lang/Object -/
def k0 : Class := { plain "java/lang/Object" none with
  accessFlags := 33
  interfaces := #[]
  cf := some (fileOf pool0 8 #[] #[{ accessFlags := 1, nameIndex := 5, descriptorIndex := 6, attributes := #[] }] 33 0 #[] #[])
  fields := #[]
  methods := #[k0m0]
  instanceTypes := #[]
  staticTypes := #[]
  resolved := Array.replicate 124 none
  statics := none }

def pool1 : Array CpInfo := pool [(2, .class_ 4), (1, u "java/lang/Object"), (0, u "<init>"), (0, u "()V"), (0, .integer 2147483647), (0, .methodref 9 10), (0, .class_ 11), (0, .nameAndType 12 13), (0, u "com/example/wise_broker/wisebroker/filter/Slots"), (0, u "movesBack"), (0, u "(III)Z"), (0, .class_ 15), (0, u "com/example/wise_broker/wisebroker/filter/SlotsMovesBackPinLaw"), (2, u "law"), (0, u "(IIII)Z")] 3

def k1m0 : Method := { name := "<init>", desc := "()V", sig := { parameters := [], returnType := none }, accessFlags := 2, code := none }
def k1c1 : Code := { maxStack := 3, maxLocals := 12, code := code, exceptionTable := #[], attributes := #[] }
def k1m1 : Method := { name := "law", desc := "(IIII)Z", sig := { parameters := [.int, .int, .int, .int], returnType := some .boolean }, accessFlags := 9, code := some k1c1 }
/-- com/example/wise_broker/wisebroker/filter/SlotsMovesBackPinLaw -/
def k1 : Class := { plain "com/example/wise_broker/wisebroker/filter/SlotsMovesBackPinLaw" (some 0) with
  accessFlags := 49
  interfaces := #[]
  cf := some (fileOf pool1 14 #[] #[{ accessFlags := 2, nameIndex := 5, descriptorIndex := 6, attributes := #[] }, { accessFlags := 9, nameIndex := 18, descriptorIndex := 19, attributes := #[] }] 49 2 #[] #[])
  fields := #[]
  methods := #[k1m0, k1m1]
  instanceTypes := #[]
  staticTypes := #[]
  resolved := Array.replicate 23 none
  statics := none }

def pool2 : Array CpInfo := pool [(2, .class_ 4), (1, u "java/lang/Object"), (0, u "<init>"), (0, u "()V"), (1, .class_ 9), (0, u "com/example/wise_broker/wisebroker/filter/Slots"), (4, u "movesBack"), (0, u "(III)Z")] 3

def k2m0 : Method := { name := "<init>", desc := "()V", sig := { parameters := [], returnType := none }, accessFlags := 2, code := none }
def k2c1 : Code := { maxStack := 2, maxLocals := 4, code := prog_39_method_3_code, exceptionTable := #[], attributes := #[] }
def k2m1 : Method := { name := "movesBack", desc := "(III)Z", sig := { parameters := [.int, .int, .int], returnType := some .boolean }, accessFlags := 8, code := some k2c1 }
/-- com/example/wise_broker/wisebroker/filter/Slots -/
def k2 : Class := { plain "com/example/wise_broker/wisebroker/filter/Slots" (some 0) with
  accessFlags := 48
  interfaces := #[]
  cf := some (fileOf pool2 8 #[] #[{ accessFlags := 2, nameIndex := 5, descriptorIndex := 6, attributes := #[] }, { accessFlags := 8, nameIndex := 14, descriptorIndex := 15, attributes := #[] }] 48 2 #[] #[])
  fields := #[]
  methods := #[k2m0, k2m1]
  instanceTypes := #[]
  staticTypes := #[]
  resolved := Array.replicate 19 none
  statics := none }

def pool3 : Array CpInfo := pool [(1, u "java/lang/Cloneable"), (0, .class_ 1), (0, u "java/lang/Object"), (0, .class_ 3)] 3

/-- java/lang/Cloneable -/
def k3 : Class := { plain "java/lang/Cloneable" (some 0) with
  accessFlags := 1537
  interfaces := #[]
  cf := some (fileOf pool3 2 #[] #[] 1537 4 #[] #[])
  fields := #[]
  methods := #[]
  instanceTypes := #[]
  staticTypes := #[]
  resolved := Array.replicate 8 none
  statics := none }

def pool4 : Array CpInfo := pool [(1, u "java/io/Serializable"), (0, .class_ 1), (0, u "java/lang/Object"), (0, .class_ 3)] 3

/-- java/io/Serializable -/
def k4 : Class := { plain "java/io/Serializable" (some 0) with
  accessFlags := 1537
  interfaces := #[]
  cf := some (fileOf pool4 2 #[] #[] 1537 4 #[] #[])
  fields := #[]
  methods := #[]
  instanceTypes := #[]
  staticTypes := #[]
  resolved := Array.replicate 8 none
  statics := none }

/-- the primitive byte -/
def k5 : Class := { plain "byte" none with kind := .primitive 'B', accessFlags := 0x411 }
/-- [B -/
def k6 : Class := { plain "[B" (some 0) with kind := .array 5 .byte, interfaces := #[3, 4], accessFlags := 1041 }

/-- the primitive int -/
def k7 : Class := { plain "int" none with kind := .primitive 'I', accessFlags := 0x411 }
/-- [I -/
def k8 : Class := { plain "[I" (some 0) with kind := .array 7 .int, interfaces := #[3, 4], accessFlags := 1041 }

def heap : Heap := #[]
def classes : Array Class := #[k0, k1, k2, k3, k4, k5, k6, k7, k8]
def interned : List (Array UInt16 × Addr) := []
def slotsUsed : Nat := 0
def theMethod : MethodId := ⟨1, 1⟩
def args0 : Array Value := #[.int 5, .int 7, .int 9, .int 11]
def aboutOver (below : List Frame) : State where
  vm := { classes := classes, interned := interned.toArray }
  heap := heap
  slotsUsed := slotsUsed
  threads := #[{ frames := .invoking theMethod args0 :: below }]
def below0 : List Frame := [.native { method := ⟨0, 0⟩, args := #[] }]
def about1 : State := aboutOver below0
def p0 : Program := .bare "" "" ""
def e0 : Env := launch0.env 0 0 0
theorem w_frames : about1.frames = Frame.invoking theMethod args0 :: below0 := rfl
set_option maxRecDepth 65536 in
theorem w_args : argsFit about1.vm theMethod args0 = true := by decide +kernel
set_option maxRecDepth 65536 in
theorem w_heap : heapFits about1 = true := by decide +kernel
set_option maxRecDepth 65536 in
theorem w_runnable : about1.curStatus? = some .runnable := by decide +kernel
set_option maxRecDepth 65536 in
theorem w_alone : about1.alone = true := by decide +kernel
set_option maxRecDepth 65536 in
theorem w_named : about1.methodNamed? x = some theMethod := by decide +kernel
set_option maxRecDepth 65536 in
theorem w_hears : about1.hears theMethod below0 = true := by decide +kernel
set_option maxRecDepth 65536 in
theorem w_ripe : about1.ripe theMethod args0 below0 = true := by decide +kernel
theorem w_running : about1.status = .running := rfl
set_option maxRecDepth 65536 in
theorem w_room : about1.hasRoom e0.platform room_1 = true :=
  launch0.hasRoom_least _ room_1 (by decide +kernel) (by decide +kernel) (by decide +kernel) (by decide +kernel) (by decide +kernel) (by decide +kernel)
theorem allAtoms_all (ts : List Jvm.Cond) (a : Array Jvm.Value) (st : Jvm.State) : (allAtoms ts).before a st = ts.all (fun c => c.before a st) := by
  induction ts with
  | nil => rfl
  | cons c t ih =>
    show (Jvm.Cond.and c (allAtoms t)).before a st = _
    rw [Jvm.Cond.before_and, ih, List.all_cons]
def words1 : List Jvm.Cond := Jvm.Cond.code x code maxLocals ret :: tables_1
/-- a 'code' word, met by the world's own term for the bytes: nothing is compared byte by byte -/
theorem code_word {y : MethodName} {bytes : ByteArray} {mx : Nat} {rt : Option FieldType} {a : Array Value} {s : State} {m : MethodId} {meth : Method} {c : Code} (h1 : s.methodNamed? y = some m) (h2 : s.vm.method? m = some meth) (h3 : meth.code = some c) (h4 : c.code = bytes)
    (h5 : (c.maxLocals == mx && c.exceptionTable.isEmpty && decide (c.maxStack ≤ mostOperands) && decide (meth.sig.returnType = rt) && !meth.locks && decide (parseMethodDescriptor y.desc = some meth.sig)) = true) : (Jvm.Cond.code y bytes mx rt).before a s = true := by
  simp only [Bool.and_eq_true, beq_iff_eq, Bool.not_eq_true', decide_eq_true_eq] at h5
  obtain ⟨⟨⟨⟨⟨g1, g2⟩, g3⟩, g4⟩, g5⟩, g6⟩ := h5
  simp [Cond.before, Cond.holds, Cond.value, h1, h2, h3, h4, g1, g2, g3, g4, g5, g6]
def isCode : Jvm.Cond → Bool
  | .code _ _ _ _ => true
  | _ => false
theorem all_split {L : List Jvm.Cond} {P : Jvm.Cond → Bool} (h1 : L.all (fun c => isCode c || P c) = true) (h2 : ∀ c ∈ L.filter isCode, P c = true) : L.all P = true := by
  refine List.all_eq_true.mpr fun c hc => ?_
  have h := List.all_eq_true.mp h1 c hc
  rcases Bool.eq_false_or_eq_true (isCode c) with hi | hi
  · exact h2 c (List.mem_filter.mpr ⟨hc, hi⟩)
  · simpa [hi] using h
set_option maxRecDepth 65536 in
theorem w_c0 : (Jvm.Cond.code x code maxLocals ret).before args0 about1 = true := code_word (m := ⟨1, 1⟩) (meth := k1m1) (c := k1c1) (by decide +kernel) rfl rfl rfl (by decide +kernel)
set_option maxRecDepth 65536 in
theorem w_c1 : (Jvm.Cond.code ({ cls := "com/example/wise_broker/wisebroker/filter/Slots", name := "movesBack", desc := "(III)Z" } : Jvm.MethodName) prog_39_method_3_code (4 : Nat) (Option.some Jvm.ClassFile.FieldType.boolean)).before args0 about1 = true := code_word (m := ⟨2, 1⟩) (meth := k2m1) (c := k2c1) (by decide +kernel) rfl rfl rfl (by decide +kernel)
def codes1 : List Jvm.Cond := [Jvm.Cond.code x code maxLocals ret, Jvm.Cond.code ({ cls := "com/example/wise_broker/wisebroker/filter/Slots", name := "movesBack", desc := "(III)Z" } : Jvm.MethodName) prog_39_method_3_code (4 : Nat) (Option.some Jvm.ClassFile.FieldType.boolean)]
set_option maxRecDepth 65536 in
theorem codes_eq : words1.filter isCode = codes1 := rfl
theorem w_codes : ∀ c ∈ words1.filter isCode, c.before args0 about1 = true := by
  rw [codes_eq]
  intro c hc
  simp only [codes1, List.mem_cons, List.not_mem_nil, or_false] at hc
  rcases hc with rfl | rfl
  · exact w_c0
  · exact w_c1
set_option maxRecDepth 65536 in
theorem w_t1 : words1.all (fun c => isCode c || c.before args0 about1) = true := by decide +kernel
theorem w_tables : (allAtoms (Jvm.Cond.code x code maxLocals ret :: tables_1)).before args0 about1 = true := by
  rw [allAtoms_all]
  show words1.all (fun c => c.before args0 about1) = true
  refine all_split ?_ w_codes
  rw [w_t1]
set_option maxRecDepth 65536 in
theorem w_case : (Jvm.Cond.and given_1 narrow_1).before args0 about1 = true := by decide +kernel
theorem w_applies : (headSpec (Jvm.Cond.code x code maxLocals ret :: tables_1) room_1).applies x e0.platform about1 = true :=
  (Spec.applies_iff w_frames).mpr ⟨w_running, w_runnable, w_alone, w_named, w_hears, w_ripe, w_room, w_tables⟩
theorem atStart : AtStart classFile x code maxLocals ret World_1 tables_1 room_1 Calls_1 rest_1 Pre_1 launch0 p0 e0 about1 theMethod args0 below0 :=
  ⟨lists_1, trivial, launch0.admits_env _ _ _, launch0.least_env, fairChoices_fair.cas, fairChoices_fair.clock, w_frames, w_args, w_heap, w_applies, trivial, trivial, w_case⟩
end start1
theorem witness_1 : WitnessClaimed_1 := ⟨start1.p0, start1.e0, start1.about1, start1.theMethod, start1.args0, start1.below0, start1.atStart⟩
end Jvm.Pilot.@@N@@
