import JvmDerived
import JvmDerived.Pilot.@@N@@Statement
import JvmDerived.Pilot.@@N@@Code
set_option linter.unusedVariables false
set_option linter.unusedSimpArgs false
@@BLOCK:NumsL.lean.txt@@
namespace Jvm.Pilot.@@N@@
open Jvm Jvm.ClassFile Sem Op Lib Jvm.Free Jvm.Stand Jvm.LawKit Jvm.RoadKit Bundle Jvm.Pilot.@@N@@.Jvm.D
/-! the goal of a walk, carried forward -/
def Goes (p : Program) (e : Env) (below : List Frame) (P : Outcome → State → Prop) (A : State) : Prop :=
  ∃ s₂ o, Steps p.tables e below A s₂ ∧ s₂.status = .running ∧ Ended s₂ below o ∧ P o s₂
theorem Goes.on {p : Program} {e : Env} {below : List Frame} {P : Outcome → State → Prop} {A B : State} (k : ∀ t, Steps p.tables e below B t → Steps p.tables e below A t) (h : Goes p e below P B) : Goes p e below P A := by
  obtain ⟨s₂, o, h1, h2⟩ := h
  exact ⟨s₂, o, k _ h1, h2⟩
theorem Goes.via {p : Program} {e : Env} {below : List Frame} {P : Outcome → State → Prop} {A B : State} (k : Goes p e below P B → Goes p e below P A) (h : Goes p e below P B) : Goes p e below P A := k h
theorem Goes.viaT {p : Program} {e : Env} {below : List Frame} {P : Outcome → State → Prop} {A : State} {Φ : State → Prop} {F : JFrame} (k : (∀ T, Φ T → Goes p e below P (T.setTop F)) → Goes p e below P A) (h : ∀ T, Φ T → Goes p e below P (T.setTop F)) : Goes p e below P A := k h
theorem Goes.leaf {p : Program} {e : Env} {below : List Frame} {P : Outcome → State → Prop} {A t : State} {o : Outcome} (h1 : Steps p.tables e below A t) (h2 : t.status = .running) (h3 : Ended t below o) (h4 : P o t) : Goes p e below P A := ⟨t, o, h1, h2, h3, h4⟩
theorem own_retI {p : Program} {l : Launch} {e : Env} {R : Room} {s : State} {m : MethodId} {args : Array Value} {below : List Frame} {meth : Method} {c : Code} {T : State} {locs : List Loc} {cells slots : Nat} (X : Stand p l e R s m args below meth c T locs cells slots) (hx : p.tables.exec = Jvm.exec) {pc : Nat} {Ls : Array Slot} {z : Int32} {rest : List Value} (hret : meth.sig.returnType = some .int) (hd : decode c.code pc = .ok (.ireturn, 1)) {fs : List Frame}
    (hl : ∀ (f : JFrame) (acts : List Action), f.method = m → f.locked = none → f.entered = [] → (doReturn e (T.setTop f) acts (some (.int z))).1 = T.setFrames fs) : Steps p.tables e below (T.setTop (mkF m pc Ls (.int z :: rest))) (T.setFrames fs) :=
  retOut X hx hret rfl (Or.inl ⟨rfl, Or.inl rfl, z, rfl⟩) hd hl
theorem own_retJ {p : Program} {l : Launch} {e : Env} {R : Room} {s : State} {m : MethodId} {args : Array Value} {below : List Frame} {meth : Method} {c : Code} {T : State} {locs : List Loc} {cells slots : Nat} (X : Stand p l e R s m args below meth c T locs cells slots) (hx : p.tables.exec = Jvm.exec) {pc : Nat} {Ls : Array Slot} {z : Int64} {rest : List Value} (hret : meth.sig.returnType = some .long) (hd : decode c.code pc = .ok (.lreturn, 1)) {fs : List Frame}
    (hl : ∀ (f : JFrame) (acts : List Action), f.method = m → f.locked = none → f.entered = [] → (doReturn e (T.setTop f) acts (some (.long z))).1 = T.setFrames fs) : Steps p.tables e below (T.setTop (mkF m pc Ls (.long z :: rest))) (T.setFrames fs) :=
  retOut X hx hret rfl (Or.inr (Or.inl ⟨rfl, rfl, z, rfl⟩)) hd hl
theorem own_retR {p : Program} {l : Launch} {e : Env} {R : Room} {s : State} {m : MethodId} {args : Array Value} {below : List Frame} {meth : Method} {c : Code} {T : State} {locs : List Loc} {cells slots : Nat} (X : Stand p l e R s m args below meth c T locs cells slots) (hx : p.tables.exec = Jvm.exec) {pc : Nat} {Ls : Array Slot} {z : Addr} {t : FieldType} {rest : List Value} (hret : meth.sig.returnType = some t) (ht : t.isReference = true) (hn : narrow t (.ref z) = .ref z) (hd : decode c.code pc = .ok (.areturn, 1)) {fs : List Frame}
    (hl : ∀ (f : JFrame) (acts : List Action), f.method = m → f.locked = none → f.entered = [] → (doReturn e (T.setTop f) acts (some (.ref z))).1 = T.setFrames fs) : Steps p.tables e below (T.setTop (mkF m pc Ls (.ref z :: rest))) (T.setFrames fs) :=
  retOut X hx hret hn (Or.inr (Or.inr (Or.inr (Or.inr ⟨rfl, ht, rfl⟩)))) hd hl
theorem own_tlt {x y : Int64} (h : x < y) : ifCond.holds .lt (lcmpW x y) = true ∧ ifCond.holds .ge (lcmpW x y) = false := by
  have h1 : ¬ x > y := by rw [gt_iff_lt, Int64.lt_iff_toInt_lt]; rw [Int64.lt_iff_toInt_lt] at h; omega
  have h2 : ¬ x = y := fun q => by subst q; rw [Int64.lt_iff_toInt_lt] at h; omega
  have e : lcmpW x y = -1 := by rw [lcmpW, if_neg h1, if_neg h2]
  rw [e]; exact ⟨rfl, rfl⟩
theorem own_tgt {x y : Int64} (h : y < x) : ifCond.holds .gt (lcmpW x y) = true ∧ ifCond.holds .le (lcmpW x y) = false := by
  have e : lcmpW x y = 1 := by rw [lcmpW, if_pos h]
  rw [e]; exact ⟨rfl, rfl⟩
theorem own_flt {x y : Int64} (h : ¬ x < y) : ifCond.holds .lt (lcmpW x y) = false ∧ ifCond.holds .ge (lcmpW x y) = true := by
  by_cases h1 : x > y
  · have e : lcmpW x y = 1 := by rw [lcmpW, if_pos h1]
    rw [e]; exact ⟨rfl, rfl⟩
  · have h2 : x = y := by
      rw [gt_iff_lt, Int64.lt_iff_toInt_lt] at h1; rw [Int64.lt_iff_toInt_lt] at h; exact Int64.toInt_inj.mp (by omega)
    have e : lcmpW x y = 0 := by rw [lcmpW, if_neg h1, if_pos h2]
    rw [e]; exact ⟨rfl, rfl⟩
theorem own_fgt {x y : Int64} (h : ¬ y < x) : ifCond.holds .gt (lcmpW x y) = false ∧ ifCond.holds .le (lcmpW x y) = true := by
  by_cases h2 : x = y
  · have e : lcmpW x y = 0 := by rw [lcmpW, if_neg h, if_pos h2]
    rw [e]; exact ⟨rfl, rfl⟩
  · have e : lcmpW x y = -1 := by rw [lcmpW, if_neg h, if_neg h2]
    rw [e]; exact ⟨rfl, rfl⟩
theorem own_teq {x y : Int64} (h : x = y) : ifCond.holds .eq (lcmpW x y) = true ∧ ifCond.holds .ne (lcmpW x y) = false := by
  have h1 : ¬ x > y := by subst h; rw [gt_iff_lt, Int64.lt_iff_toInt_lt]; omega
  have e : lcmpW x y = 0 := by rw [lcmpW, if_neg h1, if_pos h]
  rw [e]; exact ⟨rfl, rfl⟩
theorem own_feq {x y : Int64} (h : ¬ x = y) : ifCond.holds .eq (lcmpW x y) = false ∧ ifCond.holds .ne (lcmpW x y) = true := by
  by_cases h1 : x > y
  · have e : lcmpW x y = 1 := by rw [lcmpW, if_pos h1]
    rw [e]; exact ⟨rfl, rfl⟩
  · have e : lcmpW x y = -1 := by rw [lcmpW, if_neg h1, if_neg h]
    rw [e]; exact ⟨rfl, rfl⟩
theorem own_selfpriv {s : State} {args : Array Value} {y : MethodName} {n : Nat} (hi : (Cond.instantiable y.cls n).before args s = true) (hpriv : s.PrivateAt y) (hinst : (Cond.instanceMethod y).before args s = true) (hy : y.cls ≠ "java/lang/invoke/MethodHandle" ∧ y.cls ≠ "java/lang/invoke/VarHandle") : (Cond.selects y.cls y y).before args s = true := by
  obtain ⟨c, k, h1, h2, -, h4, -⟩ := Cond.instantiable_spec hi
  exact selects_self_of_private h1 h2 (Bool.or_eq_false_iff.mp h4).1 hpriv hinst hy
theorem d2_0 : decode prog_42_method_1_code 0 = .ok (.aload_n 0, 1) := by decide +kernel
theorem d2_1 : decode prog_42_method_1_code 1 = .ok (.invokespecial 1, 3) := by decide +kernel
theorem d2_4 : decode prog_42_method_1_code 4 = .ok (.aload_n 0, 1) := by decide +kernel
theorem d2_5 : decode prog_42_method_1_code 5 = .ok (.iload_n 1, 1) := by decide +kernel
theorem d2_6 : decode prog_42_method_1_code 6 = .ok (.putfield 7, 3) := by decide +kernel
theorem d2_9 : decode prog_42_method_1_code 9 = .ok (.return_, 1) := by decide +kernel
theorem pn_2 : plainName "com/example/abil/abil/core/Threshold" = true := by first | (simp [plainName, overriddenIn]; done) | decide +kernel
theorem ef_i (m : MethodId) (x0 : Addr) (x1 : Int32) : entryFrame m #[(.ref x0), (.int x1)] 2 = mkF m 0 #[.val (.ref x0), .val (.int x1)] [] := by first | (simp [entryFrame, mkF, argsToLocals, Value.category]; done) | rfl
def Qi (Z : State) (a : Addr) (p1 : Int32)  (h0 : Heap) (n0 : Nat) (v : Option Value) (h : Heap) (L : List Loc) : Prop := v = none ∧ Fr n0 L ∧ Keep h0 h [a] ∧ Exa Z h a "com/example/abil/abil/core/Threshold" ∧ Fld Z h a "com/example/abil/abil/core/Threshold" "basisPoints" "I" (.int p1)
set_option maxRecDepth 65536 in
set_option maxHeartbeats 40000000 in
theorem rmi (l : Launch) (Z : State) (a0 : Array Value) (hw : ∀ d ∈ tables_1, d.before a0 Z = true) (ws : List Jvm.Cond) (a : Addr) (p1 : Int32)  (h0 : Heap) (n0 : Nat) (Z0 : n0 ≤ h0.size) (F0 : Fld Z h0 a "com/example/abil/abil/core/Threshold" "basisPoints" "I" (.int (0 : Int32))) (E0 : Exa Z h0 a "com/example/abil/abil/core/Threshold") (ga : n0 ≤ a) :
    MetFree l (⟨"com/example/abil/abil/core/Threshold", "<init>", "(I)V"⟩ : MethodName) (head1 (Jvm.Cond.code (⟨"com/example/abil/abil/core/Threshold", "<init>", "(I)V"⟩ : MethodName) prog_42_method_1_code 2 none :: ws) ({ frames := 1, cells := 0, slots := 0, locals := 12 } : Room)) (fun aa U => aa = #[(.ref a), (.int p1)] ∧ Z.Warmed39 U.vm ∧ U.heap = h0) (fun _ _ _ _ _ => True) (fun _ U oo U' => ∃ vv LL, oo = .returned vv ∧ Qi Z a p1 h0 n0 vv U'.heap LL ∧ FrameEnd U oo U' LL ({ frames := 1, cells := 0, slots := 0, locals := 12 } : Room).cells ({ frames := 1, cells := 0, slots := 0, locals := 12 } : Room).slots) := by
  refine MetFree.of_bodySF (plainFor_of_name pn_2) hisR ?_
  intro p e s m args below meth c s₁ Bd hml0 hP hK
  obtain ⟨rfl, hZ, hh⟩ := hP
  have hx := Bd.exec
  have hby := Bd.bytes
  have hml : c.maxLocals = 2 := hml0
  have hown : s.vm.findClass "com/example/abil/abil/core/Threshold" = some m.cls := findClass_of_methodNamed Bd.named
  have hnm := (name_of_methodNamed Bd.named Bd.method).1
  have X0 : Stand p l e ({ frames := 1, cells := 0, slots := 0, locals := 12 } : Room) s m #[(.ref a), (.int p1)] below meth c s₁ [] 0 0 := Stand.of_body Bd
  have e0 : s₁.heap = h0 := by rw [← hh, Bd.state]; rfl
  have N0 := Fr.nil n0
  show Goes p e below _ (s₁.setTop (entryFrame m #[(.ref a), (.int p1)] 2))
  refine Goes.on (B := s₁.setTop (mkF m 0 #[.val (.ref a), .val (.int p1)] [])) (fun t k => castTop (ef_i m a p1) k) ?_
  refine Goes.on (B := s₁.setTop (mkF m 1 #[.val (.ref a), .val (.int p1)] [(.ref a)])) (fun _ k => XS.aloadN X0.here hx rfl (hb hby d2_0) rfl rfl  k) ?_
  obtain ⟨T1, X1, e1, st1⟩ := initO X0 hx hZ hown (hw _ (List.mem_of_getElem? (i := 10) rfl)) (hw _ (List.mem_of_getElem? (i := 11) rfl)) (hw _ (List.mem_of_getElem? (i := 12) rfl)) e0 (g := (mkF m 1 #[.val (.ref a), .val (.int p1)] [(.ref a)])) rfl (by rw [hml]; rfl) rfl (hb hby d2_1) (by decide) (W := 0) (by show 2 * 0 + _ ≤ _; exact Nat.le_of_eq rfl) (by decide)
  refine Goes.on (B := T1.setTop (mkF m 4 #[.val (.ref a), .val (.int p1)] [])) (fun t k => st1 t k) ?_
  refine Goes.on (B := T1.setTop (mkF m 5 #[.val (.ref a), .val (.int p1)] [(.ref a)])) (fun _ k => XS.aloadN X1.here hx rfl (hb hby d2_4) rfl rfl  k) ?_
  refine Goes.on (B := T1.setTop (mkF m 6 #[.val (.ref a), .val (.int p1)] [(.int p1), (.ref a)])) (fun _ k => XS.iloadN X1.here hx rfl (hb hby d2_5) rfl  k) ?_
  obtain ⟨T2, h2, X2, e2, W2, st2⟩ := putF X1 hx hZ hown (host := "") (Or.inl (hw _ (List.mem_of_getElem? (i := 13) rfl))) Via.refl e1 F0 E0 (Or.inr ⟨(hw _ (List.mem_of_getElem? (i := 14) rfl)), rfl, hnm⟩) (hw _ (List.mem_of_getElem? (i := 6) rfl)) (ty := .int) (by decide) rfl rfl (g := (mkF m 6 #[.val (.ref a), .val (.int p1)] [(.int p1), (.ref a)])) rfl rfl (hb hby d2_6)
  have f3 := E0.wr W2
  have f4 := F0.same W2
  have z5 : n0 ≤ h2.size := Nat.le_trans Z0 (Keep.of_wr W2).1
  have K6 : Keep h0 h2 [a] := (Keep.refl h0 [a]).wr W2 (Or.inl (List.mem_of_getElem? (i := 0) rfl))
  have N2 := Fr.snoc X2 N0 ga
  refine Goes.on (B := T2.setTop (mkF m 9 #[.val (.ref a), .val (.int p1)] [])) (fun t k => st2 t k) ?_
  obtain ⟨fs, hr, hrun, hended, hW, hsame⟩ := X2.leave (v := none) (fun _ => rfl)
  exact Goes.leaf (X2.returnOut hx Bd.returns (hb hby d2_9) hr) hrun hended ⟨_, _, rfl, by show Qi Z a p1 h0 n0 _ T2.heap _; rw [e2]; exact ⟨rfl, N2, K6, f3, f4⟩, ⟨_, rfl⟩, hW, hsame.mono (by decide) (by decide)⟩
theorem d1_0 : decode prog_42_method_2_code 0 = .ok (.iload_n 0, 1) := by decide +kernel
theorem d1_1 : decode prog_42_method_2_code 1 = .ok (.ifCond .lt 10, 3) := by decide +kernel
theorem d1_4 : decode prog_42_method_2_code 4 = .ok (.iload_n 0, 1) := by decide +kernel
theorem d1_5 : decode prog_42_method_2_code 5 = .ok (.sipush 10000, 3) := by decide +kernel
theorem d1_8 : decode prog_42_method_2_code 8 = .ok (.if_icmp .le 17, 3) := by decide +kernel
theorem d1_25 : decode prog_42_method_2_code 25 = .ok (.new 8, 3) := by decide +kernel
theorem d1_28 : decode prog_42_method_2_code 28 = .ok (.dup, 1) := by decide +kernel
theorem d1_29 : decode prog_42_method_2_code 29 = .ok (.iload_n 0, 1) := by decide +kernel
theorem d1_30 : decode prog_42_method_2_code 30 = .ok (.invokespecial 22, 3) := by decide +kernel
theorem d1_33 : decode prog_42_method_2_code 33 = .ok (.areturn, 1) := by decide +kernel
theorem pn_1 : plainName "com/example/abil/abil/core/Threshold" = true := by first | (simp [plainName, overriddenIn]; done) | decide +kernel
theorem pd_1__I_V : parseMethodDescriptor "(I)V" = some ⟨[.int], none⟩ := by decide +kernel
theorem ef_o (m : MethodId) (x0 : Int32) : entryFrame m #[(.int x0)] 1 = mkF m 0 #[.val (.int x0)] [] := by first | (simp [entryFrame, mkF, argsToLocals, Value.category]; done) | rfl
def Qo (Z : State) (p0 : Int32)  (h0 : Heap) (n0 : Nat) (v : Option Value) (h : Heap) (L : List Loc) : Prop := ∃ b, v = some (.ref b) ∧ Fr n0 L ∧ Keep h0 h [] ∧ n0 ≤ b ∧ h0.size ≤ b ∧ Exa Z h b "com/example/abil/abil/core/Threshold" ∧ Fld Z h b "com/example/abil/abil/core/Threshold" "basisPoints" "I" (.int p0)
set_option maxRecDepth 65536 in
set_option maxHeartbeats 40000000 in
theorem rmo (l : Launch) (Z : State) (a0 : Array Value) (hw : ∀ d ∈ tables_1, d.before a0 Z = true) (ws : List Jvm.Cond) (p0 : Int32)  (h0 : Heap) (n0 : Nat) (Z0 : n0 ≤ h0.size) (hlo : ¬ p0 < (0 : Int32)) (hhi : ¬ (10000 : Int32) < p0) :
    MetFree l (⟨"com/example/abil/abil/core/Threshold", "ofBasisPoints", "(I)Lcom/example/abil/abil/core/Threshold;"⟩ : MethodName) (head1 (Jvm.Cond.code (⟨"com/example/abil/abil/core/Threshold", "ofBasisPoints", "(I)Lcom/example/abil/abil/core/Threshold;"⟩ : MethodName) prog_42_method_2_code 1 (some (.object "com/example/abil/abil/core/Threshold")) :: ws) ({ frames := 2, cells := 1, slots := 1, locals := 26 } : Room)) (fun aa U => aa = #[(.int p0)] ∧ Z.Warmed39 U.vm ∧ U.heap = h0) (fun _ _ _ _ _ => True) (fun _ U oo U' => ∃ vv LL, oo = .returned vv ∧ Qo Z p0 h0 n0 vv U'.heap LL ∧ FrameEnd U oo U' LL ({ frames := 2, cells := 1, slots := 1, locals := 26 } : Room).cells ({ frames := 2, cells := 1, slots := 1, locals := 26 } : Room).slots) := by
  refine MetFree.of_bodySF (plainFor_of_name pn_1) hisR ?_
  intro p e s m args below meth c s₁ Bd hml0 hP hK
  obtain ⟨rfl, hZ, hh⟩ := hP
  have hx := Bd.exec
  have hby := Bd.bytes
  have hml : c.maxLocals = 1 := hml0
  have hown : s.vm.findClass "com/example/abil/abil/core/Threshold" = some m.cls := findClass_of_methodNamed Bd.named
  have hnm := (name_of_methodNamed Bd.named Bd.method).1
  have X0 : Stand p l e ({ frames := 2, cells := 1, slots := 1, locals := 26 } : Room) s m #[(.int p0)] below meth c s₁ [] 0 0 := Stand.of_body Bd
  have e0 : s₁.heap = h0 := by rw [← hh, Bd.state]; rfl
  have N0 := Fr.nil n0
  show Goes p e below _ (s₁.setTop (entryFrame m #[(.int p0)] 1))
  refine Goes.on (B := s₁.setTop (mkF m 0 #[.val (.int p0)] [])) (fun t k => castTop (ef_o m p0) k) ?_
  refine Goes.on (B := s₁.setTop (mkF m 1 #[.val (.int p0)] [(.int p0)])) (fun _ k => XS.iloadN X0.here hx rfl (hb hby d1_0) rfl  k) ?_
  refine Goes.on (B := s₁.setTop (mkF m 4 #[.val (.int p0)] [])) (fun _ k => XS.ifNo X0.here hx rfl (hb hby d1_1) rfl ((if0 _ _).trans (flt hlo).1) k) ?_
  refine Goes.on (B := s₁.setTop (mkF m 5 #[.val (.int p0)] [(.int p0)])) (fun _ k => XS.iloadN X0.here hx rfl (hb hby d1_4) rfl  k) ?_
  refine Goes.on (B := s₁.setTop (mkF m 8 #[.val (.int p0)] [(.int (10000 : Int32)), (.int p0)])) (fun _ k => XS.sipush X0.here hx rfl (hb hby d1_5) k) ?_
  refine Goes.on (B := s₁.setTop (mkF m 25 #[.val (.int p0)] [])) (fun _ k => XS.icmpYes X0.here hx rfl (pc0 := 8) (pc' := 25) rfl (hb hby d1_8) rfl (flt hhi).2.2.2 (by decide) (by decide) k) ?_
  obtain ⟨T1, h1, X1, e1, E1, A1, D1, -, st1⟩ := newO X0 hx hZ hown (hw _ (List.mem_of_getElem? (i := 5) rfl)) (hw _ (List.mem_of_getElem? (i := 6) rfl)) (hw _ (List.mem_of_getElem? (i := 3) rfl)) e0 (g := (mkF m 25 #[.val (.int p0)] [])) rfl (hb hby d1_25) (by decide) (by decide)
  obtain ⟨b1, g1⟩ : ∃ z, z = h0.size := ⟨_, rfl⟩
  rw [← g1] at A1 D1 st1
  have z2 : n0 ≤ h1.size := Nat.le_trans Z0 E1.1
  have K3 : Keep h0 h1 [] := (Keep.refl h0 []).ext E1
  have g_b1 : n0 ≤ b1 := Nat.le_trans Z0 (Nat.le_of_eq g1.symm)
  have sz_b1 : h0.size ≤ b1 := Nat.le_trans (Keep.refl h0 []).1 (Nat.le_of_eq g1.symm)
  have F1_basisPoints : Fld Z h1 b1 "com/example/abil/abil/core/Threshold" "basisPoints" "I" (.int (0 : Int32)) := D1 (Or.inr (hw _ (List.mem_of_getElem? (i := 14) rfl))) (ty := .int) (by decide)
  refine Goes.on (B := T1.setTop (mkF m 28 #[.val (.int p0)] [(.ref b1)])) (fun t k => st1 t k) ?_
  refine Goes.on (B := T1.setTop (mkF m 29 #[.val (.int p0)] [(.ref b1), (.ref b1)])) (fun _ k => XS.dup X1.here hx rfl (hb hby d1_28) rfl rfl k) ?_
  refine Goes.on (B := T1.setTop (mkF m 30 #[.val (.int p0)] [(.int p0), (.ref b1), (.ref b1)])) (fun _ k => XS.iloadN X1.here hx rfl (hb hby d1_29) rfl  k) ?_
  obtain ⟨_, _, ⟨T4, L4, k4, n4⟩, -, X4, ⟨Lc4, hQ4, l4, y4, z4⟩, st4⟩ := X1.specialBack hx (y := (⟨"com/example/abil/abil/core/Threshold", "<init>", "(I)V"⟩ : MethodName)) rfl hown (mvT hZ (hw _ (List.mem_of_getElem? (i := 7) rfl))) (mvT hZ (hw _ (List.mem_of_getElem? (i := 8) rfl))) (mvT hZ (hw _ (List.mem_of_getElem? (i := 9) rfl))) (by decide) (backOf (W := 1) (rmi l Z a0 hw [] b1 p0 h1 n0 z2 F1_basisPoints A1 g_b1) hZ (hw _ (List.mem_of_getElem? (i := 9) rfl)) (hw _ (List.mem_of_getElem? (i := 3) rfl)) (by decide) (by decide)) (g := (mkF m 30 #[.val (.int p0)] [(.int p0), (.ref b1), (.ref b1)])) rfl (by rw [hml]; rfl) (Steps.refl _) (a := b1) (argsL := [(.int p0)]) (rest := [(.ref b1)]) (lenOf pd_1__I_V rfl) rfl (by show 2 * 0 + _ ≤ _; exact Nat.le_of_eq rfl) (hb hby d1_30) (fun _ _ => ⟨rfl, e1, (by decide : 1 + 0 ≤ _), (by decide : 1 + 0 ≤ _)⟩)
  dsimp only [Pt.U, Pt.locs, Pt.cells, Pt.slots] at X4 l4 y4 z4 st4 hQ4
  subst l4 y4 z4
  obtain ⟨rfl, Nq4, Kq4, Eq4, Fq4⟩ := hQ4
  obtain ⟨h4, eh4⟩ : ∃ h, T4.heap = h := ⟨_, rfl⟩
  rw [eh4] at Kq4 Eq4 Fq4
  have f5 := A1.keep Kq4
  have z6 : n0 ≤ h4.size := Nat.le_trans z2 Kq4.1
  have K7 : Keep h0 h4 [] := K3.trans Kq4 (allS (Or.inr sz_b1) all0)
  have N4 := Fr.app N0 Nq4
  refine Goes.on (B := T4.setTop (mkF m 33 #[.val (.int p0)] [(.ref b1)])) (fun t k => st4.trans k) ?_
  obtain ⟨fs, hr, hrun, hended, hW, hsame⟩ := X4.leave (v := some (.ref b1)) (fun h => by rw [Bd.returns] at h; cases h)
  exact Goes.leaf (own_retR X4 hx Bd.returns rfl rfl (hb hby d1_33) hr) hrun hended ⟨_, _, rfl, by show Qo Z p0 h0 n0 _ T4.heap _; rw [eh4]; exact ⟨b1, rfl, N4, K7, g_b1, sz_b1, Eq4, Fq4⟩, ⟨_, rfl⟩, hW, hsame.mono (by decide) (by decide)⟩
theorem d4_0 : decode prog_42_method_3_code 0 = .ok (.aload_n 0, 1) := by decide +kernel
theorem d4_1 : decode prog_42_method_3_code 1 = .ok (.getfield 7, 3) := by decide +kernel
theorem d4_4 : decode prog_42_method_3_code 4 = .ok (.ireturn, 1) := by decide +kernel
theorem pn_4 : plainName "com/example/abil/abil/core/Threshold" = true := by first | (simp [plainName, overriddenIn]; done) | decide +kernel
theorem ef_g (m : MethodId) (x0 : Addr) : entryFrame m #[(.ref x0)] 1 = mkF m 0 #[.val (.ref x0)] [] := by first | (simp [entryFrame, mkF, argsToLocals, Value.category]; done) | rfl
def Qg (Z : State) (a : Addr) (w : Int32) (h0 : Heap) (n0 : Nat) (v : Option Value) (h : Heap) (L : List Loc) : Prop := v = some (.int w) ∧ Fr n0 L ∧ h = h0
set_option maxRecDepth 65536 in
set_option maxHeartbeats 40000000 in
theorem rmg (l : Launch) (Z : State) (a0 : Array Value) (hw : ∀ d ∈ tables_1, d.before a0 Z = true) (ws : List Jvm.Cond) (a : Addr) (w : Int32) (h0 : Heap) (n0 : Nat) (Z0 : n0 ≤ h0.size) (F : Fld Z h0 a "com/example/abil/abil/core/Threshold" "basisPoints" "I" (.int w)) :
    MetFree l (⟨"com/example/abil/abil/core/Threshold", "basisPoints", "()I"⟩ : MethodName) (head1 (Jvm.Cond.code (⟨"com/example/abil/abil/core/Threshold", "basisPoints", "()I"⟩ : MethodName) prog_42_method_3_code 1 (some .int) :: ws) ({ frames := 0, cells := 0, slots := 0, locals := 0 } : Room)) (fun aa U => aa = #[(.ref a)] ∧ Z.Warmed39 U.vm ∧ U.heap = h0) (fun _ _ _ _ _ => True) (fun _ U oo U' => ∃ vv LL, oo = .returned vv ∧ Qg Z a w h0 n0 vv U'.heap LL ∧ FrameEnd U oo U' LL ({ frames := 0, cells := 0, slots := 0, locals := 0 } : Room).cells ({ frames := 0, cells := 0, slots := 0, locals := 0 } : Room).slots) := by
  refine MetFree.of_bodySF (plainFor_of_name pn_4) hisR ?_
  intro p e s m args below meth c s₁ Bd hml0 hP hK
  obtain ⟨rfl, hZ, hh⟩ := hP
  have hx := Bd.exec
  have hby := Bd.bytes
  have hml : c.maxLocals = 1 := hml0
  have hown : s.vm.findClass "com/example/abil/abil/core/Threshold" = some m.cls := findClass_of_methodNamed Bd.named
  have hnm := (name_of_methodNamed Bd.named Bd.method).1
  have X0 : Stand p l e ({ frames := 0, cells := 0, slots := 0, locals := 0 } : Room) s m #[(.ref a)] below meth c s₁ [] 0 0 := Stand.of_body Bd
  have e0 : s₁.heap = h0 := by rw [← hh, Bd.state]; rfl
  have N0 := Fr.nil n0
  show Goes p e below _ (s₁.setTop (entryFrame m #[(.ref a)] 1))
  refine Goes.on (B := s₁.setTop (mkF m 0 #[.val (.ref a)] [])) (fun t k => castTop (ef_g m a) k) ?_
  refine Goes.on (B := s₁.setTop (mkF m 1 #[.val (.ref a)] [(.ref a)])) (fun _ k => XS.aloadN X0.here hx rfl (hb hby d4_0) rfl rfl  k) ?_
  obtain ⟨T1, X1, e1, st1⟩ := getF X0 hx hZ hown (host := "") (Or.inl (hw _ (List.mem_of_getElem? (i := 13) rfl))) Via.refl e0 F (g := (mkF m 1 #[.val (.ref a)] [(.ref a)])) rfl rfl (hb hby d4_1)
  refine Goes.on (B := T1.setTop (mkF m 4 #[.val (.ref a)] [(.int w)])) (fun t k => st1 t k) ?_
  obtain ⟨fs, hr, hrun, hended, hW, hsame⟩ := X1.leave (v := some (.int w)) (fun h => by rw [Bd.returns] at h; cases h)
  exact Goes.leaf (own_retI X1 hx Bd.returns (hb hby d4_4) hr) hrun hended ⟨_, _, rfl, by show Qg Z a w h0 n0 _ T1.heap _; rw [e1]; exact ⟨rfl, N0, rfl⟩, ⟨_, rfl⟩, hW, hsame.mono (by decide) (by decide)⟩
def own_eq (x y : Int32) : Int32 := if x = y then 1 else 0
theorem d5_0 : decode prog_42_method_7_code 0 = .ok (.aload_n 1, 1) := by decide +kernel
theorem d5_1 : decode prog_42_method_7_code 1 = .ok (.instanceof 8, 3) := by decide +kernel
theorem d5_4 : decode prog_42_method_7_code 4 = .ok (.ifCond .eq 23, 3) := by decide +kernel
theorem d5_7 : decode prog_42_method_7_code 7 = .ok (.aload_n 1, 1) := by decide +kernel
theorem d5_8 : decode prog_42_method_7_code 8 = .ok (.checkcast 8, 3) := by decide +kernel
theorem d5_11 : decode prog_42_method_7_code 11 = .ok (.astore_n 2, 1) := by decide +kernel
theorem d5_12 : decode prog_42_method_7_code 12 = .ok (.aload_n 2, 1) := by decide +kernel
theorem d5_13 : decode prog_42_method_7_code 13 = .ok (.getfield 7, 3) := by decide +kernel
theorem d5_16 : decode prog_42_method_7_code 16 = .ok (.aload_n 0, 1) := by decide +kernel
theorem d5_17 : decode prog_42_method_7_code 17 = .ok (.getfield 7, 3) := by decide +kernel
theorem d5_20 : decode prog_42_method_7_code 20 = .ok (.if_icmp .ne 7, 3) := by decide +kernel
theorem d5_23 : decode prog_42_method_7_code 23 = .ok (.iconst 1, 1) := by decide +kernel
theorem d5_24 : decode prog_42_method_7_code 24 = .ok (.goto 4, 3) := by decide +kernel
theorem d5_27 : decode prog_42_method_7_code 27 = .ok (.iconst 0, 1) := by decide +kernel
theorem d5_28 : decode prog_42_method_7_code 28 = .ok (.ireturn, 1) := by decide +kernel
theorem pn_5 : plainName "com/example/abil/abil/core/Threshold" = true := by first | (simp [plainName, overriddenIn]; done) | decide +kernel
theorem ef_e (m : MethodId) (x0 : Addr) (x1 : Addr) : entryFrame m #[(.ref x0), (.ref x1)] 3 = mkF m 0 #[.val (.ref x0), .val (.ref x1), .unset] [] := by first | (simp [entryFrame, mkF, argsToLocals, Value.category]; done) | rfl
def Qe (Z : State) (a : Addr) (o : Addr) (w w2 : Int32) (h0 : Heap) (n0 : Nat) (v : Option Value) (h : Heap) (L : List Loc) : Prop := v = some (.int (own_eq w2 w)) ∧ Fr n0 L ∧ h = h0
set_option maxRecDepth 65536 in
set_option maxHeartbeats 40000000 in
theorem rme (l : Launch) (Z : State) (a0 : Array Value) (hw : ∀ d ∈ tables_1, d.before a0 Z = true) (ws : List Jvm.Cond) (a : Addr) (o : Addr) (w w2 : Int32) (h0 : Heap) (n0 : Nat) (Z0 : n0 ≤ h0.size) (Fa : Fld Z h0 a "com/example/abil/abil/core/Threshold" "basisPoints" "I" (.int w)) (Eo : Exa Z h0 o "com/example/abil/abil/core/Threshold") (Fo : Fld Z h0 o "com/example/abil/abil/core/Threshold" "basisPoints" "I" (.int w2)) :
    MetFree l (⟨"com/example/abil/abil/core/Threshold", "equals", "(Ljava/lang/Object;)Z"⟩ : MethodName) (head1 (Jvm.Cond.code (⟨"com/example/abil/abil/core/Threshold", "equals", "(Ljava/lang/Object;)Z"⟩ : MethodName) prog_42_method_7_code 3 (some .boolean) :: ws) ({ frames := 0, cells := 0, slots := 0, locals := 0 } : Room)) (fun aa U => aa = #[(.ref a), (.ref o)] ∧ Z.Warmed39 U.vm ∧ U.heap = h0) (fun _ _ _ _ _ => True) (fun _ U oo U' => ∃ vv LL, oo = .returned vv ∧ Qe Z a o w w2 h0 n0 vv U'.heap LL ∧ FrameEnd U oo U' LL ({ frames := 0, cells := 0, slots := 0, locals := 0 } : Room).cells ({ frames := 0, cells := 0, slots := 0, locals := 0 } : Room).slots) := by
  refine MetFree.of_bodySF (plainFor_of_name pn_5) hisR ?_
  intro p e s m args below meth c s₁ Bd hml0 hP hK
  obtain ⟨rfl, hZ, hh⟩ := hP
  have hx := Bd.exec
  have hby := Bd.bytes
  have hml : c.maxLocals = 3 := hml0
  have hown : s.vm.findClass "com/example/abil/abil/core/Threshold" = some m.cls := findClass_of_methodNamed Bd.named
  have hnm := (name_of_methodNamed Bd.named Bd.method).1
  have X0 : Stand p l e ({ frames := 0, cells := 0, slots := 0, locals := 0 } : Room) s m #[(.ref a), (.ref o)] below meth c s₁ [] 0 0 := Stand.of_body Bd
  have e0 : s₁.heap = h0 := by rw [← hh, Bd.state]; rfl
  have N0 := Fr.nil n0
  show Goes p e below _ (s₁.setTop (entryFrame m #[(.ref a), (.ref o)] 3))
  refine Goes.on (B := s₁.setTop (mkF m 0 #[.val (.ref a), .val (.ref o), .unset] [])) (fun t k => castTop (ef_e m a o) k) ?_
  refine Goes.on (B := s₁.setTop (mkF m 1 #[.val (.ref a), .val (.ref o), .unset] [(.ref o)])) (fun _ k => XS.aloadN X0.here hx rfl (hb hby d5_0) rfl rfl  k) ?_
  obtain ⟨T1, X1, e1, st1⟩ := instY X0 hx hZ hown (hw _ (List.mem_of_getElem? (i := 5) rfl)) e0 (Ins.self Eo) (g := (mkF m 1 #[.val (.ref a), .val (.ref o), .unset] [(.ref o)])) rfl rfl (hb hby d5_1)
  refine Goes.on (B := T1.setTop (mkF m 4 #[.val (.ref a), .val (.ref o), .unset] [(.int (1 : Int32))])) (fun t k => st1 t k) ?_
  refine Goes.on (B := T1.setTop (mkF m 7 #[.val (.ref a), .val (.ref o), .unset] [])) (fun _ k => XS.ifNo X1.here hx rfl (hb hby d5_4) rfl ((if0 _ _).trans (feq (by decide)).1) k) ?_
  refine Goes.on (B := T1.setTop (mkF m 8 #[.val (.ref a), .val (.ref o), .unset] [(.ref o)])) (fun _ k => XS.aloadN X1.here hx rfl (hb hby d5_7) rfl rfl  k) ?_
  obtain ⟨T2, X2, e2, st2⟩ := castY X1 hx hZ hown (hw _ (List.mem_of_getElem? (i := 5) rfl)) e1 (Ins.self Eo) (g := (mkF m 8 #[.val (.ref a), .val (.ref o), .unset] [(.ref o)])) rfl rfl (hb hby d5_8)
  refine Goes.on (B := T2.setTop (mkF m 11 #[.val (.ref a), .val (.ref o), .unset] [(.ref o)])) (fun t k => st2 t k) ?_
  refine Goes.on (B := T2.setTop (mkF m 12 #[.val (.ref a), .val (.ref o), .val (.ref o)] [])) (fun _ k => XS.astoreN X2.here hx rfl (hb hby d5_11) rfl rfl (l' := #[.val (.ref a), .val (.ref o), .val (.ref o)]) rfl k) ?_
  refine Goes.on (B := T2.setTop (mkF m 13 #[.val (.ref a), .val (.ref o), .val (.ref o)] [(.ref o)])) (fun _ k => XS.aloadN X2.here hx rfl (hb hby d5_12) rfl rfl  k) ?_
  obtain ⟨T3, X3, e3, st3⟩ := getF X2 hx hZ hown (host := "") (Or.inl (hw _ (List.mem_of_getElem? (i := 13) rfl))) Via.refl e2 Fo (g := (mkF m 13 #[.val (.ref a), .val (.ref o), .val (.ref o)] [(.ref o)])) rfl rfl (hb hby d5_13)
  refine Goes.on (B := T3.setTop (mkF m 16 #[.val (.ref a), .val (.ref o), .val (.ref o)] [(.int w2)])) (fun t k => st3 t k) ?_
  refine Goes.on (B := T3.setTop (mkF m 17 #[.val (.ref a), .val (.ref o), .val (.ref o)] [(.ref a), (.int w2)])) (fun _ k => XS.aloadN X3.here hx rfl (hb hby d5_16) rfl rfl  k) ?_
  obtain ⟨T4, X4, e4, st4⟩ := getF X3 hx hZ hown (host := "") (Or.inl (hw _ (List.mem_of_getElem? (i := 13) rfl))) Via.refl e3 Fa (g := (mkF m 17 #[.val (.ref a), .val (.ref o), .val (.ref o)] [(.ref a), (.int w2)])) rfl rfl (hb hby d5_17)
  refine Goes.on (B := T4.setTop (mkF m 20 #[.val (.ref a), .val (.ref o), .val (.ref o)] [(.int w), (.int w2)])) (fun t k => st4 t k) ?_
  by_cases hc20_5 : w2 = w
  · refine Goes.on (B := T4.setTop (mkF m 23 #[.val (.ref a), .val (.ref o), .val (.ref o)] [])) (fun _ k => XS.icmpNo X4.here hx rfl (hb hby d5_20) rfl (teq hc20_5).2 k) ?_
    refine Goes.on (B := T4.setTop (mkF m 24 #[.val (.ref a), .val (.ref o), .val (.ref o)] [(.int (1 : Int32))])) (fun _ k => XS.iconst X4.here hx rfl (hb hby d5_23) k) ?_
    refine Goes.on (B := T4.setTop (mkF m 28 #[.val (.ref a), .val (.ref o), .val (.ref o)] [(.int (1 : Int32))])) (fun _ k => XS.goto X4.here hx rfl (pc0 := 24) (pc' := 28) rfl (hb hby d5_24) (by decide) (by decide) k) ?_
    obtain ⟨fs, hr, hrun, hended, hW, hsame⟩ := X4.leave (v := some (.int (1 : Int32))) (fun h => by rw [Bd.returns] at h; cases h)
    exact Goes.leaf (retN X4 hx (t := .boolean) Bd.returns (by simp) (hb hby d5_28) hr) hrun hended ⟨_, _, rfl, by show Qe Z a o w w2 h0 n0 _ T4.heap _; rw [e4]; exact ⟨by rw [own_eq, if_pos hc20_5], N0, rfl⟩, ⟨_, rfl⟩, hW, hsame.mono (by decide) (by decide)⟩
  · refine Goes.on (B := T4.setTop (mkF m 27 #[.val (.ref a), .val (.ref o), .val (.ref o)] [])) (fun _ k => XS.icmpYes X4.here hx rfl (pc0 := 20) (pc' := 27) rfl (hb hby d5_20) rfl (feq hc20_5).2 (by decide) (by decide) k) ?_
    refine Goes.on (B := T4.setTop (mkF m 28 #[.val (.ref a), .val (.ref o), .val (.ref o)] [(.int (0 : Int32))])) (fun _ k => XS.iconst X4.here hx rfl (hb hby d5_27) k) ?_
    obtain ⟨fs, hr, hrun, hended, hW, hsame⟩ := X4.leave (v := some (.int (0 : Int32))) (fun h => by rw [Bd.returns] at h; cases h)
    exact Goes.leaf (retN X4 hx (t := .boolean) Bd.returns (by simp) (hb hby d5_28) hr) hrun hended ⟨_, _, rfl, by show Qe Z a o w w2 h0 n0 _ T4.heap _; rw [e4]; exact ⟨by rw [own_eq, if_neg hc20_5], N0, rfl⟩, ⟨_, rfl⟩, hW, hsame.mono (by decide) (by decide)⟩
def own_ceil (w : Int32) (p1 : Int64) : Int64 := ((((p1 * (w.toInt64)) + (10000 : Int64)) - (1 : Int64)) / (10000 : Int64))
theorem d7_0 : decode prog_42_method_6_code 0 = .ok (.lload_n 1, 1) := by decide +kernel
theorem d7_1 : decode prog_42_method_6_code 1 = .ok (.aload_n 0, 1) := by decide +kernel
theorem d7_2 : decode prog_42_method_6_code 2 = .ok (.getfield 7, 3) := by decide +kernel
theorem d7_5 : decode prog_42_method_6_code 5 = .ok (.i2l, 1) := by decide +kernel
theorem d7_6 : decode prog_42_method_6_code 6 = .ok (.lmul, 1) := by decide +kernel
theorem d7_7 : decode prog_42_method_6_code 7 = .ok (.ldc2_w 31, 3) := by decide +kernel
theorem d7_10 : decode prog_42_method_6_code 10 = .ok (.ladd, 1) := by decide +kernel
theorem d7_11 : decode prog_42_method_6_code 11 = .ok (.lconst 1, 1) := by decide +kernel
theorem d7_12 : decode prog_42_method_6_code 12 = .ok (.lsub, 1) := by decide +kernel
theorem d7_13 : decode prog_42_method_6_code 13 = .ok (.ldc2_w 31, 3) := by decide +kernel
theorem d7_16 : decode prog_42_method_6_code 16 = .ok (.ldiv, 1) := by decide +kernel
theorem d7_17 : decode prog_42_method_6_code 17 = .ok (.lreturn, 1) := by decide +kernel
theorem pn_7 : plainName "com/example/abil/abil/core/Threshold" = true := by first | (simp [plainName, overriddenIn]; done) | decide +kernel
theorem ef_c (m : MethodId) (x0 : Addr) (x1 : Int64) : entryFrame m #[(.ref x0), (.long x1)] 3 = mkF m 0 #[.val (.ref x0), .val (.long x1), .second] [] := by first | (simp [entryFrame, mkF, argsToLocals, Value.category]; done) | rfl
def Qc (Z : State) (a : Addr) (p1 : Int64) (w : Int32) (h0 : Heap) (n0 : Nat) (v : Option Value) (h : Heap) (L : List Loc) : Prop := v = some (.long (own_ceil w p1)) ∧ Fr n0 L ∧ h = h0
set_option maxRecDepth 65536 in
set_option maxHeartbeats 40000000 in
theorem rmc (l : Launch) (Z : State) (a0 : Array Value) (hw : ∀ d ∈ tables_1, d.before a0 Z = true) (ws : List Jvm.Cond) (a : Addr) (p1 : Int64) (w : Int32) (h0 : Heap) (n0 : Nat) (Z0 : n0 ≤ h0.size) (F : Fld Z h0 a "com/example/abil/abil/core/Threshold" "basisPoints" "I" (.int w)) :
    MetFree l (⟨"com/example/abil/abil/core/Threshold", "ceilingOfShare", "(J)J"⟩ : MethodName) (head1 (Jvm.Cond.code (⟨"com/example/abil/abil/core/Threshold", "ceilingOfShare", "(J)J"⟩ : MethodName) prog_42_method_6_code 3 (some .long) :: ws) ({ frames := 0, cells := 0, slots := 0, locals := 0 } : Room)) (fun aa U => aa = #[(.ref a), (.long p1)] ∧ Z.Warmed39 U.vm ∧ U.heap = h0) (fun _ _ _ _ _ => True) (fun _ U oo U' => ∃ vv LL, oo = .returned vv ∧ Qc Z a p1 w h0 n0 vv U'.heap LL ∧ FrameEnd U oo U' LL ({ frames := 0, cells := 0, slots := 0, locals := 0 } : Room).cells ({ frames := 0, cells := 0, slots := 0, locals := 0 } : Room).slots) := by
  refine MetFree.of_bodySF (plainFor_of_name pn_7) hisR ?_
  intro p e s m args below meth c s₁ Bd hml0 hP hK
  obtain ⟨rfl, hZ, hh⟩ := hP
  have hx := Bd.exec
  have hby := Bd.bytes
  have hml : c.maxLocals = 3 := hml0
  have hown : s.vm.findClass "com/example/abil/abil/core/Threshold" = some m.cls := findClass_of_methodNamed Bd.named
  have hnm := (name_of_methodNamed Bd.named Bd.method).1
  have X0 : Stand p l e ({ frames := 0, cells := 0, slots := 0, locals := 0 } : Room) s m #[(.ref a), (.long p1)] below meth c s₁ [] 0 0 := Stand.of_body Bd
  have e0 : s₁.heap = h0 := by rw [← hh, Bd.state]; rfl
  have N0 := Fr.nil n0
  show Goes p e below _ (s₁.setTop (entryFrame m #[(.ref a), (.long p1)] 3))
  refine Goes.on (B := s₁.setTop (mkF m 0 #[.val (.ref a), .val (.long p1), .second] [])) (fun t k => castTop (ef_c m a p1) k) ?_
  refine Goes.on (B := s₁.setTop (mkF m 1 #[.val (.ref a), .val (.long p1), .second] [(.long p1)])) (fun _ k => XS.lloadN X0.here hx rfl (hb hby d7_0) rfl  k) ?_
  refine Goes.on (B := s₁.setTop (mkF m 2 #[.val (.ref a), .val (.long p1), .second] [(.ref a), (.long p1)])) (fun _ k => XS.aloadN X0.here hx rfl (hb hby d7_1) rfl rfl  k) ?_
  obtain ⟨T1, X1, e1, st1⟩ := getF X0 hx hZ hown (host := "") (Or.inl (hw _ (List.mem_of_getElem? (i := 13) rfl))) Via.refl e0 F (g := (mkF m 2 #[.val (.ref a), .val (.long p1), .second] [(.ref a), (.long p1)])) rfl rfl (hb hby d7_2)
  refine Goes.on (B := T1.setTop (mkF m 5 #[.val (.ref a), .val (.long p1), .second] [(.int w), (.long p1)])) (fun t k => st1 t k) ?_
  refine Goes.on (B := T1.setTop (mkF m 6 #[.val (.ref a), .val (.long p1), .second] [(.long (w.toInt64)), (.long p1)])) (fun _ k => XS.i2l X1.here hx rfl (hb hby d7_5) rfl k) ?_
  refine Goes.on (B := T1.setTop (mkF m 7 #[.val (.ref a), .val (.long p1), .second] [(.long (p1 * (w.toInt64)))])) (fun _ k => XS.lmul X1.here hx rfl (hb hby d7_6) rfl k) ?_
  refine Goes.on (B := T1.setTop (mkF m 10 #[.val (.ref a), .val (.long p1), .second] [(.long (10000 : Int64)), (.long (p1 * (w.toInt64)))])) (fun _ k => X1.ldc2Long hx hown (mvT hZ (hw _ (List.mem_of_getElem? (i := 32) rfl))) (g := (mkF m 7 #[.val (.ref a), .val (.long p1), .second] [(.long (p1 * (w.toInt64)))])) rfl (hb hby d7_7) _ k) ?_
  refine Goes.on (B := T1.setTop (mkF m 11 #[.val (.ref a), .val (.long p1), .second] [(.long ((p1 * (w.toInt64)) + (10000 : Int64)))])) (fun _ k => XS.ladd X1.here hx rfl (hb hby d7_10) rfl k) ?_
  refine Goes.on (B := T1.setTop (mkF m 12 #[.val (.ref a), .val (.long p1), .second] [(.long (1 : Int64)), (.long ((p1 * (w.toInt64)) + (10000 : Int64)))])) (fun _ k => XS.lconst X1.here hx rfl (hb hby d7_11) k) ?_
  refine Goes.on (B := T1.setTop (mkF m 13 #[.val (.ref a), .val (.long p1), .second] [(.long (((p1 * (w.toInt64)) + (10000 : Int64)) - (1 : Int64)))])) (fun _ k => XS.lsub X1.here hx rfl (hb hby d7_12) rfl k) ?_
  refine Goes.on (B := T1.setTop (mkF m 16 #[.val (.ref a), .val (.long p1), .second] [(.long (10000 : Int64)), (.long (((p1 * (w.toInt64)) + (10000 : Int64)) - (1 : Int64)))])) (fun _ k => X1.ldc2Long hx hown (mvT hZ (hw _ (List.mem_of_getElem? (i := 32) rfl))) (g := (mkF m 13 #[.val (.ref a), .val (.long p1), .second] [(.long (((p1 * (w.toInt64)) + (10000 : Int64)) - (1 : Int64)))])) rfl (hb hby d7_13) _ k) ?_
  refine Goes.on (B := T1.setTop (mkF m 17 #[.val (.ref a), .val (.long p1), .second] [(.long ((((p1 * (w.toInt64)) + (10000 : Int64)) - (1 : Int64)) / (10000 : Int64)))])) (fun _ k => XS.ldiv X1.here hx rfl (hb hby d7_16) rfl (by decide) k) ?_
  obtain ⟨fs, hr, hrun, hended, hW, hsame⟩ := X1.leave (v := some (.long ((((p1 * (w.toInt64)) + (10000 : Int64)) - (1 : Int64)) / (10000 : Int64)))) (fun h => by rw [Bd.returns] at h; cases h)
  exact Goes.leaf (own_retJ X1 hx Bd.returns (hb hby d7_17) hr) hrun hended ⟨_, _, rfl, by show Qc Z a p1 w h0 n0 _ T1.heap _; rw [e1]; exact ⟨rfl, N0, rfl⟩, ⟨_, rfl⟩, hW, hsame.mono (by decide) (by decide)⟩
def own_reach (w : Int32) (p1 p2 : Int64) : Int32 := if p1 < (((p2 / (10000 : Int64)) * (w.toInt64)) + (own_ceil w (p2 - (p2 / (10000 : Int64)) * (10000 : Int64)))) then 0 else 1
theorem d6_0 : decode prog_42_method_5_code 0 = .ok (.lload_n 3, 1) := by decide +kernel
theorem d6_1 : decode prog_42_method_5_code 1 = .ok (.ldc2_w 31, 3) := by decide +kernel
theorem d6_4 : decode prog_42_method_5_code 4 = .ok (.ldiv, 1) := by decide +kernel
theorem d6_5 : decode prog_42_method_5_code 5 = .ok (.aload_n 0, 1) := by decide +kernel
theorem d6_6 : decode prog_42_method_5_code 6 = .ok (.getfield 7, 3) := by decide +kernel
theorem d6_9 : decode prog_42_method_5_code 9 = .ok (.i2l, 1) := by decide +kernel
theorem d6_10 : decode prog_42_method_5_code 10 = .ok (.lmul, 1) := by decide +kernel
theorem d6_11 : decode prog_42_method_5_code 11 = .ok (.aload_n 0, 1) := by decide +kernel
theorem d6_12 : decode prog_42_method_5_code 12 = .ok (.lload_n 3, 1) := by decide +kernel
theorem d6_13 : decode prog_42_method_5_code 13 = .ok (.ldc2_w 31, 3) := by decide +kernel
theorem d6_16 : decode prog_42_method_5_code 16 = .ok (.lrem, 1) := by decide +kernel
theorem d6_17 : decode prog_42_method_5_code 17 = .ok (.invokevirtual 33, 3) := by decide +kernel
theorem d6_20 : decode prog_42_method_5_code 20 = .ok (.ladd, 1) := by decide +kernel
theorem d6_21 : decode prog_42_method_5_code 21 = .ok (.lstore 5, 2) := by decide +kernel
theorem d6_23 : decode prog_42_method_5_code 23 = .ok (.lload_n 1, 1) := by decide +kernel
theorem d6_24 : decode prog_42_method_5_code 24 = .ok (.lload 5, 2) := by decide +kernel
theorem d6_26 : decode prog_42_method_5_code 26 = .ok (.lcmp, 1) := by decide +kernel
theorem d6_27 : decode prog_42_method_5_code 27 = .ok (.ifCond .lt 7, 3) := by decide +kernel
theorem d6_30 : decode prog_42_method_5_code 30 = .ok (.iconst 1, 1) := by decide +kernel
theorem d6_31 : decode prog_42_method_5_code 31 = .ok (.goto 4, 3) := by decide +kernel
theorem d6_34 : decode prog_42_method_5_code 34 = .ok (.iconst 0, 1) := by decide +kernel
theorem d6_35 : decode prog_42_method_5_code 35 = .ok (.ireturn, 1) := by decide +kernel
theorem pn_6 : plainName "com/example/abil/abil/core/Threshold" = true := by first | (simp [plainName, overriddenIn]; done) | decide +kernel
theorem pd_6__J_J : parseMethodDescriptor "(J)J" = some ⟨[.long], some .long⟩ := by decide +kernel
theorem ef_r (m : MethodId) (x0 : Addr) (x1 : Int64) (x2 : Int64) : entryFrame m #[(.ref x0), (.long x1), (.long x2)] 7 = mkF m 0 #[.val (.ref x0), .val (.long x1), .second, .val (.long x2), .second, .unset, .unset] [] := by first | (simp [entryFrame, mkF, argsToLocals, Value.category]; done) | rfl
def Qr (Z : State) (a : Addr) (p1 : Int64) (p2 : Int64) (w : Int32) (h0 : Heap) (n0 : Nat) (v : Option Value) (h : Heap) (L : List Loc) : Prop := v = some (.int (own_reach w p1 p2)) ∧ Fr n0 L ∧ h = h0
set_option maxRecDepth 65536 in
set_option maxHeartbeats 40000000 in
theorem rmr (l : Launch) (Z : State) (a0 : Array Value) (hw : ∀ d ∈ tables_1, d.before a0 Z = true) (ws : List Jvm.Cond) (a : Addr) (p1 : Int64) (p2 : Int64) (w : Int32) (h0 : Heap) (n0 : Nat) (Z0 : n0 ≤ h0.size) (F : Fld Z h0 a "com/example/abil/abil/core/Threshold" "basisPoints" "I" (.int w)) (E0 : Exa Z h0 a "com/example/abil/abil/core/Threshold") :
    MetFree l (⟨"com/example/abil/abil/core/Threshold", "isReachedBy", "(JJ)Z"⟩ : MethodName) (head1 (Jvm.Cond.code (⟨"com/example/abil/abil/core/Threshold", "isReachedBy", "(JJ)Z"⟩ : MethodName) prog_42_method_5_code 7 (some .boolean) :: ws) ({ frames := 1, cells := 0, slots := 0, locals := 16 } : Room)) (fun aa U => aa = #[(.ref a), (.long p1), (.long p2)] ∧ Z.Warmed39 U.vm ∧ U.heap = h0) (fun _ _ _ _ _ => True) (fun _ U oo U' => ∃ vv LL, oo = .returned vv ∧ Qr Z a p1 p2 w h0 n0 vv U'.heap LL ∧ FrameEnd U oo U' LL ({ frames := 1, cells := 0, slots := 0, locals := 16 } : Room).cells ({ frames := 1, cells := 0, slots := 0, locals := 16 } : Room).slots) := by
  refine MetFree.of_bodySF (plainFor_of_name pn_6) hisR ?_
  intro p e s m args below meth c s₁ Bd hml0 hP hK
  obtain ⟨rfl, hZ, hh⟩ := hP
  have hx := Bd.exec
  have hby := Bd.bytes
  have hml : c.maxLocals = 7 := hml0
  have hown : s.vm.findClass "com/example/abil/abil/core/Threshold" = some m.cls := findClass_of_methodNamed Bd.named
  have hnm := (name_of_methodNamed Bd.named Bd.method).1
  have X0 : Stand p l e ({ frames := 1, cells := 0, slots := 0, locals := 16 } : Room) s m #[(.ref a), (.long p1), (.long p2)] below meth c s₁ [] 0 0 := Stand.of_body Bd
  have e0 : s₁.heap = h0 := by rw [← hh, Bd.state]; rfl
  have N0 := Fr.nil n0
  show Goes p e below _ (s₁.setTop (entryFrame m #[(.ref a), (.long p1), (.long p2)] 7))
  refine Goes.on (B := s₁.setTop (mkF m 0 #[.val (.ref a), .val (.long p1), .second, .val (.long p2), .second, .unset, .unset] [])) (fun t k => castTop (ef_r m a p1 p2) k) ?_
  refine Goes.on (B := s₁.setTop (mkF m 1 #[.val (.ref a), .val (.long p1), .second, .val (.long p2), .second, .unset, .unset] [(.long p2)])) (fun _ k => XS.lloadN X0.here hx rfl (hb hby d6_0) rfl  k) ?_
  refine Goes.on (B := s₁.setTop (mkF m 4 #[.val (.ref a), .val (.long p1), .second, .val (.long p2), .second, .unset, .unset] [(.long (10000 : Int64)), (.long p2)])) (fun _ k => X0.ldc2Long hx hown (mvT hZ (hw _ (List.mem_of_getElem? (i := 32) rfl))) (g := (mkF m 1 #[.val (.ref a), .val (.long p1), .second, .val (.long p2), .second, .unset, .unset] [(.long p2)])) rfl (hb hby d6_1) _ k) ?_
  refine Goes.on (B := s₁.setTop (mkF m 5 #[.val (.ref a), .val (.long p1), .second, .val (.long p2), .second, .unset, .unset] [(.long (p2 / (10000 : Int64)))])) (fun _ k => XS.ldiv X0.here hx rfl (hb hby d6_4) rfl (by decide) k) ?_
  refine Goes.on (B := s₁.setTop (mkF m 6 #[.val (.ref a), .val (.long p1), .second, .val (.long p2), .second, .unset, .unset] [(.ref a), (.long (p2 / (10000 : Int64)))])) (fun _ k => XS.aloadN X0.here hx rfl (hb hby d6_5) rfl rfl  k) ?_
  obtain ⟨T1, X1, e1, st1⟩ := getF X0 hx hZ hown (host := "") (Or.inl (hw _ (List.mem_of_getElem? (i := 13) rfl))) Via.refl e0 F (g := (mkF m 6 #[.val (.ref a), .val (.long p1), .second, .val (.long p2), .second, .unset, .unset] [(.ref a), (.long (p2 / (10000 : Int64)))])) rfl rfl (hb hby d6_6)
  refine Goes.on (B := T1.setTop (mkF m 9 #[.val (.ref a), .val (.long p1), .second, .val (.long p2), .second, .unset, .unset] [(.int w), (.long (p2 / (10000 : Int64)))])) (fun t k => st1 t k) ?_
  refine Goes.on (B := T1.setTop (mkF m 10 #[.val (.ref a), .val (.long p1), .second, .val (.long p2), .second, .unset, .unset] [(.long (w.toInt64)), (.long (p2 / (10000 : Int64)))])) (fun _ k => XS.i2l X1.here hx rfl (hb hby d6_9) rfl k) ?_
  refine Goes.on (B := T1.setTop (mkF m 11 #[.val (.ref a), .val (.long p1), .second, .val (.long p2), .second, .unset, .unset] [(.long ((p2 / (10000 : Int64)) * (w.toInt64)))])) (fun _ k => XS.lmul X1.here hx rfl (hb hby d6_10) rfl k) ?_
  refine Goes.on (B := T1.setTop (mkF m 12 #[.val (.ref a), .val (.long p1), .second, .val (.long p2), .second, .unset, .unset] [(.ref a), (.long ((p2 / (10000 : Int64)) * (w.toInt64)))])) (fun _ k => XS.aloadN X1.here hx rfl (hb hby d6_11) rfl rfl  k) ?_
  refine Goes.on (B := T1.setTop (mkF m 13 #[.val (.ref a), .val (.long p1), .second, .val (.long p2), .second, .unset, .unset] [(.long p2), (.ref a), (.long ((p2 / (10000 : Int64)) * (w.toInt64)))])) (fun _ k => XS.lloadN X1.here hx rfl (hb hby d6_12) rfl  k) ?_
  refine Goes.on (B := T1.setTop (mkF m 16 #[.val (.ref a), .val (.long p1), .second, .val (.long p2), .second, .unset, .unset] [(.long (10000 : Int64)), (.long p2), (.ref a), (.long ((p2 / (10000 : Int64)) * (w.toInt64)))])) (fun _ k => X1.ldc2Long hx hown (mvT hZ (hw _ (List.mem_of_getElem? (i := 32) rfl))) (g := (mkF m 13 #[.val (.ref a), .val (.long p1), .second, .val (.long p2), .second, .unset, .unset] [(.long p2), (.ref a), (.long ((p2 / (10000 : Int64)) * (w.toInt64)))])) rfl (hb hby d6_13) _ k) ?_
  refine Goes.on (B := T1.setTop (mkF m 17 #[.val (.ref a), .val (.long p1), .second, .val (.long p2), .second, .unset, .unset] [(.long (p2 - (p2 / (10000 : Int64)) * (10000 : Int64))), (.ref a), (.long ((p2 / (10000 : Int64)) * (w.toInt64)))])) (fun _ k => XS.lrem X1.here hx rfl (hb hby d6_16) rfl (by decide) k) ?_
  obtain ⟨cq2, q2, q2'⟩ := E0.cell
  obtain ⟨_, _, ⟨T2, L2, k2, n2⟩, -, X2, ⟨Lc2, hQ2, l2, y2, z2⟩, st2⟩ := X1.privateBack hx (y := (⟨"com/example/abil/abil/core/Threshold", "ceilingOfShare", "(J)J"⟩ : MethodName)) hown (mvT hZ (hw _ (List.mem_of_getElem? (i := 33) rfl))) (mvT hZ (hw _ (List.mem_of_getElem? (i := 34) rfl))) (own_selfpriv (mvT hZ (hw _ (List.mem_of_getElem? (i := 6) rfl))) (Cond.privateMethod_at (mvP hZ (hw _ (List.mem_of_getElem? (i := 35) rfl)) (args := #[]))) (mvT hZ (hw _ (List.mem_of_getElem? (i := 34) rfl))) (by decide)) (Cond.privateMethod_at (mvP hZ (hw _ (List.mem_of_getElem? (i := 35) rfl)) (args := #[]))) (mvT hZ (hw _ (List.mem_of_getElem? (i := 36) rfl))) (by decide) (backOf (W := 2) (rmc l Z a0 hw [] a (p2 - (p2 / (10000 : Int64)) * (10000 : Int64)) w h0 n0 Z0 F) hZ (hw _ (List.mem_of_getElem? (i := 36) rfl)) (hw _ (List.mem_of_getElem? (i := 3) rfl)) (by decide) (by decide)) (g := (mkF m 17 #[.val (.ref a), .val (.long p1), .second, .val (.long p2), .second, .unset, .unset] [(.long (p2 - (p2 / (10000 : Int64)) * (10000 : Int64))), (.ref a), (.long ((p2 / (10000 : Int64)) * (w.toInt64)))])) rfl (by rw [hml]; rfl) (Steps.refl _) (a := a) (by rw [e1]; exact q2) q2' (argsL := [(.long (p2 - (p2 / (10000 : Int64)) * (10000 : Int64)))]) (rest := [(.long ((p2 / (10000 : Int64)) * (w.toInt64)))]) (lenOf pd_6__J_J rfl) rfl (by show 2 * 0 + _ ≤ _; exact Nat.le_of_eq rfl) (hb hby d6_17) (fun _ _ => ⟨rfl, e1, (by decide : 0 + 0 ≤ _), (by decide : 0 + 0 ≤ _)⟩)
  dsimp only [Pt.U, Pt.locs, Pt.cells, Pt.slots] at X2 l2 y2 z2 st2 hQ2
  subst l2 y2 z2
  obtain ⟨rfl, Nq2, eh2⟩ := hQ2
  have N2 := Fr.app N0 Nq2
  refine Goes.on (B := T2.setTop (mkF m 20 #[.val (.ref a), .val (.long p1), .second, .val (.long p2), .second, .unset, .unset] [(.long (own_ceil w (p2 - (p2 / (10000 : Int64)) * (10000 : Int64)))), (.long ((p2 / (10000 : Int64)) * (w.toInt64)))])) (fun t k => st2.trans k) ?_
  refine Goes.on (B := T2.setTop (mkF m 21 #[.val (.ref a), .val (.long p1), .second, .val (.long p2), .second, .unset, .unset] [(.long (((p2 / (10000 : Int64)) * (w.toInt64)) + (own_ceil w (p2 - (p2 / (10000 : Int64)) * (10000 : Int64)))))])) (fun _ k => XS.ladd X2.here hx rfl (hb hby d6_20) rfl k) ?_
  refine Goes.on (B := T2.setTop (mkF m 23 #[.val (.ref a), .val (.long p1), .second, .val (.long p2), .second, .val (.long (((p2 / (10000 : Int64)) * (w.toInt64)) + (own_ceil w (p2 - (p2 / (10000 : Int64)) * (10000 : Int64))))), .second] [])) (fun _ k => XS.lstore X2.here hx rfl (hb hby d6_21) rfl (l' := #[.val (.ref a), .val (.long p1), .second, .val (.long p2), .second, .val (.long (((p2 / (10000 : Int64)) * (w.toInt64)) + (own_ceil w (p2 - (p2 / (10000 : Int64)) * (10000 : Int64))))), .second]) rfl k) ?_
  refine Goes.on (B := T2.setTop (mkF m 24 #[.val (.ref a), .val (.long p1), .second, .val (.long p2), .second, .val (.long (((p2 / (10000 : Int64)) * (w.toInt64)) + (own_ceil w (p2 - (p2 / (10000 : Int64)) * (10000 : Int64))))), .second] [(.long p1)])) (fun _ k => XS.lloadN X2.here hx rfl (hb hby d6_23) rfl  k) ?_
  refine Goes.on (B := T2.setTop (mkF m 26 #[.val (.ref a), .val (.long p1), .second, .val (.long p2), .second, .val (.long (((p2 / (10000 : Int64)) * (w.toInt64)) + (own_ceil w (p2 - (p2 / (10000 : Int64)) * (10000 : Int64))))), .second] [(.long (((p2 / (10000 : Int64)) * (w.toInt64)) + (own_ceil w (p2 - (p2 / (10000 : Int64)) * (10000 : Int64))))), (.long p1)])) (fun _ k => XS.lload X2.here hx rfl (hb hby d6_24) rfl  k) ?_
  refine Goes.on (B := T2.setTop (mkF m 27 #[.val (.ref a), .val (.long p1), .second, .val (.long p2), .second, .val (.long (((p2 / (10000 : Int64)) * (w.toInt64)) + (own_ceil w (p2 - (p2 / (10000 : Int64)) * (10000 : Int64))))), .second] [(.int (lcmpW p1 (((p2 / (10000 : Int64)) * (w.toInt64)) + (own_ceil w (p2 - (p2 / (10000 : Int64)) * (10000 : Int64))))))])) (fun _ k => XS.lcmp X2.here hx rfl (hb hby d6_26) rfl k) ?_
  by_cases hc27_3 : p1 < (((p2 / (10000 : Int64)) * (w.toInt64)) + (own_ceil w (p2 - (p2 / (10000 : Int64)) * (10000 : Int64))))
  · refine Goes.on (B := T2.setTop (mkF m 34 #[.val (.ref a), .val (.long p1), .second, .val (.long p2), .second, .val (.long (((p2 / (10000 : Int64)) * (w.toInt64)) + (own_ceil w (p2 - (p2 / (10000 : Int64)) * (10000 : Int64))))), .second] [])) (fun _ k => XS.ifYes X2.here hx rfl (pc0 := 27) (pc' := 34) rfl (hb hby d6_27) rfl (own_tlt hc27_3).1 (by decide) (by decide) k) ?_
    refine Goes.on (B := T2.setTop (mkF m 35 #[.val (.ref a), .val (.long p1), .second, .val (.long p2), .second, .val (.long (((p2 / (10000 : Int64)) * (w.toInt64)) + (own_ceil w (p2 - (p2 / (10000 : Int64)) * (10000 : Int64))))), .second] [(.int (0 : Int32))])) (fun _ k => XS.iconst X2.here hx rfl (hb hby d6_34) k) ?_
    obtain ⟨fs, hr, hrun, hended, hW, hsame⟩ := X2.leave (v := some (.int (0 : Int32))) (fun h => by rw [Bd.returns] at h; cases h)
    exact Goes.leaf (retN X2 hx (t := .boolean) Bd.returns (by simp) (hb hby d6_35) hr) hrun hended ⟨_, _, rfl, by show Qr Z a p1 p2 w h0 n0 _ T2.heap _; rw [eh2]; exact ⟨by rw [own_reach, if_pos hc27_3], N2, rfl⟩, ⟨_, rfl⟩, hW, hsame.mono (by decide) (by decide)⟩
  · refine Goes.on (B := T2.setTop (mkF m 30 #[.val (.ref a), .val (.long p1), .second, .val (.long p2), .second, .val (.long (((p2 / (10000 : Int64)) * (w.toInt64)) + (own_ceil w (p2 - (p2 / (10000 : Int64)) * (10000 : Int64))))), .second] [])) (fun _ k => XS.ifNo X2.here hx rfl (hb hby d6_27) rfl (own_flt hc27_3).1 k) ?_
    refine Goes.on (B := T2.setTop (mkF m 31 #[.val (.ref a), .val (.long p1), .second, .val (.long p2), .second, .val (.long (((p2 / (10000 : Int64)) * (w.toInt64)) + (own_ceil w (p2 - (p2 / (10000 : Int64)) * (10000 : Int64))))), .second] [(.int (1 : Int32))])) (fun _ k => XS.iconst X2.here hx rfl (hb hby d6_30) k) ?_
    refine Goes.on (B := T2.setTop (mkF m 35 #[.val (.ref a), .val (.long p1), .second, .val (.long p2), .second, .val (.long (((p2 / (10000 : Int64)) * (w.toInt64)) + (own_ceil w (p2 - (p2 / (10000 : Int64)) * (10000 : Int64))))), .second] [(.int (1 : Int32))])) (fun _ k => XS.goto X2.here hx rfl (pc0 := 31) (pc' := 35) rfl (hb hby d6_31) (by decide) (by decide) k) ?_
    obtain ⟨fs, hr, hrun, hended, hW, hsame⟩ := X2.leave (v := some (.int (1 : Int32))) (fun h => by rw [Bd.returns] at h; cases h)
    exact Goes.leaf (retN X2 hx (t := .boolean) Bd.returns (by simp) (hb hby d6_35) hr) hrun hended ⟨_, _, rfl, by show Qr Z a p1 p2 w h0 n0 _ T2.heap _; rw [eh2]; exact ⟨by rw [own_reach, if_neg hc27_3], N2, rfl⟩, ⟨_, rfl⟩, hW, hsame.mono (by decide) (by decide)⟩
def own_qe (x : Int32) (y : Int32) : Int32 := (if x = y then (1 : Int32) else (0 : Int32))
def own_rb (b : Int64) (z : Int64) : Int32 := (if b < z then (0 : Int32) else (1 : Int32))
theorem own_bnd {q b : Int32} (h : ((q &&& (2147483647 : Int32)) % (10001 : Int32)) = b) : ¬ b < (0 : Int32) ∧ ¬ (10000 : Int32) < b := by
  have e1 : (q &&& (2147483647 : Int32)).toInt = q.toInt % 2 ^ 31 := Jvm.Kit.i32_mask q 2147483647 (k := 31) (by decide) (by decide)
  have e2 : b.toInt = (q &&& (2147483647 : Int32)).toInt % 10001 := by rw [← h]; exact Jvm.Kit.i32_rem_nonneg (by omega)
  rw [Int32.lt_iff_toInt_lt, Int32.lt_iff_toInt_lt]
  have a : (0 : Int32).toInt = 0 := rfl
  have b : (10000 : Int32).toInt = 10000 := rfl
  omega
theorem own_law (bp : Int32) (bl : Int64) : own_reach bp bl (10000 : Int64) = own_rb bl (bp.toInt64) := by
  have e1 : ((10000 : Int64) / (10000 : Int64)) = 1 := by decide
  have e2 : ((10000 : Int64) - ((10000 : Int64) / (10000 : Int64)) * (10000 : Int64)) = 0 := by decide
  have e3 : own_ceil bp 0 = 0 := by
    unfold own_ceil; rw [Int64.zero_mul]; decide
  unfold own_reach own_rb
  rw [e2, e3, e1, Int64.one_mul, Int64.add_zero]
theorem pn_0 : plainName "com/example/abil/abil/core/ThresholdOfBasisPointsPinLaw" = true := by first | (simp [plainName, overriddenIn]; done) | decide +kernel
theorem pd_0__I_Lcom_example_abil_abil_core_Threshold_ : parseMethodDescriptor "(I)Lcom/example/abil/abil/core/Threshold;" = some ⟨[.int], some (.object "com/example/abil/abil/core/Threshold")⟩ := by decide +kernel
theorem pd_0___I : parseMethodDescriptor "()I" = some ⟨[], some .int⟩ := by decide +kernel
theorem pd_0__Ljava_lang_Object__Z : parseMethodDescriptor "(Ljava/lang/Object;)Z" = some ⟨[(.object "java/lang/Object")], some .boolean⟩ := by decide +kernel
theorem pd_0__JJ_Z : parseMethodDescriptor "(JJ)Z" = some ⟨[.long, .long], some .boolean⟩ := by decide +kernel
theorem ef_0 (m : MethodId) (x0 : Int32) (x1 : Int32) (x2 : Int32) : entryFrame m #[(.int x0), (.int x1), (.int x2)] maxLocals = mkF m 0 #[.val (.int x0), .val (.int x1), .val (.int x2), .unset, .unset, .unset, .unset, .unset, .unset, .unset, .unset, .unset] [] := by first | (simp [entryFrame, mkF, argsToLocals, Value.category, maxLocals]; done) | rfl
def Q0 (Z : State) (p0 : Int32) (p1 : Int32) (p2 : Int32)  (h0 : Heap) (n0 : Nat) (v : Option Value) (h : Heap) (L : List Loc) : Prop := v = some (.int 1) ∧ Fr n0 L
set_option maxRecDepth 65536 in
set_option maxHeartbeats 40000000 in
theorem rm0 (l : Launch) (Z : State) (a0 : Array Value) (hw : ∀ d ∈ tables_1, d.before a0 Z = true) (ws : List Jvm.Cond) (p0 : Int32) (p1 : Int32) (p2 : Int32)  (h0 : Heap) (n0 : Nat) (Z0 : n0 ≤ h0.size)  :
    MetFree l x (head1 (Jvm.Cond.code x code maxLocals ret :: ws) room_1) (fun aa U => aa = #[(.int p0), (.int p1), (.int p2)] ∧ Z.Warmed39 U.vm ∧ U.heap = h0) (fun _ _ _ _ _ => True) (fun _ U oo U' => ∃ vv LL, oo = .returned vv ∧ Q0 Z p0 p1 p2 h0 n0 vv U'.heap LL ∧ FrameEnd U oo U' LL room_1.cells room_1.slots) := by
  refine MetFree.of_bodySF (plainFor_of_name pn_0) hisR ?_
  intro p e s m args below meth c s₁ Bd hml0 hP hK
  obtain ⟨rfl, hZ, hh⟩ := hP
  have hx := Bd.exec
  have hby := Bd.bytes
  have hml : c.maxLocals = 12 := hml0
  have hown : s.vm.findClass "com/example/abil/abil/core/ThresholdOfBasisPointsPinLaw" = some m.cls := findClass_of_methodNamed Bd.named
  have hnm := (name_of_methodNamed Bd.named Bd.method).1
  have X0 : Stand p l e room_1 s m #[(.int p0), (.int p1), (.int p2)] below meth c s₁ [] 0 0 := Stand.of_body Bd
  have e0 : s₁.heap = h0 := by rw [← hh, Bd.state]; rfl
  have N0 := Fr.nil n0
  show Goes p e below _ (s₁.setTop (entryFrame m #[(.int p0), (.int p1), (.int p2)] maxLocals))
  refine Goes.on (B := s₁.setTop (mkF m 0 #[.val (.int p0), .val (.int p1), .val (.int p2), .unset, .unset, .unset, .unset, .unset, .unset, .unset, .unset, .unset] [])) (fun t k => castTop (ef_0 m p0 p1 p2) k) ?_
  refine Goes.on (B := s₁.setTop (mkF m 1 #[.val (.int p0), .val (.int p1), .val (.int p2), .unset, .unset, .unset, .unset, .unset, .unset, .unset, .unset, .unset] [(.int p0)])) (fun _ k => XS.iloadN X0.here hx rfl (hb hby at_0) rfl  k) ?_
  refine Goes.on (B := s₁.setTop (mkF m 3 #[.val (.int p0), .val (.int p1), .val (.int p2), .unset, .unset, .unset, .unset, .unset, .unset, .unset, .unset, .unset] [(.int (2147483647 : Int32)), (.int p0)])) (fun _ k => X0.ldcInt hx hown (mvT hZ (hw _ (List.mem_of_getElem? (i := 0) rfl))) (g := (mkF m 1 #[.val (.int p0), .val (.int p1), .val (.int p2), .unset, .unset, .unset, .unset, .unset, .unset, .unset, .unset, .unset] [(.int p0)])) rfl (hb hby at_1) _ k) ?_
  refine Goes.on (B := s₁.setTop (mkF m 4 #[.val (.int p0), .val (.int p1), .val (.int p2), .unset, .unset, .unset, .unset, .unset, .unset, .unset, .unset, .unset] [(.int (p0 &&& (2147483647 : Int32)))])) (fun _ k => XS.iand X0.here hx rfl (hb hby at_3) rfl k) ?_
  refine Goes.on (B := s₁.setTop (mkF m 7 #[.val (.int p0), .val (.int p1), .val (.int p2), .unset, .unset, .unset, .unset, .unset, .unset, .unset, .unset, .unset] [(.int (10001 : Int32)), (.int (p0 &&& (2147483647 : Int32)))])) (fun _ k => XS.sipush X0.here hx rfl (hb hby at_4) k) ?_
  refine Goes.on (B := s₁.setTop (mkF m 8 #[.val (.int p0), .val (.int p1), .val (.int p2), .unset, .unset, .unset, .unset, .unset, .unset, .unset, .unset, .unset] [(.int ((p0 &&& (2147483647 : Int32)) % (10001 : Int32)))])) (fun _ k => iremM X0 hx rfl (hb hby at_7) rfl (by decide) k) ?_
  generalize hbp : ((p0 &&& (2147483647 : Int32)) % (10001 : Int32)) = bp
  refine Goes.on (B := s₁.setTop (mkF m 9 #[.val (.int p0), .val (.int p1), .val (.int p2), .val (.int bp), .unset, .unset, .unset, .unset, .unset, .unset, .unset, .unset] [])) (fun _ k => XS.istoreN X0.here hx rfl (hb hby at_8) rfl (l' := #[.val (.int p0), .val (.int p1), .val (.int p2), .val (.int bp), .unset, .unset, .unset, .unset, .unset, .unset, .unset, .unset]) rfl k) ?_
  refine Goes.on (B := s₁.setTop (mkF m 10 #[.val (.int p0), .val (.int p1), .val (.int p2), .val (.int bp), .unset, .unset, .unset, .unset, .unset, .unset, .unset, .unset] [(.int p1)])) (fun _ k => XS.iloadN X0.here hx rfl (hb hby at_9) rfl  k) ?_
  refine Goes.on (B := s₁.setTop (mkF m 12 #[.val (.int p0), .val (.int p1), .val (.int p2), .val (.int bp), .unset, .unset, .unset, .unset, .unset, .unset, .unset, .unset] [(.int (2147483647 : Int32)), (.int p1)])) (fun _ k => X0.ldcInt hx hown (mvT hZ (hw _ (List.mem_of_getElem? (i := 0) rfl))) (g := (mkF m 10 #[.val (.int p0), .val (.int p1), .val (.int p2), .val (.int bp), .unset, .unset, .unset, .unset, .unset, .unset, .unset, .unset] [(.int p1)])) rfl (hb hby at_10) _ k) ?_
  refine Goes.on (B := s₁.setTop (mkF m 13 #[.val (.int p0), .val (.int p1), .val (.int p2), .val (.int bp), .unset, .unset, .unset, .unset, .unset, .unset, .unset, .unset] [(.int (p1 &&& (2147483647 : Int32)))])) (fun _ k => XS.iand X0.here hx rfl (hb hby at_12) rfl k) ?_
  refine Goes.on (B := s₁.setTop (mkF m 16 #[.val (.int p0), .val (.int p1), .val (.int p2), .val (.int bp), .unset, .unset, .unset, .unset, .unset, .unset, .unset, .unset] [(.int (10001 : Int32)), (.int (p1 &&& (2147483647 : Int32)))])) (fun _ k => XS.sipush X0.here hx rfl (hb hby at_13) k) ?_
  refine Goes.on (B := s₁.setTop (mkF m 17 #[.val (.int p0), .val (.int p1), .val (.int p2), .val (.int bp), .unset, .unset, .unset, .unset, .unset, .unset, .unset, .unset] [(.int ((p1 &&& (2147483647 : Int32)) % (10001 : Int32)))])) (fun _ k => iremM X0 hx rfl (hb hby at_16) rfl (by decide) k) ?_
  generalize hqq : ((p1 &&& (2147483647 : Int32)) % (10001 : Int32)) = qq
  refine Goes.on (B := s₁.setTop (mkF m 19 #[.val (.int p0), .val (.int p1), .val (.int p2), .val (.int bp), .val (.int qq), .unset, .unset, .unset, .unset, .unset, .unset, .unset] [])) (fun _ k => XS.istore X0.here hx rfl (hb hby at_17) rfl (l' := #[.val (.int p0), .val (.int p1), .val (.int p2), .val (.int bp), .val (.int qq), .unset, .unset, .unset, .unset, .unset, .unset, .unset]) rfl k) ?_
  refine Goes.on (B := s₁.setTop (mkF m 20 #[.val (.int p0), .val (.int p1), .val (.int p2), .val (.int bp), .val (.int qq), .unset, .unset, .unset, .unset, .unset, .unset, .unset] [(.int p2)])) (fun _ k => XS.iloadN X0.here hx rfl (hb hby at_19) rfl  k) ?_
  refine Goes.on (B := s₁.setTop (mkF m 23 #[.val (.int p0), .val (.int p1), .val (.int p2), .val (.int bp), .val (.int qq), .unset, .unset, .unset, .unset, .unset, .unset, .unset] [(.int (16383 : Int32)), (.int p2)])) (fun _ k => XS.sipush X0.here hx rfl (hb hby at_20) k) ?_
  refine Goes.on (B := s₁.setTop (mkF m 24 #[.val (.int p0), .val (.int p1), .val (.int p2), .val (.int bp), .val (.int qq), .unset, .unset, .unset, .unset, .unset, .unset, .unset] [(.int (p2 &&& (16383 : Int32)))])) (fun _ k => XS.iand X0.here hx rfl (hb hby at_23) rfl k) ?_
  refine Goes.on (B := s₁.setTop (mkF m 25 #[.val (.int p0), .val (.int p1), .val (.int p2), .val (.int bp), .val (.int qq), .unset, .unset, .unset, .unset, .unset, .unset, .unset] [(.long ((p2 &&& (16383 : Int32)).toInt64))])) (fun _ k => XS.i2l X0.here hx rfl (hb hby at_24) rfl k) ?_
  generalize hbl : ((p2 &&& (16383 : Int32)).toInt64) = bl
  refine Goes.on (B := s₁.setTop (mkF m 27 #[.val (.int p0), .val (.int p1), .val (.int p2), .val (.int bp), .val (.int qq), .val (.long bl), .second, .unset, .unset, .unset, .unset, .unset] [])) (fun _ k => XS.lstore X0.here hx rfl (hb hby at_25) rfl (l' := #[.val (.int p0), .val (.int p1), .val (.int p2), .val (.int bp), .val (.int qq), .val (.long bl), .second, .unset, .unset, .unset, .unset, .unset]) rfl k) ?_
  refine Goes.on (B := s₁.setTop (mkF m 28 #[.val (.int p0), .val (.int p1), .val (.int p2), .val (.int bp), .val (.int qq), .val (.long bl), .second, .unset, .unset, .unset, .unset, .unset] [(.int bp)])) (fun _ k => XS.iloadN X0.here hx rfl (hb hby at_27) rfl  k) ?_
  obtain ⟨_, _, ⟨T1, L1, k1, n1⟩, -, X1, ⟨Lc1, hQ1, l1, y1, z1⟩, st1⟩ := Jvm.LawKit.callS X0 hx (y := (⟨"com/example/abil/abil/core/Threshold", "ofBasisPoints", "(I)Lcom/example/abil/abil/core/Threshold;"⟩ : MethodName)) hown (mvT hZ (hw _ (List.mem_of_getElem? (i := 1) rfl))) (mvT hZ (hw _ (List.mem_of_getElem? (i := 2) rfl))) (mvT hZ (hw _ (List.mem_of_getElem? (i := 3) rfl))) (mvT hZ (hw _ (List.mem_of_getElem? (i := 4) rfl))) (by decide) (backOf (W := 0) (rmo l Z a0 hw [] bp h0 n0 Z0 (own_bnd hbp).1 (own_bnd hbp).2) hZ (hw _ (List.mem_of_getElem? (i := 4) rfl)) (hw _ (List.mem_of_getElem? (i := 3) rfl)) (by decide) (by decide)) (g := (mkF m 28 #[.val (.int p0), .val (.int p1), .val (.int p2), .val (.int bp), .val (.int qq), .val (.long bl), .second, .unset, .unset, .unset, .unset, .unset] [(.int bp)])) rfl (by rw [hml]; rfl) (argsL := [(.int bp)]) (rest := []) (lenOf pd_0__I_Lcom_example_abil_abil_core_Threshold_ rfl) rfl (by show 2 * 0 + _ ≤ _; exact Nat.le_of_eq rfl) (hb hby at_28) (fun _ _ => ⟨rfl, e0, (by decide : 0 + 1 ≤ _), (by decide : 0 + 1 ≤ _)⟩)
  dsimp only [Pt.U, Pt.locs, Pt.cells, Pt.slots] at X1 l1 y1 z1 st1 hQ1
  subst l1 y1 z1
  obtain ⟨b1, rfl, Nq1, Kq1, g_b1, sq_b1, Eq1, Fq1⟩ := hQ1
  obtain ⟨h1, eh1⟩ : ∃ h, T1.heap = h := ⟨_, rfl⟩
  rw [eh1] at Kq1 Eq1 Fq1
  have z2 : n0 ≤ h1.size := Nat.le_trans Z0 Kq1.1
  have N1 := Fr.app N0 Nq1
  refine Goes.on (B := T1.setTop (mkF m 31 #[.val (.int p0), .val (.int p1), .val (.int p2), .val (.int bp), .val (.int qq), .val (.long bl), .second, .unset, .unset, .unset, .unset, .unset] [(.ref b1)])) (fun t k => st1 t k) ?_
  refine Goes.on (B := T1.setTop (mkF m 33 #[.val (.int p0), .val (.int p1), .val (.int p2), .val (.int bp), .val (.int qq), .val (.long bl), .second, .val (.ref b1), .unset, .unset, .unset, .unset] [])) (fun _ k => XS.astore X1.here hx rfl (hb hby at_31) rfl rfl (l' := #[.val (.int p0), .val (.int p1), .val (.int p2), .val (.int bp), .val (.int qq), .val (.long bl), .second, .val (.ref b1), .unset, .unset, .unset, .unset]) rfl k) ?_
  refine Goes.on (B := T1.setTop (mkF m 35 #[.val (.int p0), .val (.int p1), .val (.int p2), .val (.int bp), .val (.int qq), .val (.long bl), .second, .val (.ref b1), .unset, .unset, .unset, .unset] [(.int qq)])) (fun _ k => XS.iload X1.here hx rfl (hb hby at_33) rfl  k) ?_
  obtain ⟨_, _, ⟨T3, L3, k3, n3⟩, -, X3, ⟨Lc3, hQ3, l3, y3, z3⟩, st3⟩ := Jvm.LawKit.callS X1 hx (y := (⟨"com/example/abil/abil/core/Threshold", "ofBasisPoints", "(I)Lcom/example/abil/abil/core/Threshold;"⟩ : MethodName)) hown (mvT hZ (hw _ (List.mem_of_getElem? (i := 1) rfl))) (mvT hZ (hw _ (List.mem_of_getElem? (i := 2) rfl))) (mvT hZ (hw _ (List.mem_of_getElem? (i := 3) rfl))) (mvT hZ (hw _ (List.mem_of_getElem? (i := 4) rfl))) (by decide) (backOf (W := 0) (rmo l Z a0 hw [] qq h1 n0 z2 (own_bnd hqq).1 (own_bnd hqq).2) hZ (hw _ (List.mem_of_getElem? (i := 4) rfl)) (hw _ (List.mem_of_getElem? (i := 3) rfl)) (by decide) (by decide)) (g := (mkF m 35 #[.val (.int p0), .val (.int p1), .val (.int p2), .val (.int bp), .val (.int qq), .val (.long bl), .second, .val (.ref b1), .unset, .unset, .unset, .unset] [(.int qq)])) rfl (by rw [hml]; rfl) (argsL := [(.int qq)]) (rest := []) (lenOf pd_0__I_Lcom_example_abil_abil_core_Threshold_ rfl) rfl (by show 2 * 0 + _ ≤ _; exact Nat.le_of_eq rfl) (hb hby at_35) (fun _ _ => ⟨rfl, eh1, (by decide : 1 + 1 ≤ _), (by decide : 1 + 1 ≤ _)⟩)
  dsimp only [Pt.U, Pt.locs, Pt.cells, Pt.slots] at X3 l3 y3 z3 st3 hQ3
  subst l3 y3 z3
  obtain ⟨b3, rfl, Nq3, Kq3, g_b3, sq_b3, Eq3, Fq3⟩ := hQ3
  obtain ⟨h3, eh3⟩ : ∃ h, T3.heap = h := ⟨_, rfl⟩
  rw [eh3] at Kq3 Eq3 Fq3
  have ne_b1_b3 : b1 ≠ b3 := Nat.ne_of_lt (Nat.lt_of_lt_of_le Eq1.lt sq_b3)
  have f4 := Eq1.keep Kq3
  have f5 := Fq1.keep Kq3 nin0
  have z6 : n0 ≤ h3.size := Nat.le_trans z2 Kq3.1
  have N3 := Fr.app N1 Nq3
  refine Goes.on (B := T3.setTop (mkF m 38 #[.val (.int p0), .val (.int p1), .val (.int p2), .val (.int bp), .val (.int qq), .val (.long bl), .second, .val (.ref b1), .unset, .unset, .unset, .unset] [(.ref b3)])) (fun t k => st3 t k) ?_
  refine Goes.on (B := T3.setTop (mkF m 40 #[.val (.int p0), .val (.int p1), .val (.int p2), .val (.int bp), .val (.int qq), .val (.long bl), .second, .val (.ref b1), .val (.ref b3), .unset, .unset, .unset] [])) (fun _ k => XS.astore X3.here hx rfl (hb hby at_38) rfl rfl (l' := #[.val (.int p0), .val (.int p1), .val (.int p2), .val (.int bp), .val (.int qq), .val (.long bl), .second, .val (.ref b1), .val (.ref b3), .unset, .unset, .unset]) rfl k) ?_
  refine Goes.on (B := T3.setTop (mkF m 42 #[.val (.int p0), .val (.int p1), .val (.int p2), .val (.int bp), .val (.int qq), .val (.long bl), .second, .val (.ref b1), .val (.ref b3), .unset, .unset, .unset] [(.ref b1)])) (fun _ k => XS.aload X3.here hx rfl (hb hby at_40) rfl rfl  k) ?_
  obtain ⟨cq7, kq7, q7a, q7b, q7c⟩ := isOf hZ eh3 f4
  obtain ⟨_, _, ⟨T7, L7, k7, n7⟩, -, X7, ⟨Lc7, hQ7, l7, y7, z7⟩, st7⟩ := X3.virtualBack hx (y := (⟨"com/example/abil/abil/core/Threshold", "basisPoints", "()I"⟩ : MethodName)) (z := (⟨"com/example/abil/abil/core/Threshold", "basisPoints", "()I"⟩ : MethodName)) hown (mvT hZ (hw _ (List.mem_of_getElem? (i := 15) rfl))) (mvT hZ (hw _ (List.mem_of_getElem? (i := 16) rfl))) (notFace_of_selects (args := #[]) (mvT hZ (hw _ (List.mem_of_getElem? (i := 18) rfl)))) (mvT hZ (hw _ (List.mem_of_getElem? (i := 18) rfl))) (mvT hZ (hw _ (List.mem_of_getElem? (i := 17) rfl))) (by decide) (backOf (W := 0) (rmg l Z a0 hw [] b1 bp h3 n0 z6 f5) hZ (hw _ (List.mem_of_getElem? (i := 19) rfl)) (hw _ (List.mem_of_getElem? (i := 3) rfl)) (by decide) (by decide)) q7a q7c (g := (mkF m 42 #[.val (.int p0), .val (.int p1), .val (.int p2), .val (.int bp), .val (.int qq), .val (.long bl), .second, .val (.ref b1), .val (.ref b3), .unset, .unset, .unset] [(.ref b1)])) rfl (by rw [hml]; rfl) (Steps.refl _) (argsL := []) (rest := []) (lenOf pd_0___I rfl) rfl (by show 2 * 0 + _ ≤ _; exact Nat.le_of_eq rfl) (hb hby at_42) (fun _ _ => ⟨rfl, eh3, (by decide : 2 + 0 ≤ _), (by decide : 2 + 0 ≤ _)⟩)
  dsimp only [Pt.U, Pt.locs, Pt.cells, Pt.slots] at X7 l7 y7 z7 st7 hQ7
  subst l7 y7 z7
  obtain ⟨rfl, Nq7, eh7⟩ := hQ7
  have N7 := Fr.app N3 Nq7
  refine Goes.on (B := T7.setTop (mkF m 45 #[.val (.int p0), .val (.int p1), .val (.int p2), .val (.int bp), .val (.int qq), .val (.long bl), .second, .val (.ref b1), .val (.ref b3), .unset, .unset, .unset] [(.int bp)])) (fun t k => st7.trans k) ?_
  refine Goes.on (B := T7.setTop (mkF m 46 #[.val (.int p0), .val (.int p1), .val (.int p2), .val (.int bp), .val (.int qq), .val (.long bl), .second, .val (.ref b1), .val (.ref b3), .unset, .unset, .unset] [(.int bp), (.int bp)])) (fun _ k => XS.iloadN X7.here hx rfl (hb hby at_45) rfl  k) ?_
  refine Goes.on (B := T7.setTop (mkF m 49 #[.val (.int p0), .val (.int p1), .val (.int p2), .val (.int bp), .val (.int qq), .val (.long bl), .second, .val (.ref b1), .val (.ref b3), .unset, .unset, .unset] [])) (fun _ k => XS.icmpNo X7.here hx rfl (hb hby at_46) rfl (teq (rfl : bp = bp)).2 k) ?_
  refine Goes.on (B := T7.setTop (mkF m 50 #[.val (.int p0), .val (.int p1), .val (.int p2), .val (.int bp), .val (.int qq), .val (.long bl), .second, .val (.ref b1), .val (.ref b3), .unset, .unset, .unset] [(.int (1 : Int32))])) (fun _ k => XS.iconst X7.here hx rfl (hb hby at_49) k) ?_
  refine Goes.on (B := T7.setTop (mkF m 54 #[.val (.int p0), .val (.int p1), .val (.int p2), .val (.int bp), .val (.int qq), .val (.long bl), .second, .val (.ref b1), .val (.ref b3), .unset, .unset, .unset] [(.int (1 : Int32))])) (fun _ k => XS.goto X7.here hx rfl (pc0 := 50) (pc' := 54) rfl (hb hby at_50) (by decide) (by decide) k) ?_
  refine Goes.on (B := T7.setTop (mkF m 56 #[.val (.int p0), .val (.int p1), .val (.int p2), .val (.int bp), .val (.int qq), .val (.long bl), .second, .val (.ref b1), .val (.ref b3), .val (.int (1 : Int32)), .unset, .unset] [])) (fun _ k => XS.istore X7.here hx rfl (hb hby at_54) rfl (l' := #[.val (.int p0), .val (.int p1), .val (.int p2), .val (.int bp), .val (.int qq), .val (.long bl), .second, .val (.ref b1), .val (.ref b3), .val (.int (1 : Int32)), .unset, .unset]) rfl k) ?_
  refine Goes.on (B := T7.setTop (mkF m 58 #[.val (.int p0), .val (.int p1), .val (.int p2), .val (.int bp), .val (.int qq), .val (.long bl), .second, .val (.ref b1), .val (.ref b3), .val (.int (1 : Int32)), .unset, .unset] [(.ref b1)])) (fun _ k => XS.aload X7.here hx rfl (hb hby at_56) rfl rfl  k) ?_
  refine Goes.on (B := T7.setTop (mkF m 60 #[.val (.int p0), .val (.int p1), .val (.int p2), .val (.int bp), .val (.int qq), .val (.long bl), .second, .val (.ref b1), .val (.ref b3), .val (.int (1 : Int32)), .unset, .unset] [(.ref b3), (.ref b1)])) (fun _ k => XS.aload X7.here hx rfl (hb hby at_58) rfl rfl  k) ?_
  obtain ⟨cq8, kq8, q8a, q8b, q8c⟩ := isOf hZ eh7 f4
  obtain ⟨_, _, ⟨T8, L8, k8, n8⟩, -, X8, ⟨Lc8, hQ8, l8, y8, z8⟩, st8⟩ := X7.virtualBack hx (y := (⟨"com/example/abil/abil/core/Threshold", "equals", "(Ljava/lang/Object;)Z"⟩ : MethodName)) (z := (⟨"com/example/abil/abil/core/Threshold", "equals", "(Ljava/lang/Object;)Z"⟩ : MethodName)) hown (mvT hZ (hw _ (List.mem_of_getElem? (i := 20) rfl))) (mvT hZ (hw _ (List.mem_of_getElem? (i := 21) rfl))) (notFace_of_selects (args := #[]) (mvT hZ (hw _ (List.mem_of_getElem? (i := 23) rfl)))) (mvT hZ (hw _ (List.mem_of_getElem? (i := 23) rfl))) (mvT hZ (hw _ (List.mem_of_getElem? (i := 22) rfl))) (by decide) (backOf (W := 0) (rme l Z a0 hw [] b1 b3 bp qq h3 n0 z6 f5 Eq3 Fq3) hZ (hw _ (List.mem_of_getElem? (i := 24) rfl)) (hw _ (List.mem_of_getElem? (i := 3) rfl)) (by decide) (by decide)) q8a q8c (g := (mkF m 60 #[.val (.int p0), .val (.int p1), .val (.int p2), .val (.int bp), .val (.int qq), .val (.long bl), .second, .val (.ref b1), .val (.ref b3), .val (.int (1 : Int32)), .unset, .unset] [(.ref b3), (.ref b1)])) rfl (by rw [hml]; rfl) (Steps.refl _) (argsL := [(.ref b3)]) (rest := []) (lenOf pd_0__Ljava_lang_Object__Z rfl) rfl (by show 2 * 0 + _ ≤ _; exact Nat.le_of_eq rfl) (hb hby at_60) (fun _ _ => ⟨rfl, eh7, (by decide : 2 + 0 ≤ _), (by decide : 2 + 0 ≤ _)⟩)
  dsimp only [Pt.U, Pt.locs, Pt.cells, Pt.slots] at X8 l8 y8 z8 st8 hQ8
  subst l8 y8 z8
  obtain ⟨rfl, Nq8, eh8⟩ := hQ8
  have N8 := Fr.app N7 Nq8
  refine Goes.on (B := T8.setTop (mkF m 63 #[.val (.int p0), .val (.int p1), .val (.int p2), .val (.int bp), .val (.int qq), .val (.long bl), .second, .val (.ref b1), .val (.ref b3), .val (.int (1 : Int32)), .unset, .unset] [(.int (own_eq qq bp))])) (fun t k => st8.trans k) ?_
  refine Goes.on (B := T8.setTop (mkF m 65 #[.val (.int p0), .val (.int p1), .val (.int p2), .val (.int bp), .val (.int qq), .val (.long bl), .second, .val (.ref b1), .val (.ref b3), .val (.int (1 : Int32)), .unset, .unset] [(.int qq), (.int (own_eq qq bp))])) (fun _ k => XS.iload X8.here hx rfl (hb hby at_63) rfl  k) ?_
  refine Goes.on (B := T8.setTop (mkF m 66 #[.val (.int p0), .val (.int p1), .val (.int p2), .val (.int bp), .val (.int qq), .val (.long bl), .second, .val (.ref b1), .val (.ref b3), .val (.int (1 : Int32)), .unset, .unset] [(.int bp), (.int qq), (.int (own_eq qq bp))])) (fun _ k => XS.iloadN X8.here hx rfl (hb hby at_65) rfl  k) ?_
  refine Goes.via (B := T8.setTop (mkF m 74 #[.val (.int p0), .val (.int p1), .val (.int p2), .val (.int bp), .val (.int qq), .val (.long bl), .second, .val (.ref b1), .val (.ref b3), .val (.int (1 : Int32)), .unset, .unset] [(.int (own_qe qq bp)), (.int (own_eq qq bp))])) (fun J9 => ?_) ?_
  · skip
    by_cases hc66_10 : qq = bp
    · refine Goes.on (B := T8.setTop (mkF m 69 #[.val (.int p0), .val (.int p1), .val (.int p2), .val (.int bp), .val (.int qq), .val (.long bl), .second, .val (.ref b1), .val (.ref b3), .val (.int (1 : Int32)), .unset, .unset] [(.int (own_eq qq bp))])) (fun _ k => XS.icmpNo X8.here hx rfl (hb hby at_66) rfl (teq hc66_10).2 k) ?_
      refine Goes.on (B := T8.setTop (mkF m 70 #[.val (.int p0), .val (.int p1), .val (.int p2), .val (.int bp), .val (.int qq), .val (.long bl), .second, .val (.ref b1), .val (.ref b3), .val (.int (1 : Int32)), .unset, .unset] [(.int (1 : Int32)), (.int (own_eq qq bp))])) (fun _ k => XS.iconst X8.here hx rfl (hb hby at_69) k) ?_
      refine Goes.on (B := T8.setTop (mkF m 74 #[.val (.int p0), .val (.int p1), .val (.int p2), .val (.int bp), .val (.int qq), .val (.long bl), .second, .val (.ref b1), .val (.ref b3), .val (.int (1 : Int32)), .unset, .unset] [(.int (1 : Int32)), (.int (own_eq qq bp))])) (fun _ k => XS.goto X8.here hx rfl (pc0 := 70) (pc' := 74) rfl (hb hby at_70) (by decide) (by decide) k) ?_
      have hj : (own_qe qq bp) = (1 : Int32) := by rw [own_qe, if_pos hc66_10]
      rw [hj] at J9; exact J9
    · refine Goes.on (B := T8.setTop (mkF m 73 #[.val (.int p0), .val (.int p1), .val (.int p2), .val (.int bp), .val (.int qq), .val (.long bl), .second, .val (.ref b1), .val (.ref b3), .val (.int (1 : Int32)), .unset, .unset] [(.int (own_eq qq bp))])) (fun _ k => XS.icmpYes X8.here hx rfl (pc0 := 66) (pc' := 73) rfl (hb hby at_66) rfl (feq hc66_10).2 (by decide) (by decide) k) ?_
      refine Goes.on (B := T8.setTop (mkF m 74 #[.val (.int p0), .val (.int p1), .val (.int p2), .val (.int bp), .val (.int qq), .val (.long bl), .second, .val (.ref b1), .val (.ref b3), .val (.int (1 : Int32)), .unset, .unset] [(.int (0 : Int32)), (.int (own_eq qq bp))])) (fun _ k => XS.iconst X8.here hx rfl (hb hby at_73) k) ?_
      have hj : (own_qe qq bp) = (0 : Int32) := by rw [own_qe, if_neg hc66_10]
      rw [hj] at J9; exact J9
  refine Goes.on (B := T8.setTop (mkF m 77 #[.val (.int p0), .val (.int p1), .val (.int p2), .val (.int bp), .val (.int qq), .val (.long bl), .second, .val (.ref b1), .val (.ref b3), .val (.int (1 : Int32)), .unset, .unset] [])) (fun _ k => XS.icmpNo X8.here hx rfl (hb hby at_74) rfl (teq (rfl : own_eq qq bp = own_qe qq bp)).2 k) ?_
  refine Goes.on (B := T8.setTop (mkF m 78 #[.val (.int p0), .val (.int p1), .val (.int p2), .val (.int bp), .val (.int qq), .val (.long bl), .second, .val (.ref b1), .val (.ref b3), .val (.int (1 : Int32)), .unset, .unset] [(.int (1 : Int32))])) (fun _ k => XS.iconst X8.here hx rfl (hb hby at_77) k) ?_
  refine Goes.on (B := T8.setTop (mkF m 82 #[.val (.int p0), .val (.int p1), .val (.int p2), .val (.int bp), .val (.int qq), .val (.long bl), .second, .val (.ref b1), .val (.ref b3), .val (.int (1 : Int32)), .unset, .unset] [(.int (1 : Int32))])) (fun _ k => XS.goto X8.here hx rfl (pc0 := 78) (pc' := 82) rfl (hb hby at_78) (by decide) (by decide) k) ?_
  refine Goes.on (B := T8.setTop (mkF m 84 #[.val (.int p0), .val (.int p1), .val (.int p2), .val (.int bp), .val (.int qq), .val (.long bl), .second, .val (.ref b1), .val (.ref b3), .val (.int (1 : Int32)), .val (.int (1 : Int32)), .unset] [])) (fun _ k => XS.istore X8.here hx rfl (hb hby at_82) rfl (l' := #[.val (.int p0), .val (.int p1), .val (.int p2), .val (.int bp), .val (.int qq), .val (.long bl), .second, .val (.ref b1), .val (.ref b3), .val (.int (1 : Int32)), .val (.int (1 : Int32)), .unset]) rfl k) ?_
  refine Goes.on (B := T8.setTop (mkF m 86 #[.val (.int p0), .val (.int p1), .val (.int p2), .val (.int bp), .val (.int qq), .val (.long bl), .second, .val (.ref b1), .val (.ref b3), .val (.int (1 : Int32)), .val (.int (1 : Int32)), .unset] [(.ref b1)])) (fun _ k => XS.aload X8.here hx rfl (hb hby at_84) rfl rfl  k) ?_
  refine Goes.on (B := T8.setTop (mkF m 88 #[.val (.int p0), .val (.int p1), .val (.int p2), .val (.int bp), .val (.int qq), .val (.long bl), .second, .val (.ref b1), .val (.ref b3), .val (.int (1 : Int32)), .val (.int (1 : Int32)), .unset] [(.long bl), (.ref b1)])) (fun _ k => XS.lload X8.here hx rfl (hb hby at_86) rfl  k) ?_
  refine Goes.on (B := T8.setTop (mkF m 91 #[.val (.int p0), .val (.int p1), .val (.int p2), .val (.int bp), .val (.int qq), .val (.long bl), .second, .val (.ref b1), .val (.ref b3), .val (.int (1 : Int32)), .val (.int (1 : Int32)), .unset] [(.long (10000 : Int64)), (.long bl), (.ref b1)])) (fun _ k => X8.ldc2Long hx hown (mvT hZ (hw _ (List.mem_of_getElem? (i := 26) rfl))) (g := (mkF m 88 #[.val (.int p0), .val (.int p1), .val (.int p2), .val (.int bp), .val (.int qq), .val (.long bl), .second, .val (.ref b1), .val (.ref b3), .val (.int (1 : Int32)), .val (.int (1 : Int32)), .unset] [(.long bl), (.ref b1)])) rfl (hb hby at_88) _ k) ?_
  obtain ⟨cq11, kq11, q11a, q11b, q11c⟩ := isOf hZ eh8 f4
  obtain ⟨_, _, ⟨T11, L11, k11, n11⟩, -, X11, ⟨Lc11, hQ11, l11, y11, z11⟩, st11⟩ := X8.virtualBack hx (y := (⟨"com/example/abil/abil/core/Threshold", "isReachedBy", "(JJ)Z"⟩ : MethodName)) (z := (⟨"com/example/abil/abil/core/Threshold", "isReachedBy", "(JJ)Z"⟩ : MethodName)) hown (mvT hZ (hw _ (List.mem_of_getElem? (i := 27) rfl))) (mvT hZ (hw _ (List.mem_of_getElem? (i := 28) rfl))) (notFace_of_selects (args := #[]) (mvT hZ (hw _ (List.mem_of_getElem? (i := 30) rfl)))) (mvT hZ (hw _ (List.mem_of_getElem? (i := 30) rfl))) (mvT hZ (hw _ (List.mem_of_getElem? (i := 29) rfl))) (by decide) (backOf (W := 0) (rmr l Z a0 hw [] b1 bl (10000 : Int64) bp h3 n0 z6 f5 f4) hZ (hw _ (List.mem_of_getElem? (i := 31) rfl)) (hw _ (List.mem_of_getElem? (i := 3) rfl)) (by decide) (by decide)) q11a q11c (g := (mkF m 91 #[.val (.int p0), .val (.int p1), .val (.int p2), .val (.int bp), .val (.int qq), .val (.long bl), .second, .val (.ref b1), .val (.ref b3), .val (.int (1 : Int32)), .val (.int (1 : Int32)), .unset] [(.long (10000 : Int64)), (.long bl), (.ref b1)])) rfl (by rw [hml]; rfl) (Steps.refl _) (argsL := [(.long bl), (.long (10000 : Int64))]) (rest := []) (lenOf pd_0__JJ_Z rfl) rfl (by show 2 * 0 + _ ≤ _; exact Nat.le_of_eq rfl) (hb hby at_91) (fun _ _ => ⟨rfl, eh8, (by decide : 2 + 0 ≤ _), (by decide : 2 + 0 ≤ _)⟩)
  dsimp only [Pt.U, Pt.locs, Pt.cells, Pt.slots] at X11 l11 y11 z11 st11 hQ11
  subst l11 y11 z11
  obtain ⟨rfl, Nq11, eh11⟩ := hQ11
  have N11 := Fr.app N8 Nq11
  refine Goes.on (B := T11.setTop (mkF m 94 #[.val (.int p0), .val (.int p1), .val (.int p2), .val (.int bp), .val (.int qq), .val (.long bl), .second, .val (.ref b1), .val (.ref b3), .val (.int (1 : Int32)), .val (.int (1 : Int32)), .unset] [(.int (own_reach bp bl (10000 : Int64)))])) (fun t k => st11.trans k) ?_
  refine Goes.on (B := T11.setTop (mkF m 96 #[.val (.int p0), .val (.int p1), .val (.int p2), .val (.int bp), .val (.int qq), .val (.long bl), .second, .val (.ref b1), .val (.ref b3), .val (.int (1 : Int32)), .val (.int (1 : Int32)), .unset] [(.long bl), (.int (own_reach bp bl (10000 : Int64)))])) (fun _ k => XS.lload X11.here hx rfl (hb hby at_94) rfl  k) ?_
  refine Goes.on (B := T11.setTop (mkF m 97 #[.val (.int p0), .val (.int p1), .val (.int p2), .val (.int bp), .val (.int qq), .val (.long bl), .second, .val (.ref b1), .val (.ref b3), .val (.int (1 : Int32)), .val (.int (1 : Int32)), .unset] [(.int bp), (.long bl), (.int (own_reach bp bl (10000 : Int64)))])) (fun _ k => XS.iloadN X11.here hx rfl (hb hby at_96) rfl  k) ?_
  refine Goes.on (B := T11.setTop (mkF m 98 #[.val (.int p0), .val (.int p1), .val (.int p2), .val (.int bp), .val (.int qq), .val (.long bl), .second, .val (.ref b1), .val (.ref b3), .val (.int (1 : Int32)), .val (.int (1 : Int32)), .unset] [(.long (bp.toInt64)), (.long bl), (.int (own_reach bp bl (10000 : Int64)))])) (fun _ k => XS.i2l X11.here hx rfl (hb hby at_97) rfl k) ?_
  refine Goes.on (B := T11.setTop (mkF m 99 #[.val (.int p0), .val (.int p1), .val (.int p2), .val (.int bp), .val (.int qq), .val (.long bl), .second, .val (.ref b1), .val (.ref b3), .val (.int (1 : Int32)), .val (.int (1 : Int32)), .unset] [(.int (lcmpW bl (bp.toInt64))), (.int (own_reach bp bl (10000 : Int64)))])) (fun _ k => XS.lcmp X11.here hx rfl (hb hby at_98) rfl k) ?_
  refine Goes.via (B := T11.setTop (mkF m 107 #[.val (.int p0), .val (.int p1), .val (.int p2), .val (.int bp), .val (.int qq), .val (.long bl), .second, .val (.ref b1), .val (.ref b3), .val (.int (1 : Int32)), .val (.int (1 : Int32)), .unset] [(.int (own_rb bl (bp.toInt64))), (.int (own_reach bp bl (10000 : Int64)))])) (fun J12 => ?_) ?_
  · skip
    by_cases hc99_13 : bl < (bp.toInt64)
    · refine Goes.on (B := T11.setTop (mkF m 106 #[.val (.int p0), .val (.int p1), .val (.int p2), .val (.int bp), .val (.int qq), .val (.long bl), .second, .val (.ref b1), .val (.ref b3), .val (.int (1 : Int32)), .val (.int (1 : Int32)), .unset] [(.int (own_reach bp bl (10000 : Int64)))])) (fun _ k => XS.ifYes X11.here hx rfl (pc0 := 99) (pc' := 106) rfl (hb hby at_99) rfl (own_tlt hc99_13).1 (by decide) (by decide) k) ?_
      refine Goes.on (B := T11.setTop (mkF m 107 #[.val (.int p0), .val (.int p1), .val (.int p2), .val (.int bp), .val (.int qq), .val (.long bl), .second, .val (.ref b1), .val (.ref b3), .val (.int (1 : Int32)), .val (.int (1 : Int32)), .unset] [(.int (0 : Int32)), (.int (own_reach bp bl (10000 : Int64)))])) (fun _ k => XS.iconst X11.here hx rfl (hb hby at_106) k) ?_
      have hj : (own_rb bl (bp.toInt64)) = (0 : Int32) := by rw [own_rb, if_pos hc99_13]
      rw [hj] at J12; exact J12
    · refine Goes.on (B := T11.setTop (mkF m 102 #[.val (.int p0), .val (.int p1), .val (.int p2), .val (.int bp), .val (.int qq), .val (.long bl), .second, .val (.ref b1), .val (.ref b3), .val (.int (1 : Int32)), .val (.int (1 : Int32)), .unset] [(.int (own_reach bp bl (10000 : Int64)))])) (fun _ k => XS.ifNo X11.here hx rfl (hb hby at_99) rfl (own_flt hc99_13).1 k) ?_
      refine Goes.on (B := T11.setTop (mkF m 103 #[.val (.int p0), .val (.int p1), .val (.int p2), .val (.int bp), .val (.int qq), .val (.long bl), .second, .val (.ref b1), .val (.ref b3), .val (.int (1 : Int32)), .val (.int (1 : Int32)), .unset] [(.int (1 : Int32)), (.int (own_reach bp bl (10000 : Int64)))])) (fun _ k => XS.iconst X11.here hx rfl (hb hby at_102) k) ?_
      refine Goes.on (B := T11.setTop (mkF m 107 #[.val (.int p0), .val (.int p1), .val (.int p2), .val (.int bp), .val (.int qq), .val (.long bl), .second, .val (.ref b1), .val (.ref b3), .val (.int (1 : Int32)), .val (.int (1 : Int32)), .unset] [(.int (1 : Int32)), (.int (own_reach bp bl (10000 : Int64)))])) (fun _ k => XS.goto X11.here hx rfl (pc0 := 103) (pc' := 107) rfl (hb hby at_103) (by decide) (by decide) k) ?_
      have hj : (own_rb bl (bp.toInt64)) = (1 : Int32) := by rw [own_rb, if_neg hc99_13]
      rw [hj] at J12; exact J12
  refine Goes.on (B := T11.setTop (mkF m 110 #[.val (.int p0), .val (.int p1), .val (.int p2), .val (.int bp), .val (.int qq), .val (.long bl), .second, .val (.ref b1), .val (.ref b3), .val (.int (1 : Int32)), .val (.int (1 : Int32)), .unset] [])) (fun _ k => XS.icmpNo X11.here hx rfl (hb hby at_107) rfl (teq (own_law bp bl)).2 k) ?_
  refine Goes.on (B := T11.setTop (mkF m 111 #[.val (.int p0), .val (.int p1), .val (.int p2), .val (.int bp), .val (.int qq), .val (.long bl), .second, .val (.ref b1), .val (.ref b3), .val (.int (1 : Int32)), .val (.int (1 : Int32)), .unset] [(.int (1 : Int32))])) (fun _ k => XS.iconst X11.here hx rfl (hb hby at_110) k) ?_
  refine Goes.on (B := T11.setTop (mkF m 115 #[.val (.int p0), .val (.int p1), .val (.int p2), .val (.int bp), .val (.int qq), .val (.long bl), .second, .val (.ref b1), .val (.ref b3), .val (.int (1 : Int32)), .val (.int (1 : Int32)), .unset] [(.int (1 : Int32))])) (fun _ k => XS.goto X11.here hx rfl (pc0 := 111) (pc' := 115) rfl (hb hby at_111) (by decide) (by decide) k) ?_
  refine Goes.on (B := T11.setTop (mkF m 117 #[.val (.int p0), .val (.int p1), .val (.int p2), .val (.int bp), .val (.int qq), .val (.long bl), .second, .val (.ref b1), .val (.ref b3), .val (.int (1 : Int32)), .val (.int (1 : Int32)), .val (.int (1 : Int32))] [])) (fun _ k => XS.istore X11.here hx rfl (hb hby at_115) rfl (l' := #[.val (.int p0), .val (.int p1), .val (.int p2), .val (.int bp), .val (.int qq), .val (.long bl), .second, .val (.ref b1), .val (.ref b3), .val (.int (1 : Int32)), .val (.int (1 : Int32)), .val (.int (1 : Int32))]) rfl k) ?_
  refine Goes.on (B := T11.setTop (mkF m 119 #[.val (.int p0), .val (.int p1), .val (.int p2), .val (.int bp), .val (.int qq), .val (.long bl), .second, .val (.ref b1), .val (.ref b3), .val (.int (1 : Int32)), .val (.int (1 : Int32)), .val (.int (1 : Int32))] [(.int (1 : Int32))])) (fun _ k => XS.iload X11.here hx rfl (hb hby at_117) rfl  k) ?_
  refine Goes.on (B := T11.setTop (mkF m 122 #[.val (.int p0), .val (.int p1), .val (.int p2), .val (.int bp), .val (.int qq), .val (.long bl), .second, .val (.ref b1), .val (.ref b3), .val (.int (1 : Int32)), .val (.int (1 : Int32)), .val (.int (1 : Int32))] [])) (fun _ k => XS.ifNo X11.here hx rfl (hb hby at_119) rfl ((if0 _ _).trans (feq (by decide)).1) k) ?_
  refine Goes.on (B := T11.setTop (mkF m 124 #[.val (.int p0), .val (.int p1), .val (.int p2), .val (.int bp), .val (.int qq), .val (.long bl), .second, .val (.ref b1), .val (.ref b3), .val (.int (1 : Int32)), .val (.int (1 : Int32)), .val (.int (1 : Int32))] [(.int (1 : Int32))])) (fun _ k => XS.iload X11.here hx rfl (hb hby at_122) rfl  k) ?_
  refine Goes.on (B := T11.setTop (mkF m 127 #[.val (.int p0), .val (.int p1), .val (.int p2), .val (.int bp), .val (.int qq), .val (.long bl), .second, .val (.ref b1), .val (.ref b3), .val (.int (1 : Int32)), .val (.int (1 : Int32)), .val (.int (1 : Int32))] [])) (fun _ k => XS.ifNo X11.here hx rfl (hb hby at_124) rfl ((if0 _ _).trans (feq (by decide)).1) k) ?_
  refine Goes.on (B := T11.setTop (mkF m 129 #[.val (.int p0), .val (.int p1), .val (.int p2), .val (.int bp), .val (.int qq), .val (.long bl), .second, .val (.ref b1), .val (.ref b3), .val (.int (1 : Int32)), .val (.int (1 : Int32)), .val (.int (1 : Int32))] [(.int (1 : Int32))])) (fun _ k => XS.iload X11.here hx rfl (hb hby at_127) rfl  k) ?_
  refine Goes.on (B := T11.setTop (mkF m 132 #[.val (.int p0), .val (.int p1), .val (.int p2), .val (.int bp), .val (.int qq), .val (.long bl), .second, .val (.ref b1), .val (.ref b3), .val (.int (1 : Int32)), .val (.int (1 : Int32)), .val (.int (1 : Int32))] [])) (fun _ k => XS.ifNo X11.here hx rfl (hb hby at_129) rfl ((if0 _ _).trans (feq (by decide)).1) k) ?_
  refine Goes.on (B := T11.setTop (mkF m 133 #[.val (.int p0), .val (.int p1), .val (.int p2), .val (.int bp), .val (.int qq), .val (.long bl), .second, .val (.ref b1), .val (.ref b3), .val (.int (1 : Int32)), .val (.int (1 : Int32)), .val (.int (1 : Int32))] [(.int (1 : Int32))])) (fun _ k => XS.iconst X11.here hx rfl (hb hby at_132) k) ?_
  refine Goes.on (B := T11.setTop (mkF m 137 #[.val (.int p0), .val (.int p1), .val (.int p2), .val (.int bp), .val (.int qq), .val (.long bl), .second, .val (.ref b1), .val (.ref b3), .val (.int (1 : Int32)), .val (.int (1 : Int32)), .val (.int (1 : Int32))] [(.int (1 : Int32))])) (fun _ k => XS.goto X11.here hx rfl (pc0 := 133) (pc' := 137) rfl (hb hby at_133) (by decide) (by decide) k) ?_
  obtain ⟨fs, hr, hrun, hended, hW, hsame⟩ := X11.leave (v := some (.int (1 : Int32))) (fun h => by rw [Bd.returns] at h; cases h)
  exact Goes.leaf (retN X11 hx (t := .boolean) Bd.returns (by simp) (hb hby at_137) hr) hrun hended ⟨_, _, rfl, by show Q0 Z p0 p1 p2 h0 n0 _ T11.heap _; exact ⟨rfl, N11⟩, ⟨_, rfl⟩, hW, hsame.mono (by decide) (by decide)⟩
set_option maxRecDepth 65536 in
set_option maxHeartbeats 40000000 in
theorem comes_1 {Post : Tables → Env → Array Value → State → Outcome → State → Prop} (hpost : ∀ tb e args s v u, (limb_1_1.after args s (.returned v) u = true ∧ limb_1_2.after args s (.returned v) u = true ∧ True) → FrameEnd s (.returned v) u (Jvm.fieldLocs frame_1_writes args s ++ Jvm.arrayLocs frame_1_arrays args s ++ Jvm.staticLocs frame_1_statics s) 16 128 → Post tb e args s (.returned v) u) :
    ArmFor flags0 classFile x code maxLocals ret World_1 tables_1 room_1 Calls_1 rest_1 Pre_1 Post := by
  intro l hfl _ _ p e ha hc hk s m args below hf hA hF happ hP
  obtain ⟨hcalls, hrest, hpre⟩ := hP
  obtain ⟨-, -, -, hnamed, -, -, -, hat⟩ := (Spec.applies_iff hf).mp happ
  obtain ⟨hg, hn⟩ := and_e (Cond.before_iff.mp (show (Jvm.Cond.and given_1 narrow_1).before args s = true from hpre))
  obtain ⟨hg0, hg0r⟩ := and_e hg
  obtain ⟨hg1, hg1r⟩ := and_e hg0r
  obtain ⟨hg2, hg2r⟩ := and_e hg1r
  obtain ⟨w0, w1, w2, rfl⟩ : ∃ w0 w1 w2 : Value, args = #[w0, w1, w2] := by
    have hs : args.size = 3 := by simpa [Cond.value, given_1] using hg0
    obtain ⟨L⟩ := args
    match L, hs with
    | [w0, w1, w2], _ => exact ⟨w0, w1, w2, rfl⟩
  have hw := fun d (hd : d ∈ tables_1) => atoms_spec (ws := Jvm.Cond.code x code maxLocals ret :: tables_1) hat d (List.mem_cons_of_mem _ hd)
  have hfit : Fit s := fun {y c} hc i hi => by
    obtain ⟨ha, rfl⟩ := Array.getElem?_eq_some_iff.mp hc
    have q := List.all_eq_true.mp ((Array.all_eq_true_iff_forall_mem.mp hF) _ (Array.getElem_mem ha)) i (List.mem_range.mpr hi)
    simpa [Array.getElem?_eq_getElem hi] using q
  obtain ⟨i0, ei0⟩ := is_v hg1
  obtain rfl : w0 = (.int i0) := Option.some.inj ei0
  obtain ⟨i1, ei1⟩ := is_v hg2
  obtain rfl : w1 = (.int i1) := Option.some.inj ei1
  obtain ⟨i2, ei2⟩ := is_v hg2r
  obtain rfl : w2 = (.int i2) := Option.some.inj ei2
  obtain ⟨n, o, h1, h2, h3, _, L, rfl, ⟨rfl, N⟩, hq⟩ := rm0 l s _ hw tables_1 i0 i1 i2  s.heap s.heap.size (Nat.le_refl _)  p e ha hc hk s m _ below hf ((Spec.applies_iff_loose hf).mp happ).1 ⟨rfl, State.Warmed39.refl s, rfl⟩ trivial
  refine ⟨n, _, h1, h2, h3, hpost _ _ _ _ _ _ ⟨Cond.after_iff.mpr rfl, Cond.after_iff.mpr (eq_i res_at (Term.int_eval (1)) rfl), trivial⟩ ⟨hq.1, hq.2.1, (hq.2.2.sift fun y hy => Or.inr (N y hy)).mono (by decide) (by decide)⟩⟩
theorem main_1_1 : Claimed_1_1 := comes_1 fun _ _ _ _ _ _ h hF => ⟨h.1, hF⟩
theorem main_1_2 : Claimed_1_2 := comes_1 fun _ _ _ _ _ _ h hF => ⟨h.2.1, hF⟩
end Jvm.Pilot.@@N@@
namespace Jvm.Pilot.@@N@@
open Jvm Jvm.ClassFile Sem Op Lib Jvm.Free Jvm.Stand Jvm.Pilot.@@N@@.Jvm.D
/-! MADE BY PROGRAM (witnessworld.py) out of the Statement's table words and the real class files: 9 classes; the members and pool entries that the words name. The judged class is class 1, her method 1. -/
namespace start1
open Jvm.ClassFile
def u (s : String) : CpInfo := .utf8 (stringToUtf16 s)
/-- a pool by its gaps: so many unusable entries, then the entry; so many at the end -/
def gap : Nat → List CpInfo → List CpInfo
  | 0, r => r
  | n + 1, r => .unusable :: gap n r
def poolList (es : List (Nat × CpInfo)) (last : Nat) : List CpInfo := es.foldr (fun e r => gap e.1 (e.2 :: r)) (gap last [])
def pool (es : List (Nat × CpInfo)) (last : Nat) : Array CpInfo := ⟨poolList es last⟩
def fileOf (pool : Array CpInfo) (this : Nat) (attrs : Array Attribute := #[]) (ms : Array MethodInfo := #[]) (fl : Nat := 33) (sup : Nat := 0) (ifs : Array Nat := #[]) (fds : Array FieldInfo := #[]) : ClassFile where
  minorVersion := 0
  majorVersion := 65
  constantPool := pool
  accessFlags := fl
  thisClass := this
  superClass := sup
  interfaces := ifs
  fields := fds
  methods := ms
  attributes := attrs
def plain (name : String) (sup : Option ClassId) : Class where
  name := name
  kind := .ordinary
  loader := none
  accessFlags := 33
  super := sup
  interfaces := #[]
  cf := none
  fields := #[]
  methods := #[]
  instanceTypes := #[]
  staticTypes := #[]
  resolved := #[]
  callSites := []
  init := .initialized
  statics := none
  mirror := none

def pool0 : Array CpInfo := pool [(5, u "<init>"), (0, u "()V"), (1, .class_ 10), (1, u "java/lang/Object")] 113

def k0c0 : Code := { maxStack := 0, maxLocals := 1, code := object_method_1_code, exceptionTable := #[], attributes := #[] }
def k0m0 : Method := { name := "<init>", desc := "()V", sig := { parameters := [], returnType := none }, accessFlags := 1, code := some k0c0 }
/-- java/lang/Object -/
def k0 : Class := { plain "java/lang/Object" none with
  accessFlags := 33
  interfaces := #[]
  cf := some (fileOf pool0 8 #[] #[{ accessFlags := 1, nameIndex := 5, descriptorIndex := 6, attributes := #[] }] 33 0 #[] #[])
  fields := #[]
  methods := #[k0m0]
  instanceTypes := #[]
  staticTypes := #[]
  resolved := Array.replicate 124 none
  statics := none }

def pool1 : Array CpInfo := pool [(2, .class_ 4), (1, u "java/lang/Object"), (0, u "<init>"), (0, u "()V"), (0, .integer 2147483647), (0, .methodref 9 10), (0, .class_ 11), (0, .nameAndType 12 13), (0, u "com/example/abil/abil/core/Threshold"), (0, u "ofBasisPoints"), (0, u "(I)Lcom/example/abil/abil/core/Threshold;"), (0, .methodref 9 15), (0, .nameAndType 16 17), (0, u "basisPoints"), (0, u "()I"), (0, .methodref 9 19), (0, .nameAndType 20 21), (0, u "equals"), (0, u "(Ljava/lang/Object;)Z"), (0, .long 10000), (1, .methodref 9 25), (0, .nameAndType 26 27), (0, u "isReachedBy"), (0, u "(JJ)Z"), (0, .class_ 29), (0, u "com/example/abil/abil/core/ThresholdOfBasisPointsPinLaw"), (2, u "law"), (0, u "(III)Z")] 3

def k1m0 : Method := { name := "<init>", desc := "()V", sig := { parameters := [], returnType := none }, accessFlags := 1, code := none }
def k1c1 : Code := { maxStack := 5, maxLocals := 12, code := code, exceptionTable := #[], attributes := #[] }
def k1m1 : Method := { name := "law", desc := "(III)Z", sig := { parameters := [.int, .int, .int], returnType := some .boolean }, accessFlags := 9, code := some k1c1 }
/-- com/example/abil/abil/core/ThresholdOfBasisPointsPinLaw -/
def k1 : Class := { plain "com/example/abil/abil/core/ThresholdOfBasisPointsPinLaw" (some 0) with
  accessFlags := 49
  interfaces := #[]
  cf := some (fileOf pool1 28 #[] #[{ accessFlags := 1, nameIndex := 5, descriptorIndex := 6, attributes := #[] }, { accessFlags := 9, nameIndex := 32, descriptorIndex := 33, attributes := #[] }] 49 2 #[] #[])
  fields := #[]
  methods := #[k1m0, k1m1]
  instanceTypes := #[]
  staticTypes := #[]
  resolved := Array.replicate 37 none
  statics := none }

def pool2 : Array CpInfo := pool [(1, .methodref 2 3), (0, .class_ 4), (0, .nameAndType 5 6), (0, u "java/lang/Object"), (0, u "<init>"), (0, u "()V"), (0, .fieldref 8 9), (0, .class_ 10), (0, .nameAndType 11 12), (0, u "com/example/abil/abil/core/Threshold"), (0, u "basisPoints"), (0, u "I"), (9, .methodref 8 23), (0, .nameAndType 5 24), (0, u "(I)V"), (6, .long 10000), (1, .methodref 8 34), (0, .nameAndType 35 36), (0, u "ceilingOfShare"), (0, u "(J)J"), (17, u "WHOLE"), (4, u "ofBasisPoints"), (0, u "(I)Lcom/example/abil/abil/core/Threshold;"), (1, u "()I"), (0, u "isReachedBy"), (0, u "(JJ)Z"), (0, u "equals"), (0, u "(Ljava/lang/Object;)Z")] 20

def k2c0 : Code := { maxStack := 2, maxLocals := 2, code := prog_42_method_1_code, exceptionTable := #[], attributes := #[] }
def k2m0 : Method := { name := "<init>", desc := "(I)V", sig := { parameters := [.int], returnType := none }, accessFlags := 2, code := some k2c0 }
def k2c1 : Code := { maxStack := 3, maxLocals := 1, code := prog_42_method_2_code, exceptionTable := #[], attributes := #[] }
def k2m1 : Method := { name := "ofBasisPoints", desc := "(I)Lcom/example/abil/abil/core/Threshold;", sig := { parameters := [.int], returnType := some (.object "com/example/abil/abil/core/Threshold") }, accessFlags := 9, code := some k2c1 }
def k2c2 : Code := { maxStack := 1, maxLocals := 1, code := prog_42_method_3_code, exceptionTable := #[], attributes := #[] }
def k2m2 : Method := { name := "basisPoints", desc := "()I", sig := { parameters := [], returnType := some .int }, accessFlags := 1, code := some k2c2 }
def k2c3 : Code := { maxStack := 7, maxLocals := 7, code := prog_42_method_5_code, exceptionTable := #[], attributes := #[] }
def k2m3 : Method := { name := "isReachedBy", desc := "(JJ)Z", sig := { parameters := [.long, .long], returnType := some .boolean }, accessFlags := 1, code := some k2c3 }
def k2c4 : Code := { maxStack := 4, maxLocals := 3, code := prog_42_method_6_code, exceptionTable := #[], attributes := #[] }
def k2m4 : Method := { name := "ceilingOfShare", desc := "(J)J", sig := { parameters := [.long], returnType := some .long }, accessFlags := 2, code := some k2c4 }
def k2c5 : Code := { maxStack := 2, maxLocals := 3, code := prog_42_method_7_code, exceptionTable := #[], attributes := #[] }
def k2m5 : Method := { name := "equals", desc := "(Ljava/lang/Object;)Z", sig := { parameters := [(.object "java/lang/Object")], returnType := some .boolean }, accessFlags := 1, code := some k2c5 }
/-- com/example/abil/abil/core/Threshold -/
def k2 : Class := { plain "com/example/abil/abil/core/Threshold" (some 0) with
  accessFlags := 49
  interfaces := #[]
  cf := some (fileOf pool2 8 #[] #[{ accessFlags := 2, nameIndex := 5, descriptorIndex := 24, attributes := #[] }, { accessFlags := 9, nameIndex := 59, descriptorIndex := 60, attributes := #[] }, { accessFlags := 1, nameIndex := 11, descriptorIndex := 62, attributes := #[] }, { accessFlags := 1, nameIndex := 63, descriptorIndex := 64, attributes := #[] }, { accessFlags := 2, nameIndex := 35, descriptorIndex := 36, attributes := #[] }, { accessFlags := 1, nameIndex := 65, descriptorIndex := 66, attributes := #[] }] 49 2 #[] #[{ accessFlags := 25, nameIndex := 54, descriptorIndex := 12, attributes := #[] }, { accessFlags := 18, nameIndex := 11, descriptorIndex := 12, attributes := #[] }])
  fields := #[{ name := "WHOLE", type := .int, accessFlags := 25, slot := 0, constantValue := 0 }, { name := "basisPoints", type := .int, accessFlags := 18, slot := 0, constantValue := 0 }]
  methods := #[k2m0, k2m1, k2m2, k2m3, k2m4, k2m5]
  instanceTypes := #[.int]
  staticTypes := #[.int]
  resolved := Array.replicate 87 none
  statics := none }

def pool3 : Array CpInfo := pool [(1, u "java/lang/Cloneable"), (0, .class_ 1), (0, u "java/lang/Object"), (0, .class_ 3)] 3

/-- java/lang/Cloneable -/
def k3 : Class := { plain "java/lang/Cloneable" (some 0) with
  accessFlags := 1537
  interfaces := #[]
  cf := some (fileOf pool3 2 #[] #[] 1537 4 #[] #[])
  fields := #[]
  methods := #[]
  instanceTypes := #[]
  staticTypes := #[]
  resolved := Array.replicate 8 none
  statics := none }

def pool4 : Array CpInfo := pool [(1, u "java/io/Serializable"), (0, .class_ 1), (0, u "java/lang/Object"), (0, .class_ 3)] 3

/-- java/io/Serializable -/
def k4 : Class := { plain "java/io/Serializable" (some 0) with
  accessFlags := 1537
  interfaces := #[]
  cf := some (fileOf pool4 2 #[] #[] 1537 4 #[] #[])
  fields := #[]
  methods := #[]
  instanceTypes := #[]
  staticTypes := #[]
  resolved := Array.replicate 8 none
  statics := none }

/-- the primitive byte -/
def k5 : Class := { plain "byte" none with kind := .primitive 'B', accessFlags := 0x411 }
/-- [B -/
def k6 : Class := { plain "[B" (some 0) with kind := .array 5 .byte, interfaces := #[3, 4], accessFlags := 1041 }

/-- the primitive int -/
def k7 : Class := { plain "int" none with kind := .primitive 'I', accessFlags := 0x411 }
/-- [I -/
def k8 : Class := { plain "[I" (some 0) with kind := .array 7 .int, interfaces := #[3, 4], accessFlags := 1041 }

def heap : Heap := #[]
def classes : Array Class := #[k0, k1, k2, k3, k4, k5, k6, k7, k8]
def interned : List (Array UInt16 × Addr) := []
def slotsUsed : Nat := 0
def theMethod : MethodId := ⟨1, 1⟩
def args0 : Array Value := #[.int 5, .int 7, .int 9]
def aboutOver (below : List Frame) : State where
  vm := { classes := classes, interned := interned.toArray }
  heap := heap
  slotsUsed := slotsUsed
  threads := #[{ frames := .invoking theMethod args0 :: below }]
def below0 : List Frame := [.native { method := ⟨0, 0⟩, args := #[] }]
def about1 : State := aboutOver below0
def p0 : Program := .bare "" "" ""
def e0 : Env := launch0.env 0 0 0
theorem w_frames : about1.frames = Frame.invoking theMethod args0 :: below0 := rfl
set_option maxRecDepth 65536 in
theorem w_args : argsFit about1.vm theMethod args0 = true := by decide +kernel
set_option maxRecDepth 65536 in
theorem w_heap : heapFits about1 = true := by decide +kernel
set_option maxRecDepth 65536 in
theorem w_runnable : about1.curStatus? = some .runnable := by decide +kernel
set_option maxRecDepth 65536 in
theorem w_alone : about1.alone = true := by decide +kernel
set_option maxRecDepth 65536 in
theorem w_named : about1.methodNamed? x = some theMethod := by decide +kernel
set_option maxRecDepth 65536 in
theorem w_hears : about1.hears theMethod below0 = true := by decide +kernel
set_option maxRecDepth 65536 in
theorem w_ripe : about1.ripe theMethod args0 below0 = true := by decide +kernel
theorem w_running : about1.status = .running := rfl
set_option maxRecDepth 65536 in
theorem w_room : about1.hasRoom e0.platform room_1 = true :=
  launch0.hasRoom_least _ room_1 (by decide +kernel) (by decide +kernel) (by decide +kernel) (by decide +kernel) (by decide +kernel) (by decide +kernel)
theorem allAtoms_all (ts : List Jvm.Cond) (a : Array Jvm.Value) (st : Jvm.State) : (allAtoms ts).before a st = ts.all (fun c => c.before a st) := by
  induction ts with
  | nil => rfl
  | cons c t ih =>
    show (Jvm.Cond.and c (allAtoms t)).before a st = _
    rw [Jvm.Cond.before_and, ih, List.all_cons]
def words1 : List Jvm.Cond := Jvm.Cond.code x code maxLocals ret :: tables_1
/-- a 'code' word, met by the world's own term for the bytes: nothing is compared byte by byte -/
theorem code_word {y : MethodName} {bytes : ByteArray} {mx : Nat} {rt : Option FieldType} {a : Array Value} {s : State} {m : MethodId} {meth : Method} {c : Code} (h1 : s.methodNamed? y = some m) (h2 : s.vm.method? m = some meth) (h3 : meth.code = some c) (h4 : c.code = bytes)
    (h5 : (c.maxLocals == mx && c.exceptionTable.isEmpty && decide (c.maxStack ≤ mostOperands) && decide (meth.sig.returnType = rt) && !meth.locks && decide (parseMethodDescriptor y.desc = some meth.sig)) = true) : (Jvm.Cond.code y bytes mx rt).before a s = true := by
  simp only [Bool.and_eq_true, beq_iff_eq, Bool.not_eq_true', decide_eq_true_eq] at h5
  obtain ⟨⟨⟨⟨⟨g1, g2⟩, g3⟩, g4⟩, g5⟩, g6⟩ := h5
  simp [Cond.before, Cond.holds, Cond.value, h1, h2, h3, h4, g1, g2, g3, g4, g5, g6]
def isCode : Jvm.Cond → Bool
  | .code _ _ _ _ => true
  | _ => false
theorem all_split {L : List Jvm.Cond} {P : Jvm.Cond → Bool} (h1 : L.all (fun c => isCode c || P c) = true) (h2 : ∀ c ∈ L.filter isCode, P c = true) : L.all P = true := by
  refine List.all_eq_true.mpr fun c hc => ?_
  have h := List.all_eq_true.mp h1 c hc
  rcases Bool.eq_false_or_eq_true (isCode c) with hi | hi
  · exact h2 c (List.mem_filter.mpr ⟨hc, hi⟩)
  · simpa [hi] using h
set_option maxRecDepth 65536 in
theorem w_c0 : (Jvm.Cond.code x code maxLocals ret).before args0 about1 = true := code_word (m := ⟨1, 1⟩) (meth := k1m1) (c := k1c1) (by decide +kernel) rfl rfl rfl (by decide +kernel)
set_option maxRecDepth 65536 in
theorem w_c1 : (Jvm.Cond.code ({ cls := "com/example/abil/abil/core/Threshold", name := "ofBasisPoints", desc := "(I)Lcom/example/abil/abil/core/Threshold;" } : Jvm.MethodName) prog_42_method_2_code (1 : Nat) (Option.some (Jvm.ClassFile.FieldType.object "com/example/abil/abil/core/Threshold"))).before args0 about1 = true := code_word (m := ⟨2, 1⟩) (meth := k2m1) (c := k2c1) (by decide +kernel) rfl rfl rfl (by decide +kernel)
set_option maxRecDepth 65536 in
theorem w_c2 : (Jvm.Cond.code ({ cls := "com/example/abil/abil/core/Threshold", name := "<init>", desc := "(I)V" } : Jvm.MethodName) prog_42_method_1_code (2 : Nat) (Option.none : Option Jvm.ClassFile.FieldType)).before args0 about1 = true := code_word (m := ⟨2, 0⟩) (meth := k2m0) (c := k2c0) (by decide +kernel) rfl rfl rfl (by decide +kernel)
set_option maxRecDepth 65536 in
theorem w_c3 : (Jvm.Cond.code ({ cls := "java/lang/Object", name := "<init>", desc := "()V" } : Jvm.MethodName) object_method_1_code (1 : Nat) (Option.none : Option Jvm.ClassFile.FieldType)).before args0 about1 = true := code_word (m := ⟨0, 0⟩) (meth := k0m0) (c := k0c0) (by decide +kernel) rfl rfl rfl (by decide +kernel)
set_option maxRecDepth 65536 in
theorem w_c4 : (Jvm.Cond.code ({ cls := "com/example/abil/abil/core/Threshold", name := "basisPoints", desc := "()I" } : Jvm.MethodName) prog_42_method_3_code (1 : Nat) (Option.some Jvm.ClassFile.FieldType.int)).before args0 about1 = true := code_word (m := ⟨2, 2⟩) (meth := k2m2) (c := k2c2) (by decide +kernel) rfl rfl rfl (by decide +kernel)
set_option maxRecDepth 65536 in
theorem w_c5 : (Jvm.Cond.code ({ cls := "com/example/abil/abil/core/Threshold", name := "equals", desc := "(Ljava/lang/Object;)Z" } : Jvm.MethodName) prog_42_method_7_code (3 : Nat) (Option.some Jvm.ClassFile.FieldType.boolean)).before args0 about1 = true := code_word (m := ⟨2, 5⟩) (meth := k2m5) (c := k2c5) (by decide +kernel) rfl rfl rfl (by decide +kernel)
set_option maxRecDepth 65536 in
theorem w_c6 : (Jvm.Cond.code ({ cls := "com/example/abil/abil/core/Threshold", name := "isReachedBy", desc := "(JJ)Z" } : Jvm.MethodName) prog_42_method_5_code (7 : Nat) (Option.some Jvm.ClassFile.FieldType.boolean)).before args0 about1 = true := code_word (m := ⟨2, 3⟩) (meth := k2m3) (c := k2c3) (by decide +kernel) rfl rfl rfl (by decide +kernel)
set_option maxRecDepth 65536 in
theorem w_c7 : (Jvm.Cond.code ({ cls := "com/example/abil/abil/core/Threshold", name := "ceilingOfShare", desc := "(J)J" } : Jvm.MethodName) prog_42_method_6_code (3 : Nat) (Option.some Jvm.ClassFile.FieldType.long)).before args0 about1 = true := code_word (m := ⟨2, 4⟩) (meth := k2m4) (c := k2c4) (by decide +kernel) rfl rfl rfl (by decide +kernel)
def codes1 : List Jvm.Cond := [Jvm.Cond.code x code maxLocals ret, Jvm.Cond.code ({ cls := "com/example/abil/abil/core/Threshold", name := "ofBasisPoints", desc := "(I)Lcom/example/abil/abil/core/Threshold;" } : Jvm.MethodName) prog_42_method_2_code (1 : Nat) (Option.some (Jvm.ClassFile.FieldType.object "com/example/abil/abil/core/Threshold")), Jvm.Cond.code ({ cls := "com/example/abil/abil/core/Threshold", name := "<init>", desc := "(I)V" } : Jvm.MethodName) prog_42_method_1_code (2 : Nat) (Option.none : Option Jvm.ClassFile.FieldType), Jvm.Cond.code ({ cls := "java/lang/Object", name := "<init>", desc := "()V" } : Jvm.MethodName) object_method_1_code (1 : Nat) (Option.none : Option Jvm.ClassFile.FieldType), Jvm.Cond.code ({ cls := "com/example/abil/abil/core/Threshold", name := "basisPoints", desc := "()I" } : Jvm.MethodName) prog_42_method_3_code (1 : Nat) (Option.some Jvm.ClassFile.FieldType.int), Jvm.Cond.code ({ cls := "com/example/abil/abil/core/Threshold", name := "equals", desc := "(Ljava/lang/Object;)Z" } : Jvm.MethodName) prog_42_method_7_code (3 : Nat) (Option.some Jvm.ClassFile.FieldType.boolean), Jvm.Cond.code ({ cls := "com/example/abil/abil/core/Threshold", name := "isReachedBy", desc := "(JJ)Z" } : Jvm.MethodName) prog_42_method_5_code (7 : Nat) (Option.some Jvm.ClassFile.FieldType.boolean), Jvm.Cond.code ({ cls := "com/example/abil/abil/core/Threshold", name := "ceilingOfShare", desc := "(J)J" } : Jvm.MethodName) prog_42_method_6_code (3 : Nat) (Option.some Jvm.ClassFile.FieldType.long)]
set_option maxRecDepth 65536 in
theorem codes_eq : words1.filter isCode = codes1 := rfl
theorem w_codes : ∀ c ∈ words1.filter isCode, c.before args0 about1 = true := by
  rw [codes_eq]
  intro c hc
  simp only [codes1, List.mem_cons, List.not_mem_nil, or_false] at hc
  rcases hc with rfl | rfl | rfl | rfl | rfl | rfl | rfl | rfl
  · exact w_c0
  · exact w_c1
  · exact w_c2
  · exact w_c3
  · exact w_c4
  · exact w_c5
  · exact w_c6
  · exact w_c7
set_option maxRecDepth 65536 in
theorem w_t1 : (words1.take 24).all (fun c => isCode c || c.before args0 about1) = true := by decide +kernel
set_option maxRecDepth 65536 in
theorem w_t2 : (words1.drop 24).all (fun c => isCode c || c.before args0 about1) = true := by decide +kernel
theorem w_tables : (allAtoms (Jvm.Cond.code x code maxLocals ret :: tables_1)).before args0 about1 = true := by
  rw [allAtoms_all]
  show words1.all (fun c => c.before args0 about1) = true
  refine all_split ?_ w_codes
  rw [← List.take_append_drop 24 words1, List.all_append, w_t1, w_t2]
  rfl
set_option maxRecDepth 65536 in
theorem w_case : (Jvm.Cond.and given_1 narrow_1).before args0 about1 = true := by decide +kernel
theorem w_applies : (headSpec (Jvm.Cond.code x code maxLocals ret :: tables_1) room_1).applies x e0.platform about1 = true :=
  (Spec.applies_iff w_frames).mpr ⟨w_running, w_runnable, w_alone, w_named, w_hears, w_ripe, w_room, w_tables⟩
theorem atStart : AtStart classFile x code maxLocals ret World_1 tables_1 room_1 Calls_1 rest_1 Pre_1 launch0 p0 e0 about1 theMethod args0 below0 :=
  ⟨lists_1, trivial, launch0.admits_env _ _ _, launch0.least_env, fairChoices_fair.cas, fairChoices_fair.clock, w_frames, w_args, w_heap, w_applies, trivial, trivial, w_case⟩
end start1
theorem witness_1 : WitnessClaimed_1 := ⟨start1.p0, start1.e0, start1.about1, start1.theMethod, start1.args0, start1.below0, start1.atStart⟩
end Jvm.Pilot.@@N@@
