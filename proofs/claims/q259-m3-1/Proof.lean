import JvmDerived
import JvmDerived.Pilot.@@N@@Statement
import JvmDerived.Pilot.@@N@@Code
set_option linter.unusedVariables false
set_option linter.unusedSimpArgs false
namespace Jvm.Pilot.@@N@@
open Jvm Jvm.ClassFile Sem Op Lib Jvm.Free Jvm.Stand Jvm.LawKit Jvm.RoadKit Bundle Jvm.Pilot.@@N@@.Jvm.D
/-! the goal of a walk, carried forward -/
def Goes (p : Program) (e : Env) (below : List Frame) (P : Outcome → State → Prop) (A : State) : Prop :=
  ∃ s₂ o, Steps p.tables e below A s₂ ∧ s₂.status = .running ∧ Ended s₂ below o ∧ P o s₂
theorem Goes.on {p : Program} {e : Env} {below : List Frame} {P : Outcome → State → Prop} {A B : State} (k : ∀ t, Steps p.tables e below B t → Steps p.tables e below A t) (h : Goes p e below P B) : Goes p e below P A := by
  obtain ⟨s₂, o, h1, h2⟩ := h
  exact ⟨s₂, o, k _ h1, h2⟩
theorem Goes.via {p : Program} {e : Env} {below : List Frame} {P : Outcome → State → Prop} {A B : State} (k : Goes p e below P B → Goes p e below P A) (h : Goes p e below P B) : Goes p e below P A := k h
theorem Goes.viaT {p : Program} {e : Env} {below : List Frame} {P : Outcome → State → Prop} {A : State} {Φ : State → Prop} {F : JFrame} (k : (∀ T, Φ T → Goes p e below P (T.setTop F)) → Goes p e below P A) (h : ∀ T, Φ T → Goes p e below P (T.setTop F)) : Goes p e below P A := k h
theorem Goes.leaf {p : Program} {e : Env} {below : List Frame} {P : Outcome → State → Prop} {A t : State} {o : Outcome} (h1 : Steps p.tables e below A t) (h2 : t.status = .running) (h3 : Ended t below o) (h4 : P o t) : Goes p e below P A := ⟨t, o, h1, h2, h3, h4⟩
theorem own_retI {p : Program} {l : Launch} {e : Env} {R : Room} {s : State} {m : MethodId} {args : Array Value} {below : List Frame} {meth : Method} {c : Code} {T : State} {locs : List Loc} {cells slots : Nat} (X : Stand p l e R s m args below meth c T locs cells slots) (hx : p.tables.exec = Jvm.exec) {pc : Nat} {Ls : Array Slot} {z : Int32} {rest : List Value} (hret : meth.sig.returnType = some .int) (hd : decode c.code pc = .ok (.ireturn, 1)) {fs : List Frame}
    (hl : ∀ (f : JFrame) (acts : List Action), f.method = m → f.locked = none → f.entered = [] → (doReturn e (T.setTop f) acts (some (.int z))).1 = T.setFrames fs) : Steps p.tables e below (T.setTop (mkF m pc Ls (.int z :: rest))) (T.setFrames fs) :=
  retOut X hx hret rfl (Or.inl ⟨rfl, Or.inl rfl, z, rfl⟩) hd hl
theorem own_retJ {p : Program} {l : Launch} {e : Env} {R : Room} {s : State} {m : MethodId} {args : Array Value} {below : List Frame} {meth : Method} {c : Code} {T : State} {locs : List Loc} {cells slots : Nat} (X : Stand p l e R s m args below meth c T locs cells slots) (hx : p.tables.exec = Jvm.exec) {pc : Nat} {Ls : Array Slot} {z : Int64} {rest : List Value} (hret : meth.sig.returnType = some .long) (hd : decode c.code pc = .ok (.lreturn, 1)) {fs : List Frame}
    (hl : ∀ (f : JFrame) (acts : List Action), f.method = m → f.locked = none → f.entered = [] → (doReturn e (T.setTop f) acts (some (.long z))).1 = T.setFrames fs) : Steps p.tables e below (T.setTop (mkF m pc Ls (.long z :: rest))) (T.setFrames fs) :=
  retOut X hx hret rfl (Or.inr (Or.inl ⟨rfl, rfl, z, rfl⟩)) hd hl
theorem own_retR {p : Program} {l : Launch} {e : Env} {R : Room} {s : State} {m : MethodId} {args : Array Value} {below : List Frame} {meth : Method} {c : Code} {T : State} {locs : List Loc} {cells slots : Nat} (X : Stand p l e R s m args below meth c T locs cells slots) (hx : p.tables.exec = Jvm.exec) {pc : Nat} {Ls : Array Slot} {z : Addr} {t : FieldType} {rest : List Value} (hret : meth.sig.returnType = some t) (ht : t.isReference = true) (hn : narrow t (.ref z) = .ref z) (hd : decode c.code pc = .ok (.areturn, 1)) {fs : List Frame}
    (hl : ∀ (f : JFrame) (acts : List Action), f.method = m → f.locked = none → f.entered = [] → (doReturn e (T.setTop f) acts (some (.ref z))).1 = T.setFrames fs) : Steps p.tables e below (T.setTop (mkF m pc Ls (.ref z :: rest))) (T.setFrames fs) :=
  retOut X hx hret hn (Or.inr (Or.inr (Or.inr (Or.inr ⟨rfl, ht, rfl⟩)))) hd hl
theorem own_tlt {x y : Int64} (h : x < y) : ifCond.holds .lt (lcmpW x y) = true ∧ ifCond.holds .ge (lcmpW x y) = false := by
  have h1 : ¬ x > y := by rw [gt_iff_lt, Int64.lt_iff_toInt_lt]; rw [Int64.lt_iff_toInt_lt] at h; omega
  have h2 : ¬ x = y := fun q => by subst q; rw [Int64.lt_iff_toInt_lt] at h; omega
  have e : lcmpW x y = -1 := by rw [lcmpW, if_neg h1, if_neg h2]
  rw [e]; exact ⟨rfl, rfl⟩
theorem own_tgt {x y : Int64} (h : y < x) : ifCond.holds .gt (lcmpW x y) = true ∧ ifCond.holds .le (lcmpW x y) = false := by
  have e : lcmpW x y = 1 := by rw [lcmpW, if_pos h]
  rw [e]; exact ⟨rfl, rfl⟩
theorem own_flt {x y : Int64} (h : ¬ x < y) : ifCond.holds .lt (lcmpW x y) = false ∧ ifCond.holds .ge (lcmpW x y) = true := by
  by_cases h1 : x > y
  · have e : lcmpW x y = 1 := by rw [lcmpW, if_pos h1]
    rw [e]; exact ⟨rfl, rfl⟩
  · have h2 : x = y := by
      rw [gt_iff_lt, Int64.lt_iff_toInt_lt] at h1; rw [Int64.lt_iff_toInt_lt] at h; exact Int64.toInt_inj.mp (by omega)
    have e : lcmpW x y = 0 := by rw [lcmpW, if_neg h1, if_pos h2]
    rw [e]; exact ⟨rfl, rfl⟩
theorem own_fgt {x y : Int64} (h : ¬ y < x) : ifCond.holds .gt (lcmpW x y) = false ∧ ifCond.holds .le (lcmpW x y) = true := by
  by_cases h2 : x = y
  · have e : lcmpW x y = 0 := by rw [lcmpW, if_neg h, if_pos h2]
    rw [e]; exact ⟨rfl, rfl⟩
  · have e : lcmpW x y = -1 := by rw [lcmpW, if_neg h, if_neg h2]
    rw [e]; exact ⟨rfl, rfl⟩
theorem own_teq {x y : Int64} (h : x = y) : ifCond.holds .eq (lcmpW x y) = true ∧ ifCond.holds .ne (lcmpW x y) = false := by
  have h1 : ¬ x > y := by subst h; rw [gt_iff_lt, Int64.lt_iff_toInt_lt]; omega
  have e : lcmpW x y = 0 := by rw [lcmpW, if_neg h1, if_pos h]
  rw [e]; exact ⟨rfl, rfl⟩
theorem own_feq {x y : Int64} (h : ¬ x = y) : ifCond.holds .eq (lcmpW x y) = false ∧ ifCond.holds .ne (lcmpW x y) = true := by
  by_cases h1 : x > y
  · have e : lcmpW x y = 1 := by rw [lcmpW, if_pos h1]
    rw [e]; exact ⟨rfl, rfl⟩
  · have e : lcmpW x y = -1 := by rw [lcmpW, if_neg h1, if_neg h]
    rw [e]; exact ⟨rfl, rfl⟩
def own_ovf (p0 : Int64) (p1 : Int64) (p2 : Int64) : Int32 := (if ((p0 ^^^ p2) &&& (p1 ^^^ p2)) < (0 : Int64) then (1 : Int32) else (0 : Int32))
theorem d1_0 : decode method_2_code 0 = .ok (.lload_n 0, 1) := by decide +kernel
theorem d1_1 : decode method_2_code 1 = .ok (.lload 4, 2) := by decide +kernel
theorem d1_3 : decode method_2_code 3 = .ok (.lxor, 1) := by decide +kernel
theorem d1_4 : decode method_2_code 4 = .ok (.lload_n 2, 1) := by decide +kernel
theorem d1_5 : decode method_2_code 5 = .ok (.lload 4, 2) := by decide +kernel
theorem d1_7 : decode method_2_code 7 = .ok (.lxor, 1) := by decide +kernel
theorem d1_8 : decode method_2_code 8 = .ok (.land, 1) := by decide +kernel
theorem d1_9 : decode method_2_code 9 = .ok (.lconst 0, 1) := by decide +kernel
theorem d1_10 : decode method_2_code 10 = .ok (.lcmp, 1) := by decide +kernel
theorem d1_11 : decode method_2_code 11 = .ok (.ifCond .ge 7, 3) := by decide +kernel
theorem d1_14 : decode method_2_code 14 = .ok (.iconst 1, 1) := by decide +kernel
theorem d1_15 : decode method_2_code 15 = .ok (.goto 4, 3) := by decide +kernel
theorem d1_18 : decode method_2_code 18 = .ok (.iconst 0, 1) := by decide +kernel
theorem d1_19 : decode method_2_code 19 = .ok (.ireturn, 1) := by decide +kernel
theorem pn_1 : plainName "com/example/abil/abil/core/TaxedPlusPinLaw" = true := by first | (simp [plainName, overriddenIn]; done) | decide +kernel
theorem ef_v (m : MethodId) (x0 : Int64) (x1 : Int64) (x2 : Int64) : entryFrame m #[(.long x0), (.long x1), (.long x2)] 6 = mkF m 0 #[.val (.long x0), .second, .val (.long x1), .second, .val (.long x2), .second] [] := by first | (simp [entryFrame, mkF, argsToLocals, Value.category]; done) | rfl
def Qv (Z : State) (p0 : Int64) (p1 : Int64) (p2 : Int64)  (h0 : Heap) (n0 : Nat) (v : Option Value) (h : Heap) (L : List Loc) : Prop := v = some (.int (own_ovf p0 p1 p2)) ∧ Fr n0 L ∧ h = h0
set_option maxRecDepth 65536 in
set_option maxHeartbeats 40000000 in
theorem rmv (l : Launch) (Z : State) (a0 : Array Value) (hw : ∀ d ∈ tables_1, d.before a0 Z = true) (ws : List Jvm.Cond) (p0 : Int64) (p1 : Int64) (p2 : Int64)  (h0 : Heap) (n0 : Nat) (Z0 : n0 ≤ h0.size)  :
    MetFree l (⟨"com/example/abil/abil/core/TaxedPlusPinLaw", "ovf", "(JJJ)Z"⟩ : MethodName) (head1 (Jvm.Cond.code (⟨"com/example/abil/abil/core/TaxedPlusPinLaw", "ovf", "(JJJ)Z"⟩ : MethodName) method_2_code 6 (some .boolean) :: ws) ({ frames := 0, cells := 0, slots := 0, locals := 0 } : Room)) (fun aa U => aa = #[(.long p0), (.long p1), (.long p2)] ∧ Z.Warmed39 U.vm ∧ U.heap = h0) (fun _ _ _ _ _ => True) (fun _ U oo U' => ∃ vv LL, oo = .returned vv ∧ Qv Z p0 p1 p2 h0 n0 vv U'.heap LL ∧ FrameEnd U oo U' LL ({ frames := 0, cells := 0, slots := 0, locals := 0 } : Room).cells ({ frames := 0, cells := 0, slots := 0, locals := 0 } : Room).slots) := by
  refine MetFree.of_bodySF (plainFor_of_name pn_1) hisR ?_
  intro p e s m args below meth c s₁ Bd hml0 hP hK
  obtain ⟨rfl, hZ, hh⟩ := hP
  have hx := Bd.exec
  have hby := Bd.bytes
  have hml : c.maxLocals = 6 := hml0
  have hown : s.vm.findClass "com/example/abil/abil/core/TaxedPlusPinLaw" = some m.cls := findClass_of_methodNamed Bd.named
  have hnm := (name_of_methodNamed Bd.named Bd.method).1
  have X0 : Stand p l e ({ frames := 0, cells := 0, slots := 0, locals := 0 } : Room) s m #[(.long p0), (.long p1), (.long p2)] below meth c s₁ [] 0 0 := Stand.of_body Bd
  have e0 : s₁.heap = h0 := by rw [← hh, Bd.state]; rfl
  have N0 := Fr.nil n0
  show Goes p e below _ (s₁.setTop (entryFrame m #[(.long p0), (.long p1), (.long p2)] 6))
  refine Goes.on (B := s₁.setTop (mkF m 0 #[.val (.long p0), .second, .val (.long p1), .second, .val (.long p2), .second] [])) (fun t k => castTop (ef_v m p0 p1 p2) k) ?_
  refine Goes.on (B := s₁.setTop (mkF m 1 #[.val (.long p0), .second, .val (.long p1), .second, .val (.long p2), .second] [(.long p0)])) (fun _ k => XS.lloadN X0.here hx rfl (hb hby d1_0) rfl  k) ?_
  refine Goes.on (B := s₁.setTop (mkF m 3 #[.val (.long p0), .second, .val (.long p1), .second, .val (.long p2), .second] [(.long p2), (.long p0)])) (fun _ k => XS.lload X0.here hx rfl (hb hby d1_1) rfl  k) ?_
  refine Goes.on (B := s₁.setTop (mkF m 4 #[.val (.long p0), .second, .val (.long p1), .second, .val (.long p2), .second] [(.long (p0 ^^^ p2))])) (fun _ k => XS.lxor X0.here hx rfl (hb hby d1_3) rfl k) ?_
  refine Goes.on (B := s₁.setTop (mkF m 5 #[.val (.long p0), .second, .val (.long p1), .second, .val (.long p2), .second] [(.long p1), (.long (p0 ^^^ p2))])) (fun _ k => XS.lloadN X0.here hx rfl (hb hby d1_4) rfl  k) ?_
  refine Goes.on (B := s₁.setTop (mkF m 7 #[.val (.long p0), .second, .val (.long p1), .second, .val (.long p2), .second] [(.long p2), (.long p1), (.long (p0 ^^^ p2))])) (fun _ k => XS.lload X0.here hx rfl (hb hby d1_5) rfl  k) ?_
  refine Goes.on (B := s₁.setTop (mkF m 8 #[.val (.long p0), .second, .val (.long p1), .second, .val (.long p2), .second] [(.long (p1 ^^^ p2)), (.long (p0 ^^^ p2))])) (fun _ k => XS.lxor X0.here hx rfl (hb hby d1_7) rfl k) ?_
  refine Goes.on (B := s₁.setTop (mkF m 9 #[.val (.long p0), .second, .val (.long p1), .second, .val (.long p2), .second] [(.long ((p0 ^^^ p2) &&& (p1 ^^^ p2)))])) (fun _ k => XS.land X0.here hx rfl (hb hby d1_8) rfl k) ?_
  refine Goes.on (B := s₁.setTop (mkF m 10 #[.val (.long p0), .second, .val (.long p1), .second, .val (.long p2), .second] [(.long (0 : Int64)), (.long ((p0 ^^^ p2) &&& (p1 ^^^ p2)))])) (fun _ k => XS.lconst X0.here hx rfl (hb hby d1_9) k) ?_
  refine Goes.on (B := s₁.setTop (mkF m 11 #[.val (.long p0), .second, .val (.long p1), .second, .val (.long p2), .second] [(.int (lcmpW ((p0 ^^^ p2) &&& (p1 ^^^ p2)) (0 : Int64)))])) (fun _ k => XS.lcmp X0.here hx rfl (hb hby d1_10) rfl k) ?_
  by_cases hc11_1 : ((p0 ^^^ p2) &&& (p1 ^^^ p2)) < (0 : Int64)
  · refine Goes.on (B := s₁.setTop (mkF m 14 #[.val (.long p0), .second, .val (.long p1), .second, .val (.long p2), .second] [])) (fun _ k => XS.ifNo X0.here hx rfl (hb hby d1_11) rfl (own_tlt hc11_1).2 k) ?_
    refine Goes.on (B := s₁.setTop (mkF m 15 #[.val (.long p0), .second, .val (.long p1), .second, .val (.long p2), .second] [(.int (1 : Int32))])) (fun _ k => XS.iconst X0.here hx rfl (hb hby d1_14) k) ?_
    refine Goes.on (B := s₁.setTop (mkF m 19 #[.val (.long p0), .second, .val (.long p1), .second, .val (.long p2), .second] [(.int (1 : Int32))])) (fun _ k => XS.goto X0.here hx rfl (pc0 := 15) (pc' := 19) rfl (hb hby d1_15) (by decide) (by decide) k) ?_
    obtain ⟨fs, hr, hrun, hended, hW, hsame⟩ := X0.leave (v := some (.int (1 : Int32))) (fun h => by rw [Bd.returns] at h; cases h)
    exact Goes.leaf (retN X0 hx (t := .boolean) Bd.returns (by simp) (hb hby d1_19) hr) hrun hended ⟨_, _, rfl, by show Qv Z p0 p1 p2 h0 n0 _ s₁.heap _; rw [e0]; exact ⟨by rw [own_ovf, if_pos hc11_1], N0, rfl⟩, ⟨_, rfl⟩, hW, hsame.mono (by decide) (by decide)⟩
  · refine Goes.on (B := s₁.setTop (mkF m 18 #[.val (.long p0), .second, .val (.long p1), .second, .val (.long p2), .second] [])) (fun _ k => XS.ifYes X0.here hx rfl (pc0 := 11) (pc' := 18) rfl (hb hby d1_11) rfl (own_flt hc11_1).2 (by decide) (by decide) k) ?_
    refine Goes.on (B := s₁.setTop (mkF m 19 #[.val (.long p0), .second, .val (.long p1), .second, .val (.long p2), .second] [(.int (0 : Int32))])) (fun _ k => XS.iconst X0.here hx rfl (hb hby d1_18) k) ?_
    obtain ⟨fs, hr, hrun, hended, hW, hsame⟩ := X0.leave (v := some (.int (0 : Int32))) (fun h => by rw [Bd.returns] at h; cases h)
    exact Goes.leaf (retN X0 hx (t := .boolean) Bd.returns (by simp) (hb hby d1_19) hr) hrun hended ⟨_, _, rfl, by show Qv Z p0 p1 p2 h0 n0 _ s₁.heap _; rw [e0]; exact ⟨by rw [own_ovf, if_neg hc11_1], N0, rfl⟩, ⟨_, rfl⟩, hW, hsame.mono (by decide) (by decide)⟩
theorem own_no {x y z : Int64} (h : own_ovf x y z = 0) : ¬ (((x ^^^ z) &&& (y ^^^ z)) < (0 : Int64)) := fun q => by
  unfold own_ovf at h; rw [if_pos q] at h; exact absurd h (by decide)
theorem d4_0 : decode jdk_29_method_25_code 0 = .ok (.lload_n 0, 1) := by decide +kernel
theorem d4_1 : decode jdk_29_method_25_code 1 = .ok (.lload_n 2, 1) := by decide +kernel
theorem d4_2 : decode jdk_29_method_25_code 2 = .ok (.ladd, 1) := by decide +kernel
theorem d4_3 : decode jdk_29_method_25_code 3 = .ok (.lstore 4, 2) := by decide +kernel
theorem d4_5 : decode jdk_29_method_25_code 5 = .ok (.lload_n 0, 1) := by decide +kernel
theorem d4_6 : decode jdk_29_method_25_code 6 = .ok (.lload 4, 2) := by decide +kernel
theorem d4_8 : decode jdk_29_method_25_code 8 = .ok (.lxor, 1) := by decide +kernel
theorem d4_9 : decode jdk_29_method_25_code 9 = .ok (.lload_n 2, 1) := by decide +kernel
theorem d4_10 : decode jdk_29_method_25_code 10 = .ok (.lload 4, 2) := by decide +kernel
theorem d4_12 : decode jdk_29_method_25_code 12 = .ok (.lxor, 1) := by decide +kernel
theorem d4_13 : decode jdk_29_method_25_code 13 = .ok (.land, 1) := by decide +kernel
theorem d4_14 : decode jdk_29_method_25_code 14 = .ok (.lconst 0, 1) := by decide +kernel
theorem d4_15 : decode jdk_29_method_25_code 15 = .ok (.lcmp, 1) := by decide +kernel
theorem d4_16 : decode jdk_29_method_25_code 16 = .ok (.ifCond .ge 13, 3) := by decide +kernel
theorem d4_29 : decode jdk_29_method_25_code 29 = .ok (.lload 4, 2) := by decide +kernel
theorem d4_31 : decode jdk_29_method_25_code 31 = .ok (.lreturn, 1) := by decide +kernel
theorem ef_x (m : MethodId) (x0 : Int64) (x1 : Int64) : entryFrame m #[(.long x0), (.long x1)] 6 = mkF m 0 #[.val (.long x0), .second, .val (.long x1), .second, .unset, .unset] [] := by first | (simp [entryFrame, mkF, argsToLocals, Value.category]; done) | rfl
def Qx (Z : State) (p0 : Int64) (p1 : Int64)  (h0 : Heap) (n0 : Nat) (v : Option Value) (h : Heap) (L : List Loc) : Prop := v = some (.long (p0 + p1)) ∧ Fr n0 L ∧ h = h0
set_option maxRecDepth 65536 in
set_option maxHeartbeats 40000000 in
theorem rmx (l : Launch) (Z : State) (a0 : Array Value) (hw : ∀ d ∈ tables_1, d.before a0 Z = true) (ws : List Jvm.Cond) (p0 : Int64) (p1 : Int64)  (h0 : Heap) (n0 : Nat) (Z0 : n0 ≤ h0.size) (hno : ¬ (((p0 ^^^ (p0 + p1)) &&& (p1 ^^^ (p0 + p1))) < (0 : Int64))) :
    MetFree l (⟨"java/lang/Math", "addExact", "(JJ)J"⟩ : MethodName) (head1 (Jvm.Cond.code (⟨"java/lang/Math", "addExact", "(JJ)J"⟩ : MethodName) jdk_29_method_25_code 6 (some .long) :: ws) ({ frames := 0, cells := 0, slots := 0, locals := 0 } : Room)) (fun aa U => aa = #[(.long p0), (.long p1)] ∧ Z.Warmed39 U.vm ∧ U.heap = h0) (fun _ _ _ _ _ => True) (fun _ U oo U' => ∃ vv LL, oo = .returned vv ∧ Qx Z p0 p1 h0 n0 vv U'.heap LL ∧ FrameEnd U oo U' LL ({ frames := 0, cells := 0, slots := 0, locals := 0 } : Room).cells ({ frames := 0, cells := 0, slots := 0, locals := 0 } : Room).slots) := by
  refine MetFree.of_bodySF (Jvm.Free.JP.mathPlain rfl (by decide +kernel)) hisR ?_
  intro p e s m args below meth c s₁ Bd hml0 hP hK
  obtain ⟨rfl, hZ, hh⟩ := hP
  have hx := Bd.exec
  have hby := Bd.bytes
  have hml : c.maxLocals = 6 := hml0
  have hown : s.vm.findClass "java/lang/Math" = some m.cls := findClass_of_methodNamed Bd.named
  have hnm := (name_of_methodNamed Bd.named Bd.method).1
  have X0 : Stand p l e ({ frames := 0, cells := 0, slots := 0, locals := 0 } : Room) s m #[(.long p0), (.long p1)] below meth c s₁ [] 0 0 := Stand.of_body Bd
  have e0 : s₁.heap = h0 := by rw [← hh, Bd.state]; rfl
  have N0 := Fr.nil n0
  show Goes p e below _ (s₁.setTop (entryFrame m #[(.long p0), (.long p1)] 6))
  refine Goes.on (B := s₁.setTop (mkF m 0 #[.val (.long p0), .second, .val (.long p1), .second, .unset, .unset] [])) (fun t k => castTop (ef_x m p0 p1) k) ?_
  refine Goes.on (B := s₁.setTop (mkF m 1 #[.val (.long p0), .second, .val (.long p1), .second, .unset, .unset] [(.long p0)])) (fun _ k => XS.lloadN X0.here hx rfl (hb hby d4_0) rfl  k) ?_
  refine Goes.on (B := s₁.setTop (mkF m 2 #[.val (.long p0), .second, .val (.long p1), .second, .unset, .unset] [(.long p1), (.long p0)])) (fun _ k => XS.lloadN X0.here hx rfl (hb hby d4_1) rfl  k) ?_
  refine Goes.on (B := s₁.setTop (mkF m 3 #[.val (.long p0), .second, .val (.long p1), .second, .unset, .unset] [(.long (p0 + p1))])) (fun _ k => XS.ladd X0.here hx rfl (hb hby d4_2) rfl k) ?_
  refine Goes.on (B := s₁.setTop (mkF m 5 #[.val (.long p0), .second, .val (.long p1), .second, .val (.long (p0 + p1)), .second] [])) (fun _ k => XS.lstore X0.here hx rfl (hb hby d4_3) rfl (l' := #[.val (.long p0), .second, .val (.long p1), .second, .val (.long (p0 + p1)), .second]) rfl k) ?_
  refine Goes.on (B := s₁.setTop (mkF m 6 #[.val (.long p0), .second, .val (.long p1), .second, .val (.long (p0 + p1)), .second] [(.long p0)])) (fun _ k => XS.lloadN X0.here hx rfl (hb hby d4_5) rfl  k) ?_
  refine Goes.on (B := s₁.setTop (mkF m 8 #[.val (.long p0), .second, .val (.long p1), .second, .val (.long (p0 + p1)), .second] [(.long (p0 + p1)), (.long p0)])) (fun _ k => XS.lload X0.here hx rfl (hb hby d4_6) rfl  k) ?_
  refine Goes.on (B := s₁.setTop (mkF m 9 #[.val (.long p0), .second, .val (.long p1), .second, .val (.long (p0 + p1)), .second] [(.long (p0 ^^^ (p0 + p1)))])) (fun _ k => XS.lxor X0.here hx rfl (hb hby d4_8) rfl k) ?_
  refine Goes.on (B := s₁.setTop (mkF m 10 #[.val (.long p0), .second, .val (.long p1), .second, .val (.long (p0 + p1)), .second] [(.long p1), (.long (p0 ^^^ (p0 + p1)))])) (fun _ k => XS.lloadN X0.here hx rfl (hb hby d4_9) rfl  k) ?_
  refine Goes.on (B := s₁.setTop (mkF m 12 #[.val (.long p0), .second, .val (.long p1), .second, .val (.long (p0 + p1)), .second] [(.long (p0 + p1)), (.long p1), (.long (p0 ^^^ (p0 + p1)))])) (fun _ k => XS.lload X0.here hx rfl (hb hby d4_10) rfl  k) ?_
  refine Goes.on (B := s₁.setTop (mkF m 13 #[.val (.long p0), .second, .val (.long p1), .second, .val (.long (p0 + p1)), .second] [(.long (p1 ^^^ (p0 + p1))), (.long (p0 ^^^ (p0 + p1)))])) (fun _ k => XS.lxor X0.here hx rfl (hb hby d4_12) rfl k) ?_
  refine Goes.on (B := s₁.setTop (mkF m 14 #[.val (.long p0), .second, .val (.long p1), .second, .val (.long (p0 + p1)), .second] [(.long ((p0 ^^^ (p0 + p1)) &&& (p1 ^^^ (p0 + p1))))])) (fun _ k => XS.land X0.here hx rfl (hb hby d4_13) rfl k) ?_
  refine Goes.on (B := s₁.setTop (mkF m 15 #[.val (.long p0), .second, .val (.long p1), .second, .val (.long (p0 + p1)), .second] [(.long (0 : Int64)), (.long ((p0 ^^^ (p0 + p1)) &&& (p1 ^^^ (p0 + p1))))])) (fun _ k => XS.lconst X0.here hx rfl (hb hby d4_14) k) ?_
  refine Goes.on (B := s₁.setTop (mkF m 16 #[.val (.long p0), .second, .val (.long p1), .second, .val (.long (p0 + p1)), .second] [(.int (lcmpW ((p0 ^^^ (p0 + p1)) &&& (p1 ^^^ (p0 + p1))) (0 : Int64)))])) (fun _ k => XS.lcmp X0.here hx rfl (hb hby d4_15) rfl k) ?_
  refine Goes.on (B := s₁.setTop (mkF m 29 #[.val (.long p0), .second, .val (.long p1), .second, .val (.long (p0 + p1)), .second] [])) (fun _ k => XS.ifYes X0.here hx rfl (pc0 := 16) (pc' := 29) rfl (hb hby d4_16) rfl (own_flt hno).2 (by decide) (by decide) k) ?_
  refine Goes.on (B := s₁.setTop (mkF m 31 #[.val (.long p0), .second, .val (.long p1), .second, .val (.long (p0 + p1)), .second] [(.long (p0 + p1))])) (fun _ k => XS.lload X0.here hx rfl (hb hby d4_29) rfl  k) ?_
  obtain ⟨fs, hr, hrun, hended, hW, hsame⟩ := X0.leave (v := some (.long (p0 + p1))) (fun h => by rw [Bd.returns] at h; cases h)
  exact Goes.leaf (own_retJ X0 hx Bd.returns (hb hby d4_31) hr) hrun hended ⟨_, _, rfl, by show Qx Z p0 p1 h0 n0 _ s₁.heap _; rw [e0]; exact ⟨rfl, N0, rfl⟩, ⟨_, rfl⟩, hW, hsame.mono (by decide) (by decide)⟩
theorem d2_0 : decode prog_40_method_1_code 0 = .ok (.aload_n 0, 1) := by decide +kernel
theorem d2_1 : decode prog_40_method_1_code 1 = .ok (.invokespecial 1, 3) := by decide +kernel
theorem d2_4 : decode prog_40_method_1_code 4 = .ok (.aload_n 0, 1) := by decide +kernel
theorem d2_5 : decode prog_40_method_1_code 5 = .ok (.lload_n 1, 1) := by decide +kernel
theorem d2_6 : decode prog_40_method_1_code 6 = .ok (.putfield 7, 3) := by decide +kernel
theorem d2_9 : decode prog_40_method_1_code 9 = .ok (.aload_n 0, 1) := by decide +kernel
theorem d2_10 : decode prog_40_method_1_code 10 = .ok (.lload_n 3, 1) := by decide +kernel
theorem d2_11 : decode prog_40_method_1_code 11 = .ok (.putfield 13, 3) := by decide +kernel
theorem d2_14 : decode prog_40_method_1_code 14 = .ok (.aload_n 0, 1) := by decide +kernel
theorem d2_15 : decode prog_40_method_1_code 15 = .ok (.lload_n 1, 1) := by decide +kernel
theorem d2_16 : decode prog_40_method_1_code 16 = .ok (.lload_n 3, 1) := by decide +kernel
theorem d2_17 : decode prog_40_method_1_code 17 = .ok (.invokestatic 16, 3) := by decide +kernel
theorem d2_20 : decode prog_40_method_1_code 20 = .ok (.putfield 22, 3) := by decide +kernel
theorem d2_23 : decode prog_40_method_1_code 23 = .ok (.return_, 1) := by decide +kernel
theorem pn_2 : plainName "com/example/abil/abil/core/Taxed" = true := by first | (simp [plainName, overriddenIn]; done) | decide +kernel
theorem pd_2__JJ_J : parseMethodDescriptor "(JJ)J" = some ⟨[.long, .long], some .long⟩ := by decide +kernel
theorem ef_i (m : MethodId) (x0 : Addr) (x1 : Int64) (x2 : Int64) : entryFrame m #[(.ref x0), (.long x1), (.long x2)] 5 = mkF m 0 #[.val (.ref x0), .val (.long x1), .second, .val (.long x2), .second] [] := by first | (simp [entryFrame, mkF, argsToLocals, Value.category]; done) | rfl
def Qi (Z : State) (a : Addr) (p1 : Int64) (p2 : Int64)  (h0 : Heap) (n0 : Nat) (v : Option Value) (h : Heap) (L : List Loc) : Prop := v = none ∧ Fr n0 L ∧ Keep h0 h [a] ∧ Exa Z h a "com/example/abil/abil/core/Taxed" ∧ Fld Z h a "com/example/abil/abil/core/Taxed" "pretax" "J" (.long p1) ∧ Fld Z h a "com/example/abil/abil/core/Taxed" "tax" "J" (.long p2) ∧ Fld Z h a "com/example/abil/abil/core/Taxed" "total" "J" (.long (p1 + p2))
set_option maxRecDepth 65536 in
set_option maxHeartbeats 40000000 in
theorem rmi (l : Launch) (Z : State) (a0 : Array Value) (hw : ∀ d ∈ tables_1, d.before a0 Z = true) (ws : List Jvm.Cond) (a : Addr) (p1 : Int64) (p2 : Int64)  (h0 : Heap) (n0 : Nat) (Z0 : n0 ≤ h0.size) (F0 : Fld Z h0 a "com/example/abil/abil/core/Taxed" "pretax" "J" (.long (0 : Int64))) (F1 : Fld Z h0 a "com/example/abil/abil/core/Taxed" "tax" "J" (.long (0 : Int64))) (F2 : Fld Z h0 a "com/example/abil/abil/core/Taxed" "total" "J" (.long (0 : Int64))) (E0 : Exa Z h0 a "com/example/abil/abil/core/Taxed") (ga : n0 ≤ a) (hno : ¬ (((p1 ^^^ (p1 + p2)) &&& (p2 ^^^ (p1 + p2))) < (0 : Int64))) :
    MetFree l (⟨"com/example/abil/abil/core/Taxed", "<init>", "(JJ)V"⟩ : MethodName) (head1 (Jvm.Cond.code (⟨"com/example/abil/abil/core/Taxed", "<init>", "(JJ)V"⟩ : MethodName) prog_40_method_1_code 5 none :: ws) ({ frames := 1, cells := 0, slots := 0, locals := 18 } : Room)) (fun aa U => aa = #[(.ref a), (.long p1), (.long p2)] ∧ Z.Warmed39 U.vm ∧ U.heap = h0) (fun _ _ _ _ _ => True) (fun _ U oo U' => ∃ vv LL, oo = .returned vv ∧ Qi Z a p1 p2 h0 n0 vv U'.heap LL ∧ FrameEnd U oo U' LL ({ frames := 1, cells := 0, slots := 0, locals := 18 } : Room).cells ({ frames := 1, cells := 0, slots := 0, locals := 18 } : Room).slots) := by
  refine MetFree.of_bodySF (plainFor_of_name pn_2) hisR ?_
  intro p e s m args below meth c s₁ Bd hml0 hP hK
  obtain ⟨rfl, hZ, hh⟩ := hP
  have hx := Bd.exec
  have hby := Bd.bytes
  have hml : c.maxLocals = 5 := hml0
  have hown : s.vm.findClass "com/example/abil/abil/core/Taxed" = some m.cls := findClass_of_methodNamed Bd.named
  have hnm := (name_of_methodNamed Bd.named Bd.method).1
  have X0 : Stand p l e ({ frames := 1, cells := 0, slots := 0, locals := 18 } : Room) s m #[(.ref a), (.long p1), (.long p2)] below meth c s₁ [] 0 0 := Stand.of_body Bd
  have e0 : s₁.heap = h0 := by rw [← hh, Bd.state]; rfl
  have N0 := Fr.nil n0
  show Goes p e below _ (s₁.setTop (entryFrame m #[(.ref a), (.long p1), (.long p2)] 5))
  refine Goes.on (B := s₁.setTop (mkF m 0 #[.val (.ref a), .val (.long p1), .second, .val (.long p2), .second] [])) (fun t k => castTop (ef_i m a p1 p2) k) ?_
  refine Goes.on (B := s₁.setTop (mkF m 1 #[.val (.ref a), .val (.long p1), .second, .val (.long p2), .second] [(.ref a)])) (fun _ k => XS.aloadN X0.here hx rfl (hb hby d2_0) rfl rfl  k) ?_
  obtain ⟨T1, X1, e1, st1⟩ := initO X0 hx hZ hown (hw _ (List.mem_of_getElem? (i := 10) rfl)) (hw _ (List.mem_of_getElem? (i := 11) rfl)) (hw _ (List.mem_of_getElem? (i := 12) rfl)) e0 (g := (mkF m 1 #[.val (.ref a), .val (.long p1), .second, .val (.long p2), .second] [(.ref a)])) rfl (by rw [hml]; rfl) rfl (hb hby d2_1) (by decide) (W := 0) (by show 2 * 0 + _ ≤ _; exact Nat.le_of_eq rfl) (by decide)
  refine Goes.on (B := T1.setTop (mkF m 4 #[.val (.ref a), .val (.long p1), .second, .val (.long p2), .second] [])) (fun t k => st1 t k) ?_
  refine Goes.on (B := T1.setTop (mkF m 5 #[.val (.ref a), .val (.long p1), .second, .val (.long p2), .second] [(.ref a)])) (fun _ k => XS.aloadN X1.here hx rfl (hb hby d2_4) rfl rfl  k) ?_
  refine Goes.on (B := T1.setTop (mkF m 6 #[.val (.ref a), .val (.long p1), .second, .val (.long p2), .second] [(.long p1), (.ref a)])) (fun _ k => XS.lloadN X1.here hx rfl (hb hby d2_5) rfl  k) ?_
  obtain ⟨T2, h2, X2, e2, W2, st2⟩ := putF X1 hx hZ hown (host := "") (Or.inl (hw _ (List.mem_of_getElem? (i := 13) rfl))) Via.refl e1 F0 E0 (Or.inr ⟨(hw _ (List.mem_of_getElem? (i := 14) rfl)), rfl, hnm⟩) (hw _ (List.mem_of_getElem? (i := 5) rfl)) (ty := .long) (by decide) rfl rfl (g := (mkF m 6 #[.val (.ref a), .val (.long p1), .second, .val (.long p2), .second] [(.long p1), (.ref a)])) rfl rfl (hb hby d2_6)
  have f3 := E0.wr W2
  have f4 := F0.same W2
  have f5 := F1.other W2 (Or.inr (slot_ne (Or.inr (hw _ (List.mem_of_getElem? (i := 16) rfl))) (Or.inr (hw _ (List.mem_of_getElem? (i := 14) rfl))) (by decide) (t := .long) (t' := .long) (by decide) (by decide)))
  have f6 := F2.other W2 (Or.inr (slot_ne (Or.inr (hw _ (List.mem_of_getElem? (i := 22) rfl))) (Or.inr (hw _ (List.mem_of_getElem? (i := 14) rfl))) (by decide) (t := .long) (t' := .long) (by decide) (by decide)))
  have z7 : n0 ≤ h2.size := Nat.le_trans Z0 (Keep.of_wr W2).1
  have K8 : Keep h0 h2 [a] := (Keep.refl h0 [a]).wr W2 (Or.inl (List.mem_of_getElem? (i := 0) rfl))
  have N2 := Fr.snoc X2 N0 ga
  refine Goes.on (B := T2.setTop (mkF m 9 #[.val (.ref a), .val (.long p1), .second, .val (.long p2), .second] [])) (fun t k => st2 t k) ?_
  refine Goes.on (B := T2.setTop (mkF m 10 #[.val (.ref a), .val (.long p1), .second, .val (.long p2), .second] [(.ref a)])) (fun _ k => XS.aloadN X2.here hx rfl (hb hby d2_9) rfl rfl  k) ?_
  refine Goes.on (B := T2.setTop (mkF m 11 #[.val (.ref a), .val (.long p1), .second, .val (.long p2), .second] [(.long p2), (.ref a)])) (fun _ k => XS.lloadN X2.here hx rfl (hb hby d2_10) rfl  k) ?_
  obtain ⟨T9, h9, X9, e9, W9, st9⟩ := putF X2 hx hZ hown (host := "") (Or.inl (hw _ (List.mem_of_getElem? (i := 15) rfl))) Via.refl e2 f5 f3 (Or.inr ⟨(hw _ (List.mem_of_getElem? (i := 16) rfl)), rfl, hnm⟩) (hw _ (List.mem_of_getElem? (i := 5) rfl)) (ty := .long) (by decide) rfl rfl (g := (mkF m 11 #[.val (.ref a), .val (.long p1), .second, .val (.long p2), .second] [(.long p2), (.ref a)])) rfl rfl (hb hby d2_11)
  have f10 := f3.wr W9
  have f11 := f4.other W9 (Or.inr (slot_ne (Or.inr (hw _ (List.mem_of_getElem? (i := 14) rfl))) (Or.inr (hw _ (List.mem_of_getElem? (i := 16) rfl))) (by decide) (t := .long) (t' := .long) (by decide) (by decide)))
  have f12 := f5.same W9
  have f13 := f6.other W9 (Or.inr (slot_ne (Or.inr (hw _ (List.mem_of_getElem? (i := 22) rfl))) (Or.inr (hw _ (List.mem_of_getElem? (i := 16) rfl))) (by decide) (t := .long) (t' := .long) (by decide) (by decide)))
  have z14 : n0 ≤ h9.size := Nat.le_trans z7 (Keep.of_wr W9).1
  have K15 : Keep h0 h9 [a] := K8.wr W9 (Or.inl (List.mem_of_getElem? (i := 0) rfl))
  have N9 := Fr.snoc X9 N2 ga
  refine Goes.on (B := T9.setTop (mkF m 14 #[.val (.ref a), .val (.long p1), .second, .val (.long p2), .second] [])) (fun t k => st9 t k) ?_
  refine Goes.on (B := T9.setTop (mkF m 15 #[.val (.ref a), .val (.long p1), .second, .val (.long p2), .second] [(.ref a)])) (fun _ k => XS.aloadN X9.here hx rfl (hb hby d2_14) rfl rfl  k) ?_
  refine Goes.on (B := T9.setTop (mkF m 16 #[.val (.ref a), .val (.long p1), .second, .val (.long p2), .second] [(.long p1), (.ref a)])) (fun _ k => XS.lloadN X9.here hx rfl (hb hby d2_15) rfl  k) ?_
  refine Goes.on (B := T9.setTop (mkF m 17 #[.val (.ref a), .val (.long p1), .second, .val (.long p2), .second] [(.long p2), (.long p1), (.ref a)])) (fun _ k => XS.lloadN X9.here hx rfl (hb hby d2_16) rfl  k) ?_
  obtain ⟨_, _, ⟨T16, L16, k16, n16⟩, -, X16, ⟨Lc16, hQ16, l16, y16, z16⟩, st16⟩ := Jvm.LawKit.callS X9 hx (y := (⟨"java/lang/Math", "addExact", "(JJ)J"⟩ : MethodName)) hown (mvT hZ (hw _ (List.mem_of_getElem? (i := 17) rfl))) (mvT hZ (hw _ (List.mem_of_getElem? (i := 18) rfl))) (mvT hZ (hw _ (List.mem_of_getElem? (i := 19) rfl))) (mvT hZ (hw _ (List.mem_of_getElem? (i := 20) rfl))) (by decide) (backOf (W := 1) (rmx l Z a0 hw [] p1 p2 h9 n0 z14 hno) hZ (hw _ (List.mem_of_getElem? (i := 20) rfl)) (hw _ (List.mem_of_getElem? (i := 19) rfl)) (by decide) (by decide)) (g := (mkF m 17 #[.val (.ref a), .val (.long p1), .second, .val (.long p2), .second] [(.long p2), (.long p1), (.ref a)])) rfl (by rw [hml]; rfl) (argsL := [(.long p1), (.long p2)]) (rest := [(.ref a)]) (lenOf pd_2__JJ_J rfl) rfl (by show 2 * 0 + _ ≤ _; exact Nat.le_of_eq rfl) (hb hby d2_17) (fun _ _ => ⟨rfl, e9, (by decide : 0 + 0 ≤ _), (by decide : 0 + 0 ≤ _)⟩)
  dsimp only [Pt.U, Pt.locs, Pt.cells, Pt.slots] at X16 l16 y16 z16 st16 hQ16
  subst l16 y16 z16
  obtain ⟨rfl, Nq16, eh16⟩ := hQ16
  have N16 := Fr.app N9 Nq16
  refine Goes.on (B := T16.setTop (mkF m 20 #[.val (.ref a), .val (.long p1), .second, .val (.long p2), .second] [(.long (p1 + p2)), (.ref a)])) (fun t k => st16 t k) ?_
  obtain ⟨T17, h17, X17, e17, W17, st17⟩ := putF X16 hx hZ hown (host := "") (Or.inl (hw _ (List.mem_of_getElem? (i := 21) rfl))) Via.refl eh16 f13 f10 (Or.inr ⟨(hw _ (List.mem_of_getElem? (i := 22) rfl)), rfl, hnm⟩) (hw _ (List.mem_of_getElem? (i := 5) rfl)) (ty := .long) (by decide) rfl rfl (g := (mkF m 20 #[.val (.ref a), .val (.long p1), .second, .val (.long p2), .second] [(.long (p1 + p2)), (.ref a)])) rfl rfl (hb hby d2_20)
  have f18 := f10.wr W17
  have f19 := f11.other W17 (Or.inr (slot_ne (Or.inr (hw _ (List.mem_of_getElem? (i := 14) rfl))) (Or.inr (hw _ (List.mem_of_getElem? (i := 22) rfl))) (by decide) (t := .long) (t' := .long) (by decide) (by decide)))
  have f20 := f12.other W17 (Or.inr (slot_ne (Or.inr (hw _ (List.mem_of_getElem? (i := 16) rfl))) (Or.inr (hw _ (List.mem_of_getElem? (i := 22) rfl))) (by decide) (t := .long) (t' := .long) (by decide) (by decide)))
  have f21 := f13.same W17
  have z22 : n0 ≤ h17.size := Nat.le_trans z14 (Keep.of_wr W17).1
  have K23 : Keep h0 h17 [a] := K15.wr W17 (Or.inl (List.mem_of_getElem? (i := 0) rfl))
  have N17 := Fr.snoc X17 N16 ga
  refine Goes.on (B := T17.setTop (mkF m 23 #[.val (.ref a), .val (.long p1), .second, .val (.long p2), .second] [])) (fun t k => st17 t k) ?_
  obtain ⟨fs, hr, hrun, hended, hW, hsame⟩ := X17.leave (v := none) (fun _ => rfl)
  exact Goes.leaf (X17.returnOut hx Bd.returns (hb hby d2_23) hr) hrun hended ⟨_, _, rfl, by show Qi Z a p1 p2 h0 n0 _ T17.heap _; rw [e17]; exact ⟨rfl, N17, K23, f18, f19, f20, f21⟩, ⟨_, rfl⟩, hW, hsame.mono (by decide) (by decide)⟩
theorem d5_0 : decode prog_40_method_2_code 0 = .ok (.new 8, 3) := by decide +kernel
theorem d5_3 : decode prog_40_method_2_code 3 = .ok (.dup, 1) := by decide +kernel
theorem d5_4 : decode prog_40_method_2_code 4 = .ok (.aload_n 0, 1) := by decide +kernel
theorem d5_5 : decode prog_40_method_2_code 5 = .ok (.getfield 7, 3) := by decide +kernel
theorem d5_8 : decode prog_40_method_2_code 8 = .ok (.aload_n 1, 1) := by decide +kernel
theorem d5_9 : decode prog_40_method_2_code 9 = .ok (.getfield 7, 3) := by decide +kernel
theorem d5_12 : decode prog_40_method_2_code 12 = .ok (.invokestatic 16, 3) := by decide +kernel
theorem d5_15 : decode prog_40_method_2_code 15 = .ok (.aload_n 0, 1) := by decide +kernel
theorem d5_16 : decode prog_40_method_2_code 16 = .ok (.getfield 13, 3) := by decide +kernel
theorem d5_19 : decode prog_40_method_2_code 19 = .ok (.aload_n 1, 1) := by decide +kernel
theorem d5_20 : decode prog_40_method_2_code 20 = .ok (.getfield 13, 3) := by decide +kernel
theorem d5_23 : decode prog_40_method_2_code 23 = .ok (.invokestatic 16, 3) := by decide +kernel
theorem d5_26 : decode prog_40_method_2_code 26 = .ok (.invokespecial 25, 3) := by decide +kernel
theorem d5_29 : decode prog_40_method_2_code 29 = .ok (.areturn, 1) := by decide +kernel
theorem pn_5 : plainName "com/example/abil/abil/core/Taxed" = true := by first | (simp [plainName, overriddenIn]; done) | decide +kernel
theorem pd_5__JJ_J : parseMethodDescriptor "(JJ)J" = some ⟨[.long, .long], some .long⟩ := by decide +kernel
theorem pd_5__JJ_V : parseMethodDescriptor "(JJ)V" = some ⟨[.long, .long], none⟩ := by decide +kernel
theorem ef_p (m : MethodId) (x0 : Addr) (x1 : Addr) : entryFrame m #[(.ref x0), (.ref x1)] 2 = mkF m 0 #[.val (.ref x0), .val (.ref x1)] [] := by first | (simp [entryFrame, mkF, argsToLocals, Value.category]; done) | rfl
def Qp (Z : State) (a : Addr) (o : Addr) (u1 t1 u2 t2 : Int64) (h0 : Heap) (n0 : Nat) (v : Option Value) (h : Heap) (L : List Loc) : Prop := ∃ b, v = some (.ref b) ∧ Fr n0 L ∧ Keep h0 h [] ∧ n0 ≤ b ∧ h0.size ≤ b ∧ Exa Z h b "com/example/abil/abil/core/Taxed" ∧ Fld Z h b "com/example/abil/abil/core/Taxed" "pretax" "J" (.long (u1 + u2)) ∧ Fld Z h b "com/example/abil/abil/core/Taxed" "tax" "J" (.long (t1 + t2)) ∧ Fld Z h b "com/example/abil/abil/core/Taxed" "total" "J" (.long ((u1 + u2) + (t1 + t2)))
set_option maxRecDepth 65536 in
set_option maxHeartbeats 40000000 in
theorem rmp (l : Launch) (Z : State) (a0 : Array Value) (hw : ∀ d ∈ tables_1, d.before a0 Z = true) (ws : List Jvm.Cond) (a : Addr) (o : Addr) (u1 t1 u2 t2 : Int64) (h0 : Heap) (n0 : Nat) (Z0 : n0 ≤ h0.size) (Fa1 : Fld Z h0 a "com/example/abil/abil/core/Taxed" "pretax" "J" (.long u1)) (Fa2 : Fld Z h0 a "com/example/abil/abil/core/Taxed" "tax" "J" (.long t1)) (Fo1 : Fld Z h0 o "com/example/abil/abil/core/Taxed" "pretax" "J" (.long u2)) (Fo2 : Fld Z h0 o "com/example/abil/abil/core/Taxed" "tax" "J" (.long t2)) (hn1 : ¬ (((u1 ^^^ (u1 + u2)) &&& (u2 ^^^ (u1 + u2))) < (0 : Int64))) (hn2 : ¬ (((t1 ^^^ (t1 + t2)) &&& (t2 ^^^ (t1 + t2))) < (0 : Int64))) (hn3 : ¬ ((((u1 + u2) ^^^ ((u1 + u2) + (t1 + t2))) &&& ((t1 + t2) ^^^ ((u1 + u2) + (t1 + t2)))) < (0 : Int64))) :
    MetFree l (⟨"com/example/abil/abil/core/Taxed", "plus", "(Lcom/example/abil/abil/core/Taxed;)Lcom/example/abil/abil/core/Taxed;"⟩ : MethodName) (head1 (Jvm.Cond.code (⟨"com/example/abil/abil/core/Taxed", "plus", "(Lcom/example/abil/abil/core/Taxed;)Lcom/example/abil/abil/core/Taxed;"⟩ : MethodName) prog_40_method_2_code 2 (some (.object "com/example/abil/abil/core/Taxed")) :: ws) ({ frames := 2, cells := 1, slots := 3, locals := 35 } : Room)) (fun aa U => aa = #[(.ref a), (.ref o)] ∧ Z.Warmed39 U.vm ∧ U.heap = h0) (fun _ _ _ _ _ => True) (fun _ U oo U' => ∃ vv LL, oo = .returned vv ∧ Qp Z a o u1 t1 u2 t2 h0 n0 vv U'.heap LL ∧ FrameEnd U oo U' LL ({ frames := 2, cells := 1, slots := 3, locals := 35 } : Room).cells ({ frames := 2, cells := 1, slots := 3, locals := 35 } : Room).slots) := by
  refine MetFree.of_bodySF (plainFor_of_name pn_5) hisR ?_
  intro p e s m args below meth c s₁ Bd hml0 hP hK
  obtain ⟨rfl, hZ, hh⟩ := hP
  have hx := Bd.exec
  have hby := Bd.bytes
  have hml : c.maxLocals = 2 := hml0
  have hown : s.vm.findClass "com/example/abil/abil/core/Taxed" = some m.cls := findClass_of_methodNamed Bd.named
  have hnm := (name_of_methodNamed Bd.named Bd.method).1
  have X0 : Stand p l e ({ frames := 2, cells := 1, slots := 3, locals := 35 } : Room) s m #[(.ref a), (.ref o)] below meth c s₁ [] 0 0 := Stand.of_body Bd
  have e0 : s₁.heap = h0 := by rw [← hh, Bd.state]; rfl
  have N0 := Fr.nil n0
  show Goes p e below _ (s₁.setTop (entryFrame m #[(.ref a), (.ref o)] 2))
  refine Goes.on (B := s₁.setTop (mkF m 0 #[.val (.ref a), .val (.ref o)] [])) (fun t k => castTop (ef_p m a o) k) ?_
  obtain ⟨T1, h1, X1, e1, E1, A1, D1, -, st1⟩ := newO X0 hx hZ hown (hw _ (List.mem_of_getElem? (i := 28) rfl)) (hw _ (List.mem_of_getElem? (i := 5) rfl)) (hw _ (List.mem_of_getElem? (i := 6) rfl)) e0 (g := (mkF m 0 #[.val (.ref a), .val (.ref o)] [])) rfl (hb hby d5_0) (by decide) (by decide)
  obtain ⟨b1, g1⟩ : ∃ z, z = h0.size := ⟨_, rfl⟩
  rw [← g1] at A1 D1 st1
  have ne_a_b1 : a ≠ b1 := Nat.ne_of_lt (Nat.lt_of_lt_of_le Fa1.lt (Nat.le_of_eq g1.symm))
  have ne_o_b1 : o ≠ b1 := Nat.ne_of_lt (Nat.lt_of_lt_of_le Fo1.lt (Nat.le_of_eq g1.symm))
  have f2 := Fa1.ext E1
  have f3 := Fa2.ext E1
  have f4 := Fo1.ext E1
  have f5 := Fo2.ext E1
  have z6 : n0 ≤ h1.size := Nat.le_trans Z0 E1.1
  have K7 : Keep h0 h1 [] := (Keep.refl h0 []).ext E1
  have g_b1 : n0 ≤ b1 := Nat.le_trans Z0 (Nat.le_of_eq g1.symm)
  have sz_b1 : h0.size ≤ b1 := Nat.le_trans (Keep.refl h0 []).1 (Nat.le_of_eq g1.symm)
  have F1_pretax : Fld Z h1 b1 "com/example/abil/abil/core/Taxed" "pretax" "J" (.long (0 : Int64)) := D1 (Or.inr (hw _ (List.mem_of_getElem? (i := 14) rfl))) (ty := .long) (by decide)
  have F1_tax : Fld Z h1 b1 "com/example/abil/abil/core/Taxed" "tax" "J" (.long (0 : Int64)) := D1 (Or.inr (hw _ (List.mem_of_getElem? (i := 16) rfl))) (ty := .long) (by decide)
  have F1_total : Fld Z h1 b1 "com/example/abil/abil/core/Taxed" "total" "J" (.long (0 : Int64)) := D1 (Or.inr (hw _ (List.mem_of_getElem? (i := 22) rfl))) (ty := .long) (by decide)
  refine Goes.on (B := T1.setTop (mkF m 3 #[.val (.ref a), .val (.ref o)] [(.ref b1)])) (fun t k => st1 t k) ?_
  refine Goes.on (B := T1.setTop (mkF m 4 #[.val (.ref a), .val (.ref o)] [(.ref b1), (.ref b1)])) (fun _ k => XS.dup X1.here hx rfl (hb hby d5_3) rfl rfl k) ?_
  refine Goes.on (B := T1.setTop (mkF m 5 #[.val (.ref a), .val (.ref o)] [(.ref a), (.ref b1), (.ref b1)])) (fun _ k => XS.aloadN X1.here hx rfl (hb hby d5_4) rfl rfl  k) ?_
  obtain ⟨T8, X8, e8, st8⟩ := getF X1 hx hZ hown (host := "") (Or.inl (hw _ (List.mem_of_getElem? (i := 13) rfl))) Via.refl e1 f2 (g := (mkF m 5 #[.val (.ref a), .val (.ref o)] [(.ref a), (.ref b1), (.ref b1)])) rfl rfl (hb hby d5_5)
  refine Goes.on (B := T8.setTop (mkF m 8 #[.val (.ref a), .val (.ref o)] [(.long u1), (.ref b1), (.ref b1)])) (fun t k => st8 t k) ?_
  refine Goes.on (B := T8.setTop (mkF m 9 #[.val (.ref a), .val (.ref o)] [(.ref o), (.long u1), (.ref b1), (.ref b1)])) (fun _ k => XS.aloadN X8.here hx rfl (hb hby d5_8) rfl rfl  k) ?_
  obtain ⟨T9, X9, e9, st9⟩ := getF X8 hx hZ hown (host := "") (Or.inl (hw _ (List.mem_of_getElem? (i := 13) rfl))) Via.refl e8 f4 (g := (mkF m 9 #[.val (.ref a), .val (.ref o)] [(.ref o), (.long u1), (.ref b1), (.ref b1)])) rfl rfl (hb hby d5_9)
  refine Goes.on (B := T9.setTop (mkF m 12 #[.val (.ref a), .val (.ref o)] [(.long u2), (.long u1), (.ref b1), (.ref b1)])) (fun t k => st9 t k) ?_
  obtain ⟨_, _, ⟨T10, L10, k10, n10⟩, -, X10, ⟨Lc10, hQ10, l10, y10, z10⟩, st10⟩ := Jvm.LawKit.callS X9 hx (y := (⟨"java/lang/Math", "addExact", "(JJ)J"⟩ : MethodName)) hown (mvT hZ (hw _ (List.mem_of_getElem? (i := 17) rfl))) (mvT hZ (hw _ (List.mem_of_getElem? (i := 18) rfl))) (mvT hZ (hw _ (List.mem_of_getElem? (i := 19) rfl))) (mvT hZ (hw _ (List.mem_of_getElem? (i := 20) rfl))) (by decide) (backOf (W := 2) (rmx l Z a0 hw [] u1 u2 h1 n0 z6 hn1) hZ (hw _ (List.mem_of_getElem? (i := 20) rfl)) (hw _ (List.mem_of_getElem? (i := 19) rfl)) (by decide) (by decide)) (g := (mkF m 12 #[.val (.ref a), .val (.ref o)] [(.long u2), (.long u1), (.ref b1), (.ref b1)])) rfl (by rw [hml]; rfl) (argsL := [(.long u1), (.long u2)]) (rest := [(.ref b1), (.ref b1)]) (lenOf pd_5__JJ_J rfl) rfl (by show 2 * 0 + _ ≤ _; exact Nat.le_of_eq rfl) (hb hby d5_12) (fun _ _ => ⟨rfl, e9, (by decide : 1 + 0 ≤ _), (by decide : 3 + 0 ≤ _)⟩)
  dsimp only [Pt.U, Pt.locs, Pt.cells, Pt.slots] at X10 l10 y10 z10 st10 hQ10
  subst l10 y10 z10
  obtain ⟨rfl, Nq10, eh10⟩ := hQ10
  have N10 := Fr.app N0 Nq10
  refine Goes.on (B := T10.setTop (mkF m 15 #[.val (.ref a), .val (.ref o)] [(.long (u1 + u2)), (.ref b1), (.ref b1)])) (fun t k => st10 t k) ?_
  refine Goes.on (B := T10.setTop (mkF m 16 #[.val (.ref a), .val (.ref o)] [(.ref a), (.long (u1 + u2)), (.ref b1), (.ref b1)])) (fun _ k => XS.aloadN X10.here hx rfl (hb hby d5_15) rfl rfl  k) ?_
  obtain ⟨T11, X11, e11, st11⟩ := getF X10 hx hZ hown (host := "") (Or.inl (hw _ (List.mem_of_getElem? (i := 15) rfl))) Via.refl eh10 f3 (g := (mkF m 16 #[.val (.ref a), .val (.ref o)] [(.ref a), (.long (u1 + u2)), (.ref b1), (.ref b1)])) rfl rfl (hb hby d5_16)
  refine Goes.on (B := T11.setTop (mkF m 19 #[.val (.ref a), .val (.ref o)] [(.long t1), (.long (u1 + u2)), (.ref b1), (.ref b1)])) (fun t k => st11 t k) ?_
  refine Goes.on (B := T11.setTop (mkF m 20 #[.val (.ref a), .val (.ref o)] [(.ref o), (.long t1), (.long (u1 + u2)), (.ref b1), (.ref b1)])) (fun _ k => XS.aloadN X11.here hx rfl (hb hby d5_19) rfl rfl  k) ?_
  obtain ⟨T12, X12, e12, st12⟩ := getF X11 hx hZ hown (host := "") (Or.inl (hw _ (List.mem_of_getElem? (i := 15) rfl))) Via.refl e11 f5 (g := (mkF m 20 #[.val (.ref a), .val (.ref o)] [(.ref o), (.long t1), (.long (u1 + u2)), (.ref b1), (.ref b1)])) rfl rfl (hb hby d5_20)
  refine Goes.on (B := T12.setTop (mkF m 23 #[.val (.ref a), .val (.ref o)] [(.long t2), (.long t1), (.long (u1 + u2)), (.ref b1), (.ref b1)])) (fun t k => st12 t k) ?_
  obtain ⟨_, _, ⟨T13, L13, k13, n13⟩, -, X13, ⟨Lc13, hQ13, l13, y13, z13⟩, st13⟩ := Jvm.LawKit.callS X12 hx (y := (⟨"java/lang/Math", "addExact", "(JJ)J"⟩ : MethodName)) hown (mvT hZ (hw _ (List.mem_of_getElem? (i := 17) rfl))) (mvT hZ (hw _ (List.mem_of_getElem? (i := 18) rfl))) (mvT hZ (hw _ (List.mem_of_getElem? (i := 19) rfl))) (mvT hZ (hw _ (List.mem_of_getElem? (i := 20) rfl))) (by decide) (backOf (W := 4) (rmx l Z a0 hw [] t1 t2 h1 n0 z6 hn2) hZ (hw _ (List.mem_of_getElem? (i := 20) rfl)) (hw _ (List.mem_of_getElem? (i := 19) rfl)) (by decide) (by decide)) (g := (mkF m 23 #[.val (.ref a), .val (.ref o)] [(.long t2), (.long t1), (.long (u1 + u2)), (.ref b1), (.ref b1)])) rfl (by rw [hml]; rfl) (argsL := [(.long t1), (.long t2)]) (rest := [(.long (u1 + u2)), (.ref b1), (.ref b1)]) (lenOf pd_5__JJ_J rfl) rfl (by show 2 * 0 + _ ≤ _; exact Nat.le_of_eq rfl) (hb hby d5_23) (fun _ _ => ⟨rfl, e12, (by decide : 1 + 0 ≤ _), (by decide : 3 + 0 ≤ _)⟩)
  dsimp only [Pt.U, Pt.locs, Pt.cells, Pt.slots] at X13 l13 y13 z13 st13 hQ13
  subst l13 y13 z13
  obtain ⟨rfl, Nq13, eh13⟩ := hQ13
  have N13 := Fr.app N10 Nq13
  refine Goes.on (B := T13.setTop (mkF m 26 #[.val (.ref a), .val (.ref o)] [(.long (t1 + t2)), (.long (u1 + u2)), (.ref b1), (.ref b1)])) (fun t k => st13 t k) ?_
  obtain ⟨_, _, ⟨T14, L14, k14, n14⟩, -, X14, ⟨Lc14, hQ14, l14, y14, z14⟩, st14⟩ := X13.specialBack hx (y := (⟨"com/example/abil/abil/core/Taxed", "<init>", "(JJ)V"⟩ : MethodName)) rfl hown (mvT hZ (hw _ (List.mem_of_getElem? (i := 29) rfl))) (mvT hZ (hw _ (List.mem_of_getElem? (i := 8) rfl))) (mvT hZ (hw _ (List.mem_of_getElem? (i := 9) rfl))) (by decide) (backOf (W := 1) (rmi l Z a0 hw [] b1 (u1 + u2) (t1 + t2) h1 n0 z6 F1_pretax F1_tax F1_total A1 g_b1 hn3) hZ (hw _ (List.mem_of_getElem? (i := 9) rfl)) (hw _ (List.mem_of_getElem? (i := 6) rfl)) (by decide) (by decide)) (g := (mkF m 26 #[.val (.ref a), .val (.ref o)] [(.long (t1 + t2)), (.long (u1 + u2)), (.ref b1), (.ref b1)])) rfl (by rw [hml]; rfl) (Steps.refl _) (a := b1) (argsL := [(.long (u1 + u2)), (.long (t1 + t2))]) (rest := [(.ref b1)]) (lenOf pd_5__JJ_V rfl) rfl (by show 2 * 0 + _ ≤ _; exact Nat.le_of_eq rfl) (hb hby d5_26) (fun _ _ => ⟨rfl, eh13, (by decide : 1 + 0 ≤ _), (by decide : 3 + 0 ≤ _)⟩)
  dsimp only [Pt.U, Pt.locs, Pt.cells, Pt.slots] at X14 l14 y14 z14 st14 hQ14
  subst l14 y14 z14
  obtain ⟨rfl, Nq14, Kq14, Eq14, Fa14, Fb14, Fc14⟩ := hQ14
  obtain ⟨h14, eh14⟩ : ∃ h, T14.heap = h := ⟨_, rfl⟩
  rw [eh14] at Kq14 Eq14 Fa14 Fb14 Fc14
  have f15 := f2.keep Kq14 (ninS ne_a_b1 nin0)
  have f16 := f3.keep Kq14 (ninS ne_a_b1 nin0)
  have f17 := f4.keep Kq14 (ninS ne_o_b1 nin0)
  have f18 := f5.keep Kq14 (ninS ne_o_b1 nin0)
  have f19 := A1.keep Kq14
  have z20 : n0 ≤ h14.size := Nat.le_trans z6 Kq14.1
  have K21 : Keep h0 h14 [] := K7.trans Kq14 (allS (Or.inr sz_b1) all0)
  have N14 := Fr.app N13 Nq14
  refine Goes.on (B := T14.setTop (mkF m 29 #[.val (.ref a), .val (.ref o)] [(.ref b1)])) (fun t k => st14.trans k) ?_
  obtain ⟨fs, hr, hrun, hended, hW, hsame⟩ := X14.leave (v := some (.ref b1)) (fun h => by rw [Bd.returns] at h; cases h)
  exact Goes.leaf (own_retR X14 hx Bd.returns rfl rfl (hb hby d5_29) hr) hrun hended ⟨_, _, rfl, by show Qp Z a o u1 t1 u2 t2 h0 n0 _ T14.heap _; rw [eh14]; exact ⟨b1, rfl, N14, K21, g_b1, sz_b1, Eq14, Fa14, Fb14, Fc14⟩, ⟨_, rfl⟩, hW, hsame.mono (by decide) (by decide)⟩
theorem d6_0 : decode prog_40_method_3_code 0 = .ok (.aload_n 0, 1) := by decide +kernel
theorem d6_1 : decode prog_40_method_3_code 1 = .ok (.getfield 7, 3) := by decide +kernel
theorem d6_4 : decode prog_40_method_3_code 4 = .ok (.lreturn, 1) := by decide +kernel
theorem pn_6 : plainName "com/example/abil/abil/core/Taxed" = true := by first | (simp [plainName, overriddenIn]; done) | decide +kernel
theorem ef_gpre (m : MethodId) (x0 : Addr) : entryFrame m #[(.ref x0)] 1 = mkF m 0 #[.val (.ref x0)] [] := by first | (simp [entryFrame, mkF, argsToLocals, Value.category]; done) | rfl
def Qgpre (Z : State) (a : Addr) (w : Int64) (h0 : Heap) (n0 : Nat) (v : Option Value) (h : Heap) (L : List Loc) : Prop := v = some (.long w) ∧ Fr n0 L ∧ h = h0
set_option maxRecDepth 65536 in
set_option maxHeartbeats 40000000 in
theorem rmgpre (l : Launch) (Z : State) (a0 : Array Value) (hw : ∀ d ∈ tables_1, d.before a0 Z = true) (ws : List Jvm.Cond) (a : Addr) (w : Int64) (h0 : Heap) (n0 : Nat) (Z0 : n0 ≤ h0.size) (F : Fld Z h0 a "com/example/abil/abil/core/Taxed" "pretax" "J" (.long w)) :
    MetFree l (⟨"com/example/abil/abil/core/Taxed", "pretax", "()J"⟩ : MethodName) (head1 (Jvm.Cond.code (⟨"com/example/abil/abil/core/Taxed", "pretax", "()J"⟩ : MethodName) prog_40_method_3_code 1 (some .long) :: ws) ({ frames := 0, cells := 0, slots := 0, locals := 0 } : Room)) (fun aa U => aa = #[(.ref a)] ∧ Z.Warmed39 U.vm ∧ U.heap = h0) (fun _ _ _ _ _ => True) (fun _ U oo U' => ∃ vv LL, oo = .returned vv ∧ Qgpre Z a w h0 n0 vv U'.heap LL ∧ FrameEnd U oo U' LL ({ frames := 0, cells := 0, slots := 0, locals := 0 } : Room).cells ({ frames := 0, cells := 0, slots := 0, locals := 0 } : Room).slots) := by
  refine MetFree.of_bodySF (plainFor_of_name pn_6) hisR ?_
  intro p e s m args below meth c s₁ Bd hml0 hP hK
  obtain ⟨rfl, hZ, hh⟩ := hP
  have hx := Bd.exec
  have hby := Bd.bytes
  have hml : c.maxLocals = 1 := hml0
  have hown : s.vm.findClass "com/example/abil/abil/core/Taxed" = some m.cls := findClass_of_methodNamed Bd.named
  have hnm := (name_of_methodNamed Bd.named Bd.method).1
  have X0 : Stand p l e ({ frames := 0, cells := 0, slots := 0, locals := 0 } : Room) s m #[(.ref a)] below meth c s₁ [] 0 0 := Stand.of_body Bd
  have e0 : s₁.heap = h0 := by rw [← hh, Bd.state]; rfl
  have N0 := Fr.nil n0
  show Goes p e below _ (s₁.setTop (entryFrame m #[(.ref a)] 1))
  refine Goes.on (B := s₁.setTop (mkF m 0 #[.val (.ref a)] [])) (fun t k => castTop (ef_gpre m a) k) ?_
  refine Goes.on (B := s₁.setTop (mkF m 1 #[.val (.ref a)] [(.ref a)])) (fun _ k => XS.aloadN X0.here hx rfl (hb hby d6_0) rfl rfl  k) ?_
  obtain ⟨T1, X1, e1, st1⟩ := getF X0 hx hZ hown (host := "") (Or.inl (hw _ (List.mem_of_getElem? (i := 13) rfl))) Via.refl e0 F (g := (mkF m 1 #[.val (.ref a)] [(.ref a)])) rfl rfl (hb hby d6_1)
  refine Goes.on (B := T1.setTop (mkF m 4 #[.val (.ref a)] [(.long w)])) (fun t k => st1 t k) ?_
  obtain ⟨fs, hr, hrun, hended, hW, hsame⟩ := X1.leave (v := some (.long w)) (fun h => by rw [Bd.returns] at h; cases h)
  exact Goes.leaf (own_retJ X1 hx Bd.returns (hb hby d6_4) hr) hrun hended ⟨_, _, rfl, by show Qgpre Z a w h0 n0 _ T1.heap _; rw [e1]; exact ⟨rfl, N0, rfl⟩, ⟨_, rfl⟩, hW, hsame.mono (by decide) (by decide)⟩
theorem d7_0 : decode prog_40_method_4_code 0 = .ok (.aload_n 0, 1) := by decide +kernel
theorem d7_1 : decode prog_40_method_4_code 1 = .ok (.getfield 13, 3) := by decide +kernel
theorem d7_4 : decode prog_40_method_4_code 4 = .ok (.lreturn, 1) := by decide +kernel
theorem pn_7 : plainName "com/example/abil/abil/core/Taxed" = true := by first | (simp [plainName, overriddenIn]; done) | decide +kernel
theorem ef_gtax (m : MethodId) (x0 : Addr) : entryFrame m #[(.ref x0)] 1 = mkF m 0 #[.val (.ref x0)] [] := by first | (simp [entryFrame, mkF, argsToLocals, Value.category]; done) | rfl
def Qgtax (Z : State) (a : Addr) (w : Int64) (h0 : Heap) (n0 : Nat) (v : Option Value) (h : Heap) (L : List Loc) : Prop := v = some (.long w) ∧ Fr n0 L ∧ h = h0
set_option maxRecDepth 65536 in
set_option maxHeartbeats 40000000 in
theorem rmgtax (l : Launch) (Z : State) (a0 : Array Value) (hw : ∀ d ∈ tables_1, d.before a0 Z = true) (ws : List Jvm.Cond) (a : Addr) (w : Int64) (h0 : Heap) (n0 : Nat) (Z0 : n0 ≤ h0.size) (F : Fld Z h0 a "com/example/abil/abil/core/Taxed" "tax" "J" (.long w)) :
    MetFree l (⟨"com/example/abil/abil/core/Taxed", "tax", "()J"⟩ : MethodName) (head1 (Jvm.Cond.code (⟨"com/example/abil/abil/core/Taxed", "tax", "()J"⟩ : MethodName) prog_40_method_4_code 1 (some .long) :: ws) ({ frames := 0, cells := 0, slots := 0, locals := 0 } : Room)) (fun aa U => aa = #[(.ref a)] ∧ Z.Warmed39 U.vm ∧ U.heap = h0) (fun _ _ _ _ _ => True) (fun _ U oo U' => ∃ vv LL, oo = .returned vv ∧ Qgtax Z a w h0 n0 vv U'.heap LL ∧ FrameEnd U oo U' LL ({ frames := 0, cells := 0, slots := 0, locals := 0 } : Room).cells ({ frames := 0, cells := 0, slots := 0, locals := 0 } : Room).slots) := by
  refine MetFree.of_bodySF (plainFor_of_name pn_7) hisR ?_
  intro p e s m args below meth c s₁ Bd hml0 hP hK
  obtain ⟨rfl, hZ, hh⟩ := hP
  have hx := Bd.exec
  have hby := Bd.bytes
  have hml : c.maxLocals = 1 := hml0
  have hown : s.vm.findClass "com/example/abil/abil/core/Taxed" = some m.cls := findClass_of_methodNamed Bd.named
  have hnm := (name_of_methodNamed Bd.named Bd.method).1
  have X0 : Stand p l e ({ frames := 0, cells := 0, slots := 0, locals := 0 } : Room) s m #[(.ref a)] below meth c s₁ [] 0 0 := Stand.of_body Bd
  have e0 : s₁.heap = h0 := by rw [← hh, Bd.state]; rfl
  have N0 := Fr.nil n0
  show Goes p e below _ (s₁.setTop (entryFrame m #[(.ref a)] 1))
  refine Goes.on (B := s₁.setTop (mkF m 0 #[.val (.ref a)] [])) (fun t k => castTop (ef_gtax m a) k) ?_
  refine Goes.on (B := s₁.setTop (mkF m 1 #[.val (.ref a)] [(.ref a)])) (fun _ k => XS.aloadN X0.here hx rfl (hb hby d7_0) rfl rfl  k) ?_
  obtain ⟨T1, X1, e1, st1⟩ := getF X0 hx hZ hown (host := "") (Or.inl (hw _ (List.mem_of_getElem? (i := 15) rfl))) Via.refl e0 F (g := (mkF m 1 #[.val (.ref a)] [(.ref a)])) rfl rfl (hb hby d7_1)
  refine Goes.on (B := T1.setTop (mkF m 4 #[.val (.ref a)] [(.long w)])) (fun t k => st1 t k) ?_
  obtain ⟨fs, hr, hrun, hended, hW, hsame⟩ := X1.leave (v := some (.long w)) (fun h => by rw [Bd.returns] at h; cases h)
  exact Goes.leaf (own_retJ X1 hx Bd.returns (hb hby d7_4) hr) hrun hended ⟨_, _, rfl, by show Qgtax Z a w h0 n0 _ T1.heap _; rw [e1]; exact ⟨rfl, N0, rfl⟩, ⟨_, rfl⟩, hW, hsame.mono (by decide) (by decide)⟩
theorem d8_0 : decode prog_40_method_5_code 0 = .ok (.aload_n 0, 1) := by decide +kernel
theorem d8_1 : decode prog_40_method_5_code 1 = .ok (.getfield 22, 3) := by decide +kernel
theorem d8_4 : decode prog_40_method_5_code 4 = .ok (.lreturn, 1) := by decide +kernel
theorem pn_8 : plainName "com/example/abil/abil/core/Taxed" = true := by first | (simp [plainName, overriddenIn]; done) | decide +kernel
theorem ef_gtot (m : MethodId) (x0 : Addr) : entryFrame m #[(.ref x0)] 1 = mkF m 0 #[.val (.ref x0)] [] := by first | (simp [entryFrame, mkF, argsToLocals, Value.category]; done) | rfl
def Qgtot (Z : State) (a : Addr) (w : Int64) (h0 : Heap) (n0 : Nat) (v : Option Value) (h : Heap) (L : List Loc) : Prop := v = some (.long w) ∧ Fr n0 L ∧ h = h0
set_option maxRecDepth 65536 in
set_option maxHeartbeats 40000000 in
theorem rmgtot (l : Launch) (Z : State) (a0 : Array Value) (hw : ∀ d ∈ tables_1, d.before a0 Z = true) (ws : List Jvm.Cond) (a : Addr) (w : Int64) (h0 : Heap) (n0 : Nat) (Z0 : n0 ≤ h0.size) (F : Fld Z h0 a "com/example/abil/abil/core/Taxed" "total" "J" (.long w)) :
    MetFree l (⟨"com/example/abil/abil/core/Taxed", "total", "()J"⟩ : MethodName) (head1 (Jvm.Cond.code (⟨"com/example/abil/abil/core/Taxed", "total", "()J"⟩ : MethodName) prog_40_method_5_code 1 (some .long) :: ws) ({ frames := 0, cells := 0, slots := 0, locals := 0 } : Room)) (fun aa U => aa = #[(.ref a)] ∧ Z.Warmed39 U.vm ∧ U.heap = h0) (fun _ _ _ _ _ => True) (fun _ U oo U' => ∃ vv LL, oo = .returned vv ∧ Qgtot Z a w h0 n0 vv U'.heap LL ∧ FrameEnd U oo U' LL ({ frames := 0, cells := 0, slots := 0, locals := 0 } : Room).cells ({ frames := 0, cells := 0, slots := 0, locals := 0 } : Room).slots) := by
  refine MetFree.of_bodySF (plainFor_of_name pn_8) hisR ?_
  intro p e s m args below meth c s₁ Bd hml0 hP hK
  obtain ⟨rfl, hZ, hh⟩ := hP
  have hx := Bd.exec
  have hby := Bd.bytes
  have hml : c.maxLocals = 1 := hml0
  have hown : s.vm.findClass "com/example/abil/abil/core/Taxed" = some m.cls := findClass_of_methodNamed Bd.named
  have hnm := (name_of_methodNamed Bd.named Bd.method).1
  have X0 : Stand p l e ({ frames := 0, cells := 0, slots := 0, locals := 0 } : Room) s m #[(.ref a)] below meth c s₁ [] 0 0 := Stand.of_body Bd
  have e0 : s₁.heap = h0 := by rw [← hh, Bd.state]; rfl
  have N0 := Fr.nil n0
  show Goes p e below _ (s₁.setTop (entryFrame m #[(.ref a)] 1))
  refine Goes.on (B := s₁.setTop (mkF m 0 #[.val (.ref a)] [])) (fun t k => castTop (ef_gtot m a) k) ?_
  refine Goes.on (B := s₁.setTop (mkF m 1 #[.val (.ref a)] [(.ref a)])) (fun _ k => XS.aloadN X0.here hx rfl (hb hby d8_0) rfl rfl  k) ?_
  obtain ⟨T1, X1, e1, st1⟩ := getF X0 hx hZ hown (host := "") (Or.inl (hw _ (List.mem_of_getElem? (i := 21) rfl))) Via.refl e0 F (g := (mkF m 1 #[.val (.ref a)] [(.ref a)])) rfl rfl (hb hby d8_1)
  refine Goes.on (B := T1.setTop (mkF m 4 #[.val (.ref a)] [(.long w)])) (fun t k => st1 t k) ?_
  obtain ⟨fs, hr, hrun, hended, hW, hsame⟩ := X1.leave (v := some (.long w)) (fun h => by rw [Bd.returns] at h; cases h)
  exact Goes.leaf (own_retJ X1 hx Bd.returns (hb hby d8_4) hr) hrun hended ⟨_, _, rfl, by show Qgtot Z a w h0 n0 _ T1.heap _; rw [e1]; exact ⟨rfl, N0, rfl⟩, ⟨_, rfl⟩, hW, hsame.mono (by decide) (by decide)⟩
theorem pn_0 : plainName "com/example/abil/abil/core/TaxedPlusPinLaw" = true := by first | (simp [plainName, overriddenIn]; done) | decide +kernel
theorem pd_0__JJJ_Z : parseMethodDescriptor "(JJJ)Z" = some ⟨[.long, .long, .long], some .boolean⟩ := by decide +kernel
theorem pd_0__JJ_V : parseMethodDescriptor "(JJ)V" = some ⟨[.long, .long], none⟩ := by decide +kernel
theorem pd_0__Lcom_example_abil_abil_core_Taxed__Lcom_example_abil_abil_core_Taxed_ : parseMethodDescriptor "(Lcom/example/abil/abil/core/Taxed;)Lcom/example/abil/abil/core/Taxed;" = some ⟨[(.object "com/example/abil/abil/core/Taxed")], some (.object "com/example/abil/abil/core/Taxed")⟩ := by decide +kernel
theorem pd_0___J : parseMethodDescriptor "()J" = some ⟨[], some .long⟩ := by decide +kernel
theorem ef_0 (m : MethodId) (x0 : Int64) (x1 : Int64) (x2 : Int64) (x3 : Int64) (x4 : Int32) : entryFrame m #[(.long x0), (.long x1), (.long x2), (.long x3), (.int x4)] maxLocals = mkF m 0 #[.val (.long x0), .second, .val (.long x1), .second, .val (.long x2), .second, .val (.long x3), .second, .val (.int x4), .unset, .unset, .unset, .unset, .unset, .unset, .unset, .unset, .unset, .unset, .unset, .unset, .unset, .unset, .unset, .unset, .unset, .unset] [] := by first | (simp [entryFrame, mkF, argsToLocals, Value.category, maxLocals]; done) | rfl
def Q0 (Z : State) (p0 : Int64) (p1 : Int64) (p2 : Int64) (p3 : Int64) (p4 : Int32)  (h0 : Heap) (n0 : Nat) (v : Option Value) (h : Heap) (L : List Loc) : Prop := v = some (.int 1) ∧ Fr n0 L
set_option maxRecDepth 65536 in
set_option maxHeartbeats 40000000 in
theorem rm0 (l : Launch) (Z : State) (a0 : Array Value) (hw : ∀ d ∈ tables_1, d.before a0 Z = true) (ws : List Jvm.Cond) (p0 : Int64) (p1 : Int64) (p2 : Int64) (p3 : Int64) (p4 : Int32)  (h0 : Heap) (n0 : Nat) (Z0 : n0 ≤ h0.size)  :
    MetFree l x (head1 (Jvm.Cond.code x code maxLocals ret :: ws) room_1) (fun aa U => aa = #[(.long p0), (.long p1), (.long p2), (.long p3), (.int p4)] ∧ Z.Warmed39 U.vm ∧ U.heap = h0) (fun _ _ _ _ _ => True) (fun _ U oo U' => ∃ vv LL, oo = .returned vv ∧ Q0 Z p0 p1 p2 p3 p4 h0 n0 vv U'.heap LL ∧ FrameEnd U oo U' LL room_1.cells room_1.slots) := by
  refine MetFree.of_bodySF (plainFor_of_name pn_0) hisR ?_
  intro p e s m args below meth c s₁ Bd hml0 hP hK
  obtain ⟨rfl, hZ, hh⟩ := hP
  have hx := Bd.exec
  have hby := Bd.bytes
  have hml : c.maxLocals = 27 := hml0
  have hown : s.vm.findClass "com/example/abil/abil/core/TaxedPlusPinLaw" = some m.cls := findClass_of_methodNamed Bd.named
  have hnm := (name_of_methodNamed Bd.named Bd.method).1
  have X0 : Stand p l e room_1 s m #[(.long p0), (.long p1), (.long p2), (.long p3), (.int p4)] below meth c s₁ [] 0 0 := Stand.of_body Bd
  have e0 : s₁.heap = h0 := by rw [← hh, Bd.state]; rfl
  have N0 := Fr.nil n0
  show Goes p e below _ (s₁.setTop (entryFrame m #[(.long p0), (.long p1), (.long p2), (.long p3), (.int p4)] maxLocals))
  refine Goes.on (B := s₁.setTop (mkF m 0 #[.val (.long p0), .second, .val (.long p1), .second, .val (.long p2), .second, .val (.long p3), .second, .val (.int p4), .unset, .unset, .unset, .unset, .unset, .unset, .unset, .unset, .unset, .unset, .unset, .unset, .unset, .unset, .unset, .unset, .unset, .unset] [])) (fun t k => castTop (ef_0 m p0 p1 p2 p3 p4) k) ?_
  refine Goes.on (B := s₁.setTop (mkF m 2 #[.val (.long p0), .second, .val (.long p1), .second, .val (.long p2), .second, .val (.long p3), .second, .val (.int p4), .unset, .unset, .unset, .unset, .unset, .unset, .unset, .unset, .unset, .unset, .unset, .unset, .unset, .unset, .unset, .unset, .unset, .unset] [(.int p4)])) (fun _ k => XS.iload X0.here hx rfl (hb hby at_0) rfl  k) ?_
  refine Goes.on (B := s₁.setTop (mkF m 3 #[.val (.long p0), .second, .val (.long p1), .second, .val (.long p2), .second, .val (.long p3), .second, .val (.int p4), .unset, .unset, .unset, .unset, .unset, .unset, .unset, .unset, .unset, .unset, .unset, .unset, .unset, .unset, .unset, .unset, .unset, .unset] [(.int (3 : Int32)), (.int p4)])) (fun _ k => XS.iconst X0.here hx rfl (hb hby at_2) k) ?_
  refine Goes.on (B := s₁.setTop (mkF m 4 #[.val (.long p0), .second, .val (.long p1), .second, .val (.long p2), .second, .val (.long p3), .second, .val (.int p4), .unset, .unset, .unset, .unset, .unset, .unset, .unset, .unset, .unset, .unset, .unset, .unset, .unset, .unset, .unset, .unset, .unset, .unset] [(.int (p4 &&& (3 : Int32)))])) (fun _ k => XS.iand X0.here hx rfl (hb hby at_3) rfl k) ?_
  refine Goes.on (B := s₁.setTop (mkF m 6 #[.val (.long p0), .second, .val (.long p1), .second, .val (.long p2), .second, .val (.long p3), .second, .val (.int p4), .val (.int (p4 &&& (3 : Int32))), .unset, .unset, .unset, .unset, .unset, .unset, .unset, .unset, .unset, .unset, .unset, .unset, .unset, .unset, .unset, .unset, .unset] [])) (fun _ k => XS.istore X0.here hx rfl (hb hby at_4) rfl (l' := #[.val (.long p0), .second, .val (.long p1), .second, .val (.long p2), .second, .val (.long p3), .second, .val (.int p4), .val (.int (p4 &&& (3 : Int32))), .unset, .unset, .unset, .unset, .unset, .unset, .unset, .unset, .unset, .unset, .unset, .unset, .unset, .unset, .unset, .unset, .unset]) rfl k) ?_
  refine Goes.on (B := s₁.setTop (mkF m 7 #[.val (.long p0), .second, .val (.long p1), .second, .val (.long p2), .second, .val (.long p3), .second, .val (.int p4), .val (.int (p4 &&& (3 : Int32))), .unset, .unset, .unset, .unset, .unset, .unset, .unset, .unset, .unset, .unset, .unset, .unset, .unset, .unset, .unset, .unset, .unset] [(.long p0)])) (fun _ k => XS.lloadN X0.here hx rfl (hb hby at_6) rfl  k) ?_
  refine Goes.on (B := s₁.setTop (mkF m 9 #[.val (.long p0), .second, .val (.long p1), .second, .val (.long p2), .second, .val (.long p3), .second, .val (.int p4), .val (.int (p4 &&& (3 : Int32))), .unset, .unset, .unset, .unset, .unset, .unset, .unset, .unset, .unset, .unset, .unset, .unset, .unset, .unset, .unset, .unset, .unset] [(.int (p4 &&& (3 : Int32))), (.long p0)])) (fun _ k => XS.iload X0.here hx rfl (hb hby at_7) rfl  k) ?_
  refine Goes.on (B := s₁.setTop (mkF m 10 #[.val (.long p0), .second, .val (.long p1), .second, .val (.long p2), .second, .val (.long p3), .second, .val (.int p4), .val (.int (p4 &&& (3 : Int32))), .unset, .unset, .unset, .unset, .unset, .unset, .unset, .unset, .unset, .unset, .unset, .unset, .unset, .unset, .unset, .unset, .unset] [(.long (p0 >>> ((p4 &&& (3 : Int32)) &&& 0x3f).toInt64))])) (fun _ k => XS.lshr X0.here hx rfl (hb hby at_9) rfl k) ?_
  generalize hpa : (p0 >>> ((p4 &&& (3 : Int32)) &&& 0x3f).toInt64) = pa
  refine Goes.on (B := s₁.setTop (mkF m 12 #[.val (.long p0), .second, .val (.long p1), .second, .val (.long p2), .second, .val (.long p3), .second, .val (.int p4), .val (.int (p4 &&& (3 : Int32))), .val (.long pa), .second, .unset, .unset, .unset, .unset, .unset, .unset, .unset, .unset, .unset, .unset, .unset, .unset, .unset, .unset, .unset] [])) (fun _ k => XS.lstore X0.here hx rfl (hb hby at_10) rfl (l' := #[.val (.long p0), .second, .val (.long p1), .second, .val (.long p2), .second, .val (.long p3), .second, .val (.int p4), .val (.int (p4 &&& (3 : Int32))), .val (.long pa), .second, .unset, .unset, .unset, .unset, .unset, .unset, .unset, .unset, .unset, .unset, .unset, .unset, .unset, .unset, .unset]) rfl k) ?_
  refine Goes.on (B := s₁.setTop (mkF m 13 #[.val (.long p0), .second, .val (.long p1), .second, .val (.long p2), .second, .val (.long p3), .second, .val (.int p4), .val (.int (p4 &&& (3 : Int32))), .val (.long pa), .second, .unset, .unset, .unset, .unset, .unset, .unset, .unset, .unset, .unset, .unset, .unset, .unset, .unset, .unset, .unset] [(.long p1)])) (fun _ k => XS.lloadN X0.here hx rfl (hb hby at_12) rfl  k) ?_
  refine Goes.on (B := s₁.setTop (mkF m 15 #[.val (.long p0), .second, .val (.long p1), .second, .val (.long p2), .second, .val (.long p3), .second, .val (.int p4), .val (.int (p4 &&& (3 : Int32))), .val (.long pa), .second, .unset, .unset, .unset, .unset, .unset, .unset, .unset, .unset, .unset, .unset, .unset, .unset, .unset, .unset, .unset] [(.int (p4 &&& (3 : Int32))), (.long p1)])) (fun _ k => XS.iload X0.here hx rfl (hb hby at_13) rfl  k) ?_
  refine Goes.on (B := s₁.setTop (mkF m 16 #[.val (.long p0), .second, .val (.long p1), .second, .val (.long p2), .second, .val (.long p3), .second, .val (.int p4), .val (.int (p4 &&& (3 : Int32))), .val (.long pa), .second, .unset, .unset, .unset, .unset, .unset, .unset, .unset, .unset, .unset, .unset, .unset, .unset, .unset, .unset, .unset] [(.long (p1 >>> ((p4 &&& (3 : Int32)) &&& 0x3f).toInt64))])) (fun _ k => XS.lshr X0.here hx rfl (hb hby at_15) rfl k) ?_
  generalize hta : (p1 >>> ((p4 &&& (3 : Int32)) &&& 0x3f).toInt64) = ta
  refine Goes.on (B := s₁.setTop (mkF m 18 #[.val (.long p0), .second, .val (.long p1), .second, .val (.long p2), .second, .val (.long p3), .second, .val (.int p4), .val (.int (p4 &&& (3 : Int32))), .val (.long pa), .second, .val (.long ta), .second, .unset, .unset, .unset, .unset, .unset, .unset, .unset, .unset, .unset, .unset, .unset, .unset, .unset] [])) (fun _ k => XS.lstore X0.here hx rfl (hb hby at_16) rfl (l' := #[.val (.long p0), .second, .val (.long p1), .second, .val (.long p2), .second, .val (.long p3), .second, .val (.int p4), .val (.int (p4 &&& (3 : Int32))), .val (.long pa), .second, .val (.long ta), .second, .unset, .unset, .unset, .unset, .unset, .unset, .unset, .unset, .unset, .unset, .unset, .unset, .unset]) rfl k) ?_
  refine Goes.on (B := s₁.setTop (mkF m 20 #[.val (.long p0), .second, .val (.long p1), .second, .val (.long p2), .second, .val (.long p3), .second, .val (.int p4), .val (.int (p4 &&& (3 : Int32))), .val (.long pa), .second, .val (.long ta), .second, .unset, .unset, .unset, .unset, .unset, .unset, .unset, .unset, .unset, .unset, .unset, .unset, .unset] [(.long p2)])) (fun _ k => XS.lload X0.here hx rfl (hb hby at_18) rfl  k) ?_
  refine Goes.on (B := s₁.setTop (mkF m 22 #[.val (.long p0), .second, .val (.long p1), .second, .val (.long p2), .second, .val (.long p3), .second, .val (.int p4), .val (.int (p4 &&& (3 : Int32))), .val (.long pa), .second, .val (.long ta), .second, .unset, .unset, .unset, .unset, .unset, .unset, .unset, .unset, .unset, .unset, .unset, .unset, .unset] [(.int (p4 &&& (3 : Int32))), (.long p2)])) (fun _ k => XS.iload X0.here hx rfl (hb hby at_20) rfl  k) ?_
  refine Goes.on (B := s₁.setTop (mkF m 23 #[.val (.long p0), .second, .val (.long p1), .second, .val (.long p2), .second, .val (.long p3), .second, .val (.int p4), .val (.int (p4 &&& (3 : Int32))), .val (.long pa), .second, .val (.long ta), .second, .unset, .unset, .unset, .unset, .unset, .unset, .unset, .unset, .unset, .unset, .unset, .unset, .unset] [(.long (p2 >>> ((p4 &&& (3 : Int32)) &&& 0x3f).toInt64))])) (fun _ k => XS.lshr X0.here hx rfl (hb hby at_22) rfl k) ?_
  generalize hpb : (p2 >>> ((p4 &&& (3 : Int32)) &&& 0x3f).toInt64) = pb
  refine Goes.on (B := s₁.setTop (mkF m 25 #[.val (.long p0), .second, .val (.long p1), .second, .val (.long p2), .second, .val (.long p3), .second, .val (.int p4), .val (.int (p4 &&& (3 : Int32))), .val (.long pa), .second, .val (.long ta), .second, .val (.long pb), .second, .unset, .unset, .unset, .unset, .unset, .unset, .unset, .unset, .unset, .unset, .unset] [])) (fun _ k => XS.lstore X0.here hx rfl (hb hby at_23) rfl (l' := #[.val (.long p0), .second, .val (.long p1), .second, .val (.long p2), .second, .val (.long p3), .second, .val (.int p4), .val (.int (p4 &&& (3 : Int32))), .val (.long pa), .second, .val (.long ta), .second, .val (.long pb), .second, .unset, .unset, .unset, .unset, .unset, .unset, .unset, .unset, .unset, .unset, .unset]) rfl k) ?_
  refine Goes.on (B := s₁.setTop (mkF m 27 #[.val (.long p0), .second, .val (.long p1), .second, .val (.long p2), .second, .val (.long p3), .second, .val (.int p4), .val (.int (p4 &&& (3 : Int32))), .val (.long pa), .second, .val (.long ta), .second, .val (.long pb), .second, .unset, .unset, .unset, .unset, .unset, .unset, .unset, .unset, .unset, .unset, .unset] [(.long p3)])) (fun _ k => XS.lload X0.here hx rfl (hb hby at_25) rfl  k) ?_
  refine Goes.on (B := s₁.setTop (mkF m 29 #[.val (.long p0), .second, .val (.long p1), .second, .val (.long p2), .second, .val (.long p3), .second, .val (.int p4), .val (.int (p4 &&& (3 : Int32))), .val (.long pa), .second, .val (.long ta), .second, .val (.long pb), .second, .unset, .unset, .unset, .unset, .unset, .unset, .unset, .unset, .unset, .unset, .unset] [(.int (p4 &&& (3 : Int32))), (.long p3)])) (fun _ k => XS.iload X0.here hx rfl (hb hby at_27) rfl  k) ?_
  refine Goes.on (B := s₁.setTop (mkF m 30 #[.val (.long p0), .second, .val (.long p1), .second, .val (.long p2), .second, .val (.long p3), .second, .val (.int p4), .val (.int (p4 &&& (3 : Int32))), .val (.long pa), .second, .val (.long ta), .second, .val (.long pb), .second, .unset, .unset, .unset, .unset, .unset, .unset, .unset, .unset, .unset, .unset, .unset] [(.long (p3 >>> ((p4 &&& (3 : Int32)) &&& 0x3f).toInt64))])) (fun _ k => XS.lshr X0.here hx rfl (hb hby at_29) rfl k) ?_
  generalize htb : (p3 >>> ((p4 &&& (3 : Int32)) &&& 0x3f).toInt64) = tb
  refine Goes.on (B := s₁.setTop (mkF m 32 #[.val (.long p0), .second, .val (.long p1), .second, .val (.long p2), .second, .val (.long p3), .second, .val (.int p4), .val (.int (p4 &&& (3 : Int32))), .val (.long pa), .second, .val (.long ta), .second, .val (.long pb), .second, .val (.long tb), .second, .unset, .unset, .unset, .unset, .unset, .unset, .unset, .unset, .unset] [])) (fun _ k => XS.lstore X0.here hx rfl (hb hby at_30) rfl (l' := #[.val (.long p0), .second, .val (.long p1), .second, .val (.long p2), .second, .val (.long p3), .second, .val (.int p4), .val (.int (p4 &&& (3 : Int32))), .val (.long pa), .second, .val (.long ta), .second, .val (.long pb), .second, .val (.long tb), .second, .unset, .unset, .unset, .unset, .unset, .unset, .unset, .unset, .unset]) rfl k) ?_
  refine Goes.on (B := s₁.setTop (mkF m 34 #[.val (.long p0), .second, .val (.long p1), .second, .val (.long p2), .second, .val (.long p3), .second, .val (.int p4), .val (.int (p4 &&& (3 : Int32))), .val (.long pa), .second, .val (.long ta), .second, .val (.long pb), .second, .val (.long tb), .second, .unset, .unset, .unset, .unset, .unset, .unset, .unset, .unset, .unset] [(.long pa)])) (fun _ k => XS.lload X0.here hx rfl (hb hby at_32) rfl  k) ?_
  refine Goes.on (B := s₁.setTop (mkF m 36 #[.val (.long p0), .second, .val (.long p1), .second, .val (.long p2), .second, .val (.long p3), .second, .val (.int p4), .val (.int (p4 &&& (3 : Int32))), .val (.long pa), .second, .val (.long ta), .second, .val (.long pb), .second, .val (.long tb), .second, .unset, .unset, .unset, .unset, .unset, .unset, .unset, .unset, .unset] [(.long pb), (.long pa)])) (fun _ k => XS.lload X0.here hx rfl (hb hby at_34) rfl  k) ?_
  refine Goes.on (B := s₁.setTop (mkF m 37 #[.val (.long p0), .second, .val (.long p1), .second, .val (.long p2), .second, .val (.long p3), .second, .val (.int p4), .val (.int (p4 &&& (3 : Int32))), .val (.long pa), .second, .val (.long ta), .second, .val (.long pb), .second, .val (.long tb), .second, .unset, .unset, .unset, .unset, .unset, .unset, .unset, .unset, .unset] [(.long (pa + pb))])) (fun _ k => XS.ladd X0.here hx rfl (hb hby at_36) rfl k) ?_
  refine Goes.on (B := s₁.setTop (mkF m 39 #[.val (.long p0), .second, .val (.long p1), .second, .val (.long p2), .second, .val (.long p3), .second, .val (.int p4), .val (.int (p4 &&& (3 : Int32))), .val (.long pa), .second, .val (.long ta), .second, .val (.long pb), .second, .val (.long tb), .second, .val (.long (pa + pb)), .second, .unset, .unset, .unset, .unset, .unset, .unset, .unset] [])) (fun _ k => XS.lstore X0.here hx rfl (hb hby at_37) rfl (l' := #[.val (.long p0), .second, .val (.long p1), .second, .val (.long p2), .second, .val (.long p3), .second, .val (.int p4), .val (.int (p4 &&& (3 : Int32))), .val (.long pa), .second, .val (.long ta), .second, .val (.long pb), .second, .val (.long tb), .second, .val (.long (pa + pb)), .second, .unset, .unset, .unset, .unset, .unset, .unset, .unset]) rfl k) ?_
  refine Goes.on (B := s₁.setTop (mkF m 41 #[.val (.long p0), .second, .val (.long p1), .second, .val (.long p2), .second, .val (.long p3), .second, .val (.int p4), .val (.int (p4 &&& (3 : Int32))), .val (.long pa), .second, .val (.long ta), .second, .val (.long pb), .second, .val (.long tb), .second, .val (.long (pa + pb)), .second, .unset, .unset, .unset, .unset, .unset, .unset, .unset] [(.long ta)])) (fun _ k => XS.lload X0.here hx rfl (hb hby at_39) rfl  k) ?_
  refine Goes.on (B := s₁.setTop (mkF m 43 #[.val (.long p0), .second, .val (.long p1), .second, .val (.long p2), .second, .val (.long p3), .second, .val (.int p4), .val (.int (p4 &&& (3 : Int32))), .val (.long pa), .second, .val (.long ta), .second, .val (.long pb), .second, .val (.long tb), .second, .val (.long (pa + pb)), .second, .unset, .unset, .unset, .unset, .unset, .unset, .unset] [(.long tb), (.long ta)])) (fun _ k => XS.lload X0.here hx rfl (hb hby at_41) rfl  k) ?_
  refine Goes.on (B := s₁.setTop (mkF m 44 #[.val (.long p0), .second, .val (.long p1), .second, .val (.long p2), .second, .val (.long p3), .second, .val (.int p4), .val (.int (p4 &&& (3 : Int32))), .val (.long pa), .second, .val (.long ta), .second, .val (.long pb), .second, .val (.long tb), .second, .val (.long (pa + pb)), .second, .unset, .unset, .unset, .unset, .unset, .unset, .unset] [(.long (ta + tb))])) (fun _ k => XS.ladd X0.here hx rfl (hb hby at_43) rfl k) ?_
  refine Goes.on (B := s₁.setTop (mkF m 46 #[.val (.long p0), .second, .val (.long p1), .second, .val (.long p2), .second, .val (.long p3), .second, .val (.int p4), .val (.int (p4 &&& (3 : Int32))), .val (.long pa), .second, .val (.long ta), .second, .val (.long pb), .second, .val (.long tb), .second, .val (.long (pa + pb)), .second, .val (.long (ta + tb)), .second, .unset, .unset, .unset, .unset, .unset] [])) (fun _ k => XS.lstore X0.here hx rfl (hb hby at_44) rfl (l' := #[.val (.long p0), .second, .val (.long p1), .second, .val (.long p2), .second, .val (.long p3), .second, .val (.int p4), .val (.int (p4 &&& (3 : Int32))), .val (.long pa), .second, .val (.long ta), .second, .val (.long pb), .second, .val (.long tb), .second, .val (.long (pa + pb)), .second, .val (.long (ta + tb)), .second, .unset, .unset, .unset, .unset, .unset]) rfl k) ?_
  refine Goes.on (B := s₁.setTop (mkF m 48 #[.val (.long p0), .second, .val (.long p1), .second, .val (.long p2), .second, .val (.long p3), .second, .val (.int p4), .val (.int (p4 &&& (3 : Int32))), .val (.long pa), .second, .val (.long ta), .second, .val (.long pb), .second, .val (.long tb), .second, .val (.long (pa + pb)), .second, .val (.long (ta + tb)), .second, .unset, .unset, .unset, .unset, .unset] [(.long (pa + pb))])) (fun _ k => XS.lload X0.here hx rfl (hb hby at_46) rfl  k) ?_
  refine Goes.on (B := s₁.setTop (mkF m 50 #[.val (.long p0), .second, .val (.long p1), .second, .val (.long p2), .second, .val (.long p3), .second, .val (.int p4), .val (.int (p4 &&& (3 : Int32))), .val (.long pa), .second, .val (.long ta), .second, .val (.long pb), .second, .val (.long tb), .second, .val (.long (pa + pb)), .second, .val (.long (ta + tb)), .second, .unset, .unset, .unset, .unset, .unset] [(.long (ta + tb)), (.long (pa + pb))])) (fun _ k => XS.lload X0.here hx rfl (hb hby at_48) rfl  k) ?_
  refine Goes.on (B := s₁.setTop (mkF m 51 #[.val (.long p0), .second, .val (.long p1), .second, .val (.long p2), .second, .val (.long p3), .second, .val (.int p4), .val (.int (p4 &&& (3 : Int32))), .val (.long pa), .second, .val (.long ta), .second, .val (.long pb), .second, .val (.long tb), .second, .val (.long (pa + pb)), .second, .val (.long (ta + tb)), .second, .unset, .unset, .unset, .unset, .unset] [(.long ((pa + pb) + (ta + tb)))])) (fun _ k => XS.ladd X0.here hx rfl (hb hby at_50) rfl k) ?_
  refine Goes.on (B := s₁.setTop (mkF m 53 #[.val (.long p0), .second, .val (.long p1), .second, .val (.long p2), .second, .val (.long p3), .second, .val (.int p4), .val (.int (p4 &&& (3 : Int32))), .val (.long pa), .second, .val (.long ta), .second, .val (.long pb), .second, .val (.long tb), .second, .val (.long (pa + pb)), .second, .val (.long (ta + tb)), .second, .val (.long ((pa + pb) + (ta + tb))), .second, .unset, .unset, .unset] [])) (fun _ k => XS.lstore X0.here hx rfl (hb hby at_51) rfl (l' := #[.val (.long p0), .second, .val (.long p1), .second, .val (.long p2), .second, .val (.long p3), .second, .val (.int p4), .val (.int (p4 &&& (3 : Int32))), .val (.long pa), .second, .val (.long ta), .second, .val (.long pb), .second, .val (.long tb), .second, .val (.long (pa + pb)), .second, .val (.long (ta + tb)), .second, .val (.long ((pa + pb) + (ta + tb))), .second, .unset, .unset, .unset]) rfl k) ?_
  refine Goes.on (B := s₁.setTop (mkF m 55 #[.val (.long p0), .second, .val (.long p1), .second, .val (.long p2), .second, .val (.long p3), .second, .val (.int p4), .val (.int (p4 &&& (3 : Int32))), .val (.long pa), .second, .val (.long ta), .second, .val (.long pb), .second, .val (.long tb), .second, .val (.long (pa + pb)), .second, .val (.long (ta + tb)), .second, .val (.long ((pa + pb) + (ta + tb))), .second, .unset, .unset, .unset] [(.long pa)])) (fun _ k => XS.lload X0.here hx rfl (hb hby at_53) rfl  k) ?_
  refine Goes.on (B := s₁.setTop (mkF m 57 #[.val (.long p0), .second, .val (.long p1), .second, .val (.long p2), .second, .val (.long p3), .second, .val (.int p4), .val (.int (p4 &&& (3 : Int32))), .val (.long pa), .second, .val (.long ta), .second, .val (.long pb), .second, .val (.long tb), .second, .val (.long (pa + pb)), .second, .val (.long (ta + tb)), .second, .val (.long ((pa + pb) + (ta + tb))), .second, .unset, .unset, .unset] [(.long ta), (.long pa)])) (fun _ k => XS.lload X0.here hx rfl (hb hby at_55) rfl  k) ?_
  refine Goes.on (B := s₁.setTop (mkF m 59 #[.val (.long p0), .second, .val (.long p1), .second, .val (.long p2), .second, .val (.long p3), .second, .val (.int p4), .val (.int (p4 &&& (3 : Int32))), .val (.long pa), .second, .val (.long ta), .second, .val (.long pb), .second, .val (.long tb), .second, .val (.long (pa + pb)), .second, .val (.long (ta + tb)), .second, .val (.long ((pa + pb) + (ta + tb))), .second, .unset, .unset, .unset] [(.long pa), (.long ta), (.long pa)])) (fun _ k => XS.lload X0.here hx rfl (hb hby at_57) rfl  k) ?_
  refine Goes.on (B := s₁.setTop (mkF m 61 #[.val (.long p0), .second, .val (.long p1), .second, .val (.long p2), .second, .val (.long p3), .second, .val (.int p4), .val (.int (p4 &&& (3 : Int32))), .val (.long pa), .second, .val (.long ta), .second, .val (.long pb), .second, .val (.long tb), .second, .val (.long (pa + pb)), .second, .val (.long (ta + tb)), .second, .val (.long ((pa + pb) + (ta + tb))), .second, .unset, .unset, .unset] [(.long ta), (.long pa), (.long ta), (.long pa)])) (fun _ k => XS.lload X0.here hx rfl (hb hby at_59) rfl  k) ?_
  refine Goes.on (B := s₁.setTop (mkF m 62 #[.val (.long p0), .second, .val (.long p1), .second, .val (.long p2), .second, .val (.long p3), .second, .val (.int p4), .val (.int (p4 &&& (3 : Int32))), .val (.long pa), .second, .val (.long ta), .second, .val (.long pb), .second, .val (.long tb), .second, .val (.long (pa + pb)), .second, .val (.long (ta + tb)), .second, .val (.long ((pa + pb) + (ta + tb))), .second, .unset, .unset, .unset] [(.long (pa + ta)), (.long ta), (.long pa)])) (fun _ k => XS.ladd X0.here hx rfl (hb hby at_61) rfl k) ?_
  obtain ⟨_, _, ⟨T1, L1, k1, n1⟩, -, X1, ⟨Lc1, hQ1, l1, y1, z1⟩, st1⟩ := Jvm.LawKit.callS X0 hx (y := (⟨"com/example/abil/abil/core/TaxedPlusPinLaw", "ovf", "(JJJ)Z"⟩ : MethodName)) hown (mvT hZ (hw _ (List.mem_of_getElem? (i := 0) rfl))) (mvT hZ (hw _ (List.mem_of_getElem? (i := 1) rfl))) (mvT hZ (hw _ (List.mem_of_getElem? (i := 2) rfl))) (mvT hZ (hw _ (List.mem_of_getElem? (i := 3) rfl))) (by decide) (backOf (W := 0) (rmv l Z a0 hw [] pa ta (pa + ta) h0 n0 Z0) hZ (hw _ (List.mem_of_getElem? (i := 3) rfl)) (hw _ (List.mem_of_getElem? (i := 2) rfl)) (by decide) (by decide)) (g := (mkF m 62 #[.val (.long p0), .second, .val (.long p1), .second, .val (.long p2), .second, .val (.long p3), .second, .val (.int p4), .val (.int (p4 &&& (3 : Int32))), .val (.long pa), .second, .val (.long ta), .second, .val (.long pb), .second, .val (.long tb), .second, .val (.long (pa + pb)), .second, .val (.long (ta + tb)), .second, .val (.long ((pa + pb) + (ta + tb))), .second, .unset, .unset, .unset] [(.long (pa + ta)), (.long ta), (.long pa)])) rfl (by rw [hml]; rfl) (argsL := [(.long pa), (.long ta), (.long (pa + ta))]) (rest := []) (lenOf pd_0__JJJ_Z rfl) rfl (by show 2 * 0 + _ ≤ _; exact Nat.le_of_eq rfl) (hb hby at_62) (fun _ _ => ⟨rfl, e0, (by decide : 0 + 0 ≤ _), (by decide : 0 + 0 ≤ _)⟩)
  dsimp only [Pt.U, Pt.locs, Pt.cells, Pt.slots] at X1 l1 y1 z1 st1 hQ1
  subst l1 y1 z1
  obtain ⟨rfl, Nq1, eh1⟩ := hQ1
  have N1 := Fr.app N0 Nq1
  refine Goes.on (B := T1.setTop (mkF m 65 #[.val (.long p0), .second, .val (.long p1), .second, .val (.long p2), .second, .val (.long p3), .second, .val (.int p4), .val (.int (p4 &&& (3 : Int32))), .val (.long pa), .second, .val (.long ta), .second, .val (.long pb), .second, .val (.long tb), .second, .val (.long (pa + pb)), .second, .val (.long (ta + tb)), .second, .val (.long ((pa + pb) + (ta + tb))), .second, .unset, .unset, .unset] [(.int (own_ovf pa ta (pa + ta)))])) (fun t k => st1 t k) ?_
  by_cases hv1 : (own_ovf pa ta (pa + ta)) = (0 : Int32)
  · refine Goes.on (B := T1.setTop (mkF m 68 #[.val (.long p0), .second, .val (.long p1), .second, .val (.long p2), .second, .val (.long p3), .second, .val (.int p4), .val (.int (p4 &&& (3 : Int32))), .val (.long pa), .second, .val (.long ta), .second, .val (.long pb), .second, .val (.long tb), .second, .val (.long (pa + pb)), .second, .val (.long (ta + tb)), .second, .val (.long ((pa + pb) + (ta + tb))), .second, .unset, .unset, .unset] [])) (fun _ k => XS.ifNo X1.here hx rfl (hb hby at_65) rfl ((if0 _ _).trans (teq hv1).2) k) ?_
    refine Goes.on (B := T1.setTop (mkF m 70 #[.val (.long p0), .second, .val (.long p1), .second, .val (.long p2), .second, .val (.long p3), .second, .val (.int p4), .val (.int (p4 &&& (3 : Int32))), .val (.long pa), .second, .val (.long ta), .second, .val (.long pb), .second, .val (.long tb), .second, .val (.long (pa + pb)), .second, .val (.long (ta + tb)), .second, .val (.long ((pa + pb) + (ta + tb))), .second, .unset, .unset, .unset] [(.long pb)])) (fun _ k => XS.lload X1.here hx rfl (hb hby at_68) rfl  k) ?_
    refine Goes.on (B := T1.setTop (mkF m 72 #[.val (.long p0), .second, .val (.long p1), .second, .val (.long p2), .second, .val (.long p3), .second, .val (.int p4), .val (.int (p4 &&& (3 : Int32))), .val (.long pa), .second, .val (.long ta), .second, .val (.long pb), .second, .val (.long tb), .second, .val (.long (pa + pb)), .second, .val (.long (ta + tb)), .second, .val (.long ((pa + pb) + (ta + tb))), .second, .unset, .unset, .unset] [(.long tb), (.long pb)])) (fun _ k => XS.lload X1.here hx rfl (hb hby at_70) rfl  k) ?_
    refine Goes.on (B := T1.setTop (mkF m 74 #[.val (.long p0), .second, .val (.long p1), .second, .val (.long p2), .second, .val (.long p3), .second, .val (.int p4), .val (.int (p4 &&& (3 : Int32))), .val (.long pa), .second, .val (.long ta), .second, .val (.long pb), .second, .val (.long tb), .second, .val (.long (pa + pb)), .second, .val (.long (ta + tb)), .second, .val (.long ((pa + pb) + (ta + tb))), .second, .unset, .unset, .unset] [(.long pb), (.long tb), (.long pb)])) (fun _ k => XS.lload X1.here hx rfl (hb hby at_72) rfl  k) ?_
    refine Goes.on (B := T1.setTop (mkF m 76 #[.val (.long p0), .second, .val (.long p1), .second, .val (.long p2), .second, .val (.long p3), .second, .val (.int p4), .val (.int (p4 &&& (3 : Int32))), .val (.long pa), .second, .val (.long ta), .second, .val (.long pb), .second, .val (.long tb), .second, .val (.long (pa + pb)), .second, .val (.long (ta + tb)), .second, .val (.long ((pa + pb) + (ta + tb))), .second, .unset, .unset, .unset] [(.long tb), (.long pb), (.long tb), (.long pb)])) (fun _ k => XS.lload X1.here hx rfl (hb hby at_74) rfl  k) ?_
    refine Goes.on (B := T1.setTop (mkF m 77 #[.val (.long p0), .second, .val (.long p1), .second, .val (.long p2), .second, .val (.long p3), .second, .val (.int p4), .val (.int (p4 &&& (3 : Int32))), .val (.long pa), .second, .val (.long ta), .second, .val (.long pb), .second, .val (.long tb), .second, .val (.long (pa + pb)), .second, .val (.long (ta + tb)), .second, .val (.long ((pa + pb) + (ta + tb))), .second, .unset, .unset, .unset] [(.long (pb + tb)), (.long tb), (.long pb)])) (fun _ k => XS.ladd X1.here hx rfl (hb hby at_76) rfl k) ?_
    obtain ⟨_, _, ⟨T2, L2, k2, n2⟩, -, X2, ⟨Lc2, hQ2, l2, y2, z2⟩, st2⟩ := Jvm.LawKit.callS X1 hx (y := (⟨"com/example/abil/abil/core/TaxedPlusPinLaw", "ovf", "(JJJ)Z"⟩ : MethodName)) hown (mvT hZ (hw _ (List.mem_of_getElem? (i := 0) rfl))) (mvT hZ (hw _ (List.mem_of_getElem? (i := 1) rfl))) (mvT hZ (hw _ (List.mem_of_getElem? (i := 2) rfl))) (mvT hZ (hw _ (List.mem_of_getElem? (i := 3) rfl))) (by decide) (backOf (W := 0) (rmv l Z a0 hw [] pb tb (pb + tb) h0 n0 Z0) hZ (hw _ (List.mem_of_getElem? (i := 3) rfl)) (hw _ (List.mem_of_getElem? (i := 2) rfl)) (by decide) (by decide)) (g := (mkF m 77 #[.val (.long p0), .second, .val (.long p1), .second, .val (.long p2), .second, .val (.long p3), .second, .val (.int p4), .val (.int (p4 &&& (3 : Int32))), .val (.long pa), .second, .val (.long ta), .second, .val (.long pb), .second, .val (.long tb), .second, .val (.long (pa + pb)), .second, .val (.long (ta + tb)), .second, .val (.long ((pa + pb) + (ta + tb))), .second, .unset, .unset, .unset] [(.long (pb + tb)), (.long tb), (.long pb)])) rfl (by rw [hml]; rfl) (argsL := [(.long pb), (.long tb), (.long (pb + tb))]) (rest := []) (lenOf pd_0__JJJ_Z rfl) rfl (by show 2 * 0 + _ ≤ _; exact Nat.le_of_eq rfl) (hb hby at_77) (fun _ _ => ⟨rfl, eh1, (by decide : 0 + 0 ≤ _), (by decide : 0 + 0 ≤ _)⟩)
    dsimp only [Pt.U, Pt.locs, Pt.cells, Pt.slots] at X2 l2 y2 z2 st2 hQ2
    subst l2 y2 z2
    obtain ⟨rfl, Nq2, eh2⟩ := hQ2
    have N2 := Fr.app N1 Nq2
    refine Goes.on (B := T2.setTop (mkF m 80 #[.val (.long p0), .second, .val (.long p1), .second, .val (.long p2), .second, .val (.long p3), .second, .val (.int p4), .val (.int (p4 &&& (3 : Int32))), .val (.long pa), .second, .val (.long ta), .second, .val (.long pb), .second, .val (.long tb), .second, .val (.long (pa + pb)), .second, .val (.long (ta + tb)), .second, .val (.long ((pa + pb) + (ta + tb))), .second, .unset, .unset, .unset] [(.int (own_ovf pb tb (pb + tb)))])) (fun t k => st2 t k) ?_
    by_cases hv2 : (own_ovf pb tb (pb + tb)) = (0 : Int32)
    · refine Goes.on (B := T2.setTop (mkF m 83 #[.val (.long p0), .second, .val (.long p1), .second, .val (.long p2), .second, .val (.long p3), .second, .val (.int p4), .val (.int (p4 &&& (3 : Int32))), .val (.long pa), .second, .val (.long ta), .second, .val (.long pb), .second, .val (.long tb), .second, .val (.long (pa + pb)), .second, .val (.long (ta + tb)), .second, .val (.long ((pa + pb) + (ta + tb))), .second, .unset, .unset, .unset] [])) (fun _ k => XS.ifNo X2.here hx rfl (hb hby at_80) rfl ((if0 _ _).trans (teq hv2).2) k) ?_
      refine Goes.on (B := T2.setTop (mkF m 85 #[.val (.long p0), .second, .val (.long p1), .second, .val (.long p2), .second, .val (.long p3), .second, .val (.int p4), .val (.int (p4 &&& (3 : Int32))), .val (.long pa), .second, .val (.long ta), .second, .val (.long pb), .second, .val (.long tb), .second, .val (.long (pa + pb)), .second, .val (.long (ta + tb)), .second, .val (.long ((pa + pb) + (ta + tb))), .second, .unset, .unset, .unset] [(.long pa)])) (fun _ k => XS.lload X2.here hx rfl (hb hby at_83) rfl  k) ?_
      refine Goes.on (B := T2.setTop (mkF m 87 #[.val (.long p0), .second, .val (.long p1), .second, .val (.long p2), .second, .val (.long p3), .second, .val (.int p4), .val (.int (p4 &&& (3 : Int32))), .val (.long pa), .second, .val (.long ta), .second, .val (.long pb), .second, .val (.long tb), .second, .val (.long (pa + pb)), .second, .val (.long (ta + tb)), .second, .val (.long ((pa + pb) + (ta + tb))), .second, .unset, .unset, .unset] [(.long pb), (.long pa)])) (fun _ k => XS.lload X2.here hx rfl (hb hby at_85) rfl  k) ?_
      refine Goes.on (B := T2.setTop (mkF m 89 #[.val (.long p0), .second, .val (.long p1), .second, .val (.long p2), .second, .val (.long p3), .second, .val (.int p4), .val (.int (p4 &&& (3 : Int32))), .val (.long pa), .second, .val (.long ta), .second, .val (.long pb), .second, .val (.long tb), .second, .val (.long (pa + pb)), .second, .val (.long (ta + tb)), .second, .val (.long ((pa + pb) + (ta + tb))), .second, .unset, .unset, .unset] [(.long (pa + pb)), (.long pb), (.long pa)])) (fun _ k => XS.lload X2.here hx rfl (hb hby at_87) rfl  k) ?_
      obtain ⟨_, _, ⟨T3, L3, k3, n3⟩, -, X3, ⟨Lc3, hQ3, l3, y3, z3⟩, st3⟩ := Jvm.LawKit.callS X2 hx (y := (⟨"com/example/abil/abil/core/TaxedPlusPinLaw", "ovf", "(JJJ)Z"⟩ : MethodName)) hown (mvT hZ (hw _ (List.mem_of_getElem? (i := 0) rfl))) (mvT hZ (hw _ (List.mem_of_getElem? (i := 1) rfl))) (mvT hZ (hw _ (List.mem_of_getElem? (i := 2) rfl))) (mvT hZ (hw _ (List.mem_of_getElem? (i := 3) rfl))) (by decide) (backOf (W := 0) (rmv l Z a0 hw [] pa pb (pa + pb) h0 n0 Z0) hZ (hw _ (List.mem_of_getElem? (i := 3) rfl)) (hw _ (List.mem_of_getElem? (i := 2) rfl)) (by decide) (by decide)) (g := (mkF m 89 #[.val (.long p0), .second, .val (.long p1), .second, .val (.long p2), .second, .val (.long p3), .second, .val (.int p4), .val (.int (p4 &&& (3 : Int32))), .val (.long pa), .second, .val (.long ta), .second, .val (.long pb), .second, .val (.long tb), .second, .val (.long (pa + pb)), .second, .val (.long (ta + tb)), .second, .val (.long ((pa + pb) + (ta + tb))), .second, .unset, .unset, .unset] [(.long (pa + pb)), (.long pb), (.long pa)])) rfl (by rw [hml]; rfl) (argsL := [(.long pa), (.long pb), (.long (pa + pb))]) (rest := []) (lenOf pd_0__JJJ_Z rfl) rfl (by show 2 * 0 + _ ≤ _; exact Nat.le_of_eq rfl) (hb hby at_89) (fun _ _ => ⟨rfl, eh2, (by decide : 0 + 0 ≤ _), (by decide : 0 + 0 ≤ _)⟩)
      dsimp only [Pt.U, Pt.locs, Pt.cells, Pt.slots] at X3 l3 y3 z3 st3 hQ3
      subst l3 y3 z3
      obtain ⟨rfl, Nq3, eh3⟩ := hQ3
      have N3 := Fr.app N2 Nq3
      refine Goes.on (B := T3.setTop (mkF m 92 #[.val (.long p0), .second, .val (.long p1), .second, .val (.long p2), .second, .val (.long p3), .second, .val (.int p4), .val (.int (p4 &&& (3 : Int32))), .val (.long pa), .second, .val (.long ta), .second, .val (.long pb), .second, .val (.long tb), .second, .val (.long (pa + pb)), .second, .val (.long (ta + tb)), .second, .val (.long ((pa + pb) + (ta + tb))), .second, .unset, .unset, .unset] [(.int (own_ovf pa pb (pa + pb)))])) (fun t k => st3 t k) ?_
      by_cases hv3 : (own_ovf pa pb (pa + pb)) = (0 : Int32)
      · refine Goes.on (B := T3.setTop (mkF m 95 #[.val (.long p0), .second, .val (.long p1), .second, .val (.long p2), .second, .val (.long p3), .second, .val (.int p4), .val (.int (p4 &&& (3 : Int32))), .val (.long pa), .second, .val (.long ta), .second, .val (.long pb), .second, .val (.long tb), .second, .val (.long (pa + pb)), .second, .val (.long (ta + tb)), .second, .val (.long ((pa + pb) + (ta + tb))), .second, .unset, .unset, .unset] [])) (fun _ k => XS.ifNo X3.here hx rfl (hb hby at_92) rfl ((if0 _ _).trans (teq hv3).2) k) ?_
        refine Goes.on (B := T3.setTop (mkF m 97 #[.val (.long p0), .second, .val (.long p1), .second, .val (.long p2), .second, .val (.long p3), .second, .val (.int p4), .val (.int (p4 &&& (3 : Int32))), .val (.long pa), .second, .val (.long ta), .second, .val (.long pb), .second, .val (.long tb), .second, .val (.long (pa + pb)), .second, .val (.long (ta + tb)), .second, .val (.long ((pa + pb) + (ta + tb))), .second, .unset, .unset, .unset] [(.long ta)])) (fun _ k => XS.lload X3.here hx rfl (hb hby at_95) rfl  k) ?_
        refine Goes.on (B := T3.setTop (mkF m 99 #[.val (.long p0), .second, .val (.long p1), .second, .val (.long p2), .second, .val (.long p3), .second, .val (.int p4), .val (.int (p4 &&& (3 : Int32))), .val (.long pa), .second, .val (.long ta), .second, .val (.long pb), .second, .val (.long tb), .second, .val (.long (pa + pb)), .second, .val (.long (ta + tb)), .second, .val (.long ((pa + pb) + (ta + tb))), .second, .unset, .unset, .unset] [(.long tb), (.long ta)])) (fun _ k => XS.lload X3.here hx rfl (hb hby at_97) rfl  k) ?_
        refine Goes.on (B := T3.setTop (mkF m 101 #[.val (.long p0), .second, .val (.long p1), .second, .val (.long p2), .second, .val (.long p3), .second, .val (.int p4), .val (.int (p4 &&& (3 : Int32))), .val (.long pa), .second, .val (.long ta), .second, .val (.long pb), .second, .val (.long tb), .second, .val (.long (pa + pb)), .second, .val (.long (ta + tb)), .second, .val (.long ((pa + pb) + (ta + tb))), .second, .unset, .unset, .unset] [(.long (ta + tb)), (.long tb), (.long ta)])) (fun _ k => XS.lload X3.here hx rfl (hb hby at_99) rfl  k) ?_
        obtain ⟨_, _, ⟨T4, L4, k4, n4⟩, -, X4, ⟨Lc4, hQ4, l4, y4, z4⟩, st4⟩ := Jvm.LawKit.callS X3 hx (y := (⟨"com/example/abil/abil/core/TaxedPlusPinLaw", "ovf", "(JJJ)Z"⟩ : MethodName)) hown (mvT hZ (hw _ (List.mem_of_getElem? (i := 0) rfl))) (mvT hZ (hw _ (List.mem_of_getElem? (i := 1) rfl))) (mvT hZ (hw _ (List.mem_of_getElem? (i := 2) rfl))) (mvT hZ (hw _ (List.mem_of_getElem? (i := 3) rfl))) (by decide) (backOf (W := 0) (rmv l Z a0 hw [] ta tb (ta + tb) h0 n0 Z0) hZ (hw _ (List.mem_of_getElem? (i := 3) rfl)) (hw _ (List.mem_of_getElem? (i := 2) rfl)) (by decide) (by decide)) (g := (mkF m 101 #[.val (.long p0), .second, .val (.long p1), .second, .val (.long p2), .second, .val (.long p3), .second, .val (.int p4), .val (.int (p4 &&& (3 : Int32))), .val (.long pa), .second, .val (.long ta), .second, .val (.long pb), .second, .val (.long tb), .second, .val (.long (pa + pb)), .second, .val (.long (ta + tb)), .second, .val (.long ((pa + pb) + (ta + tb))), .second, .unset, .unset, .unset] [(.long (ta + tb)), (.long tb), (.long ta)])) rfl (by rw [hml]; rfl) (argsL := [(.long ta), (.long tb), (.long (ta + tb))]) (rest := []) (lenOf pd_0__JJJ_Z rfl) rfl (by show 2 * 0 + _ ≤ _; exact Nat.le_of_eq rfl) (hb hby at_101) (fun _ _ => ⟨rfl, eh3, (by decide : 0 + 0 ≤ _), (by decide : 0 + 0 ≤ _)⟩)
        dsimp only [Pt.U, Pt.locs, Pt.cells, Pt.slots] at X4 l4 y4 z4 st4 hQ4
        subst l4 y4 z4
        obtain ⟨rfl, Nq4, eh4⟩ := hQ4
        have N4 := Fr.app N3 Nq4
        refine Goes.on (B := T4.setTop (mkF m 104 #[.val (.long p0), .second, .val (.long p1), .second, .val (.long p2), .second, .val (.long p3), .second, .val (.int p4), .val (.int (p4 &&& (3 : Int32))), .val (.long pa), .second, .val (.long ta), .second, .val (.long pb), .second, .val (.long tb), .second, .val (.long (pa + pb)), .second, .val (.long (ta + tb)), .second, .val (.long ((pa + pb) + (ta + tb))), .second, .unset, .unset, .unset] [(.int (own_ovf ta tb (ta + tb)))])) (fun t k => st4 t k) ?_
        by_cases hv4 : (own_ovf ta tb (ta + tb)) = (0 : Int32)
        · refine Goes.on (B := T4.setTop (mkF m 107 #[.val (.long p0), .second, .val (.long p1), .second, .val (.long p2), .second, .val (.long p3), .second, .val (.int p4), .val (.int (p4 &&& (3 : Int32))), .val (.long pa), .second, .val (.long ta), .second, .val (.long pb), .second, .val (.long tb), .second, .val (.long (pa + pb)), .second, .val (.long (ta + tb)), .second, .val (.long ((pa + pb) + (ta + tb))), .second, .unset, .unset, .unset] [])) (fun _ k => XS.ifNo X4.here hx rfl (hb hby at_104) rfl ((if0 _ _).trans (teq hv4).2) k) ?_
          refine Goes.on (B := T4.setTop (mkF m 109 #[.val (.long p0), .second, .val (.long p1), .second, .val (.long p2), .second, .val (.long p3), .second, .val (.int p4), .val (.int (p4 &&& (3 : Int32))), .val (.long pa), .second, .val (.long ta), .second, .val (.long pb), .second, .val (.long tb), .second, .val (.long (pa + pb)), .second, .val (.long (ta + tb)), .second, .val (.long ((pa + pb) + (ta + tb))), .second, .unset, .unset, .unset] [(.long (pa + pb))])) (fun _ k => XS.lload X4.here hx rfl (hb hby at_107) rfl  k) ?_
          refine Goes.on (B := T4.setTop (mkF m 111 #[.val (.long p0), .second, .val (.long p1), .second, .val (.long p2), .second, .val (.long p3), .second, .val (.int p4), .val (.int (p4 &&& (3 : Int32))), .val (.long pa), .second, .val (.long ta), .second, .val (.long pb), .second, .val (.long tb), .second, .val (.long (pa + pb)), .second, .val (.long (ta + tb)), .second, .val (.long ((pa + pb) + (ta + tb))), .second, .unset, .unset, .unset] [(.long (ta + tb)), (.long (pa + pb))])) (fun _ k => XS.lload X4.here hx rfl (hb hby at_109) rfl  k) ?_
          refine Goes.on (B := T4.setTop (mkF m 113 #[.val (.long p0), .second, .val (.long p1), .second, .val (.long p2), .second, .val (.long p3), .second, .val (.int p4), .val (.int (p4 &&& (3 : Int32))), .val (.long pa), .second, .val (.long ta), .second, .val (.long pb), .second, .val (.long tb), .second, .val (.long (pa + pb)), .second, .val (.long (ta + tb)), .second, .val (.long ((pa + pb) + (ta + tb))), .second, .unset, .unset, .unset] [(.long ((pa + pb) + (ta + tb))), (.long (ta + tb)), (.long (pa + pb))])) (fun _ k => XS.lload X4.here hx rfl (hb hby at_111) rfl  k) ?_
          obtain ⟨_, _, ⟨T5, L5, k5, n5⟩, -, X5, ⟨Lc5, hQ5, l5, y5, z5⟩, st5⟩ := Jvm.LawKit.callS X4 hx (y := (⟨"com/example/abil/abil/core/TaxedPlusPinLaw", "ovf", "(JJJ)Z"⟩ : MethodName)) hown (mvT hZ (hw _ (List.mem_of_getElem? (i := 0) rfl))) (mvT hZ (hw _ (List.mem_of_getElem? (i := 1) rfl))) (mvT hZ (hw _ (List.mem_of_getElem? (i := 2) rfl))) (mvT hZ (hw _ (List.mem_of_getElem? (i := 3) rfl))) (by decide) (backOf (W := 0) (rmv l Z a0 hw [] (pa + pb) (ta + tb) ((pa + pb) + (ta + tb)) h0 n0 Z0) hZ (hw _ (List.mem_of_getElem? (i := 3) rfl)) (hw _ (List.mem_of_getElem? (i := 2) rfl)) (by decide) (by decide)) (g := (mkF m 113 #[.val (.long p0), .second, .val (.long p1), .second, .val (.long p2), .second, .val (.long p3), .second, .val (.int p4), .val (.int (p4 &&& (3 : Int32))), .val (.long pa), .second, .val (.long ta), .second, .val (.long pb), .second, .val (.long tb), .second, .val (.long (pa + pb)), .second, .val (.long (ta + tb)), .second, .val (.long ((pa + pb) + (ta + tb))), .second, .unset, .unset, .unset] [(.long ((pa + pb) + (ta + tb))), (.long (ta + tb)), (.long (pa + pb))])) rfl (by rw [hml]; rfl) (argsL := [(.long (pa + pb)), (.long (ta + tb)), (.long ((pa + pb) + (ta + tb)))]) (rest := []) (lenOf pd_0__JJJ_Z rfl) rfl (by show 2 * 0 + _ ≤ _; exact Nat.le_of_eq rfl) (hb hby at_113) (fun _ _ => ⟨rfl, eh4, (by decide : 0 + 0 ≤ _), (by decide : 0 + 0 ≤ _)⟩)
          dsimp only [Pt.U, Pt.locs, Pt.cells, Pt.slots] at X5 l5 y5 z5 st5 hQ5
          subst l5 y5 z5
          obtain ⟨rfl, Nq5, eh5⟩ := hQ5
          have N5 := Fr.app N4 Nq5
          refine Goes.on (B := T5.setTop (mkF m 116 #[.val (.long p0), .second, .val (.long p1), .second, .val (.long p2), .second, .val (.long p3), .second, .val (.int p4), .val (.int (p4 &&& (3 : Int32))), .val (.long pa), .second, .val (.long ta), .second, .val (.long pb), .second, .val (.long tb), .second, .val (.long (pa + pb)), .second, .val (.long (ta + tb)), .second, .val (.long ((pa + pb) + (ta + tb))), .second, .unset, .unset, .unset] [(.int (own_ovf (pa + pb) (ta + tb) ((pa + pb) + (ta + tb))))])) (fun t k => st5 t k) ?_
          by_cases hv5 : (own_ovf (pa + pb) (ta + tb) ((pa + pb) + (ta + tb))) = (0 : Int32)
          · refine Goes.on (B := T5.setTop (mkF m 121 #[.val (.long p0), .second, .val (.long p1), .second, .val (.long p2), .second, .val (.long p3), .second, .val (.int p4), .val (.int (p4 &&& (3 : Int32))), .val (.long pa), .second, .val (.long ta), .second, .val (.long pb), .second, .val (.long tb), .second, .val (.long (pa + pb)), .second, .val (.long (ta + tb)), .second, .val (.long ((pa + pb) + (ta + tb))), .second, .unset, .unset, .unset] [])) (fun _ k => XS.ifYes X5.here hx rfl (pc0 := 116) (pc' := 121) rfl (hb hby at_116) rfl ((if0 _ _).trans (teq hv5).1) (by decide) (by decide) k) ?_
            obtain ⟨T6, h6, X6, e6, E6, A6, D6, -, st6⟩ := newO X5 hx hZ hown (hw _ (List.mem_of_getElem? (i := 4) rfl)) (hw _ (List.mem_of_getElem? (i := 5) rfl)) (hw _ (List.mem_of_getElem? (i := 6) rfl)) eh5 (g := (mkF m 121 #[.val (.long p0), .second, .val (.long p1), .second, .val (.long p2), .second, .val (.long p3), .second, .val (.int p4), .val (.int (p4 &&& (3 : Int32))), .val (.long pa), .second, .val (.long ta), .second, .val (.long pb), .second, .val (.long tb), .second, .val (.long (pa + pb)), .second, .val (.long (ta + tb)), .second, .val (.long ((pa + pb) + (ta + tb))), .second, .unset, .unset, .unset] [])) rfl (hb hby at_121) (by decide) (by decide)
            obtain ⟨b6, g6⟩ : ∃ z, z = h0.size := ⟨_, rfl⟩
            rw [← g6] at A6 D6 st6
            have z7 : n0 ≤ h6.size := Nat.le_trans Z0 E6.1
            have g_b6 : n0 ≤ b6 := Nat.le_trans Z0 (Nat.le_of_eq g6.symm)
            have F6_pretax : Fld Z h6 b6 "com/example/abil/abil/core/Taxed" "pretax" "J" (.long (0 : Int64)) := D6 (Or.inr (hw _ (List.mem_of_getElem? (i := 14) rfl))) (ty := .long) (by decide)
            have F6_tax : Fld Z h6 b6 "com/example/abil/abil/core/Taxed" "tax" "J" (.long (0 : Int64)) := D6 (Or.inr (hw _ (List.mem_of_getElem? (i := 16) rfl))) (ty := .long) (by decide)
            have F6_total : Fld Z h6 b6 "com/example/abil/abil/core/Taxed" "total" "J" (.long (0 : Int64)) := D6 (Or.inr (hw _ (List.mem_of_getElem? (i := 22) rfl))) (ty := .long) (by decide)
            refine Goes.on (B := T6.setTop (mkF m 124 #[.val (.long p0), .second, .val (.long p1), .second, .val (.long p2), .second, .val (.long p3), .second, .val (.int p4), .val (.int (p4 &&& (3 : Int32))), .val (.long pa), .second, .val (.long ta), .second, .val (.long pb), .second, .val (.long tb), .second, .val (.long (pa + pb)), .second, .val (.long (ta + tb)), .second, .val (.long ((pa + pb) + (ta + tb))), .second, .unset, .unset, .unset] [(.ref b6)])) (fun t k => st6 t k) ?_
            refine Goes.on (B := T6.setTop (mkF m 125 #[.val (.long p0), .second, .val (.long p1), .second, .val (.long p2), .second, .val (.long p3), .second, .val (.int p4), .val (.int (p4 &&& (3 : Int32))), .val (.long pa), .second, .val (.long ta), .second, .val (.long pb), .second, .val (.long tb), .second, .val (.long (pa + pb)), .second, .val (.long (ta + tb)), .second, .val (.long ((pa + pb) + (ta + tb))), .second, .unset, .unset, .unset] [(.ref b6), (.ref b6)])) (fun _ k => XS.dup X6.here hx rfl (hb hby at_124) rfl rfl k) ?_
            refine Goes.on (B := T6.setTop (mkF m 127 #[.val (.long p0), .second, .val (.long p1), .second, .val (.long p2), .second, .val (.long p3), .second, .val (.int p4), .val (.int (p4 &&& (3 : Int32))), .val (.long pa), .second, .val (.long ta), .second, .val (.long pb), .second, .val (.long tb), .second, .val (.long (pa + pb)), .second, .val (.long (ta + tb)), .second, .val (.long ((pa + pb) + (ta + tb))), .second, .unset, .unset, .unset] [(.long pa), (.ref b6), (.ref b6)])) (fun _ k => XS.lload X6.here hx rfl (hb hby at_125) rfl  k) ?_
            refine Goes.on (B := T6.setTop (mkF m 129 #[.val (.long p0), .second, .val (.long p1), .second, .val (.long p2), .second, .val (.long p3), .second, .val (.int p4), .val (.int (p4 &&& (3 : Int32))), .val (.long pa), .second, .val (.long ta), .second, .val (.long pb), .second, .val (.long tb), .second, .val (.long (pa + pb)), .second, .val (.long (ta + tb)), .second, .val (.long ((pa + pb) + (ta + tb))), .second, .unset, .unset, .unset] [(.long ta), (.long pa), (.ref b6), (.ref b6)])) (fun _ k => XS.lload X6.here hx rfl (hb hby at_127) rfl  k) ?_
            obtain ⟨_, _, ⟨T8, L8, k8, n8⟩, -, X8, ⟨Lc8, hQ8, l8, y8, z8⟩, st8⟩ := X6.specialBack hx (y := (⟨"com/example/abil/abil/core/Taxed", "<init>", "(JJ)V"⟩ : MethodName)) rfl hown (mvT hZ (hw _ (List.mem_of_getElem? (i := 7) rfl))) (mvT hZ (hw _ (List.mem_of_getElem? (i := 8) rfl))) (mvT hZ (hw _ (List.mem_of_getElem? (i := 9) rfl))) (by decide) (backOf (W := 1) (rmi l Z a0 hw [] b6 pa ta h6 n0 z7 F6_pretax F6_tax F6_total A6 g_b6 (own_no hv1)) hZ (hw _ (List.mem_of_getElem? (i := 9) rfl)) (hw _ (List.mem_of_getElem? (i := 6) rfl)) (by decide) (by decide)) (g := (mkF m 129 #[.val (.long p0), .second, .val (.long p1), .second, .val (.long p2), .second, .val (.long p3), .second, .val (.int p4), .val (.int (p4 &&& (3 : Int32))), .val (.long pa), .second, .val (.long ta), .second, .val (.long pb), .second, .val (.long tb), .second, .val (.long (pa + pb)), .second, .val (.long (ta + tb)), .second, .val (.long ((pa + pb) + (ta + tb))), .second, .unset, .unset, .unset] [(.long ta), (.long pa), (.ref b6), (.ref b6)])) rfl (by rw [hml]; rfl) (Steps.refl _) (a := b6) (argsL := [(.long pa), (.long ta)]) (rest := [(.ref b6)]) (lenOf pd_0__JJ_V rfl) rfl (by show 2 * 0 + _ ≤ _; exact Nat.le_of_eq rfl) (hb hby at_129) (fun _ _ => ⟨rfl, e6, (by decide : 1 + 0 ≤ _), (by decide : 3 + 0 ≤ _)⟩)
            dsimp only [Pt.U, Pt.locs, Pt.cells, Pt.slots] at X8 l8 y8 z8 st8 hQ8
            subst l8 y8 z8
            obtain ⟨rfl, Nq8, Kq8, Eq8, Fa8, Fb8, Fc8⟩ := hQ8
            obtain ⟨h8, eh8⟩ : ∃ h, T8.heap = h := ⟨_, rfl⟩
            rw [eh8] at Kq8 Eq8 Fa8 Fb8 Fc8
            have f9 := A6.keep Kq8
            have z10 : n0 ≤ h8.size := Nat.le_trans z7 Kq8.1
            have N8 := Fr.app N5 Nq8
            refine Goes.on (B := T8.setTop (mkF m 132 #[.val (.long p0), .second, .val (.long p1), .second, .val (.long p2), .second, .val (.long p3), .second, .val (.int p4), .val (.int (p4 &&& (3 : Int32))), .val (.long pa), .second, .val (.long ta), .second, .val (.long pb), .second, .val (.long tb), .second, .val (.long (pa + pb)), .second, .val (.long (ta + tb)), .second, .val (.long ((pa + pb) + (ta + tb))), .second, .unset, .unset, .unset] [(.ref b6)])) (fun t k => st8.trans k) ?_
            refine Goes.on (B := T8.setTop (mkF m 134 #[.val (.long p0), .second, .val (.long p1), .second, .val (.long p2), .second, .val (.long p3), .second, .val (.int p4), .val (.int (p4 &&& (3 : Int32))), .val (.long pa), .second, .val (.long ta), .second, .val (.long pb), .second, .val (.long tb), .second, .val (.long (pa + pb)), .second, .val (.long (ta + tb)), .second, .val (.long ((pa + pb) + (ta + tb))), .second, .val (.ref b6), .unset, .unset] [])) (fun _ k => XS.astore X8.here hx rfl (hb hby at_132) rfl rfl (l' := #[.val (.long p0), .second, .val (.long p1), .second, .val (.long p2), .second, .val (.long p3), .second, .val (.int p4), .val (.int (p4 &&& (3 : Int32))), .val (.long pa), .second, .val (.long ta), .second, .val (.long pb), .second, .val (.long tb), .second, .val (.long (pa + pb)), .second, .val (.long (ta + tb)), .second, .val (.long ((pa + pb) + (ta + tb))), .second, .val (.ref b6), .unset, .unset]) rfl k) ?_
            obtain ⟨T11, h11, X11, e11, E11, A11, D11, -, st11⟩ := newO X8 hx hZ hown (hw _ (List.mem_of_getElem? (i := 4) rfl)) (hw _ (List.mem_of_getElem? (i := 5) rfl)) (hw _ (List.mem_of_getElem? (i := 6) rfl)) eh8 (g := (mkF m 134 #[.val (.long p0), .second, .val (.long p1), .second, .val (.long p2), .second, .val (.long p3), .second, .val (.int p4), .val (.int (p4 &&& (3 : Int32))), .val (.long pa), .second, .val (.long ta), .second, .val (.long pb), .second, .val (.long tb), .second, .val (.long (pa + pb)), .second, .val (.long (ta + tb)), .second, .val (.long ((pa + pb) + (ta + tb))), .second, .val (.ref b6), .unset, .unset] [])) rfl (hb hby at_134) (by decide) (by decide)
            obtain ⟨b11, g11⟩ : ∃ z, z = h8.size := ⟨_, rfl⟩
            rw [← g11] at A11 D11 st11
            have ne_b6_b11 : b6 ≠ b11 := Nat.ne_of_lt (Nat.lt_of_lt_of_le Eq8.lt (Nat.le_of_eq g11.symm))
            have f12 := Eq8.ext E11
            have f13 := Fa8.ext E11
            have f14 := Fb8.ext E11
            have f15 := Fc8.ext E11
            have z16 : n0 ≤ h11.size := Nat.le_trans z10 E11.1
            have g_b11 : n0 ≤ b11 := Nat.le_trans z10 (Nat.le_of_eq g11.symm)
            have F11_pretax : Fld Z h11 b11 "com/example/abil/abil/core/Taxed" "pretax" "J" (.long (0 : Int64)) := D11 (Or.inr (hw _ (List.mem_of_getElem? (i := 14) rfl))) (ty := .long) (by decide)
            have F11_tax : Fld Z h11 b11 "com/example/abil/abil/core/Taxed" "tax" "J" (.long (0 : Int64)) := D11 (Or.inr (hw _ (List.mem_of_getElem? (i := 16) rfl))) (ty := .long) (by decide)
            have F11_total : Fld Z h11 b11 "com/example/abil/abil/core/Taxed" "total" "J" (.long (0 : Int64)) := D11 (Or.inr (hw _ (List.mem_of_getElem? (i := 22) rfl))) (ty := .long) (by decide)
            refine Goes.on (B := T11.setTop (mkF m 137 #[.val (.long p0), .second, .val (.long p1), .second, .val (.long p2), .second, .val (.long p3), .second, .val (.int p4), .val (.int (p4 &&& (3 : Int32))), .val (.long pa), .second, .val (.long ta), .second, .val (.long pb), .second, .val (.long tb), .second, .val (.long (pa + pb)), .second, .val (.long (ta + tb)), .second, .val (.long ((pa + pb) + (ta + tb))), .second, .val (.ref b6), .unset, .unset] [(.ref b11)])) (fun t k => st11 t k) ?_
            refine Goes.on (B := T11.setTop (mkF m 138 #[.val (.long p0), .second, .val (.long p1), .second, .val (.long p2), .second, .val (.long p3), .second, .val (.int p4), .val (.int (p4 &&& (3 : Int32))), .val (.long pa), .second, .val (.long ta), .second, .val (.long pb), .second, .val (.long tb), .second, .val (.long (pa + pb)), .second, .val (.long (ta + tb)), .second, .val (.long ((pa + pb) + (ta + tb))), .second, .val (.ref b6), .unset, .unset] [(.ref b11), (.ref b11)])) (fun _ k => XS.dup X11.here hx rfl (hb hby at_137) rfl rfl k) ?_
            refine Goes.on (B := T11.setTop (mkF m 140 #[.val (.long p0), .second, .val (.long p1), .second, .val (.long p2), .second, .val (.long p3), .second, .val (.int p4), .val (.int (p4 &&& (3 : Int32))), .val (.long pa), .second, .val (.long ta), .second, .val (.long pb), .second, .val (.long tb), .second, .val (.long (pa + pb)), .second, .val (.long (ta + tb)), .second, .val (.long ((pa + pb) + (ta + tb))), .second, .val (.ref b6), .unset, .unset] [(.long pb), (.ref b11), (.ref b11)])) (fun _ k => XS.lload X11.here hx rfl (hb hby at_138) rfl  k) ?_
            refine Goes.on (B := T11.setTop (mkF m 142 #[.val (.long p0), .second, .val (.long p1), .second, .val (.long p2), .second, .val (.long p3), .second, .val (.int p4), .val (.int (p4 &&& (3 : Int32))), .val (.long pa), .second, .val (.long ta), .second, .val (.long pb), .second, .val (.long tb), .second, .val (.long (pa + pb)), .second, .val (.long (ta + tb)), .second, .val (.long ((pa + pb) + (ta + tb))), .second, .val (.ref b6), .unset, .unset] [(.long tb), (.long pb), (.ref b11), (.ref b11)])) (fun _ k => XS.lload X11.here hx rfl (hb hby at_140) rfl  k) ?_
            obtain ⟨_, _, ⟨T17, L17, k17, n17⟩, -, X17, ⟨Lc17, hQ17, l17, y17, z17⟩, st17⟩ := X11.specialBack hx (y := (⟨"com/example/abil/abil/core/Taxed", "<init>", "(JJ)V"⟩ : MethodName)) rfl hown (mvT hZ (hw _ (List.mem_of_getElem? (i := 7) rfl))) (mvT hZ (hw _ (List.mem_of_getElem? (i := 8) rfl))) (mvT hZ (hw _ (List.mem_of_getElem? (i := 9) rfl))) (by decide) (backOf (W := 1) (rmi l Z a0 hw [] b11 pb tb h11 n0 z16 F11_pretax F11_tax F11_total A11 g_b11 (own_no hv2)) hZ (hw _ (List.mem_of_getElem? (i := 9) rfl)) (hw _ (List.mem_of_getElem? (i := 6) rfl)) (by decide) (by decide)) (g := (mkF m 142 #[.val (.long p0), .second, .val (.long p1), .second, .val (.long p2), .second, .val (.long p3), .second, .val (.int p4), .val (.int (p4 &&& (3 : Int32))), .val (.long pa), .second, .val (.long ta), .second, .val (.long pb), .second, .val (.long tb), .second, .val (.long (pa + pb)), .second, .val (.long (ta + tb)), .second, .val (.long ((pa + pb) + (ta + tb))), .second, .val (.ref b6), .unset, .unset] [(.long tb), (.long pb), (.ref b11), (.ref b11)])) rfl (by rw [hml]; rfl) (Steps.refl _) (a := b11) (argsL := [(.long pb), (.long tb)]) (rest := [(.ref b11)]) (lenOf pd_0__JJ_V rfl) rfl (by show 2 * 0 + _ ≤ _; exact Nat.le_of_eq rfl) (hb hby at_142) (fun _ _ => ⟨rfl, e11, (by decide : 2 + 0 ≤ _), (by decide : 6 + 0 ≤ _)⟩)
            dsimp only [Pt.U, Pt.locs, Pt.cells, Pt.slots] at X17 l17 y17 z17 st17 hQ17
            subst l17 y17 z17
            obtain ⟨rfl, Nq17, Kq17, Eq17, Fa17, Fb17, Fc17⟩ := hQ17
            obtain ⟨h17, eh17⟩ : ∃ h, T17.heap = h := ⟨_, rfl⟩
            rw [eh17] at Kq17 Eq17 Fa17 Fb17 Fc17
            have f18 := f12.keep Kq17
            have f19 := f13.keep Kq17 (ninS ne_b6_b11 nin0)
            have f20 := f14.keep Kq17 (ninS ne_b6_b11 nin0)
            have f21 := f15.keep Kq17 (ninS ne_b6_b11 nin0)
            have f22 := A11.keep Kq17
            have z23 : n0 ≤ h17.size := Nat.le_trans z16 Kq17.1
            have N17 := Fr.app N8 Nq17
            refine Goes.on (B := T17.setTop (mkF m 145 #[.val (.long p0), .second, .val (.long p1), .second, .val (.long p2), .second, .val (.long p3), .second, .val (.int p4), .val (.int (p4 &&& (3 : Int32))), .val (.long pa), .second, .val (.long ta), .second, .val (.long pb), .second, .val (.long tb), .second, .val (.long (pa + pb)), .second, .val (.long (ta + tb)), .second, .val (.long ((pa + pb) + (ta + tb))), .second, .val (.ref b6), .unset, .unset] [(.ref b11)])) (fun t k => st17.trans k) ?_
            refine Goes.on (B := T17.setTop (mkF m 147 #[.val (.long p0), .second, .val (.long p1), .second, .val (.long p2), .second, .val (.long p3), .second, .val (.int p4), .val (.int (p4 &&& (3 : Int32))), .val (.long pa), .second, .val (.long ta), .second, .val (.long pb), .second, .val (.long tb), .second, .val (.long (pa + pb)), .second, .val (.long (ta + tb)), .second, .val (.long ((pa + pb) + (ta + tb))), .second, .val (.ref b6), .val (.ref b11), .unset] [])) (fun _ k => XS.astore X17.here hx rfl (hb hby at_145) rfl rfl (l' := #[.val (.long p0), .second, .val (.long p1), .second, .val (.long p2), .second, .val (.long p3), .second, .val (.int p4), .val (.int (p4 &&& (3 : Int32))), .val (.long pa), .second, .val (.long ta), .second, .val (.long pb), .second, .val (.long tb), .second, .val (.long (pa + pb)), .second, .val (.long (ta + tb)), .second, .val (.long ((pa + pb) + (ta + tb))), .second, .val (.ref b6), .val (.ref b11), .unset]) rfl k) ?_
            refine Goes.on (B := T17.setTop (mkF m 149 #[.val (.long p0), .second, .val (.long p1), .second, .val (.long p2), .second, .val (.long p3), .second, .val (.int p4), .val (.int (p4 &&& (3 : Int32))), .val (.long pa), .second, .val (.long ta), .second, .val (.long pb), .second, .val (.long tb), .second, .val (.long (pa + pb)), .second, .val (.long (ta + tb)), .second, .val (.long ((pa + pb) + (ta + tb))), .second, .val (.ref b6), .val (.ref b11), .unset] [(.ref b6)])) (fun _ k => XS.aload X17.here hx rfl (hb hby at_147) rfl rfl  k) ?_
            refine Goes.on (B := T17.setTop (mkF m 151 #[.val (.long p0), .second, .val (.long p1), .second, .val (.long p2), .second, .val (.long p3), .second, .val (.int p4), .val (.int (p4 &&& (3 : Int32))), .val (.long pa), .second, .val (.long ta), .second, .val (.long pb), .second, .val (.long tb), .second, .val (.long (pa + pb)), .second, .val (.long (ta + tb)), .second, .val (.long ((pa + pb) + (ta + tb))), .second, .val (.ref b6), .val (.ref b11), .unset] [(.ref b11), (.ref b6)])) (fun _ k => XS.aload X17.here hx rfl (hb hby at_149) rfl rfl  k) ?_
            obtain ⟨cq24, kq24, q24a, q24b, q24c⟩ := isOf hZ eh17 f18
            obtain ⟨_, _, ⟨T24, L24, k24, n24⟩, -, X24, ⟨Lc24, hQ24, l24, y24, z24⟩, st24⟩ := X17.virtualBack hx (y := (⟨"com/example/abil/abil/core/Taxed", "plus", "(Lcom/example/abil/abil/core/Taxed;)Lcom/example/abil/abil/core/Taxed;"⟩ : MethodName)) (z := (⟨"com/example/abil/abil/core/Taxed", "plus", "(Lcom/example/abil/abil/core/Taxed;)Lcom/example/abil/abil/core/Taxed;"⟩ : MethodName)) hown (mvT hZ (hw _ (List.mem_of_getElem? (i := 23) rfl))) (mvT hZ (hw _ (List.mem_of_getElem? (i := 24) rfl))) (notFace_of_selects (args := #[]) (mvT hZ (hw _ (List.mem_of_getElem? (i := 26) rfl)))) (mvT hZ (hw _ (List.mem_of_getElem? (i := 26) rfl))) (mvT hZ (hw _ (List.mem_of_getElem? (i := 25) rfl))) (by decide) (backOf (W := 0) (rmp l Z a0 hw [] b6 b11 pa ta pb tb h17 n0 z23 f19 f20 Fa17 Fb17 (own_no hv3) (own_no hv4) (own_no hv5)) hZ (hw _ (List.mem_of_getElem? (i := 27) rfl)) (hw _ (List.mem_of_getElem? (i := 6) rfl)) (by decide) (by decide)) q24a q24c (g := (mkF m 151 #[.val (.long p0), .second, .val (.long p1), .second, .val (.long p2), .second, .val (.long p3), .second, .val (.int p4), .val (.int (p4 &&& (3 : Int32))), .val (.long pa), .second, .val (.long ta), .second, .val (.long pb), .second, .val (.long tb), .second, .val (.long (pa + pb)), .second, .val (.long (ta + tb)), .second, .val (.long ((pa + pb) + (ta + tb))), .second, .val (.ref b6), .val (.ref b11), .unset] [(.ref b11), (.ref b6)])) rfl (by rw [hml]; rfl) (Steps.refl _) (argsL := [(.ref b11)]) (rest := []) (lenOf pd_0__Lcom_example_abil_abil_core_Taxed__Lcom_example_abil_abil_core_Taxed_ rfl) rfl (by show 2 * 0 + _ ≤ _; exact Nat.le_of_eq rfl) (hb hby at_151) (fun _ _ => ⟨rfl, eh17, (by decide : 2 + 1 ≤ _), (by decide : 6 + 3 ≤ _)⟩)
            dsimp only [Pt.U, Pt.locs, Pt.cells, Pt.slots] at X24 l24 y24 z24 st24 hQ24
            subst l24 y24 z24
            obtain ⟨b24, rfl, Nq24, Kq24, g_b24, sq_b24, Eq24, Fa24, Fb24, Fc24⟩ := hQ24
            obtain ⟨h24, eh24⟩ : ∃ h, T24.heap = h := ⟨_, rfl⟩
            rw [eh24] at Kq24 Eq24 Fa24 Fb24 Fc24
            have ne_b6_b24 : b6 ≠ b24 := Nat.ne_of_lt (Nat.lt_of_lt_of_le f18.lt sq_b24)
            have ne_b11_b24 : b11 ≠ b24 := Nat.ne_of_lt (Nat.lt_of_lt_of_le Eq17.lt sq_b24)
            have f25 := f18.keep Kq24
            have f26 := f19.keep Kq24 nin0
            have f27 := f20.keep Kq24 nin0
            have f28 := f21.keep Kq24 nin0
            have f29 := Eq17.keep Kq24
            have f30 := Fa17.keep Kq24 nin0
            have f31 := Fb17.keep Kq24 nin0
            have f32 := Fc17.keep Kq24 nin0
            have z33 : n0 ≤ h24.size := Nat.le_trans z23 Kq24.1
            have N24 := Fr.app N17 Nq24
            refine Goes.on (B := T24.setTop (mkF m 154 #[.val (.long p0), .second, .val (.long p1), .second, .val (.long p2), .second, .val (.long p3), .second, .val (.int p4), .val (.int (p4 &&& (3 : Int32))), .val (.long pa), .second, .val (.long ta), .second, .val (.long pb), .second, .val (.long tb), .second, .val (.long (pa + pb)), .second, .val (.long (ta + tb)), .second, .val (.long ((pa + pb) + (ta + tb))), .second, .val (.ref b6), .val (.ref b11), .unset] [(.ref b24)])) (fun t k => st24.trans k) ?_
            refine Goes.on (B := T24.setTop (mkF m 156 #[.val (.long p0), .second, .val (.long p1), .second, .val (.long p2), .second, .val (.long p3), .second, .val (.int p4), .val (.int (p4 &&& (3 : Int32))), .val (.long pa), .second, .val (.long ta), .second, .val (.long pb), .second, .val (.long tb), .second, .val (.long (pa + pb)), .second, .val (.long (ta + tb)), .second, .val (.long ((pa + pb) + (ta + tb))), .second, .val (.ref b6), .val (.ref b11), .val (.ref b24)] [])) (fun _ k => XS.astore X24.here hx rfl (hb hby at_154) rfl rfl (l' := #[.val (.long p0), .second, .val (.long p1), .second, .val (.long p2), .second, .val (.long p3), .second, .val (.int p4), .val (.int (p4 &&& (3 : Int32))), .val (.long pa), .second, .val (.long ta), .second, .val (.long pb), .second, .val (.long tb), .second, .val (.long (pa + pb)), .second, .val (.long (ta + tb)), .second, .val (.long ((pa + pb) + (ta + tb))), .second, .val (.ref b6), .val (.ref b11), .val (.ref b24)]) rfl k) ?_
            refine Goes.on (B := T24.setTop (mkF m 158 #[.val (.long p0), .second, .val (.long p1), .second, .val (.long p2), .second, .val (.long p3), .second, .val (.int p4), .val (.int (p4 &&& (3 : Int32))), .val (.long pa), .second, .val (.long ta), .second, .val (.long pb), .second, .val (.long tb), .second, .val (.long (pa + pb)), .second, .val (.long (ta + tb)), .second, .val (.long ((pa + pb) + (ta + tb))), .second, .val (.ref b6), .val (.ref b11), .val (.ref b24)] [(.ref b24)])) (fun _ k => XS.aload X24.here hx rfl (hb hby at_156) rfl rfl  k) ?_
            obtain ⟨cq34, kq34, q34a, q34b, q34c⟩ := isOf hZ eh24 Eq24
            obtain ⟨_, _, ⟨T34, L34, k34, n34⟩, -, X34, ⟨Lc34, hQ34, l34, y34, z34⟩, st34⟩ := X24.virtualBack hx (y := (⟨"com/example/abil/abil/core/Taxed", "pretax", "()J"⟩ : MethodName)) (z := (⟨"com/example/abil/abil/core/Taxed", "pretax", "()J"⟩ : MethodName)) hown (mvT hZ (hw _ (List.mem_of_getElem? (i := 30) rfl))) (mvT hZ (hw _ (List.mem_of_getElem? (i := 31) rfl))) (notFace_of_selects (args := #[]) (mvT hZ (hw _ (List.mem_of_getElem? (i := 33) rfl)))) (mvT hZ (hw _ (List.mem_of_getElem? (i := 33) rfl))) (mvT hZ (hw _ (List.mem_of_getElem? (i := 32) rfl))) (by decide) (backOf (W := 0) (rmgpre l Z a0 hw [] b24 (pa + pb) h24 n0 z33 Fa24) hZ (hw _ (List.mem_of_getElem? (i := 34) rfl)) (hw _ (List.mem_of_getElem? (i := 6) rfl)) (by decide) (by decide)) q34a q34c (g := (mkF m 158 #[.val (.long p0), .second, .val (.long p1), .second, .val (.long p2), .second, .val (.long p3), .second, .val (.int p4), .val (.int (p4 &&& (3 : Int32))), .val (.long pa), .second, .val (.long ta), .second, .val (.long pb), .second, .val (.long tb), .second, .val (.long (pa + pb)), .second, .val (.long (ta + tb)), .second, .val (.long ((pa + pb) + (ta + tb))), .second, .val (.ref b6), .val (.ref b11), .val (.ref b24)] [(.ref b24)])) rfl (by rw [hml]; rfl) (Steps.refl _) (argsL := []) (rest := []) (lenOf pd_0___J rfl) rfl (by show 2 * 0 + _ ≤ _; exact Nat.le_of_eq rfl) (hb hby at_158) (fun _ _ => ⟨rfl, eh24, (by decide : 3 + 0 ≤ _), (by decide : 9 + 0 ≤ _)⟩)
            dsimp only [Pt.U, Pt.locs, Pt.cells, Pt.slots] at X34 l34 y34 z34 st34 hQ34
            subst l34 y34 z34
            obtain ⟨rfl, Nq34, eh34⟩ := hQ34
            have N34 := Fr.app N24 Nq34
            refine Goes.on (B := T34.setTop (mkF m 161 #[.val (.long p0), .second, .val (.long p1), .second, .val (.long p2), .second, .val (.long p3), .second, .val (.int p4), .val (.int (p4 &&& (3 : Int32))), .val (.long pa), .second, .val (.long ta), .second, .val (.long pb), .second, .val (.long tb), .second, .val (.long (pa + pb)), .second, .val (.long (ta + tb)), .second, .val (.long ((pa + pb) + (ta + tb))), .second, .val (.ref b6), .val (.ref b11), .val (.ref b24)] [(.long (pa + pb))])) (fun t k => st34.trans k) ?_
            refine Goes.on (B := T34.setTop (mkF m 163 #[.val (.long p0), .second, .val (.long p1), .second, .val (.long p2), .second, .val (.long p3), .second, .val (.int p4), .val (.int (p4 &&& (3 : Int32))), .val (.long pa), .second, .val (.long ta), .second, .val (.long pb), .second, .val (.long tb), .second, .val (.long (pa + pb)), .second, .val (.long (ta + tb)), .second, .val (.long ((pa + pb) + (ta + tb))), .second, .val (.ref b6), .val (.ref b11), .val (.ref b24)] [(.long (pa + pb)), (.long (pa + pb))])) (fun _ k => XS.lload X34.here hx rfl (hb hby at_161) rfl  k) ?_
            refine Goes.on (B := T34.setTop (mkF m 164 #[.val (.long p0), .second, .val (.long p1), .second, .val (.long p2), .second, .val (.long p3), .second, .val (.int p4), .val (.int (p4 &&& (3 : Int32))), .val (.long pa), .second, .val (.long ta), .second, .val (.long pb), .second, .val (.long tb), .second, .val (.long (pa + pb)), .second, .val (.long (ta + tb)), .second, .val (.long ((pa + pb) + (ta + tb))), .second, .val (.ref b6), .val (.ref b11), .val (.ref b24)] [(.int (lcmpW (pa + pb) (pa + pb)))])) (fun _ k => XS.lcmp X34.here hx rfl (hb hby at_163) rfl k) ?_
            refine Goes.on (B := T34.setTop (mkF m 167 #[.val (.long p0), .second, .val (.long p1), .second, .val (.long p2), .second, .val (.long p3), .second, .val (.int p4), .val (.int (p4 &&& (3 : Int32))), .val (.long pa), .second, .val (.long ta), .second, .val (.long pb), .second, .val (.long tb), .second, .val (.long (pa + pb)), .second, .val (.long (ta + tb)), .second, .val (.long ((pa + pb) + (ta + tb))), .second, .val (.ref b6), .val (.ref b11), .val (.ref b24)] [])) (fun _ k => XS.ifNo X34.here hx rfl (hb hby at_164) rfl (own_teq (rfl : (pa + pb) = (pa + pb))).2 k) ?_
            refine Goes.on (B := T34.setTop (mkF m 169 #[.val (.long p0), .second, .val (.long p1), .second, .val (.long p2), .second, .val (.long p3), .second, .val (.int p4), .val (.int (p4 &&& (3 : Int32))), .val (.long pa), .second, .val (.long ta), .second, .val (.long pb), .second, .val (.long tb), .second, .val (.long (pa + pb)), .second, .val (.long (ta + tb)), .second, .val (.long ((pa + pb) + (ta + tb))), .second, .val (.ref b6), .val (.ref b11), .val (.ref b24)] [(.ref b24)])) (fun _ k => XS.aload X34.here hx rfl (hb hby at_167) rfl rfl  k) ?_
            obtain ⟨cq35, kq35, q35a, q35b, q35c⟩ := isOf hZ eh34 Eq24
            obtain ⟨_, _, ⟨T35, L35, k35, n35⟩, -, X35, ⟨Lc35, hQ35, l35, y35, z35⟩, st35⟩ := X34.virtualBack hx (y := (⟨"com/example/abil/abil/core/Taxed", "tax", "()J"⟩ : MethodName)) (z := (⟨"com/example/abil/abil/core/Taxed", "tax", "()J"⟩ : MethodName)) hown (mvT hZ (hw _ (List.mem_of_getElem? (i := 35) rfl))) (mvT hZ (hw _ (List.mem_of_getElem? (i := 36) rfl))) (notFace_of_selects (args := #[]) (mvT hZ (hw _ (List.mem_of_getElem? (i := 38) rfl)))) (mvT hZ (hw _ (List.mem_of_getElem? (i := 38) rfl))) (mvT hZ (hw _ (List.mem_of_getElem? (i := 37) rfl))) (by decide) (backOf (W := 0) (rmgtax l Z a0 hw [] b24 (ta + tb) h24 n0 z33 Fb24) hZ (hw _ (List.mem_of_getElem? (i := 39) rfl)) (hw _ (List.mem_of_getElem? (i := 6) rfl)) (by decide) (by decide)) q35a q35c (g := (mkF m 169 #[.val (.long p0), .second, .val (.long p1), .second, .val (.long p2), .second, .val (.long p3), .second, .val (.int p4), .val (.int (p4 &&& (3 : Int32))), .val (.long pa), .second, .val (.long ta), .second, .val (.long pb), .second, .val (.long tb), .second, .val (.long (pa + pb)), .second, .val (.long (ta + tb)), .second, .val (.long ((pa + pb) + (ta + tb))), .second, .val (.ref b6), .val (.ref b11), .val (.ref b24)] [(.ref b24)])) rfl (by rw [hml]; rfl) (Steps.refl _) (argsL := []) (rest := []) (lenOf pd_0___J rfl) rfl (by show 2 * 0 + _ ≤ _; exact Nat.le_of_eq rfl) (hb hby at_169) (fun _ _ => ⟨rfl, eh34, (by decide : 3 + 0 ≤ _), (by decide : 9 + 0 ≤ _)⟩)
            dsimp only [Pt.U, Pt.locs, Pt.cells, Pt.slots] at X35 l35 y35 z35 st35 hQ35
            subst l35 y35 z35
            obtain ⟨rfl, Nq35, eh35⟩ := hQ35
            have N35 := Fr.app N34 Nq35
            refine Goes.on (B := T35.setTop (mkF m 172 #[.val (.long p0), .second, .val (.long p1), .second, .val (.long p2), .second, .val (.long p3), .second, .val (.int p4), .val (.int (p4 &&& (3 : Int32))), .val (.long pa), .second, .val (.long ta), .second, .val (.long pb), .second, .val (.long tb), .second, .val (.long (pa + pb)), .second, .val (.long (ta + tb)), .second, .val (.long ((pa + pb) + (ta + tb))), .second, .val (.ref b6), .val (.ref b11), .val (.ref b24)] [(.long (ta + tb))])) (fun t k => st35.trans k) ?_
            refine Goes.on (B := T35.setTop (mkF m 174 #[.val (.long p0), .second, .val (.long p1), .second, .val (.long p2), .second, .val (.long p3), .second, .val (.int p4), .val (.int (p4 &&& (3 : Int32))), .val (.long pa), .second, .val (.long ta), .second, .val (.long pb), .second, .val (.long tb), .second, .val (.long (pa + pb)), .second, .val (.long (ta + tb)), .second, .val (.long ((pa + pb) + (ta + tb))), .second, .val (.ref b6), .val (.ref b11), .val (.ref b24)] [(.long (ta + tb)), (.long (ta + tb))])) (fun _ k => XS.lload X35.here hx rfl (hb hby at_172) rfl  k) ?_
            refine Goes.on (B := T35.setTop (mkF m 175 #[.val (.long p0), .second, .val (.long p1), .second, .val (.long p2), .second, .val (.long p3), .second, .val (.int p4), .val (.int (p4 &&& (3 : Int32))), .val (.long pa), .second, .val (.long ta), .second, .val (.long pb), .second, .val (.long tb), .second, .val (.long (pa + pb)), .second, .val (.long (ta + tb)), .second, .val (.long ((pa + pb) + (ta + tb))), .second, .val (.ref b6), .val (.ref b11), .val (.ref b24)] [(.int (lcmpW (ta + tb) (ta + tb)))])) (fun _ k => XS.lcmp X35.here hx rfl (hb hby at_174) rfl k) ?_
            refine Goes.on (B := T35.setTop (mkF m 178 #[.val (.long p0), .second, .val (.long p1), .second, .val (.long p2), .second, .val (.long p3), .second, .val (.int p4), .val (.int (p4 &&& (3 : Int32))), .val (.long pa), .second, .val (.long ta), .second, .val (.long pb), .second, .val (.long tb), .second, .val (.long (pa + pb)), .second, .val (.long (ta + tb)), .second, .val (.long ((pa + pb) + (ta + tb))), .second, .val (.ref b6), .val (.ref b11), .val (.ref b24)] [])) (fun _ k => XS.ifNo X35.here hx rfl (hb hby at_175) rfl (own_teq (rfl : (ta + tb) = (ta + tb))).2 k) ?_
            refine Goes.on (B := T35.setTop (mkF m 180 #[.val (.long p0), .second, .val (.long p1), .second, .val (.long p2), .second, .val (.long p3), .second, .val (.int p4), .val (.int (p4 &&& (3 : Int32))), .val (.long pa), .second, .val (.long ta), .second, .val (.long pb), .second, .val (.long tb), .second, .val (.long (pa + pb)), .second, .val (.long (ta + tb)), .second, .val (.long ((pa + pb) + (ta + tb))), .second, .val (.ref b6), .val (.ref b11), .val (.ref b24)] [(.ref b24)])) (fun _ k => XS.aload X35.here hx rfl (hb hby at_178) rfl rfl  k) ?_
            obtain ⟨cq36, kq36, q36a, q36b, q36c⟩ := isOf hZ eh35 Eq24
            obtain ⟨_, _, ⟨T36, L36, k36, n36⟩, -, X36, ⟨Lc36, hQ36, l36, y36, z36⟩, st36⟩ := X35.virtualBack hx (y := (⟨"com/example/abil/abil/core/Taxed", "total", "()J"⟩ : MethodName)) (z := (⟨"com/example/abil/abil/core/Taxed", "total", "()J"⟩ : MethodName)) hown (mvT hZ (hw _ (List.mem_of_getElem? (i := 40) rfl))) (mvT hZ (hw _ (List.mem_of_getElem? (i := 41) rfl))) (notFace_of_selects (args := #[]) (mvT hZ (hw _ (List.mem_of_getElem? (i := 43) rfl)))) (mvT hZ (hw _ (List.mem_of_getElem? (i := 43) rfl))) (mvT hZ (hw _ (List.mem_of_getElem? (i := 42) rfl))) (by decide) (backOf (W := 0) (rmgtot l Z a0 hw [] b24 ((pa + pb) + (ta + tb)) h24 n0 z33 Fc24) hZ (hw _ (List.mem_of_getElem? (i := 44) rfl)) (hw _ (List.mem_of_getElem? (i := 6) rfl)) (by decide) (by decide)) q36a q36c (g := (mkF m 180 #[.val (.long p0), .second, .val (.long p1), .second, .val (.long p2), .second, .val (.long p3), .second, .val (.int p4), .val (.int (p4 &&& (3 : Int32))), .val (.long pa), .second, .val (.long ta), .second, .val (.long pb), .second, .val (.long tb), .second, .val (.long (pa + pb)), .second, .val (.long (ta + tb)), .second, .val (.long ((pa + pb) + (ta + tb))), .second, .val (.ref b6), .val (.ref b11), .val (.ref b24)] [(.ref b24)])) rfl (by rw [hml]; rfl) (Steps.refl _) (argsL := []) (rest := []) (lenOf pd_0___J rfl) rfl (by show 2 * 0 + _ ≤ _; exact Nat.le_of_eq rfl) (hb hby at_180) (fun _ _ => ⟨rfl, eh35, (by decide : 3 + 0 ≤ _), (by decide : 9 + 0 ≤ _)⟩)
            dsimp only [Pt.U, Pt.locs, Pt.cells, Pt.slots] at X36 l36 y36 z36 st36 hQ36
            subst l36 y36 z36
            obtain ⟨rfl, Nq36, eh36⟩ := hQ36
            have N36 := Fr.app N35 Nq36
            refine Goes.on (B := T36.setTop (mkF m 183 #[.val (.long p0), .second, .val (.long p1), .second, .val (.long p2), .second, .val (.long p3), .second, .val (.int p4), .val (.int (p4 &&& (3 : Int32))), .val (.long pa), .second, .val (.long ta), .second, .val (.long pb), .second, .val (.long tb), .second, .val (.long (pa + pb)), .second, .val (.long (ta + tb)), .second, .val (.long ((pa + pb) + (ta + tb))), .second, .val (.ref b6), .val (.ref b11), .val (.ref b24)] [(.long ((pa + pb) + (ta + tb)))])) (fun t k => st36.trans k) ?_
            refine Goes.on (B := T36.setTop (mkF m 185 #[.val (.long p0), .second, .val (.long p1), .second, .val (.long p2), .second, .val (.long p3), .second, .val (.int p4), .val (.int (p4 &&& (3 : Int32))), .val (.long pa), .second, .val (.long ta), .second, .val (.long pb), .second, .val (.long tb), .second, .val (.long (pa + pb)), .second, .val (.long (ta + tb)), .second, .val (.long ((pa + pb) + (ta + tb))), .second, .val (.ref b6), .val (.ref b11), .val (.ref b24)] [(.long ((pa + pb) + (ta + tb))), (.long ((pa + pb) + (ta + tb)))])) (fun _ k => XS.lload X36.here hx rfl (hb hby at_183) rfl  k) ?_
            refine Goes.on (B := T36.setTop (mkF m 186 #[.val (.long p0), .second, .val (.long p1), .second, .val (.long p2), .second, .val (.long p3), .second, .val (.int p4), .val (.int (p4 &&& (3 : Int32))), .val (.long pa), .second, .val (.long ta), .second, .val (.long pb), .second, .val (.long tb), .second, .val (.long (pa + pb)), .second, .val (.long (ta + tb)), .second, .val (.long ((pa + pb) + (ta + tb))), .second, .val (.ref b6), .val (.ref b11), .val (.ref b24)] [(.int (lcmpW ((pa + pb) + (ta + tb)) ((pa + pb) + (ta + tb))))])) (fun _ k => XS.lcmp X36.here hx rfl (hb hby at_185) rfl k) ?_
            refine Goes.on (B := T36.setTop (mkF m 189 #[.val (.long p0), .second, .val (.long p1), .second, .val (.long p2), .second, .val (.long p3), .second, .val (.int p4), .val (.int (p4 &&& (3 : Int32))), .val (.long pa), .second, .val (.long ta), .second, .val (.long pb), .second, .val (.long tb), .second, .val (.long (pa + pb)), .second, .val (.long (ta + tb)), .second, .val (.long ((pa + pb) + (ta + tb))), .second, .val (.ref b6), .val (.ref b11), .val (.ref b24)] [])) (fun _ k => XS.ifNo X36.here hx rfl (hb hby at_186) rfl (own_teq (rfl : ((pa + pb) + (ta + tb)) = ((pa + pb) + (ta + tb)))).2 k) ?_
            refine Goes.on (B := T36.setTop (mkF m 191 #[.val (.long p0), .second, .val (.long p1), .second, .val (.long p2), .second, .val (.long p3), .second, .val (.int p4), .val (.int (p4 &&& (3 : Int32))), .val (.long pa), .second, .val (.long ta), .second, .val (.long pb), .second, .val (.long tb), .second, .val (.long (pa + pb)), .second, .val (.long (ta + tb)), .second, .val (.long ((pa + pb) + (ta + tb))), .second, .val (.ref b6), .val (.ref b11), .val (.ref b24)] [(.ref b6)])) (fun _ k => XS.aload X36.here hx rfl (hb hby at_189) rfl rfl  k) ?_
            obtain ⟨cq37, kq37, q37a, q37b, q37c⟩ := isOf hZ eh36 f25
            obtain ⟨_, _, ⟨T37, L37, k37, n37⟩, -, X37, ⟨Lc37, hQ37, l37, y37, z37⟩, st37⟩ := X36.virtualBack hx (y := (⟨"com/example/abil/abil/core/Taxed", "pretax", "()J"⟩ : MethodName)) (z := (⟨"com/example/abil/abil/core/Taxed", "pretax", "()J"⟩ : MethodName)) hown (mvT hZ (hw _ (List.mem_of_getElem? (i := 30) rfl))) (mvT hZ (hw _ (List.mem_of_getElem? (i := 31) rfl))) (notFace_of_selects (args := #[]) (mvT hZ (hw _ (List.mem_of_getElem? (i := 33) rfl)))) (mvT hZ (hw _ (List.mem_of_getElem? (i := 33) rfl))) (mvT hZ (hw _ (List.mem_of_getElem? (i := 32) rfl))) (by decide) (backOf (W := 0) (rmgpre l Z a0 hw [] b6 pa h24 n0 z33 f26) hZ (hw _ (List.mem_of_getElem? (i := 34) rfl)) (hw _ (List.mem_of_getElem? (i := 6) rfl)) (by decide) (by decide)) q37a q37c (g := (mkF m 191 #[.val (.long p0), .second, .val (.long p1), .second, .val (.long p2), .second, .val (.long p3), .second, .val (.int p4), .val (.int (p4 &&& (3 : Int32))), .val (.long pa), .second, .val (.long ta), .second, .val (.long pb), .second, .val (.long tb), .second, .val (.long (pa + pb)), .second, .val (.long (ta + tb)), .second, .val (.long ((pa + pb) + (ta + tb))), .second, .val (.ref b6), .val (.ref b11), .val (.ref b24)] [(.ref b6)])) rfl (by rw [hml]; rfl) (Steps.refl _) (argsL := []) (rest := []) (lenOf pd_0___J rfl) rfl (by show 2 * 0 + _ ≤ _; exact Nat.le_of_eq rfl) (hb hby at_191) (fun _ _ => ⟨rfl, eh36, (by decide : 3 + 0 ≤ _), (by decide : 9 + 0 ≤ _)⟩)
            dsimp only [Pt.U, Pt.locs, Pt.cells, Pt.slots] at X37 l37 y37 z37 st37 hQ37
            subst l37 y37 z37
            obtain ⟨rfl, Nq37, eh37⟩ := hQ37
            have N37 := Fr.app N36 Nq37
            refine Goes.on (B := T37.setTop (mkF m 194 #[.val (.long p0), .second, .val (.long p1), .second, .val (.long p2), .second, .val (.long p3), .second, .val (.int p4), .val (.int (p4 &&& (3 : Int32))), .val (.long pa), .second, .val (.long ta), .second, .val (.long pb), .second, .val (.long tb), .second, .val (.long (pa + pb)), .second, .val (.long (ta + tb)), .second, .val (.long ((pa + pb) + (ta + tb))), .second, .val (.ref b6), .val (.ref b11), .val (.ref b24)] [(.long pa)])) (fun t k => st37.trans k) ?_
            refine Goes.on (B := T37.setTop (mkF m 196 #[.val (.long p0), .second, .val (.long p1), .second, .val (.long p2), .second, .val (.long p3), .second, .val (.int p4), .val (.int (p4 &&& (3 : Int32))), .val (.long pa), .second, .val (.long ta), .second, .val (.long pb), .second, .val (.long tb), .second, .val (.long (pa + pb)), .second, .val (.long (ta + tb)), .second, .val (.long ((pa + pb) + (ta + tb))), .second, .val (.ref b6), .val (.ref b11), .val (.ref b24)] [(.long pa), (.long pa)])) (fun _ k => XS.lload X37.here hx rfl (hb hby at_194) rfl  k) ?_
            refine Goes.on (B := T37.setTop (mkF m 197 #[.val (.long p0), .second, .val (.long p1), .second, .val (.long p2), .second, .val (.long p3), .second, .val (.int p4), .val (.int (p4 &&& (3 : Int32))), .val (.long pa), .second, .val (.long ta), .second, .val (.long pb), .second, .val (.long tb), .second, .val (.long (pa + pb)), .second, .val (.long (ta + tb)), .second, .val (.long ((pa + pb) + (ta + tb))), .second, .val (.ref b6), .val (.ref b11), .val (.ref b24)] [(.int (lcmpW pa pa))])) (fun _ k => XS.lcmp X37.here hx rfl (hb hby at_196) rfl k) ?_
            refine Goes.on (B := T37.setTop (mkF m 200 #[.val (.long p0), .second, .val (.long p1), .second, .val (.long p2), .second, .val (.long p3), .second, .val (.int p4), .val (.int (p4 &&& (3 : Int32))), .val (.long pa), .second, .val (.long ta), .second, .val (.long pb), .second, .val (.long tb), .second, .val (.long (pa + pb)), .second, .val (.long (ta + tb)), .second, .val (.long ((pa + pb) + (ta + tb))), .second, .val (.ref b6), .val (.ref b11), .val (.ref b24)] [])) (fun _ k => XS.ifNo X37.here hx rfl (hb hby at_197) rfl (own_teq (rfl : pa = pa)).2 k) ?_
            refine Goes.on (B := T37.setTop (mkF m 202 #[.val (.long p0), .second, .val (.long p1), .second, .val (.long p2), .second, .val (.long p3), .second, .val (.int p4), .val (.int (p4 &&& (3 : Int32))), .val (.long pa), .second, .val (.long ta), .second, .val (.long pb), .second, .val (.long tb), .second, .val (.long (pa + pb)), .second, .val (.long (ta + tb)), .second, .val (.long ((pa + pb) + (ta + tb))), .second, .val (.ref b6), .val (.ref b11), .val (.ref b24)] [(.ref b6)])) (fun _ k => XS.aload X37.here hx rfl (hb hby at_200) rfl rfl  k) ?_
            obtain ⟨cq38, kq38, q38a, q38b, q38c⟩ := isOf hZ eh37 f25
            obtain ⟨_, _, ⟨T38, L38, k38, n38⟩, -, X38, ⟨Lc38, hQ38, l38, y38, z38⟩, st38⟩ := X37.virtualBack hx (y := (⟨"com/example/abil/abil/core/Taxed", "tax", "()J"⟩ : MethodName)) (z := (⟨"com/example/abil/abil/core/Taxed", "tax", "()J"⟩ : MethodName)) hown (mvT hZ (hw _ (List.mem_of_getElem? (i := 35) rfl))) (mvT hZ (hw _ (List.mem_of_getElem? (i := 36) rfl))) (notFace_of_selects (args := #[]) (mvT hZ (hw _ (List.mem_of_getElem? (i := 38) rfl)))) (mvT hZ (hw _ (List.mem_of_getElem? (i := 38) rfl))) (mvT hZ (hw _ (List.mem_of_getElem? (i := 37) rfl))) (by decide) (backOf (W := 0) (rmgtax l Z a0 hw [] b6 ta h24 n0 z33 f27) hZ (hw _ (List.mem_of_getElem? (i := 39) rfl)) (hw _ (List.mem_of_getElem? (i := 6) rfl)) (by decide) (by decide)) q38a q38c (g := (mkF m 202 #[.val (.long p0), .second, .val (.long p1), .second, .val (.long p2), .second, .val (.long p3), .second, .val (.int p4), .val (.int (p4 &&& (3 : Int32))), .val (.long pa), .second, .val (.long ta), .second, .val (.long pb), .second, .val (.long tb), .second, .val (.long (pa + pb)), .second, .val (.long (ta + tb)), .second, .val (.long ((pa + pb) + (ta + tb))), .second, .val (.ref b6), .val (.ref b11), .val (.ref b24)] [(.ref b6)])) rfl (by rw [hml]; rfl) (Steps.refl _) (argsL := []) (rest := []) (lenOf pd_0___J rfl) rfl (by show 2 * 0 + _ ≤ _; exact Nat.le_of_eq rfl) (hb hby at_202) (fun _ _ => ⟨rfl, eh37, (by decide : 3 + 0 ≤ _), (by decide : 9 + 0 ≤ _)⟩)
            dsimp only [Pt.U, Pt.locs, Pt.cells, Pt.slots] at X38 l38 y38 z38 st38 hQ38
            subst l38 y38 z38
            obtain ⟨rfl, Nq38, eh38⟩ := hQ38
            have N38 := Fr.app N37 Nq38
            refine Goes.on (B := T38.setTop (mkF m 205 #[.val (.long p0), .second, .val (.long p1), .second, .val (.long p2), .second, .val (.long p3), .second, .val (.int p4), .val (.int (p4 &&& (3 : Int32))), .val (.long pa), .second, .val (.long ta), .second, .val (.long pb), .second, .val (.long tb), .second, .val (.long (pa + pb)), .second, .val (.long (ta + tb)), .second, .val (.long ((pa + pb) + (ta + tb))), .second, .val (.ref b6), .val (.ref b11), .val (.ref b24)] [(.long ta)])) (fun t k => st38.trans k) ?_
            refine Goes.on (B := T38.setTop (mkF m 207 #[.val (.long p0), .second, .val (.long p1), .second, .val (.long p2), .second, .val (.long p3), .second, .val (.int p4), .val (.int (p4 &&& (3 : Int32))), .val (.long pa), .second, .val (.long ta), .second, .val (.long pb), .second, .val (.long tb), .second, .val (.long (pa + pb)), .second, .val (.long (ta + tb)), .second, .val (.long ((pa + pb) + (ta + tb))), .second, .val (.ref b6), .val (.ref b11), .val (.ref b24)] [(.long ta), (.long ta)])) (fun _ k => XS.lload X38.here hx rfl (hb hby at_205) rfl  k) ?_
            refine Goes.on (B := T38.setTop (mkF m 208 #[.val (.long p0), .second, .val (.long p1), .second, .val (.long p2), .second, .val (.long p3), .second, .val (.int p4), .val (.int (p4 &&& (3 : Int32))), .val (.long pa), .second, .val (.long ta), .second, .val (.long pb), .second, .val (.long tb), .second, .val (.long (pa + pb)), .second, .val (.long (ta + tb)), .second, .val (.long ((pa + pb) + (ta + tb))), .second, .val (.ref b6), .val (.ref b11), .val (.ref b24)] [(.int (lcmpW ta ta))])) (fun _ k => XS.lcmp X38.here hx rfl (hb hby at_207) rfl k) ?_
            refine Goes.on (B := T38.setTop (mkF m 211 #[.val (.long p0), .second, .val (.long p1), .second, .val (.long p2), .second, .val (.long p3), .second, .val (.int p4), .val (.int (p4 &&& (3 : Int32))), .val (.long pa), .second, .val (.long ta), .second, .val (.long pb), .second, .val (.long tb), .second, .val (.long (pa + pb)), .second, .val (.long (ta + tb)), .second, .val (.long ((pa + pb) + (ta + tb))), .second, .val (.ref b6), .val (.ref b11), .val (.ref b24)] [])) (fun _ k => XS.ifNo X38.here hx rfl (hb hby at_208) rfl (own_teq (rfl : ta = ta)).2 k) ?_
            refine Goes.on (B := T38.setTop (mkF m 213 #[.val (.long p0), .second, .val (.long p1), .second, .val (.long p2), .second, .val (.long p3), .second, .val (.int p4), .val (.int (p4 &&& (3 : Int32))), .val (.long pa), .second, .val (.long ta), .second, .val (.long pb), .second, .val (.long tb), .second, .val (.long (pa + pb)), .second, .val (.long (ta + tb)), .second, .val (.long ((pa + pb) + (ta + tb))), .second, .val (.ref b6), .val (.ref b11), .val (.ref b24)] [(.ref b6)])) (fun _ k => XS.aload X38.here hx rfl (hb hby at_211) rfl rfl  k) ?_
            obtain ⟨cq39, kq39, q39a, q39b, q39c⟩ := isOf hZ eh38 f25
            obtain ⟨_, _, ⟨T39, L39, k39, n39⟩, -, X39, ⟨Lc39, hQ39, l39, y39, z39⟩, st39⟩ := X38.virtualBack hx (y := (⟨"com/example/abil/abil/core/Taxed", "total", "()J"⟩ : MethodName)) (z := (⟨"com/example/abil/abil/core/Taxed", "total", "()J"⟩ : MethodName)) hown (mvT hZ (hw _ (List.mem_of_getElem? (i := 40) rfl))) (mvT hZ (hw _ (List.mem_of_getElem? (i := 41) rfl))) (notFace_of_selects (args := #[]) (mvT hZ (hw _ (List.mem_of_getElem? (i := 43) rfl)))) (mvT hZ (hw _ (List.mem_of_getElem? (i := 43) rfl))) (mvT hZ (hw _ (List.mem_of_getElem? (i := 42) rfl))) (by decide) (backOf (W := 0) (rmgtot l Z a0 hw [] b6 (pa + ta) h24 n0 z33 f28) hZ (hw _ (List.mem_of_getElem? (i := 44) rfl)) (hw _ (List.mem_of_getElem? (i := 6) rfl)) (by decide) (by decide)) q39a q39c (g := (mkF m 213 #[.val (.long p0), .second, .val (.long p1), .second, .val (.long p2), .second, .val (.long p3), .second, .val (.int p4), .val (.int (p4 &&& (3 : Int32))), .val (.long pa), .second, .val (.long ta), .second, .val (.long pb), .second, .val (.long tb), .second, .val (.long (pa + pb)), .second, .val (.long (ta + tb)), .second, .val (.long ((pa + pb) + (ta + tb))), .second, .val (.ref b6), .val (.ref b11), .val (.ref b24)] [(.ref b6)])) rfl (by rw [hml]; rfl) (Steps.refl _) (argsL := []) (rest := []) (lenOf pd_0___J rfl) rfl (by show 2 * 0 + _ ≤ _; exact Nat.le_of_eq rfl) (hb hby at_213) (fun _ _ => ⟨rfl, eh38, (by decide : 3 + 0 ≤ _), (by decide : 9 + 0 ≤ _)⟩)
            dsimp only [Pt.U, Pt.locs, Pt.cells, Pt.slots] at X39 l39 y39 z39 st39 hQ39
            subst l39 y39 z39
            obtain ⟨rfl, Nq39, eh39⟩ := hQ39
            have N39 := Fr.app N38 Nq39
            refine Goes.on (B := T39.setTop (mkF m 216 #[.val (.long p0), .second, .val (.long p1), .second, .val (.long p2), .second, .val (.long p3), .second, .val (.int p4), .val (.int (p4 &&& (3 : Int32))), .val (.long pa), .second, .val (.long ta), .second, .val (.long pb), .second, .val (.long tb), .second, .val (.long (pa + pb)), .second, .val (.long (ta + tb)), .second, .val (.long ((pa + pb) + (ta + tb))), .second, .val (.ref b6), .val (.ref b11), .val (.ref b24)] [(.long (pa + ta))])) (fun t k => st39.trans k) ?_
            refine Goes.on (B := T39.setTop (mkF m 218 #[.val (.long p0), .second, .val (.long p1), .second, .val (.long p2), .second, .val (.long p3), .second, .val (.int p4), .val (.int (p4 &&& (3 : Int32))), .val (.long pa), .second, .val (.long ta), .second, .val (.long pb), .second, .val (.long tb), .second, .val (.long (pa + pb)), .second, .val (.long (ta + tb)), .second, .val (.long ((pa + pb) + (ta + tb))), .second, .val (.ref b6), .val (.ref b11), .val (.ref b24)] [(.long pa), (.long (pa + ta))])) (fun _ k => XS.lload X39.here hx rfl (hb hby at_216) rfl  k) ?_
            refine Goes.on (B := T39.setTop (mkF m 220 #[.val (.long p0), .second, .val (.long p1), .second, .val (.long p2), .second, .val (.long p3), .second, .val (.int p4), .val (.int (p4 &&& (3 : Int32))), .val (.long pa), .second, .val (.long ta), .second, .val (.long pb), .second, .val (.long tb), .second, .val (.long (pa + pb)), .second, .val (.long (ta + tb)), .second, .val (.long ((pa + pb) + (ta + tb))), .second, .val (.ref b6), .val (.ref b11), .val (.ref b24)] [(.long ta), (.long pa), (.long (pa + ta))])) (fun _ k => XS.lload X39.here hx rfl (hb hby at_218) rfl  k) ?_
            refine Goes.on (B := T39.setTop (mkF m 221 #[.val (.long p0), .second, .val (.long p1), .second, .val (.long p2), .second, .val (.long p3), .second, .val (.int p4), .val (.int (p4 &&& (3 : Int32))), .val (.long pa), .second, .val (.long ta), .second, .val (.long pb), .second, .val (.long tb), .second, .val (.long (pa + pb)), .second, .val (.long (ta + tb)), .second, .val (.long ((pa + pb) + (ta + tb))), .second, .val (.ref b6), .val (.ref b11), .val (.ref b24)] [(.long (pa + ta)), (.long (pa + ta))])) (fun _ k => XS.ladd X39.here hx rfl (hb hby at_220) rfl k) ?_
            refine Goes.on (B := T39.setTop (mkF m 222 #[.val (.long p0), .second, .val (.long p1), .second, .val (.long p2), .second, .val (.long p3), .second, .val (.int p4), .val (.int (p4 &&& (3 : Int32))), .val (.long pa), .second, .val (.long ta), .second, .val (.long pb), .second, .val (.long tb), .second, .val (.long (pa + pb)), .second, .val (.long (ta + tb)), .second, .val (.long ((pa + pb) + (ta + tb))), .second, .val (.ref b6), .val (.ref b11), .val (.ref b24)] [(.int (lcmpW (pa + ta) (pa + ta)))])) (fun _ k => XS.lcmp X39.here hx rfl (hb hby at_221) rfl k) ?_
            refine Goes.on (B := T39.setTop (mkF m 225 #[.val (.long p0), .second, .val (.long p1), .second, .val (.long p2), .second, .val (.long p3), .second, .val (.int p4), .val (.int (p4 &&& (3 : Int32))), .val (.long pa), .second, .val (.long ta), .second, .val (.long pb), .second, .val (.long tb), .second, .val (.long (pa + pb)), .second, .val (.long (ta + tb)), .second, .val (.long ((pa + pb) + (ta + tb))), .second, .val (.ref b6), .val (.ref b11), .val (.ref b24)] [])) (fun _ k => XS.ifNo X39.here hx rfl (hb hby at_222) rfl (own_teq (rfl : (pa + ta) = (pa + ta))).2 k) ?_
            refine Goes.on (B := T39.setTop (mkF m 227 #[.val (.long p0), .second, .val (.long p1), .second, .val (.long p2), .second, .val (.long p3), .second, .val (.int p4), .val (.int (p4 &&& (3 : Int32))), .val (.long pa), .second, .val (.long ta), .second, .val (.long pb), .second, .val (.long tb), .second, .val (.long (pa + pb)), .second, .val (.long (ta + tb)), .second, .val (.long ((pa + pb) + (ta + tb))), .second, .val (.ref b6), .val (.ref b11), .val (.ref b24)] [(.ref b11)])) (fun _ k => XS.aload X39.here hx rfl (hb hby at_225) rfl rfl  k) ?_
            obtain ⟨cq40, kq40, q40a, q40b, q40c⟩ := isOf hZ eh39 f29
            obtain ⟨_, _, ⟨T40, L40, k40, n40⟩, -, X40, ⟨Lc40, hQ40, l40, y40, z40⟩, st40⟩ := X39.virtualBack hx (y := (⟨"com/example/abil/abil/core/Taxed", "pretax", "()J"⟩ : MethodName)) (z := (⟨"com/example/abil/abil/core/Taxed", "pretax", "()J"⟩ : MethodName)) hown (mvT hZ (hw _ (List.mem_of_getElem? (i := 30) rfl))) (mvT hZ (hw _ (List.mem_of_getElem? (i := 31) rfl))) (notFace_of_selects (args := #[]) (mvT hZ (hw _ (List.mem_of_getElem? (i := 33) rfl)))) (mvT hZ (hw _ (List.mem_of_getElem? (i := 33) rfl))) (mvT hZ (hw _ (List.mem_of_getElem? (i := 32) rfl))) (by decide) (backOf (W := 0) (rmgpre l Z a0 hw [] b11 pb h24 n0 z33 f30) hZ (hw _ (List.mem_of_getElem? (i := 34) rfl)) (hw _ (List.mem_of_getElem? (i := 6) rfl)) (by decide) (by decide)) q40a q40c (g := (mkF m 227 #[.val (.long p0), .second, .val (.long p1), .second, .val (.long p2), .second, .val (.long p3), .second, .val (.int p4), .val (.int (p4 &&& (3 : Int32))), .val (.long pa), .second, .val (.long ta), .second, .val (.long pb), .second, .val (.long tb), .second, .val (.long (pa + pb)), .second, .val (.long (ta + tb)), .second, .val (.long ((pa + pb) + (ta + tb))), .second, .val (.ref b6), .val (.ref b11), .val (.ref b24)] [(.ref b11)])) rfl (by rw [hml]; rfl) (Steps.refl _) (argsL := []) (rest := []) (lenOf pd_0___J rfl) rfl (by show 2 * 0 + _ ≤ _; exact Nat.le_of_eq rfl) (hb hby at_227) (fun _ _ => ⟨rfl, eh39, (by decide : 3 + 0 ≤ _), (by decide : 9 + 0 ≤ _)⟩)
            dsimp only [Pt.U, Pt.locs, Pt.cells, Pt.slots] at X40 l40 y40 z40 st40 hQ40
            subst l40 y40 z40
            obtain ⟨rfl, Nq40, eh40⟩ := hQ40
            have N40 := Fr.app N39 Nq40
            refine Goes.on (B := T40.setTop (mkF m 230 #[.val (.long p0), .second, .val (.long p1), .second, .val (.long p2), .second, .val (.long p3), .second, .val (.int p4), .val (.int (p4 &&& (3 : Int32))), .val (.long pa), .second, .val (.long ta), .second, .val (.long pb), .second, .val (.long tb), .second, .val (.long (pa + pb)), .second, .val (.long (ta + tb)), .second, .val (.long ((pa + pb) + (ta + tb))), .second, .val (.ref b6), .val (.ref b11), .val (.ref b24)] [(.long pb)])) (fun t k => st40.trans k) ?_
            refine Goes.on (B := T40.setTop (mkF m 232 #[.val (.long p0), .second, .val (.long p1), .second, .val (.long p2), .second, .val (.long p3), .second, .val (.int p4), .val (.int (p4 &&& (3 : Int32))), .val (.long pa), .second, .val (.long ta), .second, .val (.long pb), .second, .val (.long tb), .second, .val (.long (pa + pb)), .second, .val (.long (ta + tb)), .second, .val (.long ((pa + pb) + (ta + tb))), .second, .val (.ref b6), .val (.ref b11), .val (.ref b24)] [(.long pb), (.long pb)])) (fun _ k => XS.lload X40.here hx rfl (hb hby at_230) rfl  k) ?_
            refine Goes.on (B := T40.setTop (mkF m 233 #[.val (.long p0), .second, .val (.long p1), .second, .val (.long p2), .second, .val (.long p3), .second, .val (.int p4), .val (.int (p4 &&& (3 : Int32))), .val (.long pa), .second, .val (.long ta), .second, .val (.long pb), .second, .val (.long tb), .second, .val (.long (pa + pb)), .second, .val (.long (ta + tb)), .second, .val (.long ((pa + pb) + (ta + tb))), .second, .val (.ref b6), .val (.ref b11), .val (.ref b24)] [(.int (lcmpW pb pb))])) (fun _ k => XS.lcmp X40.here hx rfl (hb hby at_232) rfl k) ?_
            refine Goes.on (B := T40.setTop (mkF m 236 #[.val (.long p0), .second, .val (.long p1), .second, .val (.long p2), .second, .val (.long p3), .second, .val (.int p4), .val (.int (p4 &&& (3 : Int32))), .val (.long pa), .second, .val (.long ta), .second, .val (.long pb), .second, .val (.long tb), .second, .val (.long (pa + pb)), .second, .val (.long (ta + tb)), .second, .val (.long ((pa + pb) + (ta + tb))), .second, .val (.ref b6), .val (.ref b11), .val (.ref b24)] [])) (fun _ k => XS.ifNo X40.here hx rfl (hb hby at_233) rfl (own_teq (rfl : pb = pb)).2 k) ?_
            refine Goes.on (B := T40.setTop (mkF m 238 #[.val (.long p0), .second, .val (.long p1), .second, .val (.long p2), .second, .val (.long p3), .second, .val (.int p4), .val (.int (p4 &&& (3 : Int32))), .val (.long pa), .second, .val (.long ta), .second, .val (.long pb), .second, .val (.long tb), .second, .val (.long (pa + pb)), .second, .val (.long (ta + tb)), .second, .val (.long ((pa + pb) + (ta + tb))), .second, .val (.ref b6), .val (.ref b11), .val (.ref b24)] [(.ref b11)])) (fun _ k => XS.aload X40.here hx rfl (hb hby at_236) rfl rfl  k) ?_
            obtain ⟨cq41, kq41, q41a, q41b, q41c⟩ := isOf hZ eh40 f29
            obtain ⟨_, _, ⟨T41, L41, k41, n41⟩, -, X41, ⟨Lc41, hQ41, l41, y41, z41⟩, st41⟩ := X40.virtualBack hx (y := (⟨"com/example/abil/abil/core/Taxed", "tax", "()J"⟩ : MethodName)) (z := (⟨"com/example/abil/abil/core/Taxed", "tax", "()J"⟩ : MethodName)) hown (mvT hZ (hw _ (List.mem_of_getElem? (i := 35) rfl))) (mvT hZ (hw _ (List.mem_of_getElem? (i := 36) rfl))) (notFace_of_selects (args := #[]) (mvT hZ (hw _ (List.mem_of_getElem? (i := 38) rfl)))) (mvT hZ (hw _ (List.mem_of_getElem? (i := 38) rfl))) (mvT hZ (hw _ (List.mem_of_getElem? (i := 37) rfl))) (by decide) (backOf (W := 0) (rmgtax l Z a0 hw [] b11 tb h24 n0 z33 f31) hZ (hw _ (List.mem_of_getElem? (i := 39) rfl)) (hw _ (List.mem_of_getElem? (i := 6) rfl)) (by decide) (by decide)) q41a q41c (g := (mkF m 238 #[.val (.long p0), .second, .val (.long p1), .second, .val (.long p2), .second, .val (.long p3), .second, .val (.int p4), .val (.int (p4 &&& (3 : Int32))), .val (.long pa), .second, .val (.long ta), .second, .val (.long pb), .second, .val (.long tb), .second, .val (.long (pa + pb)), .second, .val (.long (ta + tb)), .second, .val (.long ((pa + pb) + (ta + tb))), .second, .val (.ref b6), .val (.ref b11), .val (.ref b24)] [(.ref b11)])) rfl (by rw [hml]; rfl) (Steps.refl _) (argsL := []) (rest := []) (lenOf pd_0___J rfl) rfl (by show 2 * 0 + _ ≤ _; exact Nat.le_of_eq rfl) (hb hby at_238) (fun _ _ => ⟨rfl, eh40, (by decide : 3 + 0 ≤ _), (by decide : 9 + 0 ≤ _)⟩)
            dsimp only [Pt.U, Pt.locs, Pt.cells, Pt.slots] at X41 l41 y41 z41 st41 hQ41
            subst l41 y41 z41
            obtain ⟨rfl, Nq41, eh41⟩ := hQ41
            have N41 := Fr.app N40 Nq41
            refine Goes.on (B := T41.setTop (mkF m 241 #[.val (.long p0), .second, .val (.long p1), .second, .val (.long p2), .second, .val (.long p3), .second, .val (.int p4), .val (.int (p4 &&& (3 : Int32))), .val (.long pa), .second, .val (.long ta), .second, .val (.long pb), .second, .val (.long tb), .second, .val (.long (pa + pb)), .second, .val (.long (ta + tb)), .second, .val (.long ((pa + pb) + (ta + tb))), .second, .val (.ref b6), .val (.ref b11), .val (.ref b24)] [(.long tb)])) (fun t k => st41.trans k) ?_
            refine Goes.on (B := T41.setTop (mkF m 243 #[.val (.long p0), .second, .val (.long p1), .second, .val (.long p2), .second, .val (.long p3), .second, .val (.int p4), .val (.int (p4 &&& (3 : Int32))), .val (.long pa), .second, .val (.long ta), .second, .val (.long pb), .second, .val (.long tb), .second, .val (.long (pa + pb)), .second, .val (.long (ta + tb)), .second, .val (.long ((pa + pb) + (ta + tb))), .second, .val (.ref b6), .val (.ref b11), .val (.ref b24)] [(.long tb), (.long tb)])) (fun _ k => XS.lload X41.here hx rfl (hb hby at_241) rfl  k) ?_
            refine Goes.on (B := T41.setTop (mkF m 244 #[.val (.long p0), .second, .val (.long p1), .second, .val (.long p2), .second, .val (.long p3), .second, .val (.int p4), .val (.int (p4 &&& (3 : Int32))), .val (.long pa), .second, .val (.long ta), .second, .val (.long pb), .second, .val (.long tb), .second, .val (.long (pa + pb)), .second, .val (.long (ta + tb)), .second, .val (.long ((pa + pb) + (ta + tb))), .second, .val (.ref b6), .val (.ref b11), .val (.ref b24)] [(.int (lcmpW tb tb))])) (fun _ k => XS.lcmp X41.here hx rfl (hb hby at_243) rfl k) ?_
            refine Goes.on (B := T41.setTop (mkF m 247 #[.val (.long p0), .second, .val (.long p1), .second, .val (.long p2), .second, .val (.long p3), .second, .val (.int p4), .val (.int (p4 &&& (3 : Int32))), .val (.long pa), .second, .val (.long ta), .second, .val (.long pb), .second, .val (.long tb), .second, .val (.long (pa + pb)), .second, .val (.long (ta + tb)), .second, .val (.long ((pa + pb) + (ta + tb))), .second, .val (.ref b6), .val (.ref b11), .val (.ref b24)] [])) (fun _ k => XS.ifNo X41.here hx rfl (hb hby at_244) rfl (own_teq (rfl : tb = tb)).2 k) ?_
            refine Goes.on (B := T41.setTop (mkF m 249 #[.val (.long p0), .second, .val (.long p1), .second, .val (.long p2), .second, .val (.long p3), .second, .val (.int p4), .val (.int (p4 &&& (3 : Int32))), .val (.long pa), .second, .val (.long ta), .second, .val (.long pb), .second, .val (.long tb), .second, .val (.long (pa + pb)), .second, .val (.long (ta + tb)), .second, .val (.long ((pa + pb) + (ta + tb))), .second, .val (.ref b6), .val (.ref b11), .val (.ref b24)] [(.ref b11)])) (fun _ k => XS.aload X41.here hx rfl (hb hby at_247) rfl rfl  k) ?_
            obtain ⟨cq42, kq42, q42a, q42b, q42c⟩ := isOf hZ eh41 f29
            obtain ⟨_, _, ⟨T42, L42, k42, n42⟩, -, X42, ⟨Lc42, hQ42, l42, y42, z42⟩, st42⟩ := X41.virtualBack hx (y := (⟨"com/example/abil/abil/core/Taxed", "total", "()J"⟩ : MethodName)) (z := (⟨"com/example/abil/abil/core/Taxed", "total", "()J"⟩ : MethodName)) hown (mvT hZ (hw _ (List.mem_of_getElem? (i := 40) rfl))) (mvT hZ (hw _ (List.mem_of_getElem? (i := 41) rfl))) (notFace_of_selects (args := #[]) (mvT hZ (hw _ (List.mem_of_getElem? (i := 43) rfl)))) (mvT hZ (hw _ (List.mem_of_getElem? (i := 43) rfl))) (mvT hZ (hw _ (List.mem_of_getElem? (i := 42) rfl))) (by decide) (backOf (W := 0) (rmgtot l Z a0 hw [] b11 (pb + tb) h24 n0 z33 f32) hZ (hw _ (List.mem_of_getElem? (i := 44) rfl)) (hw _ (List.mem_of_getElem? (i := 6) rfl)) (by decide) (by decide)) q42a q42c (g := (mkF m 249 #[.val (.long p0), .second, .val (.long p1), .second, .val (.long p2), .second, .val (.long p3), .second, .val (.int p4), .val (.int (p4 &&& (3 : Int32))), .val (.long pa), .second, .val (.long ta), .second, .val (.long pb), .second, .val (.long tb), .second, .val (.long (pa + pb)), .second, .val (.long (ta + tb)), .second, .val (.long ((pa + pb) + (ta + tb))), .second, .val (.ref b6), .val (.ref b11), .val (.ref b24)] [(.ref b11)])) rfl (by rw [hml]; rfl) (Steps.refl _) (argsL := []) (rest := []) (lenOf pd_0___J rfl) rfl (by show 2 * 0 + _ ≤ _; exact Nat.le_of_eq rfl) (hb hby at_249) (fun _ _ => ⟨rfl, eh41, (by decide : 3 + 0 ≤ _), (by decide : 9 + 0 ≤ _)⟩)
            dsimp only [Pt.U, Pt.locs, Pt.cells, Pt.slots] at X42 l42 y42 z42 st42 hQ42
            subst l42 y42 z42
            obtain ⟨rfl, Nq42, eh42⟩ := hQ42
            have N42 := Fr.app N41 Nq42
            refine Goes.on (B := T42.setTop (mkF m 252 #[.val (.long p0), .second, .val (.long p1), .second, .val (.long p2), .second, .val (.long p3), .second, .val (.int p4), .val (.int (p4 &&& (3 : Int32))), .val (.long pa), .second, .val (.long ta), .second, .val (.long pb), .second, .val (.long tb), .second, .val (.long (pa + pb)), .second, .val (.long (ta + tb)), .second, .val (.long ((pa + pb) + (ta + tb))), .second, .val (.ref b6), .val (.ref b11), .val (.ref b24)] [(.long (pb + tb))])) (fun t k => st42.trans k) ?_
            refine Goes.on (B := T42.setTop (mkF m 254 #[.val (.long p0), .second, .val (.long p1), .second, .val (.long p2), .second, .val (.long p3), .second, .val (.int p4), .val (.int (p4 &&& (3 : Int32))), .val (.long pa), .second, .val (.long ta), .second, .val (.long pb), .second, .val (.long tb), .second, .val (.long (pa + pb)), .second, .val (.long (ta + tb)), .second, .val (.long ((pa + pb) + (ta + tb))), .second, .val (.ref b6), .val (.ref b11), .val (.ref b24)] [(.long pb), (.long (pb + tb))])) (fun _ k => XS.lload X42.here hx rfl (hb hby at_252) rfl  k) ?_
            refine Goes.on (B := T42.setTop (mkF m 256 #[.val (.long p0), .second, .val (.long p1), .second, .val (.long p2), .second, .val (.long p3), .second, .val (.int p4), .val (.int (p4 &&& (3 : Int32))), .val (.long pa), .second, .val (.long ta), .second, .val (.long pb), .second, .val (.long tb), .second, .val (.long (pa + pb)), .second, .val (.long (ta + tb)), .second, .val (.long ((pa + pb) + (ta + tb))), .second, .val (.ref b6), .val (.ref b11), .val (.ref b24)] [(.long tb), (.long pb), (.long (pb + tb))])) (fun _ k => XS.lload X42.here hx rfl (hb hby at_254) rfl  k) ?_
            refine Goes.on (B := T42.setTop (mkF m 257 #[.val (.long p0), .second, .val (.long p1), .second, .val (.long p2), .second, .val (.long p3), .second, .val (.int p4), .val (.int (p4 &&& (3 : Int32))), .val (.long pa), .second, .val (.long ta), .second, .val (.long pb), .second, .val (.long tb), .second, .val (.long (pa + pb)), .second, .val (.long (ta + tb)), .second, .val (.long ((pa + pb) + (ta + tb))), .second, .val (.ref b6), .val (.ref b11), .val (.ref b24)] [(.long (pb + tb)), (.long (pb + tb))])) (fun _ k => XS.ladd X42.here hx rfl (hb hby at_256) rfl k) ?_
            refine Goes.on (B := T42.setTop (mkF m 258 #[.val (.long p0), .second, .val (.long p1), .second, .val (.long p2), .second, .val (.long p3), .second, .val (.int p4), .val (.int (p4 &&& (3 : Int32))), .val (.long pa), .second, .val (.long ta), .second, .val (.long pb), .second, .val (.long tb), .second, .val (.long (pa + pb)), .second, .val (.long (ta + tb)), .second, .val (.long ((pa + pb) + (ta + tb))), .second, .val (.ref b6), .val (.ref b11), .val (.ref b24)] [(.int (lcmpW (pb + tb) (pb + tb)))])) (fun _ k => XS.lcmp X42.here hx rfl (hb hby at_257) rfl k) ?_
            refine Goes.on (B := T42.setTop (mkF m 261 #[.val (.long p0), .second, .val (.long p1), .second, .val (.long p2), .second, .val (.long p3), .second, .val (.int p4), .val (.int (p4 &&& (3 : Int32))), .val (.long pa), .second, .val (.long ta), .second, .val (.long pb), .second, .val (.long tb), .second, .val (.long (pa + pb)), .second, .val (.long (ta + tb)), .second, .val (.long ((pa + pb) + (ta + tb))), .second, .val (.ref b6), .val (.ref b11), .val (.ref b24)] [])) (fun _ k => XS.ifNo X42.here hx rfl (hb hby at_258) rfl (own_teq (rfl : (pb + tb) = (pb + tb))).2 k) ?_
            refine Goes.on (B := T42.setTop (mkF m 262 #[.val (.long p0), .second, .val (.long p1), .second, .val (.long p2), .second, .val (.long p3), .second, .val (.int p4), .val (.int (p4 &&& (3 : Int32))), .val (.long pa), .second, .val (.long ta), .second, .val (.long pb), .second, .val (.long tb), .second, .val (.long (pa + pb)), .second, .val (.long (ta + tb)), .second, .val (.long ((pa + pb) + (ta + tb))), .second, .val (.ref b6), .val (.ref b11), .val (.ref b24)] [(.int (1 : Int32))])) (fun _ k => XS.iconst X42.here hx rfl (hb hby at_261) k) ?_
            refine Goes.on (B := T42.setTop (mkF m 266 #[.val (.long p0), .second, .val (.long p1), .second, .val (.long p2), .second, .val (.long p3), .second, .val (.int p4), .val (.int (p4 &&& (3 : Int32))), .val (.long pa), .second, .val (.long ta), .second, .val (.long pb), .second, .val (.long tb), .second, .val (.long (pa + pb)), .second, .val (.long (ta + tb)), .second, .val (.long ((pa + pb) + (ta + tb))), .second, .val (.ref b6), .val (.ref b11), .val (.ref b24)] [(.int (1 : Int32))])) (fun _ k => XS.goto X42.here hx rfl (pc0 := 262) (pc' := 266) rfl (hb hby at_262) (by decide) (by decide) k) ?_
            obtain ⟨fs, hr, hrun, hended, hW, hsame⟩ := X42.leave (v := some (.int (1 : Int32))) (fun h => by rw [Bd.returns] at h; cases h)
            exact Goes.leaf (retN X42 hx (t := .boolean) Bd.returns (by simp) (hb hby at_266) hr) hrun hended ⟨_, _, rfl, by show Q0 Z p0 p1 p2 p3 p4 h0 n0 _ T42.heap _; exact ⟨rfl, N42⟩, ⟨_, rfl⟩, hW, hsame.mono (by decide) (by decide)⟩
          · refine Goes.on (B := T5.setTop (mkF m 119 #[.val (.long p0), .second, .val (.long p1), .second, .val (.long p2), .second, .val (.long p3), .second, .val (.int p4), .val (.int (p4 &&& (3 : Int32))), .val (.long pa), .second, .val (.long ta), .second, .val (.long pb), .second, .val (.long tb), .second, .val (.long (pa + pb)), .second, .val (.long (ta + tb)), .second, .val (.long ((pa + pb) + (ta + tb))), .second, .unset, .unset, .unset] [])) (fun _ k => XS.ifNo X5.here hx rfl (hb hby at_116) rfl ((if0 _ _).trans (feq hv5).1) k) ?_
            refine Goes.on (B := T5.setTop (mkF m 120 #[.val (.long p0), .second, .val (.long p1), .second, .val (.long p2), .second, .val (.long p3), .second, .val (.int p4), .val (.int (p4 &&& (3 : Int32))), .val (.long pa), .second, .val (.long ta), .second, .val (.long pb), .second, .val (.long tb), .second, .val (.long (pa + pb)), .second, .val (.long (ta + tb)), .second, .val (.long ((pa + pb) + (ta + tb))), .second, .unset, .unset, .unset] [(.int (1 : Int32))])) (fun _ k => XS.iconst X5.here hx rfl (hb hby at_119) k) ?_
            obtain ⟨fs, hr, hrun, hended, hW, hsame⟩ := X5.leave (v := some (.int (1 : Int32))) (fun h => by rw [Bd.returns] at h; cases h)
            exact Goes.leaf (retN X5 hx (t := .boolean) Bd.returns (by simp) (hb hby at_120) hr) hrun hended ⟨_, _, rfl, by show Q0 Z p0 p1 p2 p3 p4 h0 n0 _ T5.heap _; exact ⟨rfl, N5⟩, ⟨_, rfl⟩, hW, hsame.mono (by decide) (by decide)⟩
        · refine Goes.on (B := T4.setTop (mkF m 119 #[.val (.long p0), .second, .val (.long p1), .second, .val (.long p2), .second, .val (.long p3), .second, .val (.int p4), .val (.int (p4 &&& (3 : Int32))), .val (.long pa), .second, .val (.long ta), .second, .val (.long pb), .second, .val (.long tb), .second, .val (.long (pa + pb)), .second, .val (.long (ta + tb)), .second, .val (.long ((pa + pb) + (ta + tb))), .second, .unset, .unset, .unset] [])) (fun _ k => XS.ifYes X4.here hx rfl (pc0 := 104) (pc' := 119) rfl (hb hby at_104) rfl ((if0 _ _).trans (feq hv4).2) (by decide) (by decide) k) ?_
          refine Goes.on (B := T4.setTop (mkF m 120 #[.val (.long p0), .second, .val (.long p1), .second, .val (.long p2), .second, .val (.long p3), .second, .val (.int p4), .val (.int (p4 &&& (3 : Int32))), .val (.long pa), .second, .val (.long ta), .second, .val (.long pb), .second, .val (.long tb), .second, .val (.long (pa + pb)), .second, .val (.long (ta + tb)), .second, .val (.long ((pa + pb) + (ta + tb))), .second, .unset, .unset, .unset] [(.int (1 : Int32))])) (fun _ k => XS.iconst X4.here hx rfl (hb hby at_119) k) ?_
          obtain ⟨fs, hr, hrun, hended, hW, hsame⟩ := X4.leave (v := some (.int (1 : Int32))) (fun h => by rw [Bd.returns] at h; cases h)
          exact Goes.leaf (retN X4 hx (t := .boolean) Bd.returns (by simp) (hb hby at_120) hr) hrun hended ⟨_, _, rfl, by show Q0 Z p0 p1 p2 p3 p4 h0 n0 _ T4.heap _; exact ⟨rfl, N4⟩, ⟨_, rfl⟩, hW, hsame.mono (by decide) (by decide)⟩
      · refine Goes.on (B := T3.setTop (mkF m 119 #[.val (.long p0), .second, .val (.long p1), .second, .val (.long p2), .second, .val (.long p3), .second, .val (.int p4), .val (.int (p4 &&& (3 : Int32))), .val (.long pa), .second, .val (.long ta), .second, .val (.long pb), .second, .val (.long tb), .second, .val (.long (pa + pb)), .second, .val (.long (ta + tb)), .second, .val (.long ((pa + pb) + (ta + tb))), .second, .unset, .unset, .unset] [])) (fun _ k => XS.ifYes X3.here hx rfl (pc0 := 92) (pc' := 119) rfl (hb hby at_92) rfl ((if0 _ _).trans (feq hv3).2) (by decide) (by decide) k) ?_
        refine Goes.on (B := T3.setTop (mkF m 120 #[.val (.long p0), .second, .val (.long p1), .second, .val (.long p2), .second, .val (.long p3), .second, .val (.int p4), .val (.int (p4 &&& (3 : Int32))), .val (.long pa), .second, .val (.long ta), .second, .val (.long pb), .second, .val (.long tb), .second, .val (.long (pa + pb)), .second, .val (.long (ta + tb)), .second, .val (.long ((pa + pb) + (ta + tb))), .second, .unset, .unset, .unset] [(.int (1 : Int32))])) (fun _ k => XS.iconst X3.here hx rfl (hb hby at_119) k) ?_
        obtain ⟨fs, hr, hrun, hended, hW, hsame⟩ := X3.leave (v := some (.int (1 : Int32))) (fun h => by rw [Bd.returns] at h; cases h)
        exact Goes.leaf (retN X3 hx (t := .boolean) Bd.returns (by simp) (hb hby at_120) hr) hrun hended ⟨_, _, rfl, by show Q0 Z p0 p1 p2 p3 p4 h0 n0 _ T3.heap _; exact ⟨rfl, N3⟩, ⟨_, rfl⟩, hW, hsame.mono (by decide) (by decide)⟩
    · refine Goes.on (B := T2.setTop (mkF m 119 #[.val (.long p0), .second, .val (.long p1), .second, .val (.long p2), .second, .val (.long p3), .second, .val (.int p4), .val (.int (p4 &&& (3 : Int32))), .val (.long pa), .second, .val (.long ta), .second, .val (.long pb), .second, .val (.long tb), .second, .val (.long (pa + pb)), .second, .val (.long (ta + tb)), .second, .val (.long ((pa + pb) + (ta + tb))), .second, .unset, .unset, .unset] [])) (fun _ k => XS.ifYes X2.here hx rfl (pc0 := 80) (pc' := 119) rfl (hb hby at_80) rfl ((if0 _ _).trans (feq hv2).2) (by decide) (by decide) k) ?_
      refine Goes.on (B := T2.setTop (mkF m 120 #[.val (.long p0), .second, .val (.long p1), .second, .val (.long p2), .second, .val (.long p3), .second, .val (.int p4), .val (.int (p4 &&& (3 : Int32))), .val (.long pa), .second, .val (.long ta), .second, .val (.long pb), .second, .val (.long tb), .second, .val (.long (pa + pb)), .second, .val (.long (ta + tb)), .second, .val (.long ((pa + pb) + (ta + tb))), .second, .unset, .unset, .unset] [(.int (1 : Int32))])) (fun _ k => XS.iconst X2.here hx rfl (hb hby at_119) k) ?_
      obtain ⟨fs, hr, hrun, hended, hW, hsame⟩ := X2.leave (v := some (.int (1 : Int32))) (fun h => by rw [Bd.returns] at h; cases h)
      exact Goes.leaf (retN X2 hx (t := .boolean) Bd.returns (by simp) (hb hby at_120) hr) hrun hended ⟨_, _, rfl, by show Q0 Z p0 p1 p2 p3 p4 h0 n0 _ T2.heap _; exact ⟨rfl, N2⟩, ⟨_, rfl⟩, hW, hsame.mono (by decide) (by decide)⟩
  · refine Goes.on (B := T1.setTop (mkF m 119 #[.val (.long p0), .second, .val (.long p1), .second, .val (.long p2), .second, .val (.long p3), .second, .val (.int p4), .val (.int (p4 &&& (3 : Int32))), .val (.long pa), .second, .val (.long ta), .second, .val (.long pb), .second, .val (.long tb), .second, .val (.long (pa + pb)), .second, .val (.long (ta + tb)), .second, .val (.long ((pa + pb) + (ta + tb))), .second, .unset, .unset, .unset] [])) (fun _ k => XS.ifYes X1.here hx rfl (pc0 := 65) (pc' := 119) rfl (hb hby at_65) rfl ((if0 _ _).trans (feq hv1).2) (by decide) (by decide) k) ?_
    refine Goes.on (B := T1.setTop (mkF m 120 #[.val (.long p0), .second, .val (.long p1), .second, .val (.long p2), .second, .val (.long p3), .second, .val (.int p4), .val (.int (p4 &&& (3 : Int32))), .val (.long pa), .second, .val (.long ta), .second, .val (.long pb), .second, .val (.long tb), .second, .val (.long (pa + pb)), .second, .val (.long (ta + tb)), .second, .val (.long ((pa + pb) + (ta + tb))), .second, .unset, .unset, .unset] [(.int (1 : Int32))])) (fun _ k => XS.iconst X1.here hx rfl (hb hby at_119) k) ?_
    obtain ⟨fs, hr, hrun, hended, hW, hsame⟩ := X1.leave (v := some (.int (1 : Int32))) (fun h => by rw [Bd.returns] at h; cases h)
    exact Goes.leaf (retN X1 hx (t := .boolean) Bd.returns (by simp) (hb hby at_120) hr) hrun hended ⟨_, _, rfl, by show Q0 Z p0 p1 p2 p3 p4 h0 n0 _ T1.heap _; exact ⟨rfl, N1⟩, ⟨_, rfl⟩, hW, hsame.mono (by decide) (by decide)⟩
set_option maxRecDepth 65536 in
set_option maxHeartbeats 40000000 in
theorem comes_1 {Post : Tables → Env → Array Value → State → Outcome → State → Prop} (hpost : ∀ tb e args s v u, (limb_1_1.after args s (.returned v) u = true ∧ limb_1_2.after args s (.returned v) u = true ∧ True) → FrameEnd s (.returned v) u (Jvm.fieldLocs frame_1_writes args s ++ Jvm.arrayLocs frame_1_arrays args s ++ Jvm.staticLocs frame_1_statics s) 16 128 → Post tb e args s (.returned v) u) :
    ArmFor flags0 classFile x code maxLocals ret World_1 tables_1 room_1 Calls_1 rest_1 Pre_1 Post := by
  intro l hfl _ _ p e ha hc hk s m args below hf hA hF happ hP
  obtain ⟨hcalls, hrest, hpre⟩ := hP
  obtain ⟨-, -, -, hnamed, -, -, -, hat⟩ := (Spec.applies_iff hf).mp happ
  obtain ⟨hg, hn⟩ := and_e (Cond.before_iff.mp (show (Jvm.Cond.and given_1 narrow_1).before args s = true from hpre))
  obtain ⟨hg0, hg0r⟩ := and_e hg
  obtain ⟨hg1, hg1r⟩ := and_e hg0r
  obtain ⟨hg2, hg2r⟩ := and_e hg1r
  obtain ⟨hg3, hg3r⟩ := and_e hg2r
  obtain ⟨hg4, hg4r⟩ := and_e hg3r
  obtain ⟨w0, w1, w2, w3, w4, rfl⟩ : ∃ w0 w1 w2 w3 w4 : Value, args = #[w0, w1, w2, w3, w4] := by
    have hs : args.size = 5 := by simpa [Cond.value, given_1] using hg0
    obtain ⟨L⟩ := args
    match L, hs with
    | [w0, w1, w2, w3, w4], _ => exact ⟨w0, w1, w2, w3, w4, rfl⟩
  have hw := fun d (hd : d ∈ tables_1) => atoms_spec (ws := Jvm.Cond.code x code maxLocals ret :: tables_1) hat d (List.mem_cons_of_mem _ hd)
  have hfit : Fit s := fun {y c} hc i hi => by
    obtain ⟨ha, rfl⟩ := Array.getElem?_eq_some_iff.mp hc
    have q := List.all_eq_true.mp ((Array.all_eq_true_iff_forall_mem.mp hF) _ (Array.getElem_mem ha)) i (List.mem_range.mpr hi)
    simpa [Array.getElem?_eq_getElem hi] using q
  obtain ⟨i0, ei0⟩ := isL_v hg1
  obtain rfl : w0 = (.long i0) := Option.some.inj ei0
  obtain ⟨i1, ei1⟩ := isL_v hg2
  obtain rfl : w1 = (.long i1) := Option.some.inj ei1
  obtain ⟨i2, ei2⟩ := isL_v hg3
  obtain rfl : w2 = (.long i2) := Option.some.inj ei2
  obtain ⟨i3, ei3⟩ := isL_v hg4
  obtain rfl : w3 = (.long i3) := Option.some.inj ei3
  obtain ⟨i4, ei4⟩ := is_v hg4r
  obtain rfl : w4 = (.int i4) := Option.some.inj ei4
  obtain ⟨n, o, h1, h2, h3, _, L, rfl, ⟨rfl, N⟩, hq⟩ := rm0 l s _ hw tables_1 i0 i1 i2 i3 i4  s.heap s.heap.size (Nat.le_refl _)  p e ha hc hk s m _ below hf ((Spec.applies_iff_loose hf).mp happ).1 ⟨rfl, State.Warmed39.refl s, rfl⟩ trivial
  refine ⟨n, _, h1, h2, h3, hpost _ _ _ _ _ _ ⟨Cond.after_iff.mpr rfl, Cond.after_iff.mpr (eq_i res_at (Term.int_eval (1)) rfl), trivial⟩ ⟨hq.1, hq.2.1, (hq.2.2.sift fun y hy => Or.inr (N y hy)).mono (by decide) (by decide)⟩⟩
theorem main_1_1 : Claimed_1_1 := comes_1 fun _ _ _ _ _ _ h hF => ⟨h.1, hF⟩
theorem main_1_2 : Claimed_1_2 := comes_1 fun _ _ _ _ _ _ h hF => ⟨h.2.1, hF⟩
end Jvm.Pilot.@@N@@
namespace Jvm.Pilot.@@N@@
open Jvm Jvm.ClassFile Sem Op Lib Jvm.Free Jvm.Stand Jvm.Pilot.@@N@@.Jvm.D
/-! MADE BY PROGRAM (witnessworld.py) out of the Statement's table words and the real class files: 10 classes; the members and pool entries that the words name. The judged class is class 1, her method 2. -/
namespace start1
open Jvm.ClassFile
def u (s : String) : CpInfo := .utf8 (stringToUtf16 s)
/-- a pool by its gaps: so many unusable entries, then the entry; so many at the end -/
def gap : Nat → List CpInfo → List CpInfo
  | 0, r => r
  | n + 1, r => .unusable :: gap n r
def poolList (es : List (Nat × CpInfo)) (last : Nat) : List CpInfo := es.foldr (fun e r => gap e.1 (e.2 :: r)) (gap last [])
def pool (es : List (Nat × CpInfo)) (last : Nat) : Array CpInfo := ⟨poolList es last⟩
def fileOf (pool : Array CpInfo) (this : Nat) (attrs : Array Attribute := #[]) (ms : Array MethodInfo := #[]) (fl : Nat := 33) (sup : Nat := 0) (ifs : Array Nat := #[]) (fds : Array FieldInfo := #[]) : ClassFile where
  minorVersion := 0
  majorVersion := 65
  constantPool := pool
  accessFlags := fl
  thisClass := this
  superClass := sup
  interfaces := ifs
  fields := fds
  methods := ms
  attributes := attrs
def plain (name : String) (sup : Option ClassId) : Class where
  name := name
  kind := .ordinary
  loader := none
  accessFlags := 33
  super := sup
  interfaces := #[]
  cf := none
  fields := #[]
  methods := #[]
  instanceTypes := #[]
  staticTypes := #[]
  resolved := #[]
  callSites := []
  init := .initialized
  statics := none
  mirror := none

def pool0 : Array CpInfo := pool [(5, u "<init>"), (0, u "()V"), (1, .class_ 10), (1, u "java/lang/Object")] 113

def k0c0 : Code := { maxStack := 0, maxLocals := 1, code := object_method_1_code, exceptionTable := #[], attributes := #[] }
def k0m0 : Method := { name := "<init>", desc := "()V", sig := { parameters := [], returnType := none }, accessFlags := 1, code := some k0c0 }
/-- java/lang/Object -/
def k0 : Class := { plain "java/lang/Object" none with
  accessFlags := 33
  interfaces := #[]
  cf := some (fileOf pool0 8 #[] #[{ accessFlags := 1, nameIndex := 5, descriptorIndex := 6, attributes := #[] }] 33 0 #[] #[])
  fields := #[]
  methods := #[k0m0]
  instanceTypes := #[]
  staticTypes := #[]
  resolved := Array.replicate 124 none
  statics := none }

def pool1 : Array CpInfo := pool [(2, .class_ 4), (1, u "java/lang/Object"), (0, u "<init>"), (0, u "()V"), (0, .methodref 8 9), (0, .class_ 10), (0, .nameAndType 11 12), (0, u "com/example/abil/abil/core/TaxedPlusPinLaw"), (0, u "ovf"), (0, u "(JJJ)Z"), (0, .class_ 14), (0, u "com/example/abil/abil/core/Taxed"), (0, .methodref 13 16), (0, .nameAndType 5 17), (0, u "(JJ)V"), (0, .methodref 13 19), (0, .nameAndType 20 21), (0, u "plus"), (0, u "(Lcom/example/abil/abil/core/Taxed;)Lcom/example/abil/abil/core/Taxed;"), (0, .methodref 13 23), (0, .nameAndType 24 25), (0, u "pretax"), (0, u "()J"), (0, .methodref 13 27), (0, .nameAndType 28 25), (0, u "tax"), (0, .methodref 13 30), (0, .nameAndType 31 25), (0, u "total"), (3, u "law"), (0, u "(JJJJI)Z")] 2

def k1m0 : Method := { name := "<init>", desc := "()V", sig := { parameters := [], returnType := none }, accessFlags := 1, code := none }
def k1c1 : Code := { maxStack := 6, maxLocals := 6, code := method_2_code, exceptionTable := #[], attributes := #[] }
def k1m1 : Method := { name := "ovf", desc := "(JJJ)Z", sig := { parameters := [.long, .long, .long], returnType := some .boolean }, accessFlags := 10, code := some k1c1 }
def k1c2 : Code := { maxStack := 8, maxLocals := 27, code := code, exceptionTable := #[], attributes := #[] }
def k1m2 : Method := { name := "law", desc := "(JJJJI)Z", sig := { parameters := [.long, .long, .long, .long, .int], returnType := some .boolean }, accessFlags := 9, code := some k1c2 }
/-- com/example/abil/abil/core/TaxedPlusPinLaw -/
def k1 : Class := { plain "com/example/abil/abil/core/TaxedPlusPinLaw" (some 0) with
  accessFlags := 49
  interfaces := #[]
  cf := some (fileOf pool1 8 #[] #[{ accessFlags := 1, nameIndex := 5, descriptorIndex := 6, attributes := #[] }, { accessFlags := 10, nameIndex := 11, descriptorIndex := 12, attributes := #[] }, { accessFlags := 9, nameIndex := 35, descriptorIndex := 36, attributes := #[] }] 49 2 #[] #[])
  fields := #[]
  methods := #[k1m0, k1m1, k1m2]
  instanceTypes := #[]
  staticTypes := #[]
  resolved := Array.replicate 39 none
  statics := none }

def pool2 : Array CpInfo := pool [(1, .methodref 2 3), (0, .class_ 4), (0, .nameAndType 5 6), (0, u "java/lang/Object"), (0, u "<init>"), (0, u "()V"), (0, .fieldref 8 9), (0, .class_ 10), (0, .nameAndType 11 12), (0, u "com/example/abil/abil/core/Taxed"), (0, u "pretax"), (0, u "J"), (0, .fieldref 8 14), (0, .nameAndType 15 12), (0, u "tax"), (0, .methodref 17 18), (0, .class_ 19), (0, .nameAndType 20 21), (0, u "java/lang/Math"), (0, u "addExact"), (0, u "(JJ)J"), (0, .fieldref 8 23), (0, .nameAndType 24 12), (0, u "total"), (0, .methodref 8 26), (0, .nameAndType 5 27), (0, u "(JJ)V"), (2, u "NONE"), (0, u "Lcom/example/abil/abil/core/Taxed;"), (2, u "plus"), (0, u "(Lcom/example/abil/abil/core/Taxed;)Lcom/example/abil/abil/core/Taxed;"), (0, u "()J")] 3

def k2c0 : Code := { maxStack := 5, maxLocals := 5, code := prog_40_method_1_code, exceptionTable := #[], attributes := #[] }
def k2m0 : Method := { name := "<init>", desc := "(JJ)V", sig := { parameters := [.long, .long], returnType := none }, accessFlags := 1, code := some k2c0 }
def k2c1 : Code := { maxStack := 8, maxLocals := 2, code := prog_40_method_2_code, exceptionTable := #[], attributes := #[] }
def k2m1 : Method := { name := "plus", desc := "(Lcom/example/abil/abil/core/Taxed;)Lcom/example/abil/abil/core/Taxed;", sig := { parameters := [(.object "com/example/abil/abil/core/Taxed")], returnType := some (.object "com/example/abil/abil/core/Taxed") }, accessFlags := 1, code := some k2c1 }
def k2c2 : Code := { maxStack := 2, maxLocals := 1, code := prog_40_method_3_code, exceptionTable := #[], attributes := #[] }
def k2m2 : Method := { name := "pretax", desc := "()J", sig := { parameters := [], returnType := some .long }, accessFlags := 1, code := some k2c2 }
def k2c3 : Code := { maxStack := 2, maxLocals := 1, code := prog_40_method_4_code, exceptionTable := #[], attributes := #[] }
def k2m3 : Method := { name := "tax", desc := "()J", sig := { parameters := [], returnType := some .long }, accessFlags := 1, code := some k2c3 }
def k2c4 : Code := { maxStack := 2, maxLocals := 1, code := prog_40_method_5_code, exceptionTable := #[], attributes := #[] }
def k2m4 : Method := { name := "total", desc := "()J", sig := { parameters := [], returnType := some .long }, accessFlags := 1, code := some k2c4 }
/-- com/example/abil/abil/core/Taxed -/
def k2 : Class := { plain "com/example/abil/abil/core/Taxed" (some 0) with
  accessFlags := 49
  interfaces := #[]
  cf := some (fileOf pool2 8 #[] #[{ accessFlags := 1, nameIndex := 5, descriptorIndex := 27, attributes := #[] }, { accessFlags := 1, nameIndex := 34, descriptorIndex := 35, attributes := #[] }, { accessFlags := 1, nameIndex := 11, descriptorIndex := 36, attributes := #[] }, { accessFlags := 1, nameIndex := 15, descriptorIndex := 36, attributes := #[] }, { accessFlags := 1, nameIndex := 24, descriptorIndex := 36, attributes := #[] }] 49 2 #[] #[{ accessFlags := 25, nameIndex := 30, descriptorIndex := 31, attributes := #[] }, { accessFlags := 18, nameIndex := 11, descriptorIndex := 12, attributes := #[] }, { accessFlags := 18, nameIndex := 15, descriptorIndex := 12, attributes := #[] }, { accessFlags := 18, nameIndex := 24, descriptorIndex := 12, attributes := #[] }])
  fields := #[{ name := "NONE", type := (.object "com/example/abil/abil/core/Taxed"), accessFlags := 25, slot := 0, constantValue := 0 }, { name := "pretax", type := .long, accessFlags := 18, slot := 0, constantValue := 0 }, { name := "tax", type := .long, accessFlags := 18, slot := 1, constantValue := 0 }, { name := "total", type := .long, accessFlags := 18, slot := 2, constantValue := 0 }]
  methods := #[k2m0, k2m1, k2m2, k2m3, k2m4]
  instanceTypes := #[.long, .long, .long]
  staticTypes := #[(.object "com/example/abil/abil/core/Taxed")]
  resolved := Array.replicate 40 none
  statics := none }

def pool3 : Array CpInfo := pool [(1, .class_ 2), (0, u "java/lang/Math"), (1, .class_ 6), (1, u "java/lang/Object"), (0, u "<init>"), (0, u "()V"), (89, .class_ 100), (1, u "java/lang/Math$RandomNumberGeneratorHolder"), (20, u "(JJ)J"), (50, u "negativeZeroFloatBits"), (0, u "J"), (2, u "negativeZeroDoubleBits"), (68, u "$assertionsDisabled"), (0, u "Z"), (91, u "twoToTheDoubleScaleDown"), (0, u "D"), (4, u "twoToTheDoubleScaleUp"), (9, u "E"), (3, u "PI"), (2, u "TAU"), (2, u "DEGREES_TO_RADIANS"), (0, u "RADIANS_TO_DEGREES"), (27, u "addExact")] 66

def k3m0 : Method := { name := "<init>", desc := "()V", sig := { parameters := [], returnType := none }, accessFlags := 2, code := none }
def k3c1 : Code := { maxStack := 6, maxLocals := 6, code := jdk_29_method_25_code, exceptionTable := #[], attributes := #[] }
def k3m1 : Method := { name := "addExact", desc := "(JJ)J", sig := { parameters := [.long, .long], returnType := some .long }, accessFlags := 9, code := some k3c1 }
/-- java/lang/Math -/
def k3 : Class := { plain "java/lang/Math" (some 0) with
  accessFlags := 49
  interfaces := #[]
  cf := some (fileOf pool3 1 #[.nestMembers #[98]] #[{ accessFlags := 2, nameIndex := 7, descriptorIndex := 8, attributes := #[] }, { accessFlags := 9, nameIndex := 393, descriptorIndex := 121, attributes := #[] }] 49 4 #[] #[{ accessFlags := 25, nameIndex := 354, descriptorIndex := 339, attributes := #[] }, { accessFlags := 25, nameIndex := 358, descriptorIndex := 339, attributes := #[] }, { accessFlags := 25, nameIndex := 361, descriptorIndex := 339, attributes := #[] }, { accessFlags := 26, nameIndex := 364, descriptorIndex := 339, attributes := #[] }, { accessFlags := 26, nameIndex := 365, descriptorIndex := 339, attributes := #[] }, { accessFlags := 26, nameIndex := 172, descriptorIndex := 173, attributes := #[] }, { accessFlags := 26, nameIndex := 176, descriptorIndex := 173, attributes := #[] }, { accessFlags := 8, nameIndex := 344, descriptorIndex := 339, attributes := #[] }, { accessFlags := 8, nameIndex := 338, descriptorIndex := 339, attributes := #[] }, { accessFlags := 4120, nameIndex := 245, descriptorIndex := 246, attributes := #[] }])
  fields := #[{ name := "E", type := .double, accessFlags := 25, slot := 0, constantValue := 0 }, { name := "PI", type := .double, accessFlags := 25, slot := 1, constantValue := 0 }, { name := "TAU", type := .double, accessFlags := 25, slot := 2, constantValue := 0 }, { name := "DEGREES_TO_RADIANS", type := .double, accessFlags := 26, slot := 3, constantValue := 0 }, { name := "RADIANS_TO_DEGREES", type := .double, accessFlags := 26, slot := 4, constantValue := 0 }, { name := "negativeZeroFloatBits", type := .long, accessFlags := 26, slot := 5, constantValue := 0 }, { name := "negativeZeroDoubleBits", type := .long, accessFlags := 26, slot := 6, constantValue := 0 }, { name := "twoToTheDoubleScaleUp", type := .double, accessFlags := 8, slot := 7, constantValue := 0 }, { name := "twoToTheDoubleScaleDown", type := .double, accessFlags := 8, slot := 8, constantValue := 0 }, { name := "$assertionsDisabled", type := .boolean, accessFlags := 4120, slot := 9, constantValue := 0 }]
  methods := #[k3m0, k3m1]
  instanceTypes := #[]
  staticTypes := #[.double, .double, .double, .double, .double, .long, .long, .double, .double, .boolean]
  resolved := Array.replicate 460 none
  statics := none }

def pool4 : Array CpInfo := pool [(1, u "java/lang/Cloneable"), (0, .class_ 1), (0, u "java/lang/Object"), (0, .class_ 3)] 3

/-- java/lang/Cloneable -/
def k4 : Class := { plain "java/lang/Cloneable" (some 0) with
  accessFlags := 1537
  interfaces := #[]
  cf := some (fileOf pool4 2 #[] #[] 1537 4 #[] #[])
  fields := #[]
  methods := #[]
  instanceTypes := #[]
  staticTypes := #[]
  resolved := Array.replicate 8 none
  statics := none }

def pool5 : Array CpInfo := pool [(1, u "java/io/Serializable"), (0, .class_ 1), (0, u "java/lang/Object"), (0, .class_ 3)] 3

/-- java/io/Serializable -/
def k5 : Class := { plain "java/io/Serializable" (some 0) with
  accessFlags := 1537
  interfaces := #[]
  cf := some (fileOf pool5 2 #[] #[] 1537 4 #[] #[])
  fields := #[]
  methods := #[]
  instanceTypes := #[]
  staticTypes := #[]
  resolved := Array.replicate 8 none
  statics := none }

/-- the primitive byte -/
def k6 : Class := { plain "byte" none with kind := .primitive 'B', accessFlags := 0x411 }
/-- [B -/
def k7 : Class := { plain "[B" (some 0) with kind := .array 6 .byte, interfaces := #[4, 5], accessFlags := 1041 }

/-- the primitive int -/
def k8 : Class := { plain "int" none with kind := .primitive 'I', accessFlags := 0x411 }
/-- [I -/
def k9 : Class := { plain "[I" (some 0) with kind := .array 8 .int, interfaces := #[4, 5], accessFlags := 1041 }

def heap : Heap := #[]
def classes : Array Class := #[k0, k1, k2, k3, k4, k5, k6, k7, k8, k9]
def interned : List (Array UInt16 × Addr) := []
def slotsUsed : Nat := 0
def theMethod : MethodId := ⟨1, 2⟩
def args0 : Array Value := #[.long 5, .long 7, .long 9, .long 11, .int 1]
def aboutOver (below : List Frame) : State where
  vm := { classes := classes, interned := interned.toArray }
  heap := heap
  slotsUsed := slotsUsed
  threads := #[{ frames := .invoking theMethod args0 :: below }]
def below0 : List Frame := [.native { method := ⟨0, 0⟩, args := #[] }]
def about1 : State := aboutOver below0
def p0 : Program := .bare "" "" ""
def e0 : Env := launch0.env 0 0 0
theorem w_frames : about1.frames = Frame.invoking theMethod args0 :: below0 := rfl
set_option maxRecDepth 65536 in
theorem w_args : argsFit about1.vm theMethod args0 = true := by decide +kernel
set_option maxRecDepth 65536 in
theorem w_heap : heapFits about1 = true := by decide +kernel
set_option maxRecDepth 65536 in
theorem w_runnable : about1.curStatus? = some .runnable := by decide +kernel
set_option maxRecDepth 65536 in
theorem w_alone : about1.alone = true := by decide +kernel
set_option maxRecDepth 65536 in
theorem w_named : about1.methodNamed? x = some theMethod := by decide +kernel
set_option maxRecDepth 65536 in
theorem w_hears : about1.hears theMethod below0 = true := by decide +kernel
set_option maxRecDepth 65536 in
theorem w_ripe : about1.ripe theMethod args0 below0 = true := by decide +kernel
theorem w_running : about1.status = .running := rfl
set_option maxRecDepth 65536 in
theorem w_room : about1.hasRoom e0.platform room_1 = true :=
  launch0.hasRoom_least _ room_1 (by decide +kernel) (by decide +kernel) (by decide +kernel) (by decide +kernel) (by decide +kernel) (by decide +kernel)
theorem allAtoms_all (ts : List Jvm.Cond) (a : Array Jvm.Value) (st : Jvm.State) : (allAtoms ts).before a st = ts.all (fun c => c.before a st) := by
  induction ts with
  | nil => rfl
  | cons c t ih =>
    show (Jvm.Cond.and c (allAtoms t)).before a st = _
    rw [Jvm.Cond.before_and, ih, List.all_cons]
def words1 : List Jvm.Cond := Jvm.Cond.code x code maxLocals ret :: tables_1
/-- a 'code' word, met by the world's own term for the bytes: nothing is compared byte by byte -/
theorem code_word {y : MethodName} {bytes : ByteArray} {mx : Nat} {rt : Option FieldType} {a : Array Value} {s : State} {m : MethodId} {meth : Method} {c : Code} (h1 : s.methodNamed? y = some m) (h2 : s.vm.method? m = some meth) (h3 : meth.code = some c) (h4 : c.code = bytes)
    (h5 : (c.maxLocals == mx && c.exceptionTable.isEmpty && decide (c.maxStack ≤ mostOperands) && decide (meth.sig.returnType = rt) && !meth.locks && decide (parseMethodDescriptor y.desc = some meth.sig)) = true) : (Jvm.Cond.code y bytes mx rt).before a s = true := by
  simp only [Bool.and_eq_true, beq_iff_eq, Bool.not_eq_true', decide_eq_true_eq] at h5
  obtain ⟨⟨⟨⟨⟨g1, g2⟩, g3⟩, g4⟩, g5⟩, g6⟩ := h5
  simp [Cond.before, Cond.holds, Cond.value, h1, h2, h3, h4, g1, g2, g3, g4, g5, g6]
def isCode : Jvm.Cond → Bool
  | .code _ _ _ _ => true
  | _ => false
theorem all_split {L : List Jvm.Cond} {P : Jvm.Cond → Bool} (h1 : L.all (fun c => isCode c || P c) = true) (h2 : ∀ c ∈ L.filter isCode, P c = true) : L.all P = true := by
  refine List.all_eq_true.mpr fun c hc => ?_
  have h := List.all_eq_true.mp h1 c hc
  rcases Bool.eq_false_or_eq_true (isCode c) with hi | hi
  · exact h2 c (List.mem_filter.mpr ⟨hc, hi⟩)
  · simpa [hi] using h
set_option maxRecDepth 65536 in
theorem w_c0 : (Jvm.Cond.code x code maxLocals ret).before args0 about1 = true := code_word (m := ⟨1, 2⟩) (meth := k1m2) (c := k1c2) (by decide +kernel) rfl rfl rfl (by decide +kernel)
set_option maxRecDepth 65536 in
theorem w_c1 : (Jvm.Cond.code ({ cls := "com/example/abil/abil/core/TaxedPlusPinLaw", name := "ovf", desc := "(JJJ)Z" } : Jvm.MethodName) method_2_code (6 : Nat) (Option.some Jvm.ClassFile.FieldType.boolean)).before args0 about1 = true := code_word (m := ⟨1, 1⟩) (meth := k1m1) (c := k1c1) (by decide +kernel) rfl rfl rfl (by decide +kernel)
set_option maxRecDepth 65536 in
theorem w_c2 : (Jvm.Cond.code ({ cls := "com/example/abil/abil/core/Taxed", name := "<init>", desc := "(JJ)V" } : Jvm.MethodName) prog_40_method_1_code (5 : Nat) (Option.none : Option Jvm.ClassFile.FieldType)).before args0 about1 = true := code_word (m := ⟨2, 0⟩) (meth := k2m0) (c := k2c0) (by decide +kernel) rfl rfl rfl (by decide +kernel)
set_option maxRecDepth 65536 in
theorem w_c3 : (Jvm.Cond.code ({ cls := "java/lang/Object", name := "<init>", desc := "()V" } : Jvm.MethodName) object_method_1_code (1 : Nat) (Option.none : Option Jvm.ClassFile.FieldType)).before args0 about1 = true := code_word (m := ⟨0, 0⟩) (meth := k0m0) (c := k0c0) (by decide +kernel) rfl rfl rfl (by decide +kernel)
set_option maxRecDepth 65536 in
theorem w_c4 : (Jvm.Cond.code ({ cls := "java/lang/Math", name := "addExact", desc := "(JJ)J" } : Jvm.MethodName) jdk_29_method_25_code (6 : Nat) (Option.some Jvm.ClassFile.FieldType.long)).before args0 about1 = true := code_word (m := ⟨3, 1⟩) (meth := k3m1) (c := k3c1) (by decide +kernel) rfl rfl rfl (by decide +kernel)
set_option maxRecDepth 65536 in
theorem w_c5 : (Jvm.Cond.code ({ cls := "com/example/abil/abil/core/Taxed", name := "plus", desc := "(Lcom/example/abil/abil/core/Taxed;)Lcom/example/abil/abil/core/Taxed;" } : Jvm.MethodName) prog_40_method_2_code (2 : Nat) (Option.some (Jvm.ClassFile.FieldType.object "com/example/abil/abil/core/Taxed"))).before args0 about1 = true := code_word (m := ⟨2, 1⟩) (meth := k2m1) (c := k2c1) (by decide +kernel) rfl rfl rfl (by decide +kernel)
set_option maxRecDepth 65536 in
theorem w_c6 : (Jvm.Cond.code ({ cls := "com/example/abil/abil/core/Taxed", name := "pretax", desc := "()J" } : Jvm.MethodName) prog_40_method_3_code (1 : Nat) (Option.some Jvm.ClassFile.FieldType.long)).before args0 about1 = true := code_word (m := ⟨2, 2⟩) (meth := k2m2) (c := k2c2) (by decide +kernel) rfl rfl rfl (by decide +kernel)
set_option maxRecDepth 65536 in
theorem w_c7 : (Jvm.Cond.code ({ cls := "com/example/abil/abil/core/Taxed", name := "tax", desc := "()J" } : Jvm.MethodName) prog_40_method_4_code (1 : Nat) (Option.some Jvm.ClassFile.FieldType.long)).before args0 about1 = true := code_word (m := ⟨2, 3⟩) (meth := k2m3) (c := k2c3) (by decide +kernel) rfl rfl rfl (by decide +kernel)
set_option maxRecDepth 65536 in
theorem w_c8 : (Jvm.Cond.code ({ cls := "com/example/abil/abil/core/Taxed", name := "total", desc := "()J" } : Jvm.MethodName) prog_40_method_5_code (1 : Nat) (Option.some Jvm.ClassFile.FieldType.long)).before args0 about1 = true := code_word (m := ⟨2, 4⟩) (meth := k2m4) (c := k2c4) (by decide +kernel) rfl rfl rfl (by decide +kernel)
def codes1 : List Jvm.Cond := [Jvm.Cond.code x code maxLocals ret, Jvm.Cond.code ({ cls := "com/example/abil/abil/core/TaxedPlusPinLaw", name := "ovf", desc := "(JJJ)Z" } : Jvm.MethodName) method_2_code (6 : Nat) (Option.some Jvm.ClassFile.FieldType.boolean), Jvm.Cond.code ({ cls := "com/example/abil/abil/core/Taxed", name := "<init>", desc := "(JJ)V" } : Jvm.MethodName) prog_40_method_1_code (5 : Nat) (Option.none : Option Jvm.ClassFile.FieldType), Jvm.Cond.code ({ cls := "java/lang/Object", name := "<init>", desc := "()V" } : Jvm.MethodName) object_method_1_code (1 : Nat) (Option.none : Option Jvm.ClassFile.FieldType), Jvm.Cond.code ({ cls := "java/lang/Math", name := "addExact", desc := "(JJ)J" } : Jvm.MethodName) jdk_29_method_25_code (6 : Nat) (Option.some Jvm.ClassFile.FieldType.long), Jvm.Cond.code ({ cls := "com/example/abil/abil/core/Taxed", name := "plus", desc := "(Lcom/example/abil/abil/core/Taxed;)Lcom/example/abil/abil/core/Taxed;" } : Jvm.MethodName) prog_40_method_2_code (2 : Nat) (Option.some (Jvm.ClassFile.FieldType.object "com/example/abil/abil/core/Taxed")), Jvm.Cond.code ({ cls := "com/example/abil/abil/core/Taxed", name := "pretax", desc := "()J" } : Jvm.MethodName) prog_40_method_3_code (1 : Nat) (Option.some Jvm.ClassFile.FieldType.long), Jvm.Cond.code ({ cls := "com/example/abil/abil/core/Taxed", name := "tax", desc := "()J" } : Jvm.MethodName) prog_40_method_4_code (1 : Nat) (Option.some Jvm.ClassFile.FieldType.long), Jvm.Cond.code ({ cls := "com/example/abil/abil/core/Taxed", name := "total", desc := "()J" } : Jvm.MethodName) prog_40_method_5_code (1 : Nat) (Option.some Jvm.ClassFile.FieldType.long)]
set_option maxRecDepth 65536 in
theorem codes_eq : words1.filter isCode = codes1 := rfl
theorem w_codes : ∀ c ∈ words1.filter isCode, c.before args0 about1 = true := by
  rw [codes_eq]
  intro c hc
  simp only [codes1, List.mem_cons, List.not_mem_nil, or_false] at hc
  rcases hc with rfl | rfl | rfl | rfl | rfl | rfl | rfl | rfl | rfl
  · exact w_c0
  · exact w_c1
  · exact w_c2
  · exact w_c3
  · exact w_c4
  · exact w_c5
  · exact w_c6
  · exact w_c7
  · exact w_c8
set_option maxRecDepth 65536 in
theorem w_t1 : (words1.take 24).all (fun c => isCode c || c.before args0 about1) = true := by decide +kernel
set_option maxRecDepth 65536 in
theorem w_t2 : (words1.drop 24).all (fun c => isCode c || c.before args0 about1) = true := by decide +kernel
theorem w_tables : (allAtoms (Jvm.Cond.code x code maxLocals ret :: tables_1)).before args0 about1 = true := by
  rw [allAtoms_all]
  show words1.all (fun c => c.before args0 about1) = true
  refine all_split ?_ w_codes
  rw [← List.take_append_drop 24 words1, List.all_append, w_t1, w_t2]
  rfl
set_option maxRecDepth 65536 in
theorem w_case : (Jvm.Cond.and given_1 narrow_1).before args0 about1 = true := by decide +kernel
theorem w_applies : (headSpec (Jvm.Cond.code x code maxLocals ret :: tables_1) room_1).applies x e0.platform about1 = true :=
  (Spec.applies_iff w_frames).mpr ⟨w_running, w_runnable, w_alone, w_named, w_hears, w_ripe, w_room, w_tables⟩
theorem atStart : AtStart classFile x code maxLocals ret World_1 tables_1 room_1 Calls_1 rest_1 Pre_1 launch0 p0 e0 about1 theMethod args0 below0 :=
  ⟨lists_1, trivial, launch0.admits_env _ _ _, launch0.least_env, fairChoices_fair.cas, fairChoices_fair.clock, w_frames, w_args, w_heap, w_applies, trivial, trivial, w_case⟩
end start1
theorem witness_1 : WitnessClaimed_1 := ⟨start1.p0, start1.e0, start1.about1, start1.theMethod, start1.args0, start1.below0, start1.atStart⟩
end Jvm.Pilot.@@N@@
