import JvmDerived
import JvmDerived.Pilot.@@N@@Statement
import JvmDerived.Pilot.@@N@@Code
set_option linter.unusedVariables false
set_option linter.unusedSimpArgs false
@@BLOCK:NumsL.lean.txt@@
namespace Jvm.Pilot.@@N@@
open Jvm Jvm.ClassFile Sem Op Lib Jvm.Free Jvm.Stand Jvm.LawKit Jvm.RoadKit Bundle Jvm.Pilot.@@N@@.Jvm.D
open Jvm.Free.Fl
/-! the goal of a walk, carried forward -/
def Goes (p : Program) (e : Env) (below : List Frame) (P : Outcome → State → Prop) (A : State) : Prop :=
  ∃ s₂ o, Steps p.tables e below A s₂ ∧ s₂.status = .running ∧ Ended s₂ below o ∧ P o s₂
theorem Goes.on {p : Program} {e : Env} {below : List Frame} {P : Outcome → State → Prop} {A B : State} (k : ∀ t, Steps p.tables e below B t → Steps p.tables e below A t) (h : Goes p e below P B) : Goes p e below P A := by
  obtain ⟨s₂, o, h1, h2⟩ := h
  exact ⟨s₂, o, k _ h1, h2⟩
theorem Goes.via {p : Program} {e : Env} {below : List Frame} {P : Outcome → State → Prop} {A B : State} (k : Goes p e below P B → Goes p e below P A) (h : Goes p e below P B) : Goes p e below P A := k h
theorem Goes.viaT {p : Program} {e : Env} {below : List Frame} {P : Outcome → State → Prop} {A : State} {Φ : State → Prop} {F : JFrame} (k : (∀ T, Φ T → Goes p e below P (T.setTop F)) → Goes p e below P A) (h : ∀ T, Φ T → Goes p e below P (T.setTop F)) : Goes p e below P A := k h
theorem Goes.leaf {p : Program} {e : Env} {below : List Frame} {P : Outcome → State → Prop} {A t : State} {o : Outcome} (h1 : Steps p.tables e below A t) (h2 : t.status = .running) (h3 : Ended t below o) (h4 : P o t) : Goes p e below P A := ⟨t, o, h1, h2, h3, h4⟩
theorem own_retI {p : Program} {l : Launch} {e : Env} {R : Room} {s : State} {m : MethodId} {args : Array Value} {below : List Frame} {meth : Method} {c : Code} {T : State} {locs : List Loc} {cells slots : Nat} (X : Stand p l e R s m args below meth c T locs cells slots) (hx : p.tables.exec = Jvm.exec) {pc : Nat} {Ls : Array Slot} {z : Int32} {rest : List Value} (hret : meth.sig.returnType = some .int) (hd : decode c.code pc = .ok (.ireturn, 1)) {fs : List Frame}
    (hl : ∀ (f : JFrame) (acts : List Action), f.method = m → f.locked = none → f.entered = [] → (doReturn e (T.setTop f) acts (some (.int z))).1 = T.setFrames fs) : Steps p.tables e below (T.setTop (mkF m pc Ls (.int z :: rest))) (T.setFrames fs) :=
  retOut X hx hret rfl (Or.inl ⟨rfl, Or.inl rfl, z, rfl⟩) hd hl
theorem own_retJ {p : Program} {l : Launch} {e : Env} {R : Room} {s : State} {m : MethodId} {args : Array Value} {below : List Frame} {meth : Method} {c : Code} {T : State} {locs : List Loc} {cells slots : Nat} (X : Stand p l e R s m args below meth c T locs cells slots) (hx : p.tables.exec = Jvm.exec) {pc : Nat} {Ls : Array Slot} {z : Int64} {rest : List Value} (hret : meth.sig.returnType = some .long) (hd : decode c.code pc = .ok (.lreturn, 1)) {fs : List Frame}
    (hl : ∀ (f : JFrame) (acts : List Action), f.method = m → f.locked = none → f.entered = [] → (doReturn e (T.setTop f) acts (some (.long z))).1 = T.setFrames fs) : Steps p.tables e below (T.setTop (mkF m pc Ls (.long z :: rest))) (T.setFrames fs) :=
  retOut X hx hret rfl (Or.inr (Or.inl ⟨rfl, rfl, z, rfl⟩)) hd hl
theorem own_retR {p : Program} {l : Launch} {e : Env} {R : Room} {s : State} {m : MethodId} {args : Array Value} {below : List Frame} {meth : Method} {c : Code} {T : State} {locs : List Loc} {cells slots : Nat} (X : Stand p l e R s m args below meth c T locs cells slots) (hx : p.tables.exec = Jvm.exec) {pc : Nat} {Ls : Array Slot} {z : Addr} {t : FieldType} {rest : List Value} (hret : meth.sig.returnType = some t) (ht : t.isReference = true) (hn : narrow t (.ref z) = .ref z) (hd : decode c.code pc = .ok (.areturn, 1)) {fs : List Frame}
    (hl : ∀ (f : JFrame) (acts : List Action), f.method = m → f.locked = none → f.entered = [] → (doReturn e (T.setTop f) acts (some (.ref z))).1 = T.setFrames fs) : Steps p.tables e below (T.setTop (mkF m pc Ls (.ref z :: rest))) (T.setFrames fs) :=
  retOut X hx hret hn (Or.inr (Or.inr (Or.inr (Or.inr ⟨rfl, ht, rfl⟩)))) hd hl
theorem own_retD {p : Program} {l : Launch} {e : Env} {R : Room} {s : State} {m : MethodId} {args : Array Value} {below : List Frame} {meth : Method} {c : Code} {T : State} {locs : List Loc} {cells slots : Nat} (X : Stand p l e R s m args below meth c T locs cells slots) (hx : p.tables.exec = Jvm.exec) {pc : Nat} {Ls : Array Slot} {z : UInt64} {rest : List Value} (hret : meth.sig.returnType = some .double) (hd : decode c.code pc = .ok (.dreturn, 1)) {fs : List Frame}
    (hl : ∀ (f : JFrame) (acts : List Action), f.method = m → f.locked = none → f.entered = [] → (doReturn e (T.setTop f) acts (some (.double z))).1 = T.setFrames fs) : Steps p.tables e below (T.setTop (mkF m pc Ls (.double z :: rest))) (T.setFrames fs) :=
  retOut X hx hret rfl (Or.inr (Or.inr (Or.inl ⟨rfl, rfl, z, rfl⟩))) hd hl
theorem d1_0 : decode jdk_72_method_26_code 0 = .ok (.getstatic 81, 3) := by decide +kernel
theorem d1_3 : decode jdk_72_method_26_code 3 = .ok (.areturn, 1) := by decide +kernel
theorem pn_1 : plainName "java/util/Map" = true := by first | (simp [plainName, overriddenIn]; done) | decide +kernel
theorem ef_of (m : MethodId)  : entryFrame m #[] 0 = mkF m 0 #[] [] := by first | (simp [entryFrame, mkF, argsToLocals, Value.category]; done) | rfl
def Qof (Z : State)  (q : Addr) (h0 : Heap) (n0 : Nat) (v : Option Value) (h : Heap) (L : List Loc) : Prop := v = some (.ref q) ∧ Fr n0 L ∧ h = h0
set_option maxRecDepth 65536 in
set_option maxHeartbeats 40000000 in
theorem rmof (l : Launch) (Z : State) (a0 : Array Value) (hw : ∀ d ∈ tables_1, d.before a0 Z = true) (ws : List Jvm.Cond)  (q : Addr) (h0 : Heap) (n0 : Nat) (Z0 : n0 ≤ h0.size) (S : Sta Z h0 "java/util/ImmutableCollections" "EMPTY_MAP" "Ljava/util/ImmutableCollections$MapN;" (.ref q)) :
    MetFree l (⟨"java/util/Map", "of", "()Ljava/util/Map;"⟩ : MethodName) (head1 (Jvm.Cond.code (⟨"java/util/Map", "of", "()Ljava/util/Map;"⟩ : MethodName) jdk_72_method_26_code 0 (some (.object "java/util/Map")) :: ws) ({ frames := 0, cells := 0, slots := 0, locals := 0 } : Room)) (fun aa U => aa = #[] ∧ Z.Warmed39 U.vm ∧ U.heap = h0) (fun _ _ _ _ _ => True) (fun _ U oo U' => ∃ vv LL, oo = .returned vv ∧ Qof Z q h0 n0 vv U'.heap LL ∧ FrameEnd U oo U' LL ({ frames := 0, cells := 0, slots := 0, locals := 0 } : Room).cells ({ frames := 0, cells := 0, slots := 0, locals := 0 } : Room).slots) := by
  refine MetFree.of_bodySF (plainFor_of_name pn_1) hisR ?_
  intro p e s m args below meth c s₁ Bd hml0 hP hK
  obtain ⟨rfl, hZ, hh⟩ := hP
  have hx := Bd.exec
  have hby := Bd.bytes
  have hml : c.maxLocals = 0 := hml0
  have hown : s.vm.findClass "java/util/Map" = some m.cls := findClass_of_methodNamed Bd.named
  have hnm := (name_of_methodNamed Bd.named Bd.method).1
  have X0 : Stand p l e ({ frames := 0, cells := 0, slots := 0, locals := 0 } : Room) s m #[] below meth c s₁ [] 0 0 := Stand.of_body Bd
  have e0 : s₁.heap = h0 := by rw [← hh, Bd.state]; rfl
  have N0 := Fr.nil n0
  show Goes p e below _ (s₁.setTop (entryFrame m #[] 0))
  refine Goes.on (B := s₁.setTop (mkF m 0 #[] [])) (fun t k => castTop (ef_of m ) k) ?_
  obtain ⟨T1, X1, e1, st1⟩ := getS2 X0 hx hZ hown (host := "") (Or.inl (hw _ (List.mem_of_getElem? (i := 8) rfl))) Via.refl e0 S (g := (mkF m 0 #[] [])) rfl (hb hby d1_0)
  refine Goes.on (B := T1.setTop (mkF m 3 #[] [(.ref q)])) (fun t k => st1 t k) ?_
  obtain ⟨fs, hr, hrun, hended, hW, hsame⟩ := X1.leave (v := some (.ref q)) (fun h => by rw [Bd.returns] at h; cases h)
  exact Goes.leaf (own_retR X1 hx Bd.returns rfl rfl (hb hby d1_3) hr) hrun hended ⟨_, _, rfl, by show Qof Z q h0 n0 _ T1.heap _; rw [e1]; exact ⟨rfl, N0, rfl⟩, ⟨_, rfl⟩, hW, hsame.mono (by decide) (by decide)⟩
theorem d8_0 : decode jdk_72_method_39_code 0 = .ok (.aload_n 0, 1) := by decide +kernel
theorem d8_1 : decode jdk_72_method_39_code 1 = .ok (.instanceof 101, 3) := by decide +kernel
theorem d8_4 : decode jdk_72_method_39_code 4 = .ok (.ifCond .eq 5, 3) := by decide +kernel
theorem d8_7 : decode jdk_72_method_39_code 7 = .ok (.aload_n 0, 1) := by decide +kernel
theorem d8_8 : decode jdk_72_method_39_code 8 = .ok (.areturn, 1) := by decide +kernel
theorem pn_8 : plainName "java/util/Map" = true := by first | (simp [plainName, overriddenIn]; done) | decide +kernel
theorem ef_cp (m : MethodId) (x0 : Addr) : entryFrame m #[(.ref x0)] 1 = mkF m 0 #[.val (.ref x0)] [] := by first | (simp [entryFrame, mkF, argsToLocals, Value.category]; done) | rfl
def Qcp (Z : State) (a : Addr)  (h0 : Heap) (n0 : Nat) (v : Option Value) (h : Heap) (L : List Loc) : Prop := v = some (.ref a) ∧ Fr n0 L ∧ h = h0
set_option maxRecDepth 65536 in
set_option maxHeartbeats 40000000 in
theorem rmcp (l : Launch) (Z : State) (a0 : Array Value) (hw : ∀ d ∈ tables_1, d.before a0 Z = true) (ws : List Jvm.Cond) (a : Addr)  (h0 : Heap) (n0 : Nat) (Z0 : n0 ≤ h0.size) (E : Exa Z h0 a "java/util/ImmutableCollections$MapN") :
    MetFree l (⟨"java/util/Map", "copyOf", "(Ljava/util/Map;)Ljava/util/Map;"⟩ : MethodName) (head1 (Jvm.Cond.code (⟨"java/util/Map", "copyOf", "(Ljava/util/Map;)Ljava/util/Map;"⟩ : MethodName) jdk_72_method_39_code 1 (some (.object "java/util/Map")) :: ws) ({ frames := 0, cells := 0, slots := 0, locals := 0 } : Room)) (fun aa U => aa = #[(.ref a)] ∧ Z.Warmed39 U.vm ∧ U.heap = h0) (fun _ _ _ _ _ => True) (fun _ U oo U' => ∃ vv LL, oo = .returned vv ∧ Qcp Z a h0 n0 vv U'.heap LL ∧ FrameEnd U oo U' LL ({ frames := 0, cells := 0, slots := 0, locals := 0 } : Room).cells ({ frames := 0, cells := 0, slots := 0, locals := 0 } : Room).slots) := by
  refine MetFree.of_bodySF (plainFor_of_name pn_8) hisR ?_
  intro p e s m args below meth c s₁ Bd hml0 hP hK
  obtain ⟨rfl, hZ, hh⟩ := hP
  have hx := Bd.exec
  have hby := Bd.bytes
  have hml : c.maxLocals = 1 := hml0
  have hown : s.vm.findClass "java/util/Map" = some m.cls := findClass_of_methodNamed Bd.named
  have hnm := (name_of_methodNamed Bd.named Bd.method).1
  have X0 : Stand p l e ({ frames := 0, cells := 0, slots := 0, locals := 0 } : Room) s m #[(.ref a)] below meth c s₁ [] 0 0 := Stand.of_body Bd
  have e0 : s₁.heap = h0 := by rw [← hh, Bd.state]; rfl
  have N0 := Fr.nil n0
  show Goes p e below _ (s₁.setTop (entryFrame m #[(.ref a)] 1))
  refine Goes.on (B := s₁.setTop (mkF m 0 #[.val (.ref a)] [])) (fun t k => castTop (ef_cp m a) k) ?_
  refine Goes.on (B := s₁.setTop (mkF m 1 #[.val (.ref a)] [(.ref a)])) (fun _ k => XS.aloadN X0.here hx rfl (hb hby d8_0) rfl rfl  k) ?_
  obtain ⟨T1, X1, e1, st1⟩ := instY X0 hx hZ hown (hw _ (List.mem_of_getElem? (i := 46) rfl)) e0 (Ins.of_exa E (hw _ (List.mem_of_getElem? (i := 47) rfl))) (g := (mkF m 1 #[.val (.ref a)] [(.ref a)])) rfl rfl (hb hby d8_1)
  refine Goes.on (B := T1.setTop (mkF m 4 #[.val (.ref a)] [(.int (1 : Int32))])) (fun t k => st1 t k) ?_
  refine Goes.on (B := T1.setTop (mkF m 7 #[.val (.ref a)] [])) (fun _ k => XS.ifNo X1.here hx rfl (hb hby d8_4) rfl ((if0 _ _).trans (feq (by decide)).1) k) ?_
  refine Goes.on (B := T1.setTop (mkF m 8 #[.val (.ref a)] [(.ref a)])) (fun _ k => XS.aloadN X1.here hx rfl (hb hby d8_7) rfl rfl  k) ?_
  obtain ⟨fs, hr, hrun, hended, hW, hsame⟩ := X1.leave (v := some (.ref a)) (fun h => by rw [Bd.returns] at h; cases h)
  exact Goes.leaf (own_retR X1 hx Bd.returns rfl rfl (hb hby d8_8) hr) hrun hended ⟨_, _, rfl, by show Qcp Z a h0 n0 _ T1.heap _; rw [e1]; exact ⟨rfl, N0, rfl⟩, ⟨_, rfl⟩, hW, hsame.mono (by decide) (by decide)⟩
theorem d3_0 : decode jdk_30_method_1_code 0 = .ok (.aload_n 0, 1) := by decide +kernel
theorem d3_1 : decode jdk_30_method_1_code 1 = .ok (.invokespecial 1, 3) := by decide +kernel
theorem d3_4 : decode jdk_30_method_1_code 4 = .ok (.return_, 1) := by decide +kernel
theorem pn_3 : plainName "java/lang/Record" = true := by first | (simp [plainName, overriddenIn]; done) | decide +kernel
theorem ef_ri (m : MethodId) (x0 : Addr) : entryFrame m #[(.ref x0)] 1 = mkF m 0 #[.val (.ref x0)] [] := by first | (simp [entryFrame, mkF, argsToLocals, Value.category]; done) | rfl
def Qri (Z : State) (a : Addr)  (h0 : Heap) (n0 : Nat) (v : Option Value) (h : Heap) (L : List Loc) : Prop := v = none ∧ Fr n0 L ∧ h = h0
set_option maxRecDepth 65536 in
set_option maxHeartbeats 40000000 in
theorem rmri (l : Launch) (Z : State) (a0 : Array Value) (hw : ∀ d ∈ tables_1, d.before a0 Z = true) (ws : List Jvm.Cond) (a : Addr)  (h0 : Heap) (n0 : Nat) (Z0 : n0 ≤ h0.size)  :
    MetFree l (⟨"java/lang/Record", "<init>", "()V"⟩ : MethodName) (head1 (Jvm.Cond.code (⟨"java/lang/Record", "<init>", "()V"⟩ : MethodName) jdk_30_method_1_code 1 none :: ws) ({ frames := 1, cells := 0, slots := 0, locals := 12 } : Room)) (fun aa U => aa = #[(.ref a)] ∧ Z.Warmed39 U.vm ∧ U.heap = h0) (fun _ _ _ _ _ => True) (fun _ U oo U' => ∃ vv LL, oo = .returned vv ∧ Qri Z a h0 n0 vv U'.heap LL ∧ FrameEnd U oo U' LL ({ frames := 1, cells := 0, slots := 0, locals := 12 } : Room).cells ({ frames := 1, cells := 0, slots := 0, locals := 12 } : Room).slots) := by
  refine MetFree.of_bodySF (plainFor_of_name pn_3) hisR ?_
  intro p e s m args below meth c s₁ Bd hml0 hP hK
  obtain ⟨rfl, hZ, hh⟩ := hP
  have hx := Bd.exec
  have hby := Bd.bytes
  have hml : c.maxLocals = 1 := hml0
  have hown : s.vm.findClass "java/lang/Record" = some m.cls := findClass_of_methodNamed Bd.named
  have hnm := (name_of_methodNamed Bd.named Bd.method).1
  have X0 : Stand p l e ({ frames := 1, cells := 0, slots := 0, locals := 12 } : Room) s m #[(.ref a)] below meth c s₁ [] 0 0 := Stand.of_body Bd
  have e0 : s₁.heap = h0 := by rw [← hh, Bd.state]; rfl
  have N0 := Fr.nil n0
  show Goes p e below _ (s₁.setTop (entryFrame m #[(.ref a)] 1))
  refine Goes.on (B := s₁.setTop (mkF m 0 #[.val (.ref a)] [])) (fun t k => castTop (ef_ri m a) k) ?_
  refine Goes.on (B := s₁.setTop (mkF m 1 #[.val (.ref a)] [(.ref a)])) (fun _ k => XS.aloadN X0.here hx rfl (hb hby d3_0) rfl rfl  k) ?_
  obtain ⟨T1, X1, e1, st1⟩ := initO X0 hx hZ hown (hw _ (List.mem_of_getElem? (i := 18) rfl)) (hw _ (List.mem_of_getElem? (i := 19) rfl)) (hw _ (List.mem_of_getElem? (i := 20) rfl)) e0 (g := (mkF m 1 #[.val (.ref a)] [(.ref a)])) rfl (by rw [hml]; rfl) rfl (hb hby d3_1) (by decide) (W := 0) (by show 2 * 0 + _ ≤ _; exact Nat.le_of_eq rfl) (by decide)
  refine Goes.on (B := T1.setTop (mkF m 4 #[.val (.ref a)] [])) (fun t k => st1 t k) ?_
  obtain ⟨fs, hr, hrun, hended, hW, hsame⟩ := X1.leave (v := none) (fun _ => rfl)
  exact Goes.leaf (X1.returnOut hx Bd.returns (hb hby d3_4) hr) hrun hended ⟨_, _, rfl, by show Qri Z a h0 n0 _ T1.heap _; rw [e1]; exact ⟨rfl, N0, rfl⟩, ⟨_, rfl⟩, hW, hsame.mono (by decide) (by decide)⟩
theorem d5_0 : decode prog_60_method_2_code 0 = .ok (.dload_n 1, 1) := by decide +kernel
theorem d5_1 : decode prog_60_method_2_code 1 = .ok (.dconst 0, 1) := by decide +kernel
theorem d5_2 : decode prog_60_method_2_code 2 = .ok (.dcmp .g, 1) := by decide +kernel
theorem d5_3 : decode prog_60_method_2_code 3 = .ok (.ifCond .lt 10, 3) := by decide +kernel
theorem d5_6 : decode prog_60_method_2_code 6 = .ok (.dload_n 1, 1) := by decide +kernel
theorem d5_7 : decode prog_60_method_2_code 7 = .ok (.invokestatic 7, 3) := by decide +kernel
theorem d5_10 : decode prog_60_method_2_code 10 = .ok (.ifCond .ne 21, 3) := by decide +kernel
theorem d5_31 : decode prog_60_method_2_code 31 = .ok (.return_, 1) := by decide +kernel
theorem pn_5 : plainName "com/example/roadeq/roadeq/cost/Ranges" = true := by first | (simp [plainName, overriddenIn]; done) | decide +kernel
theorem pd_5__D_Z : parseMethodDescriptor "(D)Z" = some ⟨[.double], some .boolean⟩ := by decide +kernel
theorem ef_rf (m : MethodId) (x0 : Addr) (x1 : UInt64) : entryFrame m #[(.ref x0), (.double x1)] 3 = mkF m 0 #[.val (.ref x0), .val (.double x1), .second] [] := by first | (simp [entryFrame, mkF, argsToLocals, Value.category]; done) | rfl
def Qrf (Z : State) (a : Addr) (g1 : UInt64)  (h0 : Heap) (n0 : Nat) (v : Option Value) (h : Heap) (L : List Loc) : Prop := v = none ∧ Fr n0 L ∧ h = h0
set_option maxRecDepth 65536 in
set_option maxHeartbeats 40000000 in
theorem rmrf (l : Launch) (Z : State) (a0 : Array Value) (hw : ∀ d ∈ tables_1, d.before a0 Z = true) (ws : List Jvm.Cond) (a : Addr) (g1 : UInt64)  (h0 : Heap) (n0 : Nat) (Z0 : n0 ≤ h0.size) (f1 : Fin64 g1) (c1 : ¬ (cmpValue (FP.dcmp g1 FP.dconst0) .g) < (0 : Int32)) :
    MetFree l (⟨"com/example/roadeq/roadeq/cost/Ranges", "requireFiniteAtLeastZero", "(Ljava/lang/String;D)V"⟩ : MethodName) (head1 (Jvm.Cond.code (⟨"com/example/roadeq/roadeq/cost/Ranges", "requireFiniteAtLeastZero", "(Ljava/lang/String;D)V"⟩ : MethodName) prog_60_method_2_code 3 none :: ws) ({ frames := 2, cells := 0, slots := 0, locals := 26 } : Room)) (fun aa U => aa = #[(.ref a), (.double g1)] ∧ Z.Warmed39 U.vm ∧ U.heap = h0) (fun _ _ _ _ _ => True) (fun _ U oo U' => ∃ vv LL, oo = .returned vv ∧ Qrf Z a g1 h0 n0 vv U'.heap LL ∧ FrameEnd U oo U' LL ({ frames := 2, cells := 0, slots := 0, locals := 26 } : Room).cells ({ frames := 2, cells := 0, slots := 0, locals := 26 } : Room).slots) := by
  refine MetFree.of_bodySF (plainFor_of_name pn_5) hisR ?_
  intro p e s m args below meth c s₁ Bd hml0 hP hK
  obtain ⟨rfl, hZ, hh⟩ := hP
  have hx := Bd.exec
  have hby := Bd.bytes
  have hml : c.maxLocals = 3 := hml0
  have hown : s.vm.findClass "com/example/roadeq/roadeq/cost/Ranges" = some m.cls := findClass_of_methodNamed Bd.named
  have hnm := (name_of_methodNamed Bd.named Bd.method).1
  have X0 : Stand p l e ({ frames := 2, cells := 0, slots := 0, locals := 26 } : Room) s m #[(.ref a), (.double g1)] below meth c s₁ [] 0 0 := Stand.of_body Bd
  have e0 : s₁.heap = h0 := by rw [← hh, Bd.state]; rfl
  have N0 := Fr.nil n0
  show Goes p e below _ (s₁.setTop (entryFrame m #[(.ref a), (.double g1)] 3))
  refine Goes.on (B := s₁.setTop (mkF m 0 #[.val (.ref a), .val (.double g1), .second] [])) (fun t k => castTop (ef_rf m a g1) k) ?_
  refine Goes.on (B := s₁.setTop (mkF m 1 #[.val (.ref a), .val (.double g1), .second] [(.double g1)])) (fun _ k => XS.dloadN X0.here hx rfl (hb hby d5_0) rfl  k) ?_
  refine Goes.on (B := s₁.setTop (mkF m 2 #[.val (.ref a), .val (.double g1), .second] [(.double FP.dconst0), (.double g1)])) (fun _ k => XS.dconst0 X0.here hx rfl (hb hby d5_1) rfl k) ?_
  refine Goes.on (B := s₁.setTop (mkF m 3 #[.val (.ref a), .val (.double g1), .second] [(.int (cmpValue (FP.dcmp g1 FP.dconst0) .g))])) (fun _ k => XS.dcmpS X0.here hx rfl (hb hby d5_2) rfl rfl k) ?_
  refine Goes.on (B := s₁.setTop (mkF m 6 #[.val (.ref a), .val (.double g1), .second] [])) (fun _ k => XS.ifNo X0.here hx rfl (hb hby d5_3) rfl ((if0 _ _).trans (flt c1).1) k) ?_
  refine Goes.on (B := s₁.setTop (mkF m 7 #[.val (.ref a), .val (.double g1), .second] [(.double g1)])) (fun _ k => XS.dloadN X0.here hx rfl (hb hby d5_6) rfl  k) ?_
  have htab1 : IsFinite.tab.before #[(.ref a), (.double g1)] s = true := (by simp only [IsFinite.tab, Cond.before_and, Bool.and_eq_true]; exact ⟨mvT hZ (hw _ (List.mem_of_getElem? (i := 36) rfl)), mvT hZ (hw _ (List.mem_of_getElem? (i := 37) rfl)), mvT hZ (hw _ (List.mem_of_getElem? (i := 38) rfl)), mvT hZ (hw _ (List.mem_of_getElem? (i := 39) rfl)), mvT hZ (hw _ (List.mem_of_getElem? (i := 40) rfl)), mvT hZ (hw _ (List.mem_of_getElem? (i := 41) rfl))⟩)
  obtain ⟨v1, _, ⟨T1, L1, k1, n1⟩, -, X1, ⟨⟨eh1, l1, y1, z1⟩, hv1⟩, st1⟩ := Jvm.LawKit.callS X0 hx (y := (⟨"java/lang/Double", "isFinite", "(D)Z"⟩ : MethodName)) hown (mvT hZ (hw _ (List.mem_of_getElem? (i := 33) rfl))) (mvT hZ (hw _ (List.mem_of_getElem? (i := 34) rfl))) (mvT hZ (hw _ (List.mem_of_getElem? (i := 35) rfl))) (mvT hZ (hw _ (List.mem_of_getElem? (i := 36) rfl))) (by decide) (IsFinite.pays (W := 0) (by decide) (by decide) htab1 (mvT hZ (hw _ (List.mem_of_getElem? (i := 35) rfl)))) (g := (mkF m 7 #[.val (.ref a), .val (.double g1), .second] [(.double g1)])) rfl (by rw [hml]; rfl) (argsL := [(.double g1)]) (rest := []) (lenOf pd_5__D_Z rfl) rfl (by show 2 * 0 + _ ≤ _; exact Nat.le_of_eq rfl) (hb hby d5_7) (fun _ _ => ⟨Nat.zero_le _, Nat.zero_le _, g1, rfl, f1.noNaN⟩)
  dsimp only [Pt.U, Pt.locs, Pt.cells, Pt.slots] at X1 eh1 l1 y1 z1 st1 hv1
  subst l1 y1 z1
  have hv1 : v1 = some (.int (1 : Int32)) := (hv1 g1 ⟨rfl, f1.noNaN⟩).trans (by rw [if_pos ((le_max_iff f1.noNaN).mpr f1)])
  subst hv1
  have e1 : T1.heap = h0 := eh1.trans e0
  refine Goes.on (B := T1.setTop (mkF m 10 #[.val (.ref a), .val (.double g1), .second] [(.int (1 : Int32))])) (fun t k => st1 t k) ?_
  refine Goes.on (B := T1.setTop (mkF m 31 #[.val (.ref a), .val (.double g1), .second] [])) (fun _ k => XS.ifYes X1.here hx rfl (pc0 := 10) (pc' := 31) rfl (hb hby d5_10) rfl ((if0 _ _).trans (feq (by decide)).2) (by decide) (by decide) k) ?_
  obtain ⟨fs, hr, hrun, hended, hW, hsame⟩ := X1.leave (v := none) (fun _ => rfl)
  exact Goes.leaf (X1.returnOut hx Bd.returns (hb hby d5_31) hr) hrun hended ⟨_, _, rfl, by show Qrf Z a g1 h0 n0 _ T1.heap _; rw [e1]; exact ⟨rfl, N0, rfl⟩, ⟨_, rfl⟩, hW, hsame.mono (by decide) (by decide)⟩
theorem d2_0 : decode prog_53_method_1_code 0 = .ok (.aload_n 0, 1) := by decide +kernel
theorem d2_1 : decode prog_53_method_1_code 1 = .ok (.invokespecial 1, 3) := by decide +kernel
theorem d2_4 : decode prog_53_method_1_code 4 = .ok (.ldc 7, 2) := by decide +kernel
theorem d2_6 : decode prog_53_method_1_code 6 = .ok (.dload_n 1, 1) := by decide +kernel
theorem d2_7 : decode prog_53_method_1_code 7 = .ok (.invokestatic 9, 3) := by decide +kernel
theorem d2_10 : decode prog_53_method_1_code 10 = .ok (.ldc 15, 2) := by decide +kernel
theorem d2_12 : decode prog_53_method_1_code 12 = .ok (.dload_n 3, 1) := by decide +kernel
theorem d2_13 : decode prog_53_method_1_code 13 = .ok (.invokestatic 9, 3) := by decide +kernel
theorem d2_16 : decode prog_53_method_1_code 16 = .ok (.aload 5, 2) := by decide +kernel
theorem d2_18 : decode prog_53_method_1_code 18 = .ok (.invokestatic 17, 3) := by decide +kernel
theorem d2_21 : decode prog_53_method_1_code 21 = .ok (.astore 5, 2) := by decide +kernel
theorem d2_23 : decode prog_53_method_1_code 23 = .ok (.aload_n 0, 1) := by decide +kernel
theorem d2_24 : decode prog_53_method_1_code 24 = .ok (.dload_n 1, 1) := by decide +kernel
theorem d2_25 : decode prog_53_method_1_code 25 = .ok (.putfield 23, 3) := by decide +kernel
theorem d2_28 : decode prog_53_method_1_code 28 = .ok (.aload_n 0, 1) := by decide +kernel
theorem d2_29 : decode prog_53_method_1_code 29 = .ok (.dload_n 3, 1) := by decide +kernel
theorem d2_30 : decode prog_53_method_1_code 30 = .ok (.putfield 29, 3) := by decide +kernel
theorem d2_33 : decode prog_53_method_1_code 33 = .ok (.aload_n 0, 1) := by decide +kernel
theorem d2_34 : decode prog_53_method_1_code 34 = .ok (.aload 5, 2) := by decide +kernel
theorem d2_36 : decode prog_53_method_1_code 36 = .ok (.putfield 32, 3) := by decide +kernel
theorem d2_39 : decode prog_53_method_1_code 39 = .ok (.return_, 1) := by decide +kernel
theorem pn_2 : plainName "com/example/roadeq/roadeq/cost/CostModel" = true := by first | (simp [plainName, overriddenIn]; done) | decide +kernel
theorem pd_2___V : parseMethodDescriptor "()V" = some ⟨[], none⟩ := by decide +kernel
theorem pd_2__Ljava_lang_String_D_V : parseMethodDescriptor "(Ljava/lang/String;D)V" = some ⟨[(.object "java/lang/String"), .double], none⟩ := by decide +kernel
theorem pd_2__Ljava_util_Map__Ljava_util_Map_ : parseMethodDescriptor "(Ljava/util/Map;)Ljava/util/Map;" = some ⟨[(.object "java/util/Map")], some (.object "java/util/Map")⟩ := by decide +kernel
theorem ef_ci (m : MethodId) (x0 : Addr) (x1 : UInt64) (x2 : UInt64) (x3 : Addr) : entryFrame m #[(.ref x0), (.double x1), (.double x2), (.ref x3)] 6 = mkF m 0 #[.val (.ref x0), .val (.double x1), .second, .val (.double x2), .second, .val (.ref x3)] [] := by first | (simp [entryFrame, mkF, argsToLocals, Value.category]; done) | rfl
def Qci (Z : State) (a : Addr) (g1 : UInt64) (g2 : UInt64) (mp : Addr)  (h0 : Heap) (n0 : Nat) (v : Option Value) (h : Heap) (L : List Loc) : Prop := v = none ∧ Fr n0 L ∧ Keep h0 h [a] ∧ Exa Z h a "com/example/roadeq/roadeq/cost/CostModel" ∧ Fld Z h a "com/example/roadeq/roadeq/cost/CostModel" "tollFactor" "D" (.double g1) ∧ Fld Z h a "com/example/roadeq/roadeq/cost/CostModel" "distanceFactor" "D" (.double g2)
set_option maxRecDepth 65536 in
set_option maxHeartbeats 40000000 in
theorem rmci (l : Launch) (Z : State) (a0 : Array Value) (hw : ∀ d ∈ tables_1, d.before a0 Z = true) (ws : List Jvm.Cond) (a : Addr) (g1 : UInt64) (g2 : UInt64) (mp : Addr)  (h0 : Heap) (n0 : Nat) (Z0 : n0 ≤ h0.size) (ga : n0 ≤ a) (E : Exa Z h0 a "com/example/roadeq/roadeq/cost/CostModel") (F1 : Fld Z h0 a "com/example/roadeq/roadeq/cost/CostModel" "tollFactor" "D" (.double 0)) (F2 : Fld Z h0 a "com/example/roadeq/roadeq/cost/CostModel" "distanceFactor" "D" (.double 0)) (F3 : Fld Z h0 a "com/example/roadeq/roadeq/cost/CostModel" "delayFunctions" "Ljava/util/Map;" .null) (EM : Exa Z h0 mp "java/util/ImmutableCollections$MapN") (f1 : Fin64 g1) (c1 : ¬ (cmpValue (FP.dcmp g1 FP.dconst0) .g) < (0 : Int32)) (f2 : Fin64 g2) (c2 : ¬ (cmpValue (FP.dcmp g2 FP.dconst0) .g) < (0 : Int32)) :
    MetFree l (⟨"com/example/roadeq/roadeq/cost/CostModel", "<init>", "(DDLjava/util/Map;)V"⟩ : MethodName) (head1 (Jvm.Cond.code (⟨"com/example/roadeq/roadeq/cost/CostModel", "<init>", "(DDLjava/util/Map;)V"⟩ : MethodName) prog_53_method_1_code 6 none :: ws) ({ frames := 3, cells := 4, slots := 112, locals := 40 } : Room)) (fun aa U => aa = #[(.ref a), (.double g1), (.double g2), (.ref mp)] ∧ Z.Warmed39 U.vm ∧ U.heap = h0) (fun _ _ _ _ _ => True) (fun _ U oo U' => ∃ vv LL, oo = .returned vv ∧ Qci Z a g1 g2 mp h0 n0 vv U'.heap LL ∧ ReturnedEndW U oo U' LL ({ frames := 3, cells := 4, slots := 112, locals := 40 } : Room).cells ({ frames := 3, cells := 4, slots := 112, locals := 40 } : Room).slots) := by
  refine MetFree.of_bodySF (plainFor_of_name pn_2) hisR ?_
  intro p e s m args below meth c s₁ Bd hml0 hP hK
  obtain ⟨rfl, hZ, hh⟩ := hP
  have hx := Bd.exec
  have hby := Bd.bytes
  have hml : c.maxLocals = 6 := hml0
  have hown : s.vm.findClass "com/example/roadeq/roadeq/cost/CostModel" = some m.cls := findClass_of_methodNamed Bd.named
  have hnm := (name_of_methodNamed Bd.named Bd.method).1
  have X0 : Stand p l e ({ frames := 3, cells := 4, slots := 112, locals := 40 } : Room) s m #[(.ref a), (.double g1), (.double g2), (.ref mp)] below meth c s₁ [] 0 0 := Stand.of_body Bd
  have e0 : s₁.heap = h0 := by rw [← hh, Bd.state]; rfl
  have N0 := Fr.nil n0
  show Goes p e below _ (s₁.setTop (entryFrame m #[(.ref a), (.double g1), (.double g2), (.ref mp)] 6))
  refine Goes.on (B := s₁.setTop (mkF m 0 #[.val (.ref a), .val (.double g1), .second, .val (.double g2), .second, .val (.ref mp)] [])) (fun t k => castTop (ef_ci m a g1 g2 mp) k) ?_
  refine Goes.on (B := s₁.setTop (mkF m 1 #[.val (.ref a), .val (.double g1), .second, .val (.double g2), .second, .val (.ref mp)] [(.ref a)])) (fun _ k => XS.aloadN X0.here hx rfl (hb hby d2_0) rfl rfl  k) ?_
  obtain ⟨_, _, ⟨T1, L1, k1, n1⟩, -, X1, ⟨Lc1, hQ1, l1, y1, z1⟩, st1⟩ := X0.specialBack hx (y := (⟨"java/lang/Record", "<init>", "()V"⟩ : MethodName)) rfl hown (mvT hZ (hw _ (List.mem_of_getElem? (i := 13) rfl))) (mvT hZ (hw _ (List.mem_of_getElem? (i := 14) rfl))) (mvT hZ (hw _ (List.mem_of_getElem? (i := 17) rfl))) (by decide) (backOf (W := 0) (rmri l Z a0 hw [] a h0 n0 Z0) hZ (hw _ (List.mem_of_getElem? (i := 17) rfl)) (hw _ (List.mem_of_getElem? (i := 16) rfl)) (by decide) (by decide)) (g := (mkF m 1 #[.val (.ref a), .val (.double g1), .second, .val (.double g2), .second, .val (.ref mp)] [(.ref a)])) rfl (by rw [hml]; rfl) (Steps.refl _) (a := a) (argsL := []) (rest := []) (lenOf pd_2___V rfl) rfl (by show 2 * 0 + _ ≤ _; exact Nat.le_of_eq rfl) (hb hby d2_1) (fun _ _ => ⟨rfl, e0, (by decide : 0 + 0 ≤ _), (by decide : 0 + 0 ≤ _)⟩)
  dsimp only [Pt.U, Pt.locs, Pt.cells, Pt.slots] at X1 l1 y1 z1 st1 hQ1
  subst l1 y1 z1
  obtain ⟨rfl, Nq1, eh1⟩ := hQ1
  have N1 := Fr.app N0 Nq1
  refine Goes.on (B := T1.setTop (mkF m 4 #[.val (.ref a), .val (.double g1), .second, .val (.double g2), .second, .val (.ref mp)] [])) (fun t k => st1.trans k) ?_
  have hwS : ∀ d ∈ Bundle.stringAtoms, d.before a0 Z = true := fun d hd => hw d ((by decide +kernel : ∀ d ∈ Bundle.stringAtoms, d ∈ tables_1) d hd)
  obtain ⟨x2, T2, h2, k12, X2, e2, E2, hS2, hk2, hZ, hown, st2⟩ := ldcS (s := s) (vm0 := s.vm) X1 hx hZ hown (hw _ (List.mem_of_getElem? (i := 21) rfl)) hwS eh1 (State.WarmedH.since (State.WarmedH.refl s) 0) (Nat.zero_le _) (g := (mkF m 4 #[.val (.ref a), .val (.double g1), .second, .val (.double g2), .second, .val (.ref mp)] [])) rfl (hb hby d2_4) (n := 44) (by decide) (by decide) (by decide) (by decide)
  have f3 := E.ext E2
  have f4 := EM.ext E2
  have f5 := F1.ext E2
  have f6 := F2.ext E2
  have f7 := F3.ext E2
  have z8 : n0 ≤ h2.size := Nat.le_trans Z0 E2.1
  have K9 : Keep h0 h2 [a] := (Keep.refl h0 [a]).ext E2
  refine Goes.on (B := T2.setTop (mkF m 6 #[.val (.ref a), .val (.double g1), .second, .val (.double g2), .second, .val (.ref mp)] [(.ref x2)])) (fun t k => st2 t k) ?_
  refine Goes.on (B := T2.setTop (mkF m 7 #[.val (.ref a), .val (.double g1), .second, .val (.double g2), .second, .val (.ref mp)] [(.double g1), (.ref x2)])) (fun _ k => XS.dloadN X2.here hx rfl (hb hby d2_6) rfl  k) ?_
  obtain ⟨_, _, ⟨T10, L10, k10, n10⟩, -, X10, ⟨Lc10, hQ10, l10, y10, z10⟩, st10⟩ := Jvm.LawKit.callS X2 hx (y := (⟨"com/example/roadeq/roadeq/cost/Ranges", "requireFiniteAtLeastZero", "(Ljava/lang/String;D)V"⟩ : MethodName)) hown (mvT hZ (hw _ (List.mem_of_getElem? (i := 29) rfl))) (mvT hZ (hw _ (List.mem_of_getElem? (i := 30) rfl))) (mvT hZ (hw _ (List.mem_of_getElem? (i := 31) rfl))) (mvT hZ (hw _ (List.mem_of_getElem? (i := 32) rfl))) (by decide) (backOf (W := 0) (rmrf l Z a0 hw [] x2 g1 h2 n0 z8 f1 c1) hZ (hw _ (List.mem_of_getElem? (i := 32) rfl)) (hw _ (List.mem_of_getElem? (i := 31) rfl)) (by decide) (by decide)) (g := (mkF m 7 #[.val (.ref a), .val (.double g1), .second, .val (.double g2), .second, .val (.ref mp)] [(.double g1), (.ref x2)])) rfl (by rw [hml]; rfl) (argsL := [(.ref x2), (.double g1)]) (rest := []) (lenOf pd_2__Ljava_lang_String_D_V rfl) rfl (by show 2 * 0 + _ ≤ _; exact Nat.le_of_eq rfl) (hb hby d2_7) (fun _ _ => ⟨rfl, e2, (by decide : 2 + 0 ≤ _), (by decide : 48 + 0 ≤ _)⟩)
  dsimp only [Pt.U, Pt.locs, Pt.cells, Pt.slots] at X10 l10 y10 z10 st10 hQ10
  subst l10 y10 z10
  obtain ⟨rfl, Nq10, eh10⟩ := hQ10
  have N10 := Fr.app N1 Nq10
  refine Goes.on (B := T10.setTop (mkF m 10 #[.val (.ref a), .val (.double g1), .second, .val (.double g2), .second, .val (.ref mp)] [])) (fun t k => st10 t k) ?_
  obtain ⟨x11, T11, h11, k111, X11, e11, E11, hS11, hk11, hZ, hown, st11⟩ := ldcS (s := s) (vm0 := T2.vm) X10 hx hZ hown (hw _ (List.mem_of_getElem? (i := 42) rfl)) hwS eh10 hS2 hk2 (g := (mkF m 10 #[.val (.ref a), .val (.double g1), .second, .val (.double g2), .second, .val (.ref mp)] [])) rfl (hb hby d2_10) (n := 60) (by decide) (by decide) (by decide) (by decide)
  have f12 := f3.ext E11
  have f13 := f4.ext E11
  have f14 := f5.ext E11
  have f15 := f6.ext E11
  have f16 := f7.ext E11
  have z17 : n0 ≤ h11.size := Nat.le_trans z8 E11.1
  have K18 : Keep h0 h11 [a] := K9.ext E11
  refine Goes.on (B := T11.setTop (mkF m 12 #[.val (.ref a), .val (.double g1), .second, .val (.double g2), .second, .val (.ref mp)] [(.ref x11)])) (fun t k => st11 t k) ?_
  refine Goes.on (B := T11.setTop (mkF m 13 #[.val (.ref a), .val (.double g1), .second, .val (.double g2), .second, .val (.ref mp)] [(.double g2), (.ref x11)])) (fun _ k => XS.dloadN X11.here hx rfl (hb hby d2_12) rfl  k) ?_
  obtain ⟨_, _, ⟨T19, L19, k19, n19⟩, -, X19, ⟨Lc19, hQ19, l19, y19, z19⟩, st19⟩ := Jvm.LawKit.callS X11 hx (y := (⟨"com/example/roadeq/roadeq/cost/Ranges", "requireFiniteAtLeastZero", "(Ljava/lang/String;D)V"⟩ : MethodName)) hown (mvT hZ (hw _ (List.mem_of_getElem? (i := 29) rfl))) (mvT hZ (hw _ (List.mem_of_getElem? (i := 30) rfl))) (mvT hZ (hw _ (List.mem_of_getElem? (i := 31) rfl))) (mvT hZ (hw _ (List.mem_of_getElem? (i := 32) rfl))) (by decide) (backOf (W := 0) (rmrf l Z a0 hw [] x11 g2 h11 n0 z17 f2 c2) hZ (hw _ (List.mem_of_getElem? (i := 32) rfl)) (hw _ (List.mem_of_getElem? (i := 31) rfl)) (by decide) (by decide)) (g := (mkF m 13 #[.val (.ref a), .val (.double g1), .second, .val (.double g2), .second, .val (.ref mp)] [(.double g2), (.ref x11)])) rfl (by rw [hml]; rfl) (argsL := [(.ref x11), (.double g2)]) (rest := []) (lenOf pd_2__Ljava_lang_String_D_V rfl) rfl (by show 2 * 0 + _ ≤ _; exact Nat.le_of_eq rfl) (hb hby d2_13) (fun _ _ => ⟨rfl, e11, (by decide : 4 + 0 ≤ _), (by decide : 112 + 0 ≤ _)⟩)
  dsimp only [Pt.U, Pt.locs, Pt.cells, Pt.slots] at X19 l19 y19 z19 st19 hQ19
  subst l19 y19 z19
  obtain ⟨rfl, Nq19, eh19⟩ := hQ19
  have N19 := Fr.app N10 Nq19
  refine Goes.on (B := T19.setTop (mkF m 16 #[.val (.ref a), .val (.double g1), .second, .val (.double g2), .second, .val (.ref mp)] [])) (fun t k => st19 t k) ?_
  refine Goes.on (B := T19.setTop (mkF m 18 #[.val (.ref a), .val (.double g1), .second, .val (.double g2), .second, .val (.ref mp)] [(.ref mp)])) (fun _ k => XS.aload X19.here hx rfl (hb hby d2_16) rfl rfl  k) ?_
  obtain ⟨_, _, ⟨T20, L20, k20, n20⟩, -, X20, ⟨Lc20, hQ20, l20, y20, z20⟩, st20⟩ := Jvm.LawKit.callS X19 hx (y := (⟨"java/util/Map", "copyOf", "(Ljava/util/Map;)Ljava/util/Map;"⟩ : MethodName)) hown (mvT hZ (hw _ (List.mem_of_getElem? (i := 43) rfl))) (mvT hZ (hw _ (List.mem_of_getElem? (i := 44) rfl))) (mvT hZ (hw _ (List.mem_of_getElem? (i := 6) rfl))) (mvT hZ (hw _ (List.mem_of_getElem? (i := 45) rfl))) (by decide) (backOf (W := 0) (rmcp l Z a0 hw [] mp h11 n0 z17 f13) hZ (hw _ (List.mem_of_getElem? (i := 45) rfl)) (hw _ (List.mem_of_getElem? (i := 6) rfl)) (by decide) (by decide)) (g := (mkF m 18 #[.val (.ref a), .val (.double g1), .second, .val (.double g2), .second, .val (.ref mp)] [(.ref mp)])) rfl (by rw [hml]; rfl) (argsL := [(.ref mp)]) (rest := []) (lenOf pd_2__Ljava_util_Map__Ljava_util_Map_ rfl) rfl (by show 2 * 0 + _ ≤ _; exact Nat.le_of_eq rfl) (hb hby d2_18) (fun _ _ => ⟨rfl, eh19, (by decide : 4 + 0 ≤ _), (by decide : 112 + 0 ≤ _)⟩)
  dsimp only [Pt.U, Pt.locs, Pt.cells, Pt.slots] at X20 l20 y20 z20 st20 hQ20
  subst l20 y20 z20
  obtain ⟨rfl, Nq20, eh20⟩ := hQ20
  have N20 := Fr.app N19 Nq20
  refine Goes.on (B := T20.setTop (mkF m 21 #[.val (.ref a), .val (.double g1), .second, .val (.double g2), .second, .val (.ref mp)] [(.ref mp)])) (fun t k => st20 t k) ?_
  refine Goes.on (B := T20.setTop (mkF m 23 #[.val (.ref a), .val (.double g1), .second, .val (.double g2), .second, .val (.ref mp)] [])) (fun _ k => XS.astore X20.here hx rfl (hb hby d2_21) rfl rfl (l' := #[.val (.ref a), .val (.double g1), .second, .val (.double g2), .second, .val (.ref mp)]) rfl k) ?_
  refine Goes.on (B := T20.setTop (mkF m 24 #[.val (.ref a), .val (.double g1), .second, .val (.double g2), .second, .val (.ref mp)] [(.ref a)])) (fun _ k => XS.aloadN X20.here hx rfl (hb hby d2_23) rfl rfl  k) ?_
  refine Goes.on (B := T20.setTop (mkF m 25 #[.val (.ref a), .val (.double g1), .second, .val (.double g2), .second, .val (.ref mp)] [(.double g1), (.ref a)])) (fun _ k => XS.dloadN X20.here hx rfl (hb hby d2_24) rfl  k) ?_
  obtain ⟨T21, h21, X21, e21, W21, st21⟩ := putF X20 hx hZ hown (host := "") (Or.inl (hw _ (List.mem_of_getElem? (i := 48) rfl))) Via.refl eh20 f14 f12 (Or.inr ⟨(hw _ (List.mem_of_getElem? (i := 49) rfl)), rfl, hnm⟩) (hw _ (List.mem_of_getElem? (i := 2) rfl)) (ty := .double) (by decide) rfl rfl (g := (mkF m 25 #[.val (.ref a), .val (.double g1), .second, .val (.double g2), .second, .val (.ref mp)] [(.double g1), (.ref a)])) rfl rfl (hb hby d2_25)
  have f22 := f12.wr W21
  have f23 := f13.wr W21
  have f24 := f14.same W21
  have f25 := f15.other W21 (Or.inr (slot_ne (Or.inr (hw _ (List.mem_of_getElem? (i := 51) rfl))) (Or.inr (hw _ (List.mem_of_getElem? (i := 49) rfl))) (by decide) (t := .double) (t' := .double) (by decide) (by decide)))
  have f26 := f16.other W21 (Or.inr (slot_ne (Or.inr (hw _ (List.mem_of_getElem? (i := 53) rfl))) (Or.inr (hw _ (List.mem_of_getElem? (i := 49) rfl))) (by decide) (t := (.object "java/util/Map")) (t' := .double) (by decide) (by decide)))
  have z27 : n0 ≤ h21.size := Nat.le_trans z17 (Keep.of_wr W21).1
  have hk28 := Nat.le_trans hk11 (Keep.of_wr W21).1
  have K29 : Keep h0 h21 [a] := K18.wr W21 (Or.inl (List.mem_of_getElem? (i := 0) rfl))
  have N21 := Fr.snoc X21 N20 ga
  refine Goes.on (B := T21.setTop (mkF m 28 #[.val (.ref a), .val (.double g1), .second, .val (.double g2), .second, .val (.ref mp)] [])) (fun t k => st21 t k) ?_
  refine Goes.on (B := T21.setTop (mkF m 29 #[.val (.ref a), .val (.double g1), .second, .val (.double g2), .second, .val (.ref mp)] [(.ref a)])) (fun _ k => XS.aloadN X21.here hx rfl (hb hby d2_28) rfl rfl  k) ?_
  refine Goes.on (B := T21.setTop (mkF m 30 #[.val (.ref a), .val (.double g1), .second, .val (.double g2), .second, .val (.ref mp)] [(.double g2), (.ref a)])) (fun _ k => XS.dloadN X21.here hx rfl (hb hby d2_29) rfl  k) ?_
  obtain ⟨T30, h30, X30, e30, W30, st30⟩ := putF X21 hx hZ hown (host := "") (Or.inl (hw _ (List.mem_of_getElem? (i := 50) rfl))) Via.refl e21 f25 f22 (Or.inr ⟨(hw _ (List.mem_of_getElem? (i := 51) rfl)), rfl, hnm⟩) (hw _ (List.mem_of_getElem? (i := 2) rfl)) (ty := .double) (by decide) rfl rfl (g := (mkF m 30 #[.val (.ref a), .val (.double g1), .second, .val (.double g2), .second, .val (.ref mp)] [(.double g2), (.ref a)])) rfl rfl (hb hby d2_30)
  have f31 := f22.wr W30
  have f32 := f23.wr W30
  have f33 := f24.other W30 (Or.inr (slot_ne (Or.inr (hw _ (List.mem_of_getElem? (i := 49) rfl))) (Or.inr (hw _ (List.mem_of_getElem? (i := 51) rfl))) (by decide) (t := .double) (t' := .double) (by decide) (by decide)))
  have f34 := f25.same W30
  have f35 := f26.other W30 (Or.inr (slot_ne (Or.inr (hw _ (List.mem_of_getElem? (i := 53) rfl))) (Or.inr (hw _ (List.mem_of_getElem? (i := 51) rfl))) (by decide) (t := (.object "java/util/Map")) (t' := .double) (by decide) (by decide)))
  have z36 : n0 ≤ h30.size := Nat.le_trans z27 (Keep.of_wr W30).1
  have hk37 := Nat.le_trans hk28 (Keep.of_wr W30).1
  have K38 : Keep h0 h30 [a] := K29.wr W30 (Or.inl (List.mem_of_getElem? (i := 0) rfl))
  have N30 := Fr.snoc X30 N21 ga
  refine Goes.on (B := T30.setTop (mkF m 33 #[.val (.ref a), .val (.double g1), .second, .val (.double g2), .second, .val (.ref mp)] [])) (fun t k => st30 t k) ?_
  refine Goes.on (B := T30.setTop (mkF m 34 #[.val (.ref a), .val (.double g1), .second, .val (.double g2), .second, .val (.ref mp)] [(.ref a)])) (fun _ k => XS.aloadN X30.here hx rfl (hb hby d2_33) rfl rfl  k) ?_
  refine Goes.on (B := T30.setTop (mkF m 36 #[.val (.ref a), .val (.double g1), .second, .val (.double g2), .second, .val (.ref mp)] [(.ref mp), (.ref a)])) (fun _ k => XS.aload X30.here hx rfl (hb hby d2_34) rfl rfl  k) ?_
  obtain ⟨T39, h39, X39, e39, W39, st39⟩ := putF X30 hx hZ hown (host := "") (Or.inl (hw _ (List.mem_of_getElem? (i := 52) rfl))) Via.refl e30 f35 f31 (Or.inr ⟨(hw _ (List.mem_of_getElem? (i := 53) rfl)), rfl, hnm⟩) (hw _ (List.mem_of_getElem? (i := 2) rfl)) (ty := (.object "java/util/Map")) (by decide) rfl rfl (g := (mkF m 36 #[.val (.ref a), .val (.double g1), .second, .val (.double g2), .second, .val (.ref mp)] [(.ref mp), (.ref a)])) rfl rfl (hb hby d2_36)
  have f40 := f31.wr W39
  have f41 := f32.wr W39
  have f42 := f33.other W39 (Or.inr (slot_ne (Or.inr (hw _ (List.mem_of_getElem? (i := 49) rfl))) (Or.inr (hw _ (List.mem_of_getElem? (i := 53) rfl))) (by decide) (t := .double) (t' := (.object "java/util/Map")) (by decide) (by decide)))
  have f43 := f34.other W39 (Or.inr (slot_ne (Or.inr (hw _ (List.mem_of_getElem? (i := 51) rfl))) (Or.inr (hw _ (List.mem_of_getElem? (i := 53) rfl))) (by decide) (t := .double) (t' := (.object "java/util/Map")) (by decide) (by decide)))
  have f44 := f35.same W39
  have z45 : n0 ≤ h39.size := Nat.le_trans z36 (Keep.of_wr W39).1
  have hk46 := Nat.le_trans hk37 (Keep.of_wr W39).1
  have K47 : Keep h0 h39 [a] := K38.wr W39 (Or.inl (List.mem_of_getElem? (i := 0) rfl))
  have N39 := Fr.snoc X39 N30 ga
  refine Goes.on (B := T39.setTop (mkF m 39 #[.val (.ref a), .val (.double g1), .second, .val (.double g2), .second, .val (.ref mp)] [])) (fun t k => st39 t k) ?_
  obtain ⟨fs, hr, hrun, hended, hend⟩ := X39.leaveW hS11 (by rw [e39]; first | exact hk46 | exact Nat.le_refl _) (v := none) (fun _ => rfl)
  exact Goes.leaf (X39.returnOut hx Bd.returns (hb hby d2_39) hr) hrun hended ⟨_, _, rfl, by show Qci Z a g1 g2 mp h0 n0 _ T39.heap _; rw [e39]; exact ⟨rfl, N39, K47, f40, f42, f43⟩, hend.1, hend.2.1, hend.2.2.1, hend.2.2.2.mono (by decide) (by decide)⟩
theorem d9_0 : decode prog_53_method_3_code 0 = .ok (.aload_n 0, 1) := by decide +kernel
theorem d9_1 : decode prog_53_method_3_code 1 = .ok (.getfield 23, 3) := by decide +kernel
theorem d9_4 : decode prog_53_method_3_code 4 = .ok (.dload_n 1, 1) := by decide +kernel
theorem d9_5 : decode prog_53_method_3_code 5 = .ok (.dmul, 1) := by decide +kernel
theorem d9_6 : decode prog_53_method_3_code 6 = .ok (.aload_n 0, 1) := by decide +kernel
theorem d9_7 : decode prog_53_method_3_code 7 = .ok (.getfield 29, 3) := by decide +kernel
theorem d9_10 : decode prog_53_method_3_code 10 = .ok (.dload_n 3, 1) := by decide +kernel
theorem d9_11 : decode prog_53_method_3_code 11 = .ok (.dmul, 1) := by decide +kernel
theorem d9_12 : decode prog_53_method_3_code 12 = .ok (.dadd, 1) := by decide +kernel
theorem d9_13 : decode prog_53_method_3_code 13 = .ok (.dreturn, 1) := by decide +kernel
theorem pn_9 : plainName "com/example/roadeq/roadeq/cost/CostModel" = true := by first | (simp [plainName, overriddenIn]; done) | decide +kernel
theorem ef_fc (m : MethodId) (x0 : Addr) (x1 : UInt64) (x2 : UInt64) : entryFrame m #[(.ref x0), (.double x1), (.double x2)] 5 = mkF m 0 #[.val (.ref x0), .val (.double x1), .second, .val (.double x2), .second] [] := by first | (simp [entryFrame, mkF, argsToLocals, Value.category]; done) | rfl
def Qfc (Z : State) (a : Addr) (gx : UInt64) (gy : UInt64) (gt gd : UInt64) (h0 : Heap) (n0 : Nat) (v : Option Value) (h : Heap) (L : List Loc) : Prop := v = some (.double (FP.dadd (FP.dmul gt gx) (FP.dmul gd gy))) ∧ Fr n0 L ∧ h = h0
set_option maxRecDepth 65536 in
set_option maxHeartbeats 40000000 in
theorem rmfc (l : Launch) (Z : State) (a0 : Array Value) (hw : ∀ d ∈ tables_1, d.before a0 Z = true) (ws : List Jvm.Cond) (a : Addr) (gx : UInt64) (gy : UInt64) (gt gd : UInt64) (h0 : Heap) (n0 : Nat) (Z0 : n0 ≤ h0.size) (F1 : Fld Z h0 a "com/example/roadeq/roadeq/cost/CostModel" "tollFactor" "D" (.double gt)) (F2 : Fld Z h0 a "com/example/roadeq/roadeq/cost/CostModel" "distanceFactor" "D" (.double gd)) (m1 : NoNaN64 (FP.dmul gt gx)) (m2 : NoNaN64 (FP.dmul gd gy)) (m3 : NoNaN64 (FP.dadd (FP.dmul gt gx) (FP.dmul gd gy))) :
    MetFree l (⟨"com/example/roadeq/roadeq/cost/CostModel", "fixedCost", "(DD)D"⟩ : MethodName) (head1 (Jvm.Cond.code (⟨"com/example/roadeq/roadeq/cost/CostModel", "fixedCost", "(DD)D"⟩ : MethodName) prog_53_method_3_code 5 (some .double) :: ws) ({ frames := 0, cells := 0, slots := 0, locals := 0 } : Room)) (fun aa U => aa = #[(.ref a), (.double gx), (.double gy)] ∧ Z.Warmed39 U.vm ∧ U.heap = h0) (fun _ _ _ _ _ => True) (fun _ U oo U' => ∃ vv LL, oo = .returned vv ∧ Qfc Z a gx gy gt gd h0 n0 vv U'.heap LL ∧ FrameEnd U oo U' LL ({ frames := 0, cells := 0, slots := 0, locals := 0 } : Room).cells ({ frames := 0, cells := 0, slots := 0, locals := 0 } : Room).slots) := by
  refine MetFree.of_bodySF (plainFor_of_name pn_9) hisR ?_
  intro p e s m args below meth c s₁ Bd hml0 hP hK
  obtain ⟨rfl, hZ, hh⟩ := hP
  have hx := Bd.exec
  have hby := Bd.bytes
  have hml : c.maxLocals = 5 := hml0
  have hown : s.vm.findClass "com/example/roadeq/roadeq/cost/CostModel" = some m.cls := findClass_of_methodNamed Bd.named
  have hnm := (name_of_methodNamed Bd.named Bd.method).1
  have X0 : Stand p l e ({ frames := 0, cells := 0, slots := 0, locals := 0 } : Room) s m #[(.ref a), (.double gx), (.double gy)] below meth c s₁ [] 0 0 := Stand.of_body Bd
  have e0 : s₁.heap = h0 := by rw [← hh, Bd.state]; rfl
  have N0 := Fr.nil n0
  show Goes p e below _ (s₁.setTop (entryFrame m #[(.ref a), (.double gx), (.double gy)] 5))
  refine Goes.on (B := s₁.setTop (mkF m 0 #[.val (.ref a), .val (.double gx), .second, .val (.double gy), .second] [])) (fun t k => castTop (ef_fc m a gx gy) k) ?_
  refine Goes.on (B := s₁.setTop (mkF m 1 #[.val (.ref a), .val (.double gx), .second, .val (.double gy), .second] [(.ref a)])) (fun _ k => XS.aloadN X0.here hx rfl (hb hby d9_0) rfl rfl  k) ?_
  obtain ⟨T1, X1, e1, st1⟩ := getF X0 hx hZ hown (host := "") (Or.inl (hw _ (List.mem_of_getElem? (i := 48) rfl))) Via.refl e0 F1 (g := (mkF m 1 #[.val (.ref a), .val (.double gx), .second, .val (.double gy), .second] [(.ref a)])) rfl rfl (hb hby d9_1)
  refine Goes.on (B := T1.setTop (mkF m 4 #[.val (.ref a), .val (.double gx), .second, .val (.double gy), .second] [(.double gt)])) (fun t k => st1 t k) ?_
  refine Goes.on (B := T1.setTop (mkF m 5 #[.val (.ref a), .val (.double gx), .second, .val (.double gy), .second] [(.double gx), (.double gt)])) (fun _ k => XS.dloadN X1.here hx rfl (hb hby d9_4) rfl  k) ?_
  refine Goes.on (B := T1.setTop (mkF m 6 #[.val (.ref a), .val (.double gx), .second, .val (.double gy), .second] [(.double (FP.dmul gt gx))])) (fun _ k => XS.dmulS X1.here hx rfl (hb hby d9_5) rfl m1 rfl k) ?_
  refine Goes.on (B := T1.setTop (mkF m 7 #[.val (.ref a), .val (.double gx), .second, .val (.double gy), .second] [(.ref a), (.double (FP.dmul gt gx))])) (fun _ k => XS.aloadN X1.here hx rfl (hb hby d9_6) rfl rfl  k) ?_
  obtain ⟨T2, X2, e2, st2⟩ := getF X1 hx hZ hown (host := "") (Or.inl (hw _ (List.mem_of_getElem? (i := 50) rfl))) Via.refl e1 F2 (g := (mkF m 7 #[.val (.ref a), .val (.double gx), .second, .val (.double gy), .second] [(.ref a), (.double (FP.dmul gt gx))])) rfl rfl (hb hby d9_7)
  refine Goes.on (B := T2.setTop (mkF m 10 #[.val (.ref a), .val (.double gx), .second, .val (.double gy), .second] [(.double gd), (.double (FP.dmul gt gx))])) (fun t k => st2 t k) ?_
  refine Goes.on (B := T2.setTop (mkF m 11 #[.val (.ref a), .val (.double gx), .second, .val (.double gy), .second] [(.double gy), (.double gd), (.double (FP.dmul gt gx))])) (fun _ k => XS.dloadN X2.here hx rfl (hb hby d9_10) rfl  k) ?_
  refine Goes.on (B := T2.setTop (mkF m 12 #[.val (.ref a), .val (.double gx), .second, .val (.double gy), .second] [(.double (FP.dmul gd gy)), (.double (FP.dmul gt gx))])) (fun _ k => XS.dmulS X2.here hx rfl (hb hby d9_11) rfl m2 rfl k) ?_
  refine Goes.on (B := T2.setTop (mkF m 13 #[.val (.ref a), .val (.double gx), .second, .val (.double gy), .second] [(.double (FP.dadd (FP.dmul gt gx) (FP.dmul gd gy)))])) (fun _ k => XS.daddS X2.here hx rfl (hb hby d9_12) rfl m3 rfl k) ?_
  obtain ⟨fs, hr, hrun, hended, hW, hsame⟩ := X2.leave (v := some (.double (FP.dadd (FP.dmul gt gx) (FP.dmul gd gy)))) (fun h => by rw [Bd.returns] at h; cases h)
  exact Goes.leaf (own_retD X2 hx Bd.returns (hb hby d9_13) hr) hrun hended ⟨_, _, rfl, by show Qfc Z a gx gy gt gd h0 n0 _ T2.heap _; rw [e2]; exact ⟨rfl, N0, rfl⟩, ⟨_, rfl⟩, hW, hsame.mono (by decide) (by decide)⟩
theorem own_b {p : Int32} {z : Int64} (h : ((p &&& (1048575 : Int32)).toInt64) = z) : 0 ≤ z.toInt ∧ z.toInt ≤ 1048575 := by
  have e1 : (p &&& (1048575 : Int32)).toInt = p.toInt % 2 ^ 20 := Jvm.Kit.i32_mask p 1048575 (k := 20) (by decide) (by decide)
  rw [← h, Int32.toInt_toInt64]
  omega
theorem own_c {z : Int64} (h : 0 ≤ z.toInt ∧ z.toInt ≤ 1048575) : ¬ (cmpValue (FP.dcmp (FP.l2d z) FP.dconst0) .g) < (0 : Int32) := by
  have e0 : (0 : Int64).toInt = 0 := rfl
  rw [show FP.dconst0 = FP.l2d 0 by decide +kernel, dcmpV_w ⟨by omega, by omega⟩ ⟨by omega, by omega⟩, lcmpW]
  by_cases h1 : z > 0
  · rw [if_pos h1]; decide
  · have h2 : z = 0 := by
      rw [gt_iff_lt, Int64.lt_iff_toInt_lt] at h1; exact Int64.toInt_inj.mp (by omega)
    rw [if_neg h1, if_pos h2]; decide
theorem own_nn {i : Int} {a : UInt64} (h : FP.Core.DInt i a) : NoNaN64 a := Classical.byContradiction fun q => by
  have r := relNe_self.mpr q
  rw [show FP.dcmp a a = some (compare i i) from FP.Core.dcmp_int h h, show compare i i = Ordering.eq by simp] at r
  exact absurd r (by decide)
theorem own_bd {z : Int64} {p : Int32} (h : 0 ≤ z.toInt ∧ z.toInt ≤ 1048575) : (z.toInt * p.toInt).natAbs ≤ 2251797666201600 := by
  have h1 := p.toInt_lt
  have h2 := p.le_toInt
  rw [Int.natAbs_mul]
  exact Nat.le_trans (Nat.mul_le_mul (show z.toInt.natAbs ≤ 1048575 by omega) (show p.toInt.natAbs ≤ 2147483648 by omega)) (by decide)
theorem own_m {q : Int32} {z : Int64} (hz : ((q &&& (1048575 : Int32)).toInt64) = z) (p : Int32) : NoNaN64 (FP.dmul (FP.l2d z) (FP.i2d p)) ∧ FP.Core.DInt (z.toInt * p.toInt) (FP.dmul (FP.l2d z) (FP.i2d p)) := by
  have b := own_b hz
  have d : FP.Core.DInt (z.toInt * p.toInt) (FP.dmul (FP.l2d z) (FP.i2d p)) := FP.Core.dmul_int (FP.Core.l2d_int (a := z) (show _ ≤ 9007199254740992 by omega)) (FP.Core.i2d_int p) (Nat.le_trans (own_bd b) (by decide))
  exact ⟨own_nn d, d⟩
theorem own_s {q1 q2 : Int32} {z1 z2 : Int64} (h1 : ((q1 &&& (1048575 : Int32)).toInt64) = z1) (h2 : ((q2 &&& (1048575 : Int32)).toInt64) = z2) (p1 p2 : Int32) :
    NoNaN64 (FP.dadd (FP.dmul (FP.l2d z1) (FP.i2d p1)) (FP.dmul (FP.l2d z2) (FP.i2d p2))) ∧ FP.Core.DInt (z1.toInt * p1.toInt + z2.toInt * p2.toInt) (FP.dadd (FP.dmul (FP.l2d z1) (FP.i2d p1)) (FP.dmul (FP.l2d z2) (FP.i2d p2))) := by
  have c1 := own_bd (p := p1) (own_b h1)
  have c2 := own_bd (p := p2) (own_b h2)
  have d : FP.Core.DInt (z1.toInt * p1.toInt + z2.toInt * p2.toInt) (FP.dadd (FP.dmul (FP.l2d z1) (FP.i2d p1)) (FP.dmul (FP.l2d z2) (FP.i2d p2))) := FP.Core.dadd_int (own_m h1 p1).2 (own_m h2 p2).2 (show _ ≤ 9007199254740992 by omega)
  exact ⟨own_nn d, d⟩
theorem own_mul {z : Int64} {p : Int32} (h : 0 ≤ z.toInt ∧ z.toInt ≤ 1048575) : (z * (p.toInt64)).toInt = z.toInt * p.toInt := by
  have c := own_bd (p := p) h
  rw [Int64.toInt_mul, Int32.toInt_toInt64]
  exact Int.bmod_eq_of_le (by omega) (by omega)
theorem own_law {q1 q2 : Int32} {z1 z2 : Int64} (h1 : ((q1 &&& (1048575 : Int32)).toInt64) = z1) (h2 : ((q2 &&& (1048575 : Int32)).toInt64) = z2) (p1 p2 : Int32) :
    (cmpValue (FP.dcmp (FP.dadd (FP.dmul (FP.l2d z1) (FP.i2d p1)) (FP.dmul (FP.l2d z2) (FP.i2d p2))) (FP.l2d ((z1 * (p1.toInt64)) + (z2 * (p2.toInt64))))) .l) = (0 : Int32) := by
  have c1 := own_bd (p := p1) (own_b h1)
  have c2 := own_bd (p := p2) (own_b h2)
  have e : ((z1 * (p1.toInt64)) + (z2 * (p2.toInt64))).toInt = z1.toInt * p1.toInt + z2.toInt * p2.toInt := by
    rw [Int64.toInt_add, own_mul (own_b h1), own_mul (own_b h2)]
    exact Int.bmod_eq_of_le (by omega) (by omega)
  have d := FP.Core.l2d_int (a := ((z1 * (p1.toInt64)) + (z2 * (p2.toInt64)))) (show _ ≤ 9007199254740992 by rw [e]; omega)
  rw [e] at d
  rw [show FP.dcmp (FP.dadd (FP.dmul (FP.l2d z1) (FP.i2d p1)) (FP.dmul (FP.l2d z2) (FP.i2d p2))) (FP.l2d ((z1 * (p1.toInt64)) + (z2 * (p2.toInt64)))) = some (compare (z1.toInt * p1.toInt + z2.toInt * p2.toInt) (z1.toInt * p1.toInt + z2.toInt * p2.toInt)) from FP.Core.dcmp_int (own_s h1 h2 p1 p2).2 d, show compare (z1.toInt * p1.toInt + z2.toInt * p2.toInt) (z1.toInt * p1.toInt + z2.toInt * p2.toInt) = Ordering.eq by simp]
  rfl
theorem pn_0 : plainName "com/example/roadeq/roadeq/cost/CostModelFixedCostPinLaw" = true := by first | (simp [plainName, overriddenIn]; done) | decide +kernel
theorem pd_0___Ljava_util_Map_ : parseMethodDescriptor "()Ljava/util/Map;" = some ⟨[], some (.object "java/util/Map")⟩ := by decide +kernel
theorem pd_0__DDLjava_util_Map__V : parseMethodDescriptor "(DDLjava/util/Map;)V" = some ⟨[.double, .double, (.object "java/util/Map")], none⟩ := by decide +kernel
theorem pd_0__DD_D : parseMethodDescriptor "(DD)D" = some ⟨[.double, .double], some .double⟩ := by decide +kernel
theorem ef_0 (m : MethodId) (x0 : Int32) (x1 : Int32) (x2 : Int32) (x3 : Int32) : entryFrame m #[(.int x0), (.int x1), (.int x2), (.int x3)] maxLocals = mkF m 0 #[.val (.int x0), .val (.int x1), .val (.int x2), .val (.int x3), .unset, .unset, .unset, .unset, .unset, .unset, .unset, .unset, .unset] [] := by first | (simp [entryFrame, mkF, argsToLocals, Value.category, maxLocals]; done) | rfl
def Q0 (Z : State) (p0 : Int32) (p1 : Int32) (p2 : Int32) (p3 : Int32) (q : Addr) (h0 : Heap) (n0 : Nat) (v : Option Value) (h : Heap) (L : List Loc) : Prop := v = some (.int 1) ∧ Fr n0 L
set_option maxRecDepth 65536 in
set_option maxHeartbeats 40000000 in
theorem rm0 (l : Launch) (Z : State) (a0 : Array Value) (hw : ∀ d ∈ tables_1, d.before a0 Z = true) (ws : List Jvm.Cond) (p0 : Int32) (p1 : Int32) (p2 : Int32) (p3 : Int32) (q : Addr) (h0 : Heap) (n0 : Nat) (Z0 : n0 ≤ h0.size) (SM : Sta Z h0 "java/util/ImmutableCollections" "EMPTY_MAP" "Ljava/util/ImmutableCollections$MapN;" (.ref q)) (EM : Exa Z h0 q "java/util/ImmutableCollections$MapN") :
    MetFree l x (head1 (Jvm.Cond.code x code maxLocals ret :: ws) room_1) (fun aa U => aa = #[(.int p0), (.int p1), (.int p2), (.int p3)] ∧ Z.Warmed39 U.vm ∧ U.heap = h0) (fun _ _ _ _ _ => True) (fun _ U oo U' => ∃ vv LL, oo = .returned vv ∧ Q0 Z p0 p1 p2 p3 q h0 n0 vv U'.heap LL ∧ ReturnedEndW U oo U' LL room_1.cells room_1.slots) := by
  refine MetFree.of_bodySF (plainFor_of_name pn_0) hisR ?_
  intro p e s m args below meth c s₁ Bd hml0 hP hK
  obtain ⟨rfl, hZ, hh⟩ := hP
  have hx := Bd.exec
  have hby := Bd.bytes
  have hml : c.maxLocals = 13 := hml0
  have hown : s.vm.findClass "com/example/roadeq/roadeq/cost/CostModelFixedCostPinLaw" = some m.cls := findClass_of_methodNamed Bd.named
  have hnm := (name_of_methodNamed Bd.named Bd.method).1
  have X0 : Stand p l e room_1 s m #[(.int p0), (.int p1), (.int p2), (.int p3)] below meth c s₁ [] 0 0 := Stand.of_body Bd
  have e0 : s₁.heap = h0 := by rw [← hh, Bd.state]; rfl
  have N0 := Fr.nil n0
  show Goes p e below _ (s₁.setTop (entryFrame m #[(.int p0), (.int p1), (.int p2), (.int p3)] maxLocals))
  refine Goes.on (B := s₁.setTop (mkF m 0 #[.val (.int p0), .val (.int p1), .val (.int p2), .val (.int p3), .unset, .unset, .unset, .unset, .unset, .unset, .unset, .unset, .unset] [])) (fun t k => castTop (ef_0 m p0 p1 p2 p3) k) ?_
  refine Goes.on (B := s₁.setTop (mkF m 1 #[.val (.int p0), .val (.int p1), .val (.int p2), .val (.int p3), .unset, .unset, .unset, .unset, .unset, .unset, .unset, .unset, .unset] [(.int p0)])) (fun _ k => XS.iloadN X0.here hx rfl (hb hby at_0) rfl  k) ?_
  refine Goes.on (B := s₁.setTop (mkF m 3 #[.val (.int p0), .val (.int p1), .val (.int p2), .val (.int p3), .unset, .unset, .unset, .unset, .unset, .unset, .unset, .unset, .unset] [(.int (1048575 : Int32)), (.int p0)])) (fun _ k => X0.ldcInt hx hown (mvT hZ (hw _ (List.mem_of_getElem? (i := 0) rfl))) (g := (mkF m 1 #[.val (.int p0), .val (.int p1), .val (.int p2), .val (.int p3), .unset, .unset, .unset, .unset, .unset, .unset, .unset, .unset, .unset] [(.int p0)])) rfl (hb hby at_1) _ k) ?_
  refine Goes.on (B := s₁.setTop (mkF m 4 #[.val (.int p0), .val (.int p1), .val (.int p2), .val (.int p3), .unset, .unset, .unset, .unset, .unset, .unset, .unset, .unset, .unset] [(.int (p0 &&& (1048575 : Int32)))])) (fun _ k => XS.iand X0.here hx rfl (hb hby at_3) rfl k) ?_
  refine Goes.on (B := s₁.setTop (mkF m 5 #[.val (.int p0), .val (.int p1), .val (.int p2), .val (.int p3), .unset, .unset, .unset, .unset, .unset, .unset, .unset, .unset, .unset] [(.long ((p0 &&& (1048575 : Int32)).toInt64))])) (fun _ k => XS.i2l X0.here hx rfl (hb hby at_4) rfl k) ?_
  generalize hza : ((p0 &&& (1048575 : Int32)).toInt64) = za
  refine Goes.on (B := s₁.setTop (mkF m 7 #[.val (.int p0), .val (.int p1), .val (.int p2), .val (.int p3), .val (.long za), .second, .unset, .unset, .unset, .unset, .unset, .unset, .unset] [])) (fun _ k => XS.lstore X0.here hx rfl (hb hby at_5) rfl (l' := #[.val (.int p0), .val (.int p1), .val (.int p2), .val (.int p3), .val (.long za), .second, .unset, .unset, .unset, .unset, .unset, .unset, .unset]) rfl k) ?_
  refine Goes.on (B := s₁.setTop (mkF m 8 #[.val (.int p0), .val (.int p1), .val (.int p2), .val (.int p3), .val (.long za), .second, .unset, .unset, .unset, .unset, .unset, .unset, .unset] [(.int p1)])) (fun _ k => XS.iloadN X0.here hx rfl (hb hby at_7) rfl  k) ?_
  refine Goes.on (B := s₁.setTop (mkF m 10 #[.val (.int p0), .val (.int p1), .val (.int p2), .val (.int p3), .val (.long za), .second, .unset, .unset, .unset, .unset, .unset, .unset, .unset] [(.int (1048575 : Int32)), (.int p1)])) (fun _ k => X0.ldcInt hx hown (mvT hZ (hw _ (List.mem_of_getElem? (i := 0) rfl))) (g := (mkF m 8 #[.val (.int p0), .val (.int p1), .val (.int p2), .val (.int p3), .val (.long za), .second, .unset, .unset, .unset, .unset, .unset, .unset, .unset] [(.int p1)])) rfl (hb hby at_8) _ k) ?_
  refine Goes.on (B := s₁.setTop (mkF m 11 #[.val (.int p0), .val (.int p1), .val (.int p2), .val (.int p3), .val (.long za), .second, .unset, .unset, .unset, .unset, .unset, .unset, .unset] [(.int (p1 &&& (1048575 : Int32)))])) (fun _ k => XS.iand X0.here hx rfl (hb hby at_10) rfl k) ?_
  refine Goes.on (B := s₁.setTop (mkF m 12 #[.val (.int p0), .val (.int p1), .val (.int p2), .val (.int p3), .val (.long za), .second, .unset, .unset, .unset, .unset, .unset, .unset, .unset] [(.long ((p1 &&& (1048575 : Int32)).toInt64))])) (fun _ k => XS.i2l X0.here hx rfl (hb hby at_11) rfl k) ?_
  generalize hzb : ((p1 &&& (1048575 : Int32)).toInt64) = zb
  refine Goes.on (B := s₁.setTop (mkF m 14 #[.val (.int p0), .val (.int p1), .val (.int p2), .val (.int p3), .val (.long za), .second, .val (.long zb), .second, .unset, .unset, .unset, .unset, .unset] [])) (fun _ k => XS.lstore X0.here hx rfl (hb hby at_12) rfl (l' := #[.val (.int p0), .val (.int p1), .val (.int p2), .val (.int p3), .val (.long za), .second, .val (.long zb), .second, .unset, .unset, .unset, .unset, .unset]) rfl k) ?_
  obtain ⟨T1, h1, X1, e1, E1, A1, D1, -, st1⟩ := newO X0 hx hZ hown (hw _ (List.mem_of_getElem? (i := 1) rfl)) (hw _ (List.mem_of_getElem? (i := 2) rfl)) (hw _ (List.mem_of_getElem? (i := 3) rfl)) e0 (g := (mkF m 14 #[.val (.int p0), .val (.int p1), .val (.int p2), .val (.int p3), .val (.long za), .second, .val (.long zb), .second, .unset, .unset, .unset, .unset, .unset] [])) rfl (hb hby at_14) (by decide) (by decide)
  obtain ⟨b1, g1⟩ : ∃ z, z = h0.size := ⟨_, rfl⟩
  rw [← g1] at A1 D1 st1
  have ne_q_b1 : q ≠ b1 := Nat.ne_of_lt (Nat.lt_of_lt_of_le EM.lt (Nat.le_of_eq g1.symm))
  have f2 := SM.ext E1
  have f3 := EM.ext E1
  have z4 : n0 ≤ h1.size := Nat.le_trans Z0 E1.1
  have g_b1 : n0 ≤ b1 := Nat.le_trans Z0 (Nat.le_of_eq g1.symm)
  have F1_tollFactor : Fld Z h1 b1 "com/example/roadeq/roadeq/cost/CostModel" "tollFactor" "D" (.double 0) := D1 (Or.inr (hw _ (List.mem_of_getElem? (i := 49) rfl))) (ty := .double) (by decide)
  have F1_distanceFactor : Fld Z h1 b1 "com/example/roadeq/roadeq/cost/CostModel" "distanceFactor" "D" (.double 0) := D1 (Or.inr (hw _ (List.mem_of_getElem? (i := 51) rfl))) (ty := .double) (by decide)
  have F1_delayFunctions : Fld Z h1 b1 "com/example/roadeq/roadeq/cost/CostModel" "delayFunctions" "Ljava/util/Map;" .null := D1 (Or.inr (hw _ (List.mem_of_getElem? (i := 53) rfl))) (ty := (.object "java/util/Map")) (by decide)
  refine Goes.on (B := T1.setTop (mkF m 17 #[.val (.int p0), .val (.int p1), .val (.int p2), .val (.int p3), .val (.long za), .second, .val (.long zb), .second, .unset, .unset, .unset, .unset, .unset] [(.ref b1)])) (fun t k => st1 t k) ?_
  refine Goes.on (B := T1.setTop (mkF m 18 #[.val (.int p0), .val (.int p1), .val (.int p2), .val (.int p3), .val (.long za), .second, .val (.long zb), .second, .unset, .unset, .unset, .unset, .unset] [(.ref b1), (.ref b1)])) (fun _ k => XS.dup X1.here hx rfl (hb hby at_17) rfl rfl k) ?_
  refine Goes.on (B := T1.setTop (mkF m 20 #[.val (.int p0), .val (.int p1), .val (.int p2), .val (.int p3), .val (.long za), .second, .val (.long zb), .second, .unset, .unset, .unset, .unset, .unset] [(.long za), (.ref b1), (.ref b1)])) (fun _ k => XS.lload X1.here hx rfl (hb hby at_18) rfl  k) ?_
  refine Goes.on (B := T1.setTop (mkF m 21 #[.val (.int p0), .val (.int p1), .val (.int p2), .val (.int p3), .val (.long za), .second, .val (.long zb), .second, .unset, .unset, .unset, .unset, .unset] [(.double (FP.l2d za)), (.ref b1), (.ref b1)])) (fun _ k => XS.l2dS X1.here hx rfl (hb hby at_20) rfl rfl k) ?_
  refine Goes.on (B := T1.setTop (mkF m 23 #[.val (.int p0), .val (.int p1), .val (.int p2), .val (.int p3), .val (.long za), .second, .val (.long zb), .second, .unset, .unset, .unset, .unset, .unset] [(.long zb), (.double (FP.l2d za)), (.ref b1), (.ref b1)])) (fun _ k => XS.lload X1.here hx rfl (hb hby at_21) rfl  k) ?_
  refine Goes.on (B := T1.setTop (mkF m 24 #[.val (.int p0), .val (.int p1), .val (.int p2), .val (.int p3), .val (.long za), .second, .val (.long zb), .second, .unset, .unset, .unset, .unset, .unset] [(.double (FP.l2d zb)), (.double (FP.l2d za)), (.ref b1), (.ref b1)])) (fun _ k => XS.l2dS X1.here hx rfl (hb hby at_23) rfl rfl k) ?_
  obtain ⟨_, _, ⟨T5, L5, k5, n5⟩, -, X5, ⟨Lc5, hQ5, l5, y5, z5⟩, st5⟩ := Jvm.LawKit.callS X1 hx (y := (⟨"java/util/Map", "of", "()Ljava/util/Map;"⟩ : MethodName)) hown (mvT hZ (hw _ (List.mem_of_getElem? (i := 4) rfl))) (mvT hZ (hw _ (List.mem_of_getElem? (i := 5) rfl))) (mvT hZ (hw _ (List.mem_of_getElem? (i := 6) rfl))) (mvT hZ (hw _ (List.mem_of_getElem? (i := 7) rfl))) (by decide) (backOf (W := 6) (rmof l Z a0 hw []  q h1 n0 z4 f2) hZ (hw _ (List.mem_of_getElem? (i := 7) rfl)) (hw _ (List.mem_of_getElem? (i := 6) rfl)) (by decide) (by decide)) (g := (mkF m 24 #[.val (.int p0), .val (.int p1), .val (.int p2), .val (.int p3), .val (.long za), .second, .val (.long zb), .second, .unset, .unset, .unset, .unset, .unset] [(.double (FP.l2d zb)), (.double (FP.l2d za)), (.ref b1), (.ref b1)])) rfl (by rw [hml]; rfl) (argsL := []) (rest := [(.double (FP.l2d zb)), (.double (FP.l2d za)), (.ref b1), (.ref b1)]) (lenOf pd_0___Ljava_util_Map_ rfl) rfl (by show 2 * 0 + _ ≤ _; exact Nat.le_of_eq rfl) (hb hby at_24) (fun _ _ => ⟨rfl, e1, (by decide : 1 + 0 ≤ _), (by decide : 3 + 0 ≤ _)⟩)
  dsimp only [Pt.U, Pt.locs, Pt.cells, Pt.slots] at X5 l5 y5 z5 st5 hQ5
  subst l5 y5 z5
  obtain ⟨rfl, Nq5, eh5⟩ := hQ5
  have N5 := Fr.app N0 Nq5
  refine Goes.on (B := T5.setTop (mkF m 27 #[.val (.int p0), .val (.int p1), .val (.int p2), .val (.int p3), .val (.long za), .second, .val (.long zb), .second, .unset, .unset, .unset, .unset, .unset] [(.ref q), (.double (FP.l2d zb)), (.double (FP.l2d za)), (.ref b1), (.ref b1)])) (fun t k => st5 t k) ?_
  obtain ⟨_, _, ⟨T6, L6, k6, n6⟩, -, X6, hS6, hg6, ⟨Lc6, hQ6, l6, y6, z6⟩, st6⟩ := X5.specialBackS hx (y := (⟨"com/example/roadeq/roadeq/cost/CostModel", "<init>", "(DDLjava/util/Map;)V"⟩ : MethodName)) rfl hown (mvT hZ (hw _ (List.mem_of_getElem? (i := 10) rfl))) (mvT hZ (hw _ (List.mem_of_getElem? (i := 11) rfl))) (mvT hZ (hw _ (List.mem_of_getElem? (i := 12) rfl))) (by decide) (backOfS (W := 1) (rmci l Z a0 hw [] b1 (FP.l2d za) (FP.l2d zb) q h1 n0 z4 g_b1 A1 F1_tollFactor F1_distanceFactor F1_delayFunctions f3 (l2d_fin za) (own_c (own_b hza)) (l2d_fin zb) (own_c (own_b hzb))) hZ (hw _ (List.mem_of_getElem? (i := 12) rfl)) (hw _ (List.mem_of_getElem? (i := 3) rfl)) (by decide) (by decide)) (g := (mkF m 27 #[.val (.int p0), .val (.int p1), .val (.int p2), .val (.int p3), .val (.long za), .second, .val (.long zb), .second, .unset, .unset, .unset, .unset, .unset] [(.ref q), (.double (FP.l2d zb)), (.double (FP.l2d za)), (.ref b1), (.ref b1)])) rfl (by rw [hml]; rfl) (Steps.refl _) (a := b1) (argsL := [(.double (FP.l2d za)), (.double (FP.l2d zb)), (.ref q)]) (rest := [(.ref b1)]) (lenOf pd_0__DDLjava_util_Map__V rfl) rfl (by show 2 * 0 + _ ≤ _; exact Nat.le_of_eq rfl) (hb hby at_27) (fun _ _ => ⟨rfl, eh5, (by decide : 1 + 4 ≤ _), (by decide : 3 + 112 ≤ _)⟩)
  dsimp only [Pt.U, Pt.locs, Pt.cells, Pt.slots] at X6 l6 y6 z6 st6 hQ6 hS6 hg6
  subst l6 y6 z6
  have hZ : Z.Warmed39 (s.setVm T6.vm).vm := State.Warmed39.trans hZ hS6.1
  have hown : (s.setVm T6.vm).vm.findClass "com/example/roadeq/roadeq/cost/CostModelFixedCostPinLaw" = some m.cls := (hS6.1.alike.findClass _ _).trans hown
  obtain ⟨rfl, Nq6, Kq6, Eq6, Fq6, Gq6⟩ := hQ6
  obtain ⟨h6, eh6⟩ : ∃ h, T6.heap = h := ⟨_, rfl⟩
  rw [eh6] at Kq6 Eq6 Fq6 Gq6
  have f7 := f3.keep Kq6
  have f8 := A1.keep Kq6
  have z9 : n0 ≤ h6.size := Nat.le_trans z4 Kq6.1
  have hk6 : T6.heap.size ≤ h6.size := Nat.le_of_eq (by rw [eh6])
  have N6 := Fr.app N5 Nq6
  refine Goes.on (B := T6.setTop (mkF m 30 #[.val (.int p0), .val (.int p1), .val (.int p2), .val (.int p3), .val (.long za), .second, .val (.long zb), .second, .unset, .unset, .unset, .unset, .unset] [(.ref b1)])) (fun t k => st6.trans k) ?_
  refine Goes.on (B := T6.setTop (mkF m 32 #[.val (.int p0), .val (.int p1), .val (.int p2), .val (.int p3), .val (.long za), .second, .val (.long zb), .second, .val (.ref b1), .unset, .unset, .unset, .unset] [])) (fun _ k => XS.astore X6.here hx rfl (hb hby at_30) rfl rfl (l' := #[.val (.int p0), .val (.int p1), .val (.int p2), .val (.int p3), .val (.long za), .second, .val (.long zb), .second, .val (.ref b1), .unset, .unset, .unset, .unset]) rfl k) ?_
  refine Goes.on (B := T6.setTop (mkF m 34 #[.val (.int p0), .val (.int p1), .val (.int p2), .val (.int p3), .val (.long za), .second, .val (.long zb), .second, .val (.ref b1), .unset, .unset, .unset, .unset] [(.ref b1)])) (fun _ k => XS.aload X6.here hx rfl (hb hby at_32) rfl rfl  k) ?_
  refine Goes.on (B := T6.setTop (mkF m 35 #[.val (.int p0), .val (.int p1), .val (.int p2), .val (.int p3), .val (.long za), .second, .val (.long zb), .second, .val (.ref b1), .unset, .unset, .unset, .unset] [(.int p2), (.ref b1)])) (fun _ k => XS.iloadN X6.here hx rfl (hb hby at_34) rfl  k) ?_
  refine Goes.on (B := T6.setTop (mkF m 36 #[.val (.int p0), .val (.int p1), .val (.int p2), .val (.int p3), .val (.long za), .second, .val (.long zb), .second, .val (.ref b1), .unset, .unset, .unset, .unset] [(.double (FP.i2d p2)), (.ref b1)])) (fun _ k => XS.i2dS X6.here hx rfl (hb hby at_35) rfl rfl k) ?_
  refine Goes.on (B := T6.setTop (mkF m 37 #[.val (.int p0), .val (.int p1), .val (.int p2), .val (.int p3), .val (.long za), .second, .val (.long zb), .second, .val (.ref b1), .unset, .unset, .unset, .unset] [(.int p3), (.double (FP.i2d p2)), (.ref b1)])) (fun _ k => XS.iloadN X6.here hx rfl (hb hby at_36) rfl  k) ?_
  refine Goes.on (B := T6.setTop (mkF m 38 #[.val (.int p0), .val (.int p1), .val (.int p2), .val (.int p3), .val (.long za), .second, .val (.long zb), .second, .val (.ref b1), .unset, .unset, .unset, .unset] [(.double (FP.i2d p3)), (.double (FP.i2d p2)), (.ref b1)])) (fun _ k => XS.i2dS X6.here hx rfl (hb hby at_37) rfl rfl k) ?_
  obtain ⟨cq10, kq10, q10a, q10b, q10c⟩ := isOf hZ eh6 Eq6
  obtain ⟨_, _, ⟨T10, L10, k10, n10⟩, -, X10, ⟨Lc10, hQ10, l10, y10, z10⟩, st10⟩ := X6.virtualBack hx (y := (⟨"com/example/roadeq/roadeq/cost/CostModel", "fixedCost", "(DD)D"⟩ : MethodName)) (z := (⟨"com/example/roadeq/roadeq/cost/CostModel", "fixedCost", "(DD)D"⟩ : MethodName)) hown (mvT hZ (hw _ (List.mem_of_getElem? (i := 54) rfl))) (mvT hZ (hw _ (List.mem_of_getElem? (i := 55) rfl))) (notFace_of_selects (args := #[]) (mvT hZ (hw _ (List.mem_of_getElem? (i := 57) rfl)))) (mvT hZ (hw _ (List.mem_of_getElem? (i := 57) rfl))) (mvT hZ (hw _ (List.mem_of_getElem? (i := 56) rfl))) (by decide) (backOf (W := 0) (rmfc l Z a0 hw [] b1 (FP.i2d p2) (FP.i2d p3) (FP.l2d za) (FP.l2d zb) h6 n0 z9 Fq6 Gq6 (own_m hza p2).1 (own_m hzb p3).1 (own_s hza hzb p2 p3).1) hZ (hw _ (List.mem_of_getElem? (i := 58) rfl)) (hw _ (List.mem_of_getElem? (i := 3) rfl)) (by decide) (by decide)) q10a q10c (g := (mkF m 38 #[.val (.int p0), .val (.int p1), .val (.int p2), .val (.int p3), .val (.long za), .second, .val (.long zb), .second, .val (.ref b1), .unset, .unset, .unset, .unset] [(.double (FP.i2d p3)), (.double (FP.i2d p2)), (.ref b1)])) rfl (by rw [hml]; rfl) (Steps.refl _) (argsL := [(.double (FP.i2d p2)), (.double (FP.i2d p3))]) (rest := []) (lenOf pd_0__DD_D rfl) rfl (by show 2 * 0 + _ ≤ _; exact Nat.le_of_eq rfl) (hb hby at_38) (fun _ _ => ⟨rfl, eh6, (by decide : 5 + 0 ≤ _), (by decide : 115 + 0 ≤ _)⟩)
  dsimp only [Pt.U, Pt.locs, Pt.cells, Pt.slots] at X10 l10 y10 z10 st10 hQ10
  subst l10 y10 z10
  obtain ⟨rfl, Nq10, eh10⟩ := hQ10
  have N10 := Fr.app N6 Nq10
  refine Goes.on (B := T10.setTop (mkF m 41 #[.val (.int p0), .val (.int p1), .val (.int p2), .val (.int p3), .val (.long za), .second, .val (.long zb), .second, .val (.ref b1), .unset, .unset, .unset, .unset] [(.double (FP.dadd (FP.dmul (FP.l2d za) (FP.i2d p2)) (FP.dmul (FP.l2d zb) (FP.i2d p3))))])) (fun t k => st10.trans k) ?_
  refine Goes.on (B := T10.setTop (mkF m 43 #[.val (.int p0), .val (.int p1), .val (.int p2), .val (.int p3), .val (.long za), .second, .val (.long zb), .second, .val (.ref b1), .val (.double (FP.dadd (FP.dmul (FP.l2d za) (FP.i2d p2)) (FP.dmul (FP.l2d zb) (FP.i2d p3)))), .second, .unset, .unset] [])) (fun _ k => XS.dstore X10.here hx rfl (hb hby at_41) rfl (l' := #[.val (.int p0), .val (.int p1), .val (.int p2), .val (.int p3), .val (.long za), .second, .val (.long zb), .second, .val (.ref b1), .val (.double (FP.dadd (FP.dmul (FP.l2d za) (FP.i2d p2)) (FP.dmul (FP.l2d zb) (FP.i2d p3)))), .second, .unset, .unset]) rfl k) ?_
  refine Goes.on (B := T10.setTop (mkF m 45 #[.val (.int p0), .val (.int p1), .val (.int p2), .val (.int p3), .val (.long za), .second, .val (.long zb), .second, .val (.ref b1), .val (.double (FP.dadd (FP.dmul (FP.l2d za) (FP.i2d p2)) (FP.dmul (FP.l2d zb) (FP.i2d p3)))), .second, .unset, .unset] [(.long za)])) (fun _ k => XS.lload X10.here hx rfl (hb hby at_43) rfl  k) ?_
  refine Goes.on (B := T10.setTop (mkF m 46 #[.val (.int p0), .val (.int p1), .val (.int p2), .val (.int p3), .val (.long za), .second, .val (.long zb), .second, .val (.ref b1), .val (.double (FP.dadd (FP.dmul (FP.l2d za) (FP.i2d p2)) (FP.dmul (FP.l2d zb) (FP.i2d p3)))), .second, .unset, .unset] [(.int p2), (.long za)])) (fun _ k => XS.iloadN X10.here hx rfl (hb hby at_45) rfl  k) ?_
  refine Goes.on (B := T10.setTop (mkF m 47 #[.val (.int p0), .val (.int p1), .val (.int p2), .val (.int p3), .val (.long za), .second, .val (.long zb), .second, .val (.ref b1), .val (.double (FP.dadd (FP.dmul (FP.l2d za) (FP.i2d p2)) (FP.dmul (FP.l2d zb) (FP.i2d p3)))), .second, .unset, .unset] [(.long (p2.toInt64)), (.long za)])) (fun _ k => XS.i2l X10.here hx rfl (hb hby at_46) rfl k) ?_
  refine Goes.on (B := T10.setTop (mkF m 48 #[.val (.int p0), .val (.int p1), .val (.int p2), .val (.int p3), .val (.long za), .second, .val (.long zb), .second, .val (.ref b1), .val (.double (FP.dadd (FP.dmul (FP.l2d za) (FP.i2d p2)) (FP.dmul (FP.l2d zb) (FP.i2d p3)))), .second, .unset, .unset] [(.long (za * (p2.toInt64)))])) (fun _ k => XS.lmul X10.here hx rfl (hb hby at_47) rfl k) ?_
  refine Goes.on (B := T10.setTop (mkF m 50 #[.val (.int p0), .val (.int p1), .val (.int p2), .val (.int p3), .val (.long za), .second, .val (.long zb), .second, .val (.ref b1), .val (.double (FP.dadd (FP.dmul (FP.l2d za) (FP.i2d p2)) (FP.dmul (FP.l2d zb) (FP.i2d p3)))), .second, .unset, .unset] [(.long zb), (.long (za * (p2.toInt64)))])) (fun _ k => XS.lload X10.here hx rfl (hb hby at_48) rfl  k) ?_
  refine Goes.on (B := T10.setTop (mkF m 51 #[.val (.int p0), .val (.int p1), .val (.int p2), .val (.int p3), .val (.long za), .second, .val (.long zb), .second, .val (.ref b1), .val (.double (FP.dadd (FP.dmul (FP.l2d za) (FP.i2d p2)) (FP.dmul (FP.l2d zb) (FP.i2d p3)))), .second, .unset, .unset] [(.int p3), (.long zb), (.long (za * (p2.toInt64)))])) (fun _ k => XS.iloadN X10.here hx rfl (hb hby at_50) rfl  k) ?_
  refine Goes.on (B := T10.setTop (mkF m 52 #[.val (.int p0), .val (.int p1), .val (.int p2), .val (.int p3), .val (.long za), .second, .val (.long zb), .second, .val (.ref b1), .val (.double (FP.dadd (FP.dmul (FP.l2d za) (FP.i2d p2)) (FP.dmul (FP.l2d zb) (FP.i2d p3)))), .second, .unset, .unset] [(.long (p3.toInt64)), (.long zb), (.long (za * (p2.toInt64)))])) (fun _ k => XS.i2l X10.here hx rfl (hb hby at_51) rfl k) ?_
  refine Goes.on (B := T10.setTop (mkF m 53 #[.val (.int p0), .val (.int p1), .val (.int p2), .val (.int p3), .val (.long za), .second, .val (.long zb), .second, .val (.ref b1), .val (.double (FP.dadd (FP.dmul (FP.l2d za) (FP.i2d p2)) (FP.dmul (FP.l2d zb) (FP.i2d p3)))), .second, .unset, .unset] [(.long (zb * (p3.toInt64))), (.long (za * (p2.toInt64)))])) (fun _ k => XS.lmul X10.here hx rfl (hb hby at_52) rfl k) ?_
  refine Goes.on (B := T10.setTop (mkF m 54 #[.val (.int p0), .val (.int p1), .val (.int p2), .val (.int p3), .val (.long za), .second, .val (.long zb), .second, .val (.ref b1), .val (.double (FP.dadd (FP.dmul (FP.l2d za) (FP.i2d p2)) (FP.dmul (FP.l2d zb) (FP.i2d p3)))), .second, .unset, .unset] [(.long ((za * (p2.toInt64)) + (zb * (p3.toInt64))))])) (fun _ k => XS.ladd X10.here hx rfl (hb hby at_53) rfl k) ?_
  refine Goes.on (B := T10.setTop (mkF m 56 #[.val (.int p0), .val (.int p1), .val (.int p2), .val (.int p3), .val (.long za), .second, .val (.long zb), .second, .val (.ref b1), .val (.double (FP.dadd (FP.dmul (FP.l2d za) (FP.i2d p2)) (FP.dmul (FP.l2d zb) (FP.i2d p3)))), .second, .val (.long ((za * (p2.toInt64)) + (zb * (p3.toInt64)))), .second] [])) (fun _ k => XS.lstore X10.here hx rfl (hb hby at_54) rfl (l' := #[.val (.int p0), .val (.int p1), .val (.int p2), .val (.int p3), .val (.long za), .second, .val (.long zb), .second, .val (.ref b1), .val (.double (FP.dadd (FP.dmul (FP.l2d za) (FP.i2d p2)) (FP.dmul (FP.l2d zb) (FP.i2d p3)))), .second, .val (.long ((za * (p2.toInt64)) + (zb * (p3.toInt64)))), .second]) rfl k) ?_
  refine Goes.on (B := T10.setTop (mkF m 58 #[.val (.int p0), .val (.int p1), .val (.int p2), .val (.int p3), .val (.long za), .second, .val (.long zb), .second, .val (.ref b1), .val (.double (FP.dadd (FP.dmul (FP.l2d za) (FP.i2d p2)) (FP.dmul (FP.l2d zb) (FP.i2d p3)))), .second, .val (.long ((za * (p2.toInt64)) + (zb * (p3.toInt64)))), .second] [(.double (FP.dadd (FP.dmul (FP.l2d za) (FP.i2d p2)) (FP.dmul (FP.l2d zb) (FP.i2d p3))))])) (fun _ k => XS.dload X10.here hx rfl (hb hby at_56) rfl  k) ?_
  refine Goes.on (B := T10.setTop (mkF m 60 #[.val (.int p0), .val (.int p1), .val (.int p2), .val (.int p3), .val (.long za), .second, .val (.long zb), .second, .val (.ref b1), .val (.double (FP.dadd (FP.dmul (FP.l2d za) (FP.i2d p2)) (FP.dmul (FP.l2d zb) (FP.i2d p3)))), .second, .val (.long ((za * (p2.toInt64)) + (zb * (p3.toInt64)))), .second] [(.long ((za * (p2.toInt64)) + (zb * (p3.toInt64)))), (.double (FP.dadd (FP.dmul (FP.l2d za) (FP.i2d p2)) (FP.dmul (FP.l2d zb) (FP.i2d p3))))])) (fun _ k => XS.lload X10.here hx rfl (hb hby at_58) rfl  k) ?_
  refine Goes.on (B := T10.setTop (mkF m 61 #[.val (.int p0), .val (.int p1), .val (.int p2), .val (.int p3), .val (.long za), .second, .val (.long zb), .second, .val (.ref b1), .val (.double (FP.dadd (FP.dmul (FP.l2d za) (FP.i2d p2)) (FP.dmul (FP.l2d zb) (FP.i2d p3)))), .second, .val (.long ((za * (p2.toInt64)) + (zb * (p3.toInt64)))), .second] [(.double (FP.l2d ((za * (p2.toInt64)) + (zb * (p3.toInt64))))), (.double (FP.dadd (FP.dmul (FP.l2d za) (FP.i2d p2)) (FP.dmul (FP.l2d zb) (FP.i2d p3))))])) (fun _ k => XS.l2dS X10.here hx rfl (hb hby at_60) rfl rfl k) ?_
  refine Goes.on (B := T10.setTop (mkF m 62 #[.val (.int p0), .val (.int p1), .val (.int p2), .val (.int p3), .val (.long za), .second, .val (.long zb), .second, .val (.ref b1), .val (.double (FP.dadd (FP.dmul (FP.l2d za) (FP.i2d p2)) (FP.dmul (FP.l2d zb) (FP.i2d p3)))), .second, .val (.long ((za * (p2.toInt64)) + (zb * (p3.toInt64)))), .second] [(.int (cmpValue (FP.dcmp (FP.dadd (FP.dmul (FP.l2d za) (FP.i2d p2)) (FP.dmul (FP.l2d zb) (FP.i2d p3))) (FP.l2d ((za * (p2.toInt64)) + (zb * (p3.toInt64))))) .l))])) (fun _ k => XS.dcmpS X10.here hx rfl (hb hby at_61) rfl rfl k) ?_
  refine Goes.on (B := T10.setTop (mkF m 65 #[.val (.int p0), .val (.int p1), .val (.int p2), .val (.int p3), .val (.long za), .second, .val (.long zb), .second, .val (.ref b1), .val (.double (FP.dadd (FP.dmul (FP.l2d za) (FP.i2d p2)) (FP.dmul (FP.l2d zb) (FP.i2d p3)))), .second, .val (.long ((za * (p2.toInt64)) + (zb * (p3.toInt64)))), .second] [])) (fun _ k => XS.ifNo X10.here hx rfl (hb hby at_62) rfl ((if0 _ _).trans (teq (own_law hza hzb p2 p3)).2) k) ?_
  refine Goes.on (B := T10.setTop (mkF m 66 #[.val (.int p0), .val (.int p1), .val (.int p2), .val (.int p3), .val (.long za), .second, .val (.long zb), .second, .val (.ref b1), .val (.double (FP.dadd (FP.dmul (FP.l2d za) (FP.i2d p2)) (FP.dmul (FP.l2d zb) (FP.i2d p3)))), .second, .val (.long ((za * (p2.toInt64)) + (zb * (p3.toInt64)))), .second] [(.int (1 : Int32))])) (fun _ k => XS.iconst X10.here hx rfl (hb hby at_65) k) ?_
  refine Goes.on (B := T10.setTop (mkF m 70 #[.val (.int p0), .val (.int p1), .val (.int p2), .val (.int p3), .val (.long za), .second, .val (.long zb), .second, .val (.ref b1), .val (.double (FP.dadd (FP.dmul (FP.l2d za) (FP.i2d p2)) (FP.dmul (FP.l2d zb) (FP.i2d p3)))), .second, .val (.long ((za * (p2.toInt64)) + (zb * (p3.toInt64)))), .second] [(.int (1 : Int32))])) (fun _ k => XS.goto X10.here hx rfl (pc0 := 66) (pc' := 70) rfl (hb hby at_66) (by decide) (by decide) k) ?_
  obtain ⟨fs, hr, hrun, hended, hend⟩ := X10.leaveW hS6 (by rw [eh10]; first | exact hk6 | exact Nat.le_refl _) (v := some (.int (1 : Int32))) (fun h => by rw [Bd.returns] at h; cases h)
  exact Goes.leaf (retN X10 hx (t := .boolean) Bd.returns (by simp) (hb hby at_70) hr) hrun hended ⟨_, _, rfl, by show Q0 Z p0 p1 p2 p3 q h0 n0 _ T10.heap _; exact ⟨rfl, N10⟩, hend.1, hend.2.1, hend.2.2.1, hend.2.2.2.mono (by decide) (by decide)⟩
set_option maxRecDepth 65536 in
set_option maxHeartbeats 40000000 in
theorem comes_1 {Post : Tables → Env → Array Value → State → Outcome → State → Prop} (hpost : ∀ tb e args s v u, (limb_1_1.after args s (.returned v) u = true ∧ limb_1_2.after args s (.returned v) u = true ∧ True) → ReturnedEndW s (.returned v) u (Jvm.fieldLocs frame_1_writes args s ++ Jvm.arrayLocs frame_1_arrays args s ++ Jvm.staticLocs frame_1_statics s) 16 2176 → Post tb e args s (.returned v) u) :
    ArmFor flags0 classFile x code maxLocals ret World_1 tables_1 room_1 Calls_1 rest_1 Pre_1 Post := by
  intro l hfl _ _ p e ha hc hk s m args below hf hA hF happ hP
  obtain ⟨hcalls, hrest, hpre⟩ := hP
  obtain ⟨-, -, -, hnamed, -, -, -, hat⟩ := (Spec.applies_iff hf).mp happ
  obtain ⟨hg, hn⟩ := and_e (Cond.before_iff.mp (show (Jvm.Cond.and given_1 narrow_1).before args s = true from hpre))
  obtain ⟨hg0, hg0r⟩ := and_e hg
  obtain ⟨hg1, hg1r⟩ := and_e hg0r
  obtain ⟨hg2, hg2r⟩ := and_e hg1r
  obtain ⟨hg3, hg3r⟩ := and_e hg2r
  obtain ⟨w0, w1, w2, w3, rfl⟩ : ∃ w0 w1 w2 w3 : Value, args = #[w0, w1, w2, w3] := by
    have hs : args.size = 4 := by simpa [Cond.value, given_1] using hg0
    obtain ⟨L⟩ := args
    match L, hs with
    | [w0, w1, w2, w3], _ => exact ⟨w0, w1, w2, w3, rfl⟩
  have hw := fun d (hd : d ∈ tables_1) => atoms_spec (ws := Jvm.Cond.code x code maxLocals ret :: tables_1) hat d (List.mem_cons_of_mem _ hd)
  have hfit : Fit s := fun {y c} hc i hi => by
    obtain ⟨ha, rfl⟩ := Array.getElem?_eq_some_iff.mp hc
    have q := List.all_eq_true.mp ((Array.all_eq_true_iff_forall_mem.mp hF) _ (Array.getElem_mem ha)) i (List.mem_range.mpr hi)
    simpa [Array.getElem?_eq_getElem hi] using q
  obtain ⟨hsets, hown0⟩ := atoms_of _ (rest_1_c_eq ▸ (show rest_1_c.before _ s = true from hrest))
  have hr0 := Cond.before_iff.mp hown0
  obtain ⟨i0, ei0⟩ := is_v hg1
  obtain rfl : w0 = (.int i0) := Option.some.inj ei0
  obtain ⟨i1, ei1⟩ := is_v hg2
  obtain rfl : w1 = (.int i1) := Option.some.inj ei1
  obtain ⟨i2, ei2⟩ := is_v hg3
  obtain rfl : w2 = (.int i2) := Option.some.inj ei2
  obtain ⟨i3, ei3⟩ := is_v hg3r
  obtain rfl : w3 = (.int i3) := Option.some.inj ei3
  have hm2 := Cond.before_iff.mp (hsets _ (List.mem_of_getElem? (i := 2) rfl))
  obtain ⟨qm, eqm⟩ := exa_v hm2
  have SM : Sta s s.heap "java/util/ImmutableCollections" "EMPTY_MAP" "Ljava/util/ImmutableCollections$MapN;" (.ref qm) := Sta.start eqm (Or.inl (hsets _ (List.mem_of_getElem? (i := 1) rfl)))
  have EM := Exa.start eqm hm2
  obtain ⟨n, o, h1, h2, h3, _, L, rfl, ⟨rfl, N⟩, hq⟩ := rm0 l s _ hw tables_1 i0 i1 i2 i3 qm s.heap s.heap.size (Nat.le_refl _) SM EM p e ha hc hk s m _ below hf ((Spec.applies_iff_loose hf).mp happ).1 ⟨rfl, State.Warmed39.refl s, rfl⟩ trivial
  refine ⟨n, _, h1, h2, h3, hpost _ _ _ _ _ _ ⟨Cond.after_iff.mpr rfl, Cond.after_iff.mpr (eq_i res_at (Term.int_eval (1)) rfl), trivial⟩ ⟨hq.1, hq.2.1, hq.2.2.1, (hq.2.2.2.sift fun y hy => Or.inr (N y hy)).mono (by decide) (by decide)⟩⟩
theorem main_1_1 : Claimed_1_1 := comes_1 fun _ _ _ _ _ _ h hF => ⟨h.1, hF⟩
theorem main_1_2 : Claimed_1_2 := comes_1 fun _ _ _ _ _ _ h hF => ⟨h.2.1, hF⟩
end Jvm.Pilot.@@N@@
namespace Jvm.Pilot.@@N@@
open Jvm Jvm.ClassFile Sem Op Lib Jvm.Free Jvm.Stand Jvm.Pilot.@@N@@.Jvm.D
/-! MADE BY PROGRAM (witnessworld.py) out of the Statement's table words and the real class files: 25 classes; the members and pool entries that the words name. The judged class is class 1, her method 1. -/
namespace start1
open Jvm.ClassFile
def u (s : String) : CpInfo := .utf8 (stringToUtf16 s)
/-- a pool by its gaps: so many unusable entries, then the entry; so many at the end -/
def gap : Nat → List CpInfo → List CpInfo
  | 0, r => r
  | n + 1, r => .unusable :: gap n r
def poolList (es : List (Nat × CpInfo)) (last : Nat) : List CpInfo := es.foldr (fun e r => gap e.1 (e.2 :: r)) (gap last [])
def pool (es : List (Nat × CpInfo)) (last : Nat) : Array CpInfo := ⟨poolList es last⟩
def fileOf (pool : Array CpInfo) (this : Nat) (attrs : Array Attribute := #[]) (ms : Array MethodInfo := #[]) (fl : Nat := 33) (sup : Nat := 0) (ifs : Array Nat := #[]) (fds : Array FieldInfo := #[]) : ClassFile where
  minorVersion := 0
  majorVersion := 65
  constantPool := pool
  accessFlags := fl
  thisClass := this
  superClass := sup
  interfaces := ifs
  fields := fds
  methods := ms
  attributes := attrs
def plain (name : String) (sup : Option ClassId) : Class where
  name := name
  kind := .ordinary
  loader := none
  accessFlags := 33
  super := sup
  interfaces := #[]
  cf := none
  fields := #[]
  methods := #[]
  instanceTypes := #[]
  staticTypes := #[]
  resolved := #[]
  callSites := []
  init := .initialized
  statics := none
  mirror := none

def pool0 : Array CpInfo := pool [(5, u "<init>"), (0, u "()V"), (1, .class_ 10), (1, u "java/lang/Object")] 113

def k0c0 : Code := { maxStack := 0, maxLocals := 1, code := object_method_1_code, exceptionTable := #[], attributes := #[] }
def k0m0 : Method := { name := "<init>", desc := "()V", sig := { parameters := [], returnType := none }, accessFlags := 1, code := some k0c0 }
/-- java/lang/Object -/
def k0 : Class := { plain "java/lang/Object" none with
  accessFlags := 33
  interfaces := #[]
  cf := some (fileOf pool0 8 #[] #[{ accessFlags := 1, nameIndex := 5, descriptorIndex := 6, attributes := #[] }] 33 0 #[] #[])
  fields := #[]
  methods := #[k0m0]
  instanceTypes := #[]
  staticTypes := #[]
  resolved := Array.replicate 124 none
  statics := none }

def pool1 : Array CpInfo := pool [(2, .class_ 4), (1, u "java/lang/Object"), (0, u "<init>"), (0, u "()V"), (0, .integer 1048575), (0, .class_ 9), (0, u "com/example/roadeq/roadeq/cost/CostModel"), (0, .interfaceMethodref 11 12), (0, .class_ 13), (0, .nameAndType 14 15), (0, u "java/util/Map"), (0, u "of"), (0, u "()Ljava/util/Map;"), (0, .methodref 8 17), (0, .nameAndType 5 18), (0, u "(DDLjava/util/Map;)V"), (0, .methodref 8 20), (0, .nameAndType 21 22), (0, u "fixedCost"), (0, u "(DD)D"), (0, .class_ 24), (0, u "com/example/roadeq/roadeq/cost/CostModelFixedCostPinLaw"), (2, u "law"), (0, u "(IIII)Z")] 3

def k1m0 : Method := { name := "<init>", desc := "()V", sig := { parameters := [], returnType := none }, accessFlags := 1, code := none }
def k1c1 : Code := { maxStack := 7, maxLocals := 13, code := code, exceptionTable := #[], attributes := #[] }
def k1m1 : Method := { name := "law", desc := "(IIII)Z", sig := { parameters := [.int, .int, .int, .int], returnType := some .boolean }, accessFlags := 9, code := some k1c1 }
/-- com/example/roadeq/roadeq/cost/CostModelFixedCostPinLaw -/
def k1 : Class := { plain "com/example/roadeq/roadeq/cost/CostModelFixedCostPinLaw" (some 0) with
  accessFlags := 49
  interfaces := #[]
  cf := some (fileOf pool1 23 #[] #[{ accessFlags := 1, nameIndex := 5, descriptorIndex := 6, attributes := #[] }, { accessFlags := 9, nameIndex := 27, descriptorIndex := 28, attributes := #[] }] 49 2 #[] #[])
  fields := #[]
  methods := #[k1m0, k1m1]
  instanceTypes := #[]
  staticTypes := #[]
  resolved := Array.replicate 32 none
  statics := none }

def pool2 : Array CpInfo := pool [(1, .methodref 2 3), (0, .class_ 4), (0, .nameAndType 5 6), (0, u "java/lang/Object"), (0, u "<init>"), (0, u "()V"), (0, .class_ 8), (0, u "java/lang/Record")] 13

def k2c0 : Code := { maxStack := 1, maxLocals := 1, code := jdk_30_method_1_code, exceptionTable := #[], attributes := #[] }
def k2m0 : Method := { name := "<init>", desc := "()V", sig := { parameters := [], returnType := none }, accessFlags := 4, code := some k2c0 }
/-- java/lang/Record -/
def k2 : Class := { plain "java/lang/Record" (some 0) with
  accessFlags := 1057
  interfaces := #[]
  cf := some (fileOf pool2 7 #[] #[{ accessFlags := 4, nameIndex := 5, descriptorIndex := 6, attributes := #[] }] 1057 2 #[] #[])
  fields := #[]
  methods := #[k2m0]
  instanceTypes := #[]
  staticTypes := #[]
  resolved := Array.replicate 22 none
  statics := none }

def pool3 : Array CpInfo := pool [(1, .methodref 2 3), (0, .class_ 4), (0, .nameAndType 5 6), (0, u "java/lang/Record"), (0, u "<init>"), (0, u "()V"), (0, .string 8), (0, u "toll factor"), (0, .methodref 10 11), (0, .class_ 12), (0, .nameAndType 13 14), (0, u "com/example/roadeq/roadeq/cost/Ranges"), (0, u "requireFiniteAtLeastZero"), (0, u "(Ljava/lang/String;D)V"), (0, .string 16), (0, u "distance factor"), (0, .interfaceMethodref 18 19), (0, .class_ 20), (0, .nameAndType 21 22), (0, u "java/util/Map"), (0, u "copyOf"), (0, u "(Ljava/util/Map;)Ljava/util/Map;"), (0, .fieldref 24 25), (0, .class_ 26), (0, .nameAndType 27 28), (0, u "com/example/roadeq/roadeq/cost/CostModel"), (0, u "tollFactor"), (0, u "D"), (0, .fieldref 24 30), (0, .nameAndType 31 28), (0, u "distanceFactor"), (0, .fieldref 24 33), (0, .nameAndType 34 35), (0, u "delayFunctions"), (0, u "Ljava/util/Map;"), (39, u "(DDLjava/util/Map;)V"), (2, u "TIME"), (0, u "Lcom/example/roadeq/roadeq/cost/CostModel;"), (10, u "fixedCost"), (0, u "(DD)D")] 28

def k3c0 : Code := { maxStack := 3, maxLocals := 6, code := prog_53_method_1_code, exceptionTable := #[], attributes := #[] }
def k3m0 : Method := { name := "<init>", desc := "(DDLjava/util/Map;)V", sig := { parameters := [.double, .double, (.object "java/util/Map")], returnType := none }, accessFlags := 1, code := some k3c0 }
def k3c1 : Code := { maxStack := 6, maxLocals := 5, code := prog_53_method_3_code, exceptionTable := #[], attributes := #[] }
def k3m1 : Method := { name := "fixedCost", desc := "(DD)D", sig := { parameters := [.double, .double], returnType := some .double }, accessFlags := 1, code := some k3c1 }
/-- com/example/roadeq/roadeq/cost/CostModel -/
def k3 : Class := { plain "com/example/roadeq/roadeq/cost/CostModel" (some 2) with
  accessFlags := 49
  interfaces := #[]
  cf := some (fileOf pool3 24 #[] #[{ accessFlags := 1, nameIndex := 5, descriptorIndex := 75, attributes := #[] }, { accessFlags := 1, nameIndex := 90, descriptorIndex := 91, attributes := #[] }] 49 2 #[] #[{ accessFlags := 18, nameIndex := 27, descriptorIndex := 28, attributes := #[] }, { accessFlags := 18, nameIndex := 31, descriptorIndex := 28, attributes := #[] }, { accessFlags := 18, nameIndex := 34, descriptorIndex := 35, attributes := #[] }, { accessFlags := 25, nameIndex := 78, descriptorIndex := 79, attributes := #[] }])
  fields := #[{ name := "tollFactor", type := .double, accessFlags := 18, slot := 0, constantValue := 0 }, { name := "distanceFactor", type := .double, accessFlags := 18, slot := 1, constantValue := 0 }, { name := "delayFunctions", type := (.object "java/util/Map"), accessFlags := 18, slot := 2, constantValue := 0 }, { name := "TIME", type := (.object "com/example/roadeq/roadeq/cost/CostModel"), accessFlags := 25, slot := 0, constantValue := 0 }]
  methods := #[k3m0, k3m1]
  instanceTypes := #[.double, .double, (.object "java/util/Map")]
  staticTypes := #[(.object "com/example/roadeq/roadeq/cost/CostModel")]
  resolved := Array.replicate 120 none
  statics := none }

def pool4 : Array CpInfo := pool [(2, .class_ 4), (1, u "java/util/Map"), (31, .class_ 37), (0, u "java/util/Map$Entry"), (43, .fieldref 82 83), (0, .class_ 84), (0, .nameAndType 85 86), (0, u "java/util/ImmutableCollections"), (0, u "EMPTY_MAP"), (0, u "Ljava/util/ImmutableCollections$MapN;"), (6, .class_ 94), (0, u "java/lang/Object"), (6, .class_ 102), (0, u "java/util/ImmutableCollections$AbstractImmutableMap"), (5, u "of"), (0, u "()Ljava/util/Map;"), (140, u "copyOf"), (0, u "(Ljava/util/Map;)Ljava/util/Map;")] 11

def k4c0 : Code := { maxStack := 1, maxLocals := 0, code := jdk_72_method_26_code, exceptionTable := #[], attributes := #[] }
def k4m0 : Method := { name := "of", desc := "()Ljava/util/Map;", sig := { parameters := [], returnType := some (.object "java/util/Map") }, accessFlags := 9, code := some k4c0 }
def k4c1 : Code := { maxStack := 2, maxLocals := 1, code := jdk_72_method_39_code, exceptionTable := #[], attributes := #[] }
def k4m1 : Method := { name := "copyOf", desc := "(Ljava/util/Map;)Ljava/util/Map;", sig := { parameters := [(.object "java/util/Map")], returnType := some (.object "java/util/Map") }, accessFlags := 9, code := some k4c1 }
/-- java/util/Map -/
def k4 : Class := { plain "java/util/Map" (some 0) with
  accessFlags := 1537
  interfaces := #[]
  cf := some (fileOf pool4 2 #[.nestMembers #[36]] #[{ accessFlags := 9, nameIndex := 108, descriptorIndex := 109, attributes := #[] }, { accessFlags := 9, nameIndex := 250, descriptorIndex := 251, attributes := #[] }] 1537 93 #[] #[])
  fields := #[]
  methods := #[k4m0, k4m1]
  instanceTypes := #[]
  staticTypes := #[]
  resolved := Array.replicate 263 none
  statics := none }

def pool5 : Array CpInfo := pool [(2, .class_ 4), (1, u "java/lang/Object"), (0, u "<init>"), (0, u "()V"), (3, .class_ 11), (0, u "java/util/ImmutableCollections$List12"), (0, .class_ 13), (0, u "java/util/ImmutableCollections$ListN"), (3, u "Z"), (29, .class_ 49), (1, u "java/util/ImmutableCollections"), (0, u "$assertionsDisabled"), (5, u "[Ljava/lang/Object;"), (5, u "EMPTY_LIST"), (0, u "Ljava/util/ImmutableCollections$ListN;"), (8, u "EMPTY_LIST_NULLS"), (22, u "SALT32L"), (0, u "J"), (2, u "REVERSE"), (6, u "archivedObjects"), (2, u "EMPTY"), (0, u "Ljava/lang/Object;"), (0, .class_ 112), (0, u "java/util/ImmutableCollections$SetN"), (5, u "EMPTY_SET"), (0, u "Ljava/util/ImmutableCollections$SetN;"), (0, .class_ 121), (0, u "java/util/ImmutableCollections$MapN"), (3, u "EMPTY_MAP"), (0, u "Ljava/util/ImmutableCollections$MapN;"), (4, u "EXPAND_FACTOR"), (0, u "I"), (36, .class_ 170), (0, u "java/util/ImmutableCollections$MapN$MapNIterator"), (0, .class_ 172), (0, u "java/util/ImmutableCollections$MapN$1"), (0, .class_ 174), (0, u "java/util/ImmutableCollections$Map1"), (0, .class_ 176), (0, u "java/util/ImmutableCollections$AbstractImmutableMap"), (0, .class_ 178), (0, u "java/util/ImmutableCollections$SetN$SetNIterator"), (0, .class_ 180), (0, u "java/util/ImmutableCollections$Set12"), (0, .class_ 182), (0, u "java/util/ImmutableCollections$Set12$1"), (0, .class_ 184), (0, u "java/util/ImmutableCollections$AbstractImmutableSet"), (0, .class_ 186), (0, u "java/util/ImmutableCollections$SubList"), (0, .class_ 188), (0, u "java/util/ImmutableCollections$ListItr"), (0, .class_ 190), (0, u "java/util/ImmutableCollections$AbstractImmutableList"), (0, .class_ 192), (0, u "java/util/ImmutableCollections$AbstractImmutableCollection"), (0, .class_ 194), (0, u "java/util/ImmutableCollections$Access"), (0, .class_ 196), (0, u "java/util/ImmutableCollections$Access$1")] 16

def k5m0 : Method := { name := "<init>", desc := "()V", sig := { parameters := [], returnType := none }, accessFlags := 2, code := none }
/-- java/util/ImmutableCollections -/
def k5 : Class := { plain "java/util/ImmutableCollections" (some 0) with
  accessFlags := 32
  interfaces := #[]
  cf := some (fileOf pool5 47 #[.nestMembers #[120, 169, 171, 173, 175, 111, 177, 179, 181, 183, 12, 10, 185, 187, 189, 191, 193, 195]] #[{ accessFlags := 2, nameIndex := 5, descriptorIndex := 6, attributes := #[] }] 32 2 #[] #[{ accessFlags := 26, nameIndex := 95, descriptorIndex := 96, attributes := #[] }, { accessFlags := 26, nameIndex := 99, descriptorIndex := 17, attributes := #[] }, { accessFlags := 10, nameIndex := 106, descriptorIndex := 56, attributes := #[] }, { accessFlags := 26, nameIndex := 109, descriptorIndex := 110, attributes := #[] }, { accessFlags := 24, nameIndex := 62, descriptorIndex := 63, attributes := #[] }, { accessFlags := 24, nameIndex := 72, descriptorIndex := 63, attributes := #[] }, { accessFlags := 24, nameIndex := 118, descriptorIndex := 119, attributes := #[] }, { accessFlags := 24, nameIndex := 125, descriptorIndex := 126, attributes := #[] }, { accessFlags := 24, nameIndex := 131, descriptorIndex := 132, attributes := #[] }, { accessFlags := 4120, nameIndex := 50, descriptorIndex := 17, attributes := #[] }])
  fields := #[{ name := "SALT32L", type := .long, accessFlags := 26, slot := 0, constantValue := 0 }, { name := "REVERSE", type := .boolean, accessFlags := 26, slot := 1, constantValue := 0 }, { name := "archivedObjects", type := (.array (.object "java/lang/Object")), accessFlags := 10, slot := 2, constantValue := 0 }, { name := "EMPTY", type := (.object "java/lang/Object"), accessFlags := 26, slot := 3, constantValue := 0 }, { name := "EMPTY_LIST", type := (.object "java/util/ImmutableCollections$ListN"), accessFlags := 24, slot := 4, constantValue := 0 }, { name := "EMPTY_LIST_NULLS", type := (.object "java/util/ImmutableCollections$ListN"), accessFlags := 24, slot := 5, constantValue := 0 }, { name := "EMPTY_SET", type := (.object "java/util/ImmutableCollections$SetN"), accessFlags := 24, slot := 6, constantValue := 0 }, { name := "EMPTY_MAP", type := (.object "java/util/ImmutableCollections$MapN"), accessFlags := 24, slot := 7, constantValue := 0 }, { name := "EXPAND_FACTOR", type := .int, accessFlags := 24, slot := 8, constantValue := 0 }, { name := "$assertionsDisabled", type := .boolean, accessFlags := 4120, slot := 9, constantValue := 0 }]
  methods := #[k5m0]
  instanceTypes := #[]
  staticTypes := #[.long, .boolean, (.array (.object "java/lang/Object")), (.object "java/lang/Object"), (.object "java/util/ImmutableCollections$ListN"), (.object "java/util/ImmutableCollections$ListN"), (.object "java/util/ImmutableCollections$SetN"), (.object "java/util/ImmutableCollections$MapN"), .int, .boolean]
  resolved := Array.replicate 213 none
  statics := some 0 }

def pool6 : Array CpInfo := pool [(1, .class_ 2), (0, u "java/io/Serializable"), (0, .class_ 4), (0, u "java/lang/Object")] 2

/-- java/io/Serializable -/
def k6 : Class := { plain "java/io/Serializable" (some 0) with
  accessFlags := 1537
  interfaces := #[]
  cf := some (fileOf pool6 1 #[] #[] 1537 3 #[] #[])
  fields := #[]
  methods := #[]
  instanceTypes := #[]
  staticTypes := #[]
  resolved := Array.replicate 7 none
  statics := none }

def pool7 : Array CpInfo := pool [(1, .class_ 2), (0, u "java/lang/Comparable"), (0, .class_ 4), (0, u "java/lang/Object")] 7

/-- java/lang/Comparable -/
def k7 : Class := { plain "java/lang/Comparable" (some 0) with
  accessFlags := 1537
  interfaces := #[]
  cf := some (fileOf pool7 1 #[] #[] 1537 3 #[] #[])
  fields := #[]
  methods := #[]
  instanceTypes := #[]
  staticTypes := #[]
  resolved := Array.replicate 12 none
  statics := none }

def pool8 : Array CpInfo := pool [(2, .class_ 4), (1, u "java/lang/CharSequence"), (42, .class_ 48), (0, u "java/lang/CharSequence$1CodePointIterator"), (10, .class_ 60), (0, u "java/lang/CharSequence$1CharIterator"), (5, .class_ 67), (0, u "java/lang/Object")] 63

/-- java/lang/CharSequence -/
def k8 : Class := { plain "java/lang/CharSequence" (some 0) with
  accessFlags := 1537
  interfaces := #[]
  cf := some (fileOf pool8 2 #[.nestMembers #[47, 59]] #[] 1537 66 #[] #[])
  fields := #[]
  methods := #[]
  instanceTypes := #[]
  staticTypes := #[]
  resolved := Array.replicate 131 none
  statics := none }

def pool9 : Array CpInfo := pool [(1, .class_ 2), (0, u "java/lang/constant/Constable"), (0, .class_ 4), (0, u "java/lang/Object")] 6

/-- java/lang/constant/Constable -/
def k9 : Class := { plain "java/lang/constant/Constable" (some 0) with
  accessFlags := 1537
  interfaces := #[]
  cf := some (fileOf pool9 1 #[] #[] 1537 3 #[] #[])
  fields := #[]
  methods := #[]
  instanceTypes := #[]
  staticTypes := #[]
  resolved := Array.replicate 11 none
  statics := none }

def pool10 : Array CpInfo := pool [(1, .class_ 2), (0, u "java/lang/constant/ConstantDesc"), (0, .class_ 4), (0, u "java/lang/Object")] 32

/-- java/lang/constant/ConstantDesc -/
def k10 : Class := { plain "java/lang/constant/ConstantDesc" (some 0) with
  accessFlags := 1537
  interfaces := #[]
  cf := some (fileOf pool10 1 #[] #[] 1537 3 #[] #[])
  fields := #[]
  methods := #[]
  instanceTypes := #[]
  staticTypes := #[]
  resolved := Array.replicate 37 none
  statics := none }

def pool11 : Array CpInfo := pool [(2, .class_ 4), (1, u "java/lang/Object"), (0, u "<init>"), (0, u "()V"), (3, .class_ 12), (1, u "java/lang/String"), (0, u "value"), (0, u "[B"), (2, u "coder"), (0, u "B"), (2, u "hash"), (0, u "I"), (2, u "hashIsZero"), (0, u "Z"), (13, u "COMPACT_STRINGS"), (534, .class_ 576), (0, u "java/lang/CharSequence"), (22, u "CASE_INSENSITIVE_ORDER"), (0, u "Ljava/util/Comparator;"), (500, u "serialPersistentFields"), (0, u "[Ljava/io/ObjectStreamField;"), (0, .class_ 1104), (0, u "java/lang/String$CaseInsensitiveComparator"), (1, .class_ 1107), (0, u "java/io/Serializable"), (0, .class_ 1109), (0, u "java/lang/Comparable"), (0, .class_ 1111), (0, u "java/lang/constant/Constable"), (0, .class_ 1113), (0, u "java/lang/constant/ConstantDesc"), (2, u "serialVersionUID"), (0, u "J"), (3, u "REPL"), (0, u "C"), (2, u "LATIN1"), (1, u "UTF16")] 323

def k11m0 : Method := { name := "<init>", desc := "()V", sig := { parameters := [], returnType := none }, accessFlags := 1, code := none }
/-- java/lang/String -/
def k11 : Class := { plain "java/lang/String" (some 0) with
  accessFlags := 49
  interfaces := #[6, 7, 8, 9, 10]
  cf := some (fileOf pool11 10 #[.nestMembers #[1103]] #[{ accessFlags := 1, nameIndex := 5, descriptorIndex := 6, attributes := #[] }] 49 2 #[1106, 1108, 575, 1110, 1112] #[{ accessFlags := 18, nameIndex := 13, descriptorIndex := 14, attributes := #[] }, { accessFlags := 18, nameIndex := 17, descriptorIndex := 18, attributes := #[] }, { accessFlags := 2, nameIndex := 21, descriptorIndex := 22, attributes := #[] }, { accessFlags := 2, nameIndex := 25, descriptorIndex := 26, attributes := #[] }, { accessFlags := 26, nameIndex := 1116, descriptorIndex := 1117, attributes := #[] }, { accessFlags := 24, nameIndex := 40, descriptorIndex := 26, attributes := #[] }, { accessFlags := 26, nameIndex := 1101, descriptorIndex := 1102, attributes := #[] }, { accessFlags := 26, nameIndex := 1121, descriptorIndex := 1122, attributes := #[] }, { accessFlags := 25, nameIndex := 599, descriptorIndex := 600, attributes := #[] }, { accessFlags := 24, nameIndex := 1125, descriptorIndex := 18, attributes := #[] }, { accessFlags := 24, nameIndex := 1127, descriptorIndex := 18, attributes := #[] }])
  fields := #[{ name := "value", type := (.array .byte), accessFlags := 18, slot := 0, constantValue := 0 }, { name := "coder", type := .byte, accessFlags := 18, slot := 1, constantValue := 0 }, { name := "hash", type := .int, accessFlags := 2, slot := 2, constantValue := 0 }, { name := "hashIsZero", type := .boolean, accessFlags := 2, slot := 3, constantValue := 0 }, { name := "serialVersionUID", type := .long, accessFlags := 26, slot := 0, constantValue := 0 }, { name := "COMPACT_STRINGS", type := .boolean, accessFlags := 24, slot := 1, constantValue := 0 }, { name := "serialPersistentFields", type := (.array (.object "java/io/ObjectStreamField")), accessFlags := 26, slot := 2, constantValue := 0 }, { name := "REPL", type := .char, accessFlags := 26, slot := 3, constantValue := 0 }, { name := "CASE_INSENSITIVE_ORDER", type := (.object "java/util/Comparator"), accessFlags := 25, slot := 4, constantValue := 0 }, { name := "LATIN1", type := .byte, accessFlags := 24, slot := 5, constantValue := 0 }, { name := "UTF16", type := .byte, accessFlags := 24, slot := 6, constantValue := 0 }]
  methods := #[k11m0]
  instanceTypes := #[(.array .byte), .byte, .int, .boolean]
  staticTypes := #[.long, .boolean, (.array (.object "java/io/ObjectStreamField")), .char, (.object "java/util/Comparator"), .byte, .byte]
  resolved := Array.replicate 1451 none
  statics := none }

def pool12 : Array CpInfo := pool [(2, .class_ 4), (1, u "java/lang/Object"), (0, u "<init>"), (0, u "()V"), (0, .methodref 8 9), (0, .class_ 10), (0, .nameAndType 11 12), (0, u "java/lang/Double"), (0, u "isFinite"), (0, u "(D)Z"), (18, .class_ 33), (1, u "com/example/roadeq/roadeq/cost/Ranges"), (0, u "requireFiniteAtLeastZero"), (0, u "(Ljava/lang/String;D)V")] 31

def k12m0 : Method := { name := "<init>", desc := "()V", sig := { parameters := [], returnType := none }, accessFlags := 2, code := none }
def k12c1 : Code := { maxStack := 5, maxLocals := 3, code := prog_60_method_2_code, exceptionTable := #[], attributes := #[] }
def k12m1 : Method := { name := "requireFiniteAtLeastZero", desc := "(Ljava/lang/String;D)V", sig := { parameters := [(.object "java/lang/String"), .double], returnType := none }, accessFlags := 8, code := some k12c1 }
/-- com/example/roadeq/roadeq/cost/Ranges -/
def k12 : Class := { plain "com/example/roadeq/roadeq/cost/Ranges" (some 0) with
  accessFlags := 48
  interfaces := #[]
  cf := some (fileOf pool12 31 #[] #[{ accessFlags := 2, nameIndex := 5, descriptorIndex := 6, attributes := #[] }, { accessFlags := 8, nameIndex := 34, descriptorIndex := 35, attributes := #[] }] 48 2 #[] #[])
  fields := #[]
  methods := #[k12m0, k12m1]
  instanceTypes := #[]
  staticTypes := #[]
  resolved := Array.replicate 67 none
  statics := none }

def pool13 : Array CpInfo := pool [(2, .class_ 4), (1, u "java/lang/Object"), (0, u "<init>"), (0, u "()V"), (1, .class_ 10), (1, u "java/lang/Number"), (2, .class_ 14), (0, u "java/io/Serializable"), (0, u "serialVersionUID"), (0, u "J")] 20

def k13m0 : Method := { name := "<init>", desc := "()V", sig := { parameters := [], returnType := none }, accessFlags := 1, code := none }
/-- java/lang/Number -/
def k13 : Class := { plain "java/lang/Number" (some 0) with
  accessFlags := 1057
  interfaces := #[6]
  cf := some (fileOf pool13 8 #[] #[{ accessFlags := 1, nameIndex := 5, descriptorIndex := 6, attributes := #[] }] 1057 2 #[13] #[{ accessFlags := 26, nameIndex := 15, descriptorIndex := 16, attributes := #[] }])
  fields := #[{ name := "serialVersionUID", type := .long, accessFlags := 26, slot := 0, constantValue := 0 }]
  methods := #[k13m0]
  instanceTypes := #[]
  staticTypes := #[.long]
  resolved := Array.replicate 37 none
  statics := none }

def pool14 : Array CpInfo := pool [(1, .class_ 2), (0, u "java/lang/Double"), (10, u "isFinite"), (0, u "(D)Z"), (8, .class_ 25), (1, u "java/lang/Math"), (12, .methodref 23 39), (0, .nameAndType 40 41), (0, u "abs"), (0, u "(D)D"), (69, .double 9218868437227405311), (2, .class_ 116), (1, u "java/lang/Number"), (3, u "value"), (0, u "D"), (51, u "TYPE"), (0, u "Ljava/lang/Class;"), (0, .class_ 176), (0, u "java/lang/Comparable"), (0, .class_ 178), (0, u "java/lang/constant/Constable"), (0, .class_ 180), (0, u "java/lang/constant/ConstantDesc"), (0, u "POSITIVE_INFINITY"), (3, u "NEGATIVE_INFINITY"), (2, u "NaN"), (2, u "MAX_VALUE"), (0, u "MIN_NORMAL"), (0, u "MIN_VALUE"), (2, u "SIZE"), (0, u "I"), (1, u "PRECISION"), (1, u "MAX_EXPONENT"), (1, u "MIN_EXPONENT"), (1, u "BYTES"), (3, u "serialVersionUID"), (0, u "J")] 79

def k14c0 : Code := { maxStack := 4, maxLocals := 2, code := jdk_117_method_8_code, exceptionTable := #[], attributes := #[] }
def k14m0 : Method := { name := "isFinite", desc := "(D)Z", sig := { parameters := [.double], returnType := some .boolean }, accessFlags := 9, code := some k14c0 }
/-- java/lang/Double -/
def k14 : Class := { plain "java/lang/Double" (some 13) with
  accessFlags := 49
  interfaces := #[7, 9, 10]
  cf := some (fileOf pool14 1 #[] #[{ accessFlags := 9, nameIndex := 13, descriptorIndex := 14, attributes := #[] }] 49 114 #[175, 177, 179] #[{ accessFlags := 25, nameIndex := 181, descriptorIndex := 121, attributes := #[] }, { accessFlags := 25, nameIndex := 185, descriptorIndex := 121, attributes := #[] }, { accessFlags := 25, nameIndex := 188, descriptorIndex := 121, attributes := #[] }, { accessFlags := 25, nameIndex := 191, descriptorIndex := 121, attributes := #[] }, { accessFlags := 25, nameIndex := 192, descriptorIndex := 121, attributes := #[] }, { accessFlags := 25, nameIndex := 193, descriptorIndex := 121, attributes := #[] }, { accessFlags := 25, nameIndex := 196, descriptorIndex := 197, attributes := #[] }, { accessFlags := 25, nameIndex := 199, descriptorIndex := 197, attributes := #[] }, { accessFlags := 25, nameIndex := 201, descriptorIndex := 197, attributes := #[] }, { accessFlags := 25, nameIndex := 203, descriptorIndex := 197, attributes := #[] }, { accessFlags := 25, nameIndex := 205, descriptorIndex := 197, attributes := #[] }, { accessFlags := 25, nameIndex := 173, descriptorIndex := 174, attributes := #[] }, { accessFlags := 18, nameIndex := 120, descriptorIndex := 121, attributes := #[] }, { accessFlags := 26, nameIndex := 209, descriptorIndex := 210, attributes := #[] }])
  fields := #[{ name := "POSITIVE_INFINITY", type := .double, accessFlags := 25, slot := 0, constantValue := 0 }, { name := "NEGATIVE_INFINITY", type := .double, accessFlags := 25, slot := 1, constantValue := 0 }, { name := "NaN", type := .double, accessFlags := 25, slot := 2, constantValue := 0 }, { name := "MAX_VALUE", type := .double, accessFlags := 25, slot := 3, constantValue := 0 }, { name := "MIN_NORMAL", type := .double, accessFlags := 25, slot := 4, constantValue := 0 }, { name := "MIN_VALUE", type := .double, accessFlags := 25, slot := 5, constantValue := 0 }, { name := "SIZE", type := .int, accessFlags := 25, slot := 6, constantValue := 0 }, { name := "PRECISION", type := .int, accessFlags := 25, slot := 7, constantValue := 0 }, { name := "MAX_EXPONENT", type := .int, accessFlags := 25, slot := 8, constantValue := 0 }, { name := "MIN_EXPONENT", type := .int, accessFlags := 25, slot := 9, constantValue := 0 }, { name := "BYTES", type := .int, accessFlags := 25, slot := 10, constantValue := 0 }, { name := "TYPE", type := (.object "java/lang/Class"), accessFlags := 25, slot := 11, constantValue := 0 }, { name := "value", type := .double, accessFlags := 18, slot := 0, constantValue := 0 }, { name := "serialVersionUID", type := .long, accessFlags := 26, slot := 12, constantValue := 0 }]
  methods := #[k14m0]
  instanceTypes := #[.double]
  staticTypes := #[.double, .double, .double, .double, .double, .double, .int, .int, .int, .int, .int, (.object "java/lang/Class"), .long]
  resolved := Array.replicate 290 none
  statics := none }

def pool15 : Array CpInfo := pool [(1, .class_ 2), (0, u "java/lang/Math"), (1, .class_ 6), (1, u "java/lang/Object"), (0, u "<init>"), (0, u "()V"), (5, u "(D)D"), (83, .class_ 100), (1, u "java/lang/Math$RandomNumberGeneratorHolder"), (23, u "abs"), (47, u "negativeZeroFloatBits"), (0, u "J"), (2, u "negativeZeroDoubleBits"), (68, u "$assertionsDisabled"), (0, u "Z"), (91, u "twoToTheDoubleScaleDown"), (0, u "D"), (4, u "twoToTheDoubleScaleUp"), (9, u "E"), (3, u "PI"), (2, u "TAU"), (2, u "DEGREES_TO_RADIANS"), (0, u "RADIANS_TO_DEGREES")] 94

def k15m0 : Method := { name := "<init>", desc := "()V", sig := { parameters := [], returnType := none }, accessFlags := 2, code := none }
def k15c1 : Code := { maxStack := 4, maxLocals := 2, code := jdk_29_method_64_code, exceptionTable := #[], attributes := #[] }
def k15m1 : Method := { name := "abs", desc := "(D)D", sig := { parameters := [.double], returnType := some .double }, accessFlags := 9, code := some k15c1 }
/-- java/lang/Math -/
def k15 : Class := { plain "java/lang/Math" (some 0) with
  accessFlags := 49
  interfaces := #[]
  cf := some (fileOf pool15 1 #[.nestMembers #[98]] #[{ accessFlags := 2, nameIndex := 7, descriptorIndex := 8, attributes := #[] }, { accessFlags := 9, nameIndex := 124, descriptorIndex := 14, attributes := #[] }] 49 4 #[] #[{ accessFlags := 25, nameIndex := 354, descriptorIndex := 339, attributes := #[] }, { accessFlags := 25, nameIndex := 358, descriptorIndex := 339, attributes := #[] }, { accessFlags := 25, nameIndex := 361, descriptorIndex := 339, attributes := #[] }, { accessFlags := 26, nameIndex := 364, descriptorIndex := 339, attributes := #[] }, { accessFlags := 26, nameIndex := 365, descriptorIndex := 339, attributes := #[] }, { accessFlags := 26, nameIndex := 172, descriptorIndex := 173, attributes := #[] }, { accessFlags := 26, nameIndex := 176, descriptorIndex := 173, attributes := #[] }, { accessFlags := 8, nameIndex := 344, descriptorIndex := 339, attributes := #[] }, { accessFlags := 8, nameIndex := 338, descriptorIndex := 339, attributes := #[] }, { accessFlags := 4120, nameIndex := 245, descriptorIndex := 246, attributes := #[] }])
  fields := #[{ name := "E", type := .double, accessFlags := 25, slot := 0, constantValue := 0 }, { name := "PI", type := .double, accessFlags := 25, slot := 1, constantValue := 0 }, { name := "TAU", type := .double, accessFlags := 25, slot := 2, constantValue := 0 }, { name := "DEGREES_TO_RADIANS", type := .double, accessFlags := 26, slot := 3, constantValue := 0 }, { name := "RADIANS_TO_DEGREES", type := .double, accessFlags := 26, slot := 4, constantValue := 0 }, { name := "negativeZeroFloatBits", type := .long, accessFlags := 26, slot := 5, constantValue := 0 }, { name := "negativeZeroDoubleBits", type := .long, accessFlags := 26, slot := 6, constantValue := 0 }, { name := "twoToTheDoubleScaleUp", type := .double, accessFlags := 8, slot := 7, constantValue := 0 }, { name := "twoToTheDoubleScaleDown", type := .double, accessFlags := 8, slot := 8, constantValue := 0 }, { name := "$assertionsDisabled", type := .boolean, accessFlags := 4120, slot := 9, constantValue := 0 }]
  methods := #[k15m0, k15m1]
  instanceTypes := #[]
  staticTypes := #[.double, .double, .double, .double, .double, .long, .long, .double, .double, .boolean]
  resolved := Array.replicate 460 none
  statics := none }

def pool16 : Array CpInfo := pool [(2, .class_ 4), (1, u "java/lang/Object"), (0, u "<init>"), (0, u "()V"), (1, .class_ 10), (1, u "java/util/AbstractMap"), (42, .class_ 54), (0, u "java/util/Map"), (9, u "keySet"), (0, u "Ljava/util/Set;"), (0, .class_ 67), (0, u "java/util/AbstractMap$1"), (5, u "values"), (0, u "Ljava/util/Collection;"), (0, .class_ 76), (0, u "java/util/AbstractMap$2"), (104, .class_ 182), (0, u "java/util/AbstractMap$ViewCollection"), (0, .class_ 184), (0, u "java/util/AbstractMap$SimpleImmutableEntry"), (0, .class_ 186), (0, u "java/util/AbstractMap$SimpleEntry"), (0, .class_ 188), (0, u "java/util/AbstractMap$2$1"), (0, .class_ 190), (0, u "java/util/AbstractMap$1$1")] 5

def k16m0 : Method := { name := "<init>", desc := "()V", sig := { parameters := [], returnType := none }, accessFlags := 4, code := none }
/-- java/util/AbstractMap -/
def k16 : Class := { plain "java/util/AbstractMap" (some 0) with
  accessFlags := 1057
  interfaces := #[4]
  cf := some (fileOf pool16 8 #[.nestMembers #[181, 183, 185, 75, 187, 66, 189]] #[{ accessFlags := 4, nameIndex := 5, descriptorIndex := 6, attributes := #[] }] 1057 2 #[53] #[{ accessFlags := 128, nameIndex := 64, descriptorIndex := 65, attributes := #[] }, { accessFlags := 128, nameIndex := 73, descriptorIndex := 74, attributes := #[] }])
  fields := #[{ name := "keySet", type := (.object "java/util/Set"), accessFlags := 128, slot := 0, constantValue := 0 }, { name := "values", type := (.object "java/util/Collection"), accessFlags := 128, slot := 1, constantValue := 0 }]
  methods := #[k16m0]
  instanceTypes := #[(.object "java/util/Set"), (.object "java/util/Collection")]
  staticTypes := #[]
  resolved := Array.replicate 196 none
  statics := none }

def pool17 : Array CpInfo := pool [(2, .class_ 4), (1, u "java/util/AbstractMap"), (0, u "<init>"), (0, u "()V"), (1, .class_ 10), (1, u "java/util/ImmutableCollections"), (3, .class_ 16), (1, u "java/util/ImmutableCollections$AbstractImmutableMap"), (2, .class_ 20), (0, u "java/io/Serializable")] 66

def k17m0 : Method := { name := "<init>", desc := "()V", sig := { parameters := [], returnType := none }, accessFlags := 0, code := none }
/-- java/util/ImmutableCollections$AbstractImmutableMap -/
def k17 : Class := { plain "java/util/ImmutableCollections$AbstractImmutableMap" (some 16) with
  accessFlags := 1056
  interfaces := #[6]
  cf := some (fileOf pool17 14 #[.nestHost 8] #[{ accessFlags := 0, nameIndex := 5, descriptorIndex := 6, attributes := #[] }] 1056 2 #[19] #[])
  fields := #[]
  methods := #[k17m0]
  instanceTypes := #[(.object "java/util/Set"), (.object "java/util/Collection")]
  staticTypes := #[]
  resolved := Array.replicate 87 none
  statics := none }

def pool18 : Array CpInfo := pool [(1, .class_ 2), (0, u "java/util/ImmutableCollections"), (1, .class_ 6), (1, u "java/util/ImmutableCollections$AbstractImmutableMap"), (10, .class_ 19), (1, u "java/util/ImmutableCollections$MapN"), (0, u "size"), (0, u "I"), (4, u "table"), (0, u "[Ljava/lang/Object;")] 121

/-- java/util/ImmutableCollections$MapN -/
def k18 : Class := { plain "java/util/ImmutableCollections$MapN" (some 17) with
  accessFlags := 48
  interfaces := #[]
  cf := some (fileOf pool18 17 #[.nestHost 1] #[] 48 4 #[] #[{ accessFlags := 16, nameIndex := 26, descriptorIndex := 27, attributes := #[] }, { accessFlags := 16, nameIndex := 20, descriptorIndex := 21, attributes := #[] }])
  fields := #[{ name := "table", type := (.array (.object "java/lang/Object")), accessFlags := 16, slot := 2, constantValue := 0 }, { name := "size", type := .int, accessFlags := 16, slot := 3, constantValue := 0 }]
  methods := #[]
  instanceTypes := #[(.object "java/util/Set"), (.object "java/util/Collection"), (.array (.object "java/lang/Object")), .int]
  staticTypes := #[]
  resolved := Array.replicate 149 none
  statics := none }

def pool19 : Array CpInfo := pool [(1, u "java/lang/Cloneable"), (0, .class_ 1), (0, u "java/lang/Object"), (0, .class_ 3)] 3

/-- java/lang/Cloneable -/
def k19 : Class := { plain "java/lang/Cloneable" (some 0) with
  accessFlags := 1537
  interfaces := #[]
  cf := some (fileOf pool19 2 #[] #[] 1537 4 #[] #[])
  fields := #[]
  methods := #[]
  instanceTypes := #[]
  staticTypes := #[]
  resolved := Array.replicate 8 none
  statics := none }

/-- the primitive byte -/
def k20 : Class := { plain "byte" none with kind := .primitive 'B', accessFlags := 0x411 }
/-- [B -/
def k21 : Class := { plain "[B" (some 0) with kind := .array 20 .byte, interfaces := #[19, 6], accessFlags := 1041 }

/-- the primitive int -/
def k22 : Class := { plain "int" none with kind := .primitive 'I', accessFlags := 0x411 }
/-- [I -/
def k23 : Class := { plain "[I" (some 0) with kind := .array 22 .int, interfaces := #[19, 6], accessFlags := 1041 }

/-- [Ljava/lang/Object; -/
def k24 : Class := { plain "[Ljava/lang/Object;" (some 0) with kind := .array 0 (.object "java/lang/Object"), interfaces := #[19, 6], accessFlags := 1041 }

def heap : Heap := #[{ cls := 5, slots := #[.long 0, .int 0, .null, .null, .null, .null, .null, .ref 2, .int 0, .int 0], vm := .statics 5 },
  { cls := 24, slots := #[], vm := .none },
  { cls := 18, slots := #[.null, .null, .ref 1, .int 0], vm := .none }]
def classes : Array Class := #[k0, k1, k2, k3, k4, k5, k6, k7, k8, k9, k10, k11, k12, k13, k14, k15, k16, k17, k18, k19, k20, k21, k22, k23, k24]
def interned : List (Array UInt16 × Addr) := []
def slotsUsed : Nat := 14
def theMethod : MethodId := ⟨1, 1⟩
def args0 : Array Value := #[.int 5, .int 7, .int 9, .int 11]
def aboutOver (below : List Frame) : State where
  vm := { classes := classes, interned := interned.toArray }
  heap := heap
  slotsUsed := slotsUsed
  threads := #[{ frames := .invoking theMethod args0 :: below }]
def below0 : List Frame := [.native { method := ⟨0, 0⟩, args := #[] }]
def about1 : State := aboutOver below0
def p0 : Program := .bare "" "" ""
def e0 : Env := launch0.env 0 0 0
theorem w_frames : about1.frames = Frame.invoking theMethod args0 :: below0 := rfl
set_option maxRecDepth 65536 in
theorem w_args : argsFit about1.vm theMethod args0 = true := by decide +kernel
set_option maxRecDepth 65536 in
theorem w_heap : heapFits about1 = true := by decide +kernel
set_option maxRecDepth 65536 in
theorem w_runnable : about1.curStatus? = some .runnable := by decide +kernel
set_option maxRecDepth 65536 in
theorem w_alone : about1.alone = true := by decide +kernel
set_option maxRecDepth 65536 in
theorem w_named : about1.methodNamed? x = some theMethod := by decide +kernel
set_option maxRecDepth 65536 in
theorem w_hears : about1.hears theMethod below0 = true := by decide +kernel
set_option maxRecDepth 65536 in
theorem w_ripe : about1.ripe theMethod args0 below0 = true := by decide +kernel
theorem w_running : about1.status = .running := rfl
set_option maxRecDepth 65536 in
theorem w_room : about1.hasRoom e0.platform room_1 = true :=
  launch0.hasRoom_least _ room_1 (by decide +kernel) (by decide +kernel) (by decide +kernel) (by decide +kernel) (by decide +kernel) (by decide +kernel)
theorem allAtoms_all (ts : List Jvm.Cond) (a : Array Jvm.Value) (st : Jvm.State) : (allAtoms ts).before a st = ts.all (fun c => c.before a st) := by
  induction ts with
  | nil => rfl
  | cons c t ih =>
    show (Jvm.Cond.and c (allAtoms t)).before a st = _
    rw [Jvm.Cond.before_and, ih, List.all_cons]
def words1 : List Jvm.Cond := Jvm.Cond.code x code maxLocals ret :: tables_1
/-- a 'code' word, met by the world's own term for the bytes: nothing is compared byte by byte -/
theorem code_word {y : MethodName} {bytes : ByteArray} {mx : Nat} {rt : Option FieldType} {a : Array Value} {s : State} {m : MethodId} {meth : Method} {c : Code} (h1 : s.methodNamed? y = some m) (h2 : s.vm.method? m = some meth) (h3 : meth.code = some c) (h4 : c.code = bytes)
    (h5 : (c.maxLocals == mx && c.exceptionTable.isEmpty && decide (c.maxStack ≤ mostOperands) && decide (meth.sig.returnType = rt) && !meth.locks && decide (parseMethodDescriptor y.desc = some meth.sig)) = true) : (Jvm.Cond.code y bytes mx rt).before a s = true := by
  simp only [Bool.and_eq_true, beq_iff_eq, Bool.not_eq_true', decide_eq_true_eq] at h5
  obtain ⟨⟨⟨⟨⟨g1, g2⟩, g3⟩, g4⟩, g5⟩, g6⟩ := h5
  simp [Cond.before, Cond.holds, Cond.value, h1, h2, h3, h4, g1, g2, g3, g4, g5, g6]
def isCode : Jvm.Cond → Bool
  | .code _ _ _ _ => true
  | _ => false
theorem all_split {L : List Jvm.Cond} {P : Jvm.Cond → Bool} (h1 : L.all (fun c => isCode c || P c) = true) (h2 : ∀ c ∈ L.filter isCode, P c = true) : L.all P = true := by
  refine List.all_eq_true.mpr fun c hc => ?_
  have h := List.all_eq_true.mp h1 c hc
  rcases Bool.eq_false_or_eq_true (isCode c) with hi | hi
  · exact h2 c (List.mem_filter.mpr ⟨hc, hi⟩)
  · simpa [hi] using h
set_option maxRecDepth 65536 in
theorem w_c0 : (Jvm.Cond.code x code maxLocals ret).before args0 about1 = true := code_word (m := ⟨1, 1⟩) (meth := k1m1) (c := k1c1) (by decide +kernel) rfl rfl rfl (by decide +kernel)
set_option maxRecDepth 65536 in
theorem w_c1 : (Jvm.Cond.code ({ cls := "java/util/Map", name := "of", desc := "()Ljava/util/Map;" } : Jvm.MethodName) jdk_72_method_26_code (0 : Nat) (Option.some (Jvm.ClassFile.FieldType.object "java/util/Map"))).before args0 about1 = true := code_word (m := ⟨4, 0⟩) (meth := k4m0) (c := k4c0) (by decide +kernel) rfl rfl rfl (by decide +kernel)
set_option maxRecDepth 65536 in
theorem w_c2 : (Jvm.Cond.code ({ cls := "com/example/roadeq/roadeq/cost/CostModel", name := "<init>", desc := "(DDLjava/util/Map;)V" } : Jvm.MethodName) prog_53_method_1_code (6 : Nat) (Option.none : Option Jvm.ClassFile.FieldType)).before args0 about1 = true := code_word (m := ⟨3, 0⟩) (meth := k3m0) (c := k3c0) (by decide +kernel) rfl rfl rfl (by decide +kernel)
set_option maxRecDepth 65536 in
theorem w_c3 : (Jvm.Cond.code ({ cls := "java/lang/Record", name := "<init>", desc := "()V" } : Jvm.MethodName) jdk_30_method_1_code (1 : Nat) (Option.none : Option Jvm.ClassFile.FieldType)).before args0 about1 = true := code_word (m := ⟨2, 0⟩) (meth := k2m0) (c := k2c0) (by decide +kernel) rfl rfl rfl (by decide +kernel)
set_option maxRecDepth 65536 in
theorem w_c4 : (Jvm.Cond.code ({ cls := "java/lang/Object", name := "<init>", desc := "()V" } : Jvm.MethodName) object_method_1_code (1 : Nat) (Option.none : Option Jvm.ClassFile.FieldType)).before args0 about1 = true := code_word (m := ⟨0, 0⟩) (meth := k0m0) (c := k0c0) (by decide +kernel) rfl rfl rfl (by decide +kernel)
set_option maxRecDepth 65536 in
theorem w_c5 : (Jvm.Cond.code ({ cls := "com/example/roadeq/roadeq/cost/Ranges", name := "requireFiniteAtLeastZero", desc := "(Ljava/lang/String;D)V" } : Jvm.MethodName) prog_60_method_2_code (3 : Nat) (Option.none : Option Jvm.ClassFile.FieldType)).before args0 about1 = true := code_word (m := ⟨12, 1⟩) (meth := k12m1) (c := k12c1) (by decide +kernel) rfl rfl rfl (by decide +kernel)
set_option maxRecDepth 65536 in
theorem w_c6 : (Jvm.Cond.code ({ cls := "java/lang/Double", name := "isFinite", desc := "(D)Z" } : Jvm.MethodName) jdk_117_method_8_code (2 : Nat) (Option.some Jvm.ClassFile.FieldType.boolean)).before args0 about1 = true := code_word (m := ⟨14, 0⟩) (meth := k14m0) (c := k14c0) (by decide +kernel) rfl rfl rfl (by decide +kernel)
set_option maxRecDepth 65536 in
theorem w_c7 : (Jvm.Cond.code ({ cls := "java/lang/Math", name := "abs", desc := "(D)D" } : Jvm.MethodName) jdk_29_method_64_code (2 : Nat) (Option.some Jvm.ClassFile.FieldType.double)).before args0 about1 = true := code_word (m := ⟨15, 1⟩) (meth := k15m1) (c := k15c1) (by decide +kernel) rfl rfl rfl (by decide +kernel)
set_option maxRecDepth 65536 in
theorem w_c8 : (Jvm.Cond.code ({ cls := "java/util/Map", name := "copyOf", desc := "(Ljava/util/Map;)Ljava/util/Map;" } : Jvm.MethodName) jdk_72_method_39_code (1 : Nat) (Option.some (Jvm.ClassFile.FieldType.object "java/util/Map"))).before args0 about1 = true := code_word (m := ⟨4, 1⟩) (meth := k4m1) (c := k4c1) (by decide +kernel) rfl rfl rfl (by decide +kernel)
set_option maxRecDepth 65536 in
theorem w_c9 : (Jvm.Cond.code ({ cls := "com/example/roadeq/roadeq/cost/CostModel", name := "fixedCost", desc := "(DD)D" } : Jvm.MethodName) prog_53_method_3_code (5 : Nat) (Option.some Jvm.ClassFile.FieldType.double)).before args0 about1 = true := code_word (m := ⟨3, 1⟩) (meth := k3m1) (c := k3c1) (by decide +kernel) rfl rfl rfl (by decide +kernel)
def codes1 : List Jvm.Cond := [Jvm.Cond.code x code maxLocals ret, Jvm.Cond.code ({ cls := "java/util/Map", name := "of", desc := "()Ljava/util/Map;" } : Jvm.MethodName) jdk_72_method_26_code (0 : Nat) (Option.some (Jvm.ClassFile.FieldType.object "java/util/Map")), Jvm.Cond.code ({ cls := "com/example/roadeq/roadeq/cost/CostModel", name := "<init>", desc := "(DDLjava/util/Map;)V" } : Jvm.MethodName) prog_53_method_1_code (6 : Nat) (Option.none : Option Jvm.ClassFile.FieldType), Jvm.Cond.code ({ cls := "java/lang/Record", name := "<init>", desc := "()V" } : Jvm.MethodName) jdk_30_method_1_code (1 : Nat) (Option.none : Option Jvm.ClassFile.FieldType), Jvm.Cond.code ({ cls := "java/lang/Object", name := "<init>", desc := "()V" } : Jvm.MethodName) object_method_1_code (1 : Nat) (Option.none : Option Jvm.ClassFile.FieldType), Jvm.Cond.code ({ cls := "com/example/roadeq/roadeq/cost/Ranges", name := "requireFiniteAtLeastZero", desc := "(Ljava/lang/String;D)V" } : Jvm.MethodName) prog_60_method_2_code (3 : Nat) (Option.none : Option Jvm.ClassFile.FieldType), Jvm.Cond.code ({ cls := "java/lang/Double", name := "isFinite", desc := "(D)Z" } : Jvm.MethodName) jdk_117_method_8_code (2 : Nat) (Option.some Jvm.ClassFile.FieldType.boolean), Jvm.Cond.code ({ cls := "java/lang/Math", name := "abs", desc := "(D)D" } : Jvm.MethodName) jdk_29_method_64_code (2 : Nat) (Option.some Jvm.ClassFile.FieldType.double), Jvm.Cond.code ({ cls := "java/util/Map", name := "copyOf", desc := "(Ljava/util/Map;)Ljava/util/Map;" } : Jvm.MethodName) jdk_72_method_39_code (1 : Nat) (Option.some (Jvm.ClassFile.FieldType.object "java/util/Map")), Jvm.Cond.code ({ cls := "com/example/roadeq/roadeq/cost/CostModel", name := "fixedCost", desc := "(DD)D" } : Jvm.MethodName) prog_53_method_3_code (5 : Nat) (Option.some Jvm.ClassFile.FieldType.double)]
set_option maxRecDepth 65536 in
theorem codes_eq : words1.filter isCode = codes1 := rfl
theorem w_codes : ∀ c ∈ words1.filter isCode, c.before args0 about1 = true := by
  rw [codes_eq]
  intro c hc
  simp only [codes1, List.mem_cons, List.not_mem_nil, or_false] at hc
  rcases hc with rfl | rfl | rfl | rfl | rfl | rfl | rfl | rfl | rfl | rfl
  · exact w_c0
  · exact w_c1
  · exact w_c2
  · exact w_c3
  · exact w_c4
  · exact w_c5
  · exact w_c6
  · exact w_c7
  · exact w_c8
  · exact w_c9
set_option maxRecDepth 65536 in
theorem w_t1 : (words1.take 24).all (fun c => isCode c || c.before args0 about1) = true := by decide +kernel
set_option maxRecDepth 65536 in
theorem w_t2 : ((words1.drop 24).take 24).all (fun c => isCode c || c.before args0 about1) = true := by decide +kernel
set_option maxRecDepth 65536 in
theorem w_t3 : ((words1.drop 24).drop 24).all (fun c => isCode c || c.before args0 about1) = true := by decide +kernel
theorem w_tables : (allAtoms (Jvm.Cond.code x code maxLocals ret :: tables_1)).before args0 about1 = true := by
  rw [allAtoms_all]
  show words1.all (fun c => c.before args0 about1) = true
  refine all_split ?_ w_codes
  rw [← List.take_append_drop 24 words1, List.all_append, w_t1, ← List.take_append_drop 24 (words1.drop 24), List.all_append, w_t2, w_t3]
  rfl
set_option maxRecDepth 65536 in
theorem w_rest : rest_1_c.before args0 about1 = true := by decide +kernel
set_option maxRecDepth 65536 in
theorem w_case : (Jvm.Cond.and given_1 narrow_1).before args0 about1 = true := by decide +kernel
theorem w_applies : (headSpec (Jvm.Cond.code x code maxLocals ret :: tables_1) room_1).applies x e0.platform about1 = true :=
  (Spec.applies_iff w_frames).mpr ⟨w_running, w_runnable, w_alone, w_named, w_hears, w_ripe, w_room, w_tables⟩
theorem atStart : AtStart classFile x code maxLocals ret World_1 tables_1 room_1 Calls_1 rest_1 Pre_1 launch0 p0 e0 about1 theMethod args0 below0 :=
  ⟨lists_1, trivial, launch0.admits_env _ _ _, launch0.least_env, fairChoices_fair.cas, fairChoices_fair.clock, w_frames, w_args, w_heap, w_applies, trivial, w_rest, w_case⟩
end start1
theorem witness_1 : WitnessClaimed_1 := ⟨start1.p0, start1.e0, start1.about1, start1.theMethod, start1.args0, start1.below0, start1.atStart⟩
end Jvm.Pilot.@@N@@
