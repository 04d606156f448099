import JvmDerived
import JvmDerived.Pilot.@@N@@Statement
import JvmDerived.Pilot.@@N@@Code
set_option linter.unusedVariables false
set_option linter.unusedSimpArgs false
@@BLOCK:NumsL.lean.txt@@
namespace Jvm.Pilot.@@N@@
open Jvm Jvm.ClassFile Sem Op Lib Jvm.Free Jvm.Stand Jvm.LawKit Jvm.RoadKit Bundle Jvm.Pilot.@@N@@.Jvm.D
/-! the goal of a walk, carried forward -/
def Goes (p : Program) (e : Env) (below : List Frame) (P : Outcome → State → Prop) (A : State) : Prop :=
  ∃ s₂ o, Steps p.tables e below A s₂ ∧ s₂.status = .running ∧ Ended s₂ below o ∧ P o s₂
theorem Goes.on {p : Program} {e : Env} {below : List Frame} {P : Outcome → State → Prop} {A B : State} (k : ∀ t, Steps p.tables e below B t → Steps p.tables e below A t) (h : Goes p e below P B) : Goes p e below P A := by
  obtain ⟨s₂, o, h1, h2⟩ := h
  exact ⟨s₂, o, k _ h1, h2⟩
theorem Goes.via {p : Program} {e : Env} {below : List Frame} {P : Outcome → State → Prop} {A B : State} (k : Goes p e below P B → Goes p e below P A) (h : Goes p e below P B) : Goes p e below P A := k h
theorem Goes.viaT {p : Program} {e : Env} {below : List Frame} {P : Outcome → State → Prop} {A : State} {Φ : State → Prop} {F : JFrame} (k : (∀ T, Φ T → Goes p e below P (T.setTop F)) → Goes p e below P A) (h : ∀ T, Φ T → Goes p e below P (T.setTop F)) : Goes p e below P A := k h
theorem Goes.leaf {p : Program} {e : Env} {below : List Frame} {P : Outcome → State → Prop} {A t : State} {o : Outcome} (h1 : Steps p.tables e below A t) (h2 : t.status = .running) (h3 : Ended t below o) (h4 : P o t) : Goes p e below P A := ⟨t, o, h1, h2, h3, h4⟩
theorem own_retI {p : Program} {l : Launch} {e : Env} {R : Room} {s : State} {m : MethodId} {args : Array Value} {below : List Frame} {meth : Method} {c : Code} {T : State} {locs : List Loc} {cells slots : Nat} (X : Stand p l e R s m args below meth c T locs cells slots) (hx : p.tables.exec = Jvm.exec) {pc : Nat} {Ls : Array Slot} {z : Int32} {rest : List Value} (hret : meth.sig.returnType = some .int) (hd : decode c.code pc = .ok (.ireturn, 1)) {fs : List Frame}
    (hl : ∀ (f : JFrame) (acts : List Action), f.method = m → f.locked = none → f.entered = [] → (doReturn e (T.setTop f) acts (some (.int z))).1 = T.setFrames fs) : Steps p.tables e below (T.setTop (mkF m pc Ls (.int z :: rest))) (T.setFrames fs) :=
  retOut X hx hret rfl (Or.inl ⟨rfl, Or.inl rfl, z, rfl⟩) hd hl
theorem own_retJ {p : Program} {l : Launch} {e : Env} {R : Room} {s : State} {m : MethodId} {args : Array Value} {below : List Frame} {meth : Method} {c : Code} {T : State} {locs : List Loc} {cells slots : Nat} (X : Stand p l e R s m args below meth c T locs cells slots) (hx : p.tables.exec = Jvm.exec) {pc : Nat} {Ls : Array Slot} {z : Int64} {rest : List Value} (hret : meth.sig.returnType = some .long) (hd : decode c.code pc = .ok (.lreturn, 1)) {fs : List Frame}
    (hl : ∀ (f : JFrame) (acts : List Action), f.method = m → f.locked = none → f.entered = [] → (doReturn e (T.setTop f) acts (some (.long z))).1 = T.setFrames fs) : Steps p.tables e below (T.setTop (mkF m pc Ls (.long z :: rest))) (T.setFrames fs) :=
  retOut X hx hret rfl (Or.inr (Or.inl ⟨rfl, rfl, z, rfl⟩)) hd hl
theorem own_retR {p : Program} {l : Launch} {e : Env} {R : Room} {s : State} {m : MethodId} {args : Array Value} {below : List Frame} {meth : Method} {c : Code} {T : State} {locs : List Loc} {cells slots : Nat} (X : Stand p l e R s m args below meth c T locs cells slots) (hx : p.tables.exec = Jvm.exec) {pc : Nat} {Ls : Array Slot} {z : Addr} {t : FieldType} {rest : List Value} (hret : meth.sig.returnType = some t) (ht : t.isReference = true) (hn : narrow t (.ref z) = .ref z) (hd : decode c.code pc = .ok (.areturn, 1)) {fs : List Frame}
    (hl : ∀ (f : JFrame) (acts : List Action), f.method = m → f.locked = none → f.entered = [] → (doReturn e (T.setTop f) acts (some (.ref z))).1 = T.setFrames fs) : Steps p.tables e below (T.setTop (mkF m pc Ls (.ref z :: rest))) (T.setFrames fs) :=
  retOut X hx hret hn (Or.inr (Or.inr (Or.inr (Or.inr ⟨rfl, ht, rfl⟩)))) hd hl
def own_in (t : Int32) (b : Int) : Prop := 0 ≤ t.toInt ∧ t.toInt ≤ b
theorem own_hin {t : Int32} (h : own_in t 10) : ¬ t < 0 ∧ t < (11 : Int32) := by
  rw [Int32.lt_iff_toInt_lt, Int32.lt_iff_toInt_lt]
  have a : (0 : Int32).toInt = 0 := rfl
  have b : (11 : Int32).toInt = 11 := rfl
  obtain ⟨h1, h2⟩ := h
  omega
theorem own_nat {t : Int32} (h : own_in t 10) : t.toNatClampNeg < 11 := by
  obtain ⟨h1, h2⟩ := h
  simp only [Int32.toNatClampNeg]; omega
theorem own_up {t : Int32} {b c : Int} (h : own_in t b) (hb : b ≤ c) : own_in t c := ⟨h.1, Int.le_trans h.2 hb⟩
theorem own_plus {t : Int32} (k : Int32) {b : Int} (h : own_in t b) (hb : b ≤ 8) (h0 : 0 ≤ k.toInt) (h3 : k.toInt ≤ 3) : own_in (t + k) (b + k.toInt) := by
  obtain ⟨h1, h2⟩ := h
  unfold own_in
  rw [Jvm.Kit.i32_add (by omega) (by omega)]
  omega
theorem own_s1 {t : Int32} (h : own_in t 8) : own_in (t + (1 : Int32)) 10 := own_up (own_plus 1 h (by decide) (by decide) (by decide)) (by decide)
theorem own_p2 {t : Int32} (h : own_in t 8) : own_in (t + (2 : Int32)) 10 := own_up (own_plus 2 h (by decide) (by decide) (by decide)) (by decide)
theorem own_two (t : Int32) : ((t + (1 : Int32)) + (1 : Int32)) = (t + (2 : Int32)) := by rw [Int32.add_assoc]; rfl
theorem own_three (t : Int32) : (((t + (1 : Int32)) + (1 : Int32)) + (1 : Int32)) = (t + (3 : Int32)) := by rw [own_two, Int32.add_assoc]; rfl
theorem own_s2 {t : Int32} (h : own_in t 8) : own_in ((t + (1 : Int32)) + (1 : Int32)) 10 := by rw [own_two]; exact own_p2 h
theorem own_fi {v : Value} (h : fits .short v = true) : ∃ z, v = .int z := by cases v <;> first | exact ⟨_, rfl⟩ | (simp [fits] at h)
theorem own_opq {p : Program} {l : Launch} {e : Env} {R : Room} {s : State} {m : MethodId} {args : Array Value} {below : List Frame} {meth : Method} {c : Code} {T : State} {locs : List Loc} {cells slots n0 : Nat} (X : Stand p l e R s m args below meth c T locs cells slots) (N : Fr n0 locs) : ∃ LL, Stand p l e R s m args below meth c T LL cells slots ∧ Fr n0 LL := ⟨_, X, N⟩
def own_put (vs : List Value) (p1 p2 : Int32) : List Value := if p2 < (-32767 : Int32) then (((vs.set (p1).toNatClampNeg (.int (nar .short (-32768 : Int32)))).set ((p1 + (1 : Int32))).toNatClampNeg (.int (nar .short ((p2 >>> ((16 : Int32) &&& 31)).toInt16.toInt32)))).set ((p1 + (2 : Int32))).toNatClampNeg (.int (nar .short ((p2 &&& (65535 : Int32)).toInt16.toInt32)))) else if (32767 : Int32) < p2 then (((vs.set (p1).toNatClampNeg (.int (nar .short (-32768 : Int32)))).set ((p1 + (1 : Int32))).toNatClampNeg (.int (nar .short ((p2 >>> ((16 : Int32) &&& 31)).toInt16.toInt32)))).set ((p1 + (2 : Int32))).toNatClampNeg (.int (nar .short ((p2 &&& (65535 : Int32)).toInt16.toInt32)))) else (vs.set (p1).toNatClampNeg (.int (nar .short (p2.toInt16.toInt32))))
def own_at (p1 p2 : Int32) : Int32 := if p2 < (-32767 : Int32) then (p1 + (3 : Int32)) else if (32767 : Int32) < p2 then (p1 + (3 : Int32)) else (p1 + (1 : Int32))
theorem d1_0 : decode method_3_code 0 = .ok (.iload_n 2, 1) := by decide +kernel
theorem d1_1 : decode method_3_code 1 = .ok (.sipush (-32767), 3) := by decide +kernel
theorem d1_4 : decode method_3_code 4 = .ok (.if_icmp .lt 19, 3) := by decide +kernel
theorem d1_7 : decode method_3_code 7 = .ok (.iload_n 2, 1) := by decide +kernel
theorem d1_8 : decode method_3_code 8 = .ok (.sipush 32767, 3) := by decide +kernel
theorem d1_11 : decode method_3_code 11 = .ok (.if_icmp .gt 12, 3) := by decide +kernel
theorem d1_14 : decode method_3_code 14 = .ok (.aload_n 0, 1) := by decide +kernel
theorem d1_15 : decode method_3_code 15 = .ok (.iload_n 1, 1) := by decide +kernel
theorem d1_16 : decode method_3_code 16 = .ok (.iload_n 2, 1) := by decide +kernel
theorem d1_17 : decode method_3_code 17 = .ok (.i2s, 1) := by decide +kernel
theorem d1_18 : decode method_3_code 18 = .ok (.sastore, 1) := by decide +kernel
theorem d1_19 : decode method_3_code 19 = .ok (.iload_n 1, 1) := by decide +kernel
theorem d1_20 : decode method_3_code 20 = .ok (.iconst 1, 1) := by decide +kernel
theorem d1_21 : decode method_3_code 21 = .ok (.iadd, 1) := by decide +kernel
theorem d1_22 : decode method_3_code 22 = .ok (.ireturn, 1) := by decide +kernel
theorem d1_23 : decode method_3_code 23 = .ok (.aload_n 0, 1) := by decide +kernel
theorem d1_24 : decode method_3_code 24 = .ok (.iload_n 1, 1) := by decide +kernel
theorem d1_25 : decode method_3_code 25 = .ok (.sipush (-32768), 3) := by decide +kernel
theorem d1_28 : decode method_3_code 28 = .ok (.sastore, 1) := by decide +kernel
theorem d1_29 : decode method_3_code 29 = .ok (.aload_n 0, 1) := by decide +kernel
theorem d1_30 : decode method_3_code 30 = .ok (.iload_n 1, 1) := by decide +kernel
theorem d1_31 : decode method_3_code 31 = .ok (.iconst 1, 1) := by decide +kernel
theorem d1_32 : decode method_3_code 32 = .ok (.iadd, 1) := by decide +kernel
theorem d1_33 : decode method_3_code 33 = .ok (.iload_n 2, 1) := by decide +kernel
theorem d1_34 : decode method_3_code 34 = .ok (.bipush 16, 2) := by decide +kernel
theorem d1_36 : decode method_3_code 36 = .ok (.ishr, 1) := by decide +kernel
theorem d1_37 : decode method_3_code 37 = .ok (.i2s, 1) := by decide +kernel
theorem d1_38 : decode method_3_code 38 = .ok (.sastore, 1) := by decide +kernel
theorem d1_39 : decode method_3_code 39 = .ok (.aload_n 0, 1) := by decide +kernel
theorem d1_40 : decode method_3_code 40 = .ok (.iload_n 1, 1) := by decide +kernel
theorem d1_41 : decode method_3_code 41 = .ok (.iconst 2, 1) := by decide +kernel
theorem d1_42 : decode method_3_code 42 = .ok (.iadd, 1) := by decide +kernel
theorem d1_43 : decode method_3_code 43 = .ok (.iload_n 2, 1) := by decide +kernel
theorem d1_44 : decode method_3_code 44 = .ok (.ldc 23, 2) := by decide +kernel
theorem d1_46 : decode method_3_code 46 = .ok (.iand, 1) := by decide +kernel
theorem d1_47 : decode method_3_code 47 = .ok (.i2s, 1) := by decide +kernel
theorem d1_48 : decode method_3_code 48 = .ok (.sastore, 1) := by decide +kernel
theorem d1_49 : decode method_3_code 49 = .ok (.iload_n 1, 1) := by decide +kernel
theorem d1_50 : decode method_3_code 50 = .ok (.iconst 3, 1) := by decide +kernel
theorem d1_51 : decode method_3_code 51 = .ok (.iadd, 1) := by decide +kernel
theorem d1_52 : decode method_3_code 52 = .ok (.ireturn, 1) := by decide +kernel
theorem pn_1 : plainName "com/example/roadeq/roadeq/assign/LinkCodeEncodePinLaw" = true := by first | (simp [plainName, overriddenIn]; done) | decide +kernel
theorem ef_u (m : MethodId) (x0 : Addr) (x1 : Int32) (x2 : Int32) : entryFrame m #[(.ref x0), (.int x1), (.int x2)] 3 = mkF m 0 #[.val (.ref x0), .val (.int x1), .val (.int x2)] [] := by first | (simp [entryFrame, mkF, argsToLocals, Value.category]; done) | rfl
def Qu (Z : State) (a : Addr) (p1 : Int32) (p2 : Int32) (kA : ClassId) (vs : List Value) (h0 : Heap) (n0 : Nat) (v : Option Value) (h : Heap) (L : List Loc) : Prop := v = some (.int (own_at p1 p2)) ∧ Fr n0 L ∧ Keep h0 h [a] ∧ Arv Z h a kA .short (11 : Int32) (own_put vs p1 p2) (.int (0 : Int32))
set_option maxRecDepth 65536 in
set_option maxHeartbeats 40000000 in
theorem rmu (l : Launch) (Z : State) (a0 : Array Value) (hw : ∀ d ∈ tables_1, d.before a0 Z = true) (ws : List Jvm.Cond) (a : Addr) (p1 : Int32) (p2 : Int32) (kA : ClassId) (vs : List Value) (h0 : Heap) (n0 : Nat) (Z0 : n0 ≤ h0.size) (VA : Arv Z h0 a kA .short (11 : Int32) vs (.int (0 : Int32))) (ga : n0 ≤ a) (hl : vs.length = 11) (ht : own_in p1 8) :
    MetFree l (⟨"com/example/roadeq/roadeq/assign/LinkCodeEncodePinLaw", "put", "([SII)I"⟩ : MethodName) (head1 (Jvm.Cond.code (⟨"com/example/roadeq/roadeq/assign/LinkCodeEncodePinLaw", "put", "([SII)I"⟩ : MethodName) method_3_code 3 (some .int) :: ws) ({ frames := 0, cells := 0, slots := 0, locals := 0 } : Room)) (fun aa U => aa = #[(.ref a), (.int p1), (.int p2)] ∧ Z.Warmed39 U.vm ∧ U.heap = h0) (fun _ _ _ _ _ => True) (fun _ U oo U' => ∃ vv LL, oo = .returned vv ∧ Qu Z a p1 p2 kA vs h0 n0 vv U'.heap LL ∧ FrameEnd U oo U' LL ({ frames := 0, cells := 0, slots := 0, locals := 0 } : Room).cells ({ frames := 0, cells := 0, slots := 0, locals := 0 } : Room).slots) := by
  refine MetFree.of_bodySF (plainFor_of_name pn_1) hisR ?_
  intro p e s m args below meth c s₁ Bd hml0 hP hK
  obtain ⟨rfl, hZ, hh⟩ := hP
  have hx := Bd.exec
  have hby := Bd.bytes
  have hml : c.maxLocals = 3 := hml0
  have hown : s.vm.findClass "com/example/roadeq/roadeq/assign/LinkCodeEncodePinLaw" = some m.cls := findClass_of_methodNamed Bd.named
  have hnm := (name_of_methodNamed Bd.named Bd.method).1
  have X0 : Stand p l e ({ frames := 0, cells := 0, slots := 0, locals := 0 } : Room) s m #[(.ref a), (.int p1), (.int p2)] below meth c s₁ [] 0 0 := Stand.of_body Bd
  have e0 : s₁.heap = h0 := by rw [← hh, Bd.state]; rfl
  have N0 := Fr.nil n0
  show Goes p e below _ (s₁.setTop (entryFrame m #[(.ref a), (.int p1), (.int p2)] 3))
  refine Goes.on (B := s₁.setTop (mkF m 0 #[.val (.ref a), .val (.int p1), .val (.int p2)] [])) (fun t k => castTop (ef_u m a p1 p2) k) ?_
  refine Goes.on (B := s₁.setTop (mkF m 1 #[.val (.ref a), .val (.int p1), .val (.int p2)] [(.int p2)])) (fun _ k => XS.iloadN X0.here hx rfl (hb hby d1_0) rfl  k) ?_
  refine Goes.on (B := s₁.setTop (mkF m 4 #[.val (.ref a), .val (.int p1), .val (.int p2)] [(.int (-32767 : Int32)), (.int p2)])) (fun _ k => XS.sipush X0.here hx rfl (hb hby d1_1) k) ?_
  by_cases hc4_1 : p2 < (-32767 : Int32)
  · refine Goes.on (B := s₁.setTop (mkF m 23 #[.val (.ref a), .val (.int p1), .val (.int p2)] [])) (fun _ k => XS.icmpYes X0.here hx rfl (pc0 := 4) (pc' := 23) rfl (hb hby d1_4) rfl (tlt hc4_1).1 (by decide) (by decide) k) ?_
    refine Goes.on (B := s₁.setTop (mkF m 24 #[.val (.ref a), .val (.int p1), .val (.int p2)] [(.ref a)])) (fun _ k => XS.aloadN X0.here hx rfl (hb hby d1_23) rfl rfl  k) ?_
    refine Goes.on (B := s₁.setTop (mkF m 25 #[.val (.ref a), .val (.int p1), .val (.int p2)] [(.int p1), (.ref a)])) (fun _ k => XS.iloadN X0.here hx rfl (hb hby d1_24) rfl  k) ?_
    refine Goes.on (B := s₁.setTop (mkF m 28 #[.val (.ref a), .val (.int p1), .val (.int p2)] [(.int (-32768 : Int32)), (.int p1), (.ref a)])) (fun _ k => XS.sipush X0.here hx rfl (hb hby d1_25) k) ?_
    obtain ⟨cl2, Ar2, q2, S2, Nn2, H2, G2⟩ := id VA
    have hin2 : ¬ (p1 < 0 ∨ cl2.slots.size ≤ (p1).toNatClampNeg) := inb_of S2 (own_hin (own_up ht (by decide)))
    obtain ⟨T3, h3, X3, e3, W3, st3⟩ := stS X0 hx hZ e0 Ar2 (j := p1) hin2 (g := (mkF m 28 #[.val (.ref a), .val (.int p1), .val (.int p2)] [(.int (-32768 : Int32)), (.int p1), (.ref a)])) rfl rfl (hb hby d1_28)
    have V3 : Arv Z h3 a kA .short (11 : Int32) (vs.set (p1).toNatClampNeg (.int (nar .short (-32768 : Int32)))) (.int (0 : Int32)) := Arv.set Ar2 q2 S2 Nn2 H2 G2 (fits_nar_short _) W3 (p1).toNatClampNeg rfl (by simp only [List.length_set, hl]; exact own_nat (own_up ht (by decide)))
    have z4 : n0 ≤ h3.size := Nat.le_trans Z0 (Keep.of_wr W3).1
    have K5 : Keep h0 h3 [a] := (Keep.refl h0 [a]).wr W3 (Or.inl (List.mem_of_getElem? (i := 0) rfl))
    have N3 := Fr.snoc X3 N0 ga
    refine Goes.on (B := T3.setTop (mkF m 29 #[.val (.ref a), .val (.int p1), .val (.int p2)] [])) (fun t k => st3 t k) ?_
    refine Goes.on (B := T3.setTop (mkF m 30 #[.val (.ref a), .val (.int p1), .val (.int p2)] [(.ref a)])) (fun _ k => XS.aloadN X3.here hx rfl (hb hby d1_29) rfl rfl  k) ?_
    refine Goes.on (B := T3.setTop (mkF m 31 #[.val (.ref a), .val (.int p1), .val (.int p2)] [(.int p1), (.ref a)])) (fun _ k => XS.iloadN X3.here hx rfl (hb hby d1_30) rfl  k) ?_
    refine Goes.on (B := T3.setTop (mkF m 32 #[.val (.ref a), .val (.int p1), .val (.int p2)] [(.int (1 : Int32)), (.int p1), (.ref a)])) (fun _ k => XS.iconst X3.here hx rfl (hb hby d1_31) k) ?_
    refine Goes.on (B := T3.setTop (mkF m 33 #[.val (.ref a), .val (.int p1), .val (.int p2)] [(.int (p1 + (1 : Int32))), (.ref a)])) (fun _ k => XS.iadd X3.here hx rfl (hb hby d1_32) rfl k) ?_
    refine Goes.on (B := T3.setTop (mkF m 34 #[.val (.ref a), .val (.int p1), .val (.int p2)] [(.int p2), (.int (p1 + (1 : Int32))), (.ref a)])) (fun _ k => XS.iloadN X3.here hx rfl (hb hby d1_33) rfl  k) ?_
    refine Goes.on (B := T3.setTop (mkF m 36 #[.val (.ref a), .val (.int p1), .val (.int p2)] [(.int (16 : Int32)), (.int p2), (.int (p1 + (1 : Int32))), (.ref a)])) (fun _ k => XS.bipush X3.here hx rfl (hb hby d1_34) k) ?_
    refine Goes.on (B := T3.setTop (mkF m 37 #[.val (.ref a), .val (.int p1), .val (.int p2)] [(.int (p2 >>> ((16 : Int32) &&& 31))), (.int (p1 + (1 : Int32))), (.ref a)])) (fun _ k => XS.ishr X3.here hx rfl (hb hby d1_36) rfl k) ?_
    refine Goes.on (B := T3.setTop (mkF m 38 #[.val (.ref a), .val (.int p1), .val (.int p2)] [(.int ((p2 >>> ((16 : Int32) &&& 31)).toInt16.toInt32)), (.int (p1 + (1 : Int32))), (.ref a)])) (fun _ k => XS.i2s X3.here hx rfl (hb hby d1_37) rfl k) ?_
    obtain ⟨cl6, Ar6, q6, S6, Nn6, H6, G6⟩ := id V3
    have hin6 : ¬ ((p1 + (1 : Int32)) < 0 ∨ cl6.slots.size ≤ ((p1 + (1 : Int32))).toNatClampNeg) := inb_of S6 (own_hin (own_s1 ht))
    obtain ⟨T7, h7, X7, e7, W7, st7⟩ := stS X3 hx hZ e3 Ar6 (j := (p1 + (1 : Int32))) hin6 (g := (mkF m 38 #[.val (.ref a), .val (.int p1), .val (.int p2)] [(.int ((p2 >>> ((16 : Int32) &&& 31)).toInt16.toInt32)), (.int (p1 + (1 : Int32))), (.ref a)])) rfl rfl (hb hby d1_38)
    have V7 : Arv Z h7 a kA .short (11 : Int32) ((vs.set (p1).toNatClampNeg (.int (nar .short (-32768 : Int32)))).set ((p1 + (1 : Int32))).toNatClampNeg (.int (nar .short ((p2 >>> ((16 : Int32) &&& 31)).toInt16.toInt32)))) (.int (0 : Int32)) := Arv.set Ar6 q6 S6 Nn6 H6 G6 (fits_nar_short _) W7 ((p1 + (1 : Int32))).toNatClampNeg rfl (by simp only [List.length_set, hl]; exact own_nat (own_s1 ht))
    have z8 : n0 ≤ h7.size := Nat.le_trans z4 (Keep.of_wr W7).1
    have K9 : Keep h0 h7 [a] := K5.wr W7 (Or.inl (List.mem_of_getElem? (i := 0) rfl))
    have N7 := Fr.snoc X7 N3 ga
    refine Goes.on (B := T7.setTop (mkF m 39 #[.val (.ref a), .val (.int p1), .val (.int p2)] [])) (fun t k => st7 t k) ?_
    refine Goes.on (B := T7.setTop (mkF m 40 #[.val (.ref a), .val (.int p1), .val (.int p2)] [(.ref a)])) (fun _ k => XS.aloadN X7.here hx rfl (hb hby d1_39) rfl rfl  k) ?_
    refine Goes.on (B := T7.setTop (mkF m 41 #[.val (.ref a), .val (.int p1), .val (.int p2)] [(.int p1), (.ref a)])) (fun _ k => XS.iloadN X7.here hx rfl (hb hby d1_40) rfl  k) ?_
    refine Goes.on (B := T7.setTop (mkF m 42 #[.val (.ref a), .val (.int p1), .val (.int p2)] [(.int (2 : Int32)), (.int p1), (.ref a)])) (fun _ k => XS.iconst X7.here hx rfl (hb hby d1_41) k) ?_
    refine Goes.on (B := T7.setTop (mkF m 43 #[.val (.ref a), .val (.int p1), .val (.int p2)] [(.int (p1 + (2 : Int32))), (.ref a)])) (fun _ k => XS.iadd X7.here hx rfl (hb hby d1_42) rfl k) ?_
    refine Goes.on (B := T7.setTop (mkF m 44 #[.val (.ref a), .val (.int p1), .val (.int p2)] [(.int p2), (.int (p1 + (2 : Int32))), (.ref a)])) (fun _ k => XS.iloadN X7.here hx rfl (hb hby d1_43) rfl  k) ?_
    refine Goes.on (B := T7.setTop (mkF m 46 #[.val (.ref a), .val (.int p1), .val (.int p2)] [(.int (65535 : Int32)), (.int p2), (.int (p1 + (2 : Int32))), (.ref a)])) (fun _ k => X7.ldcInt hx hown (mvT hZ (hw _ (List.mem_of_getElem? (i := 16) rfl))) (g := (mkF m 44 #[.val (.ref a), .val (.int p1), .val (.int p2)] [(.int p2), (.int (p1 + (2 : Int32))), (.ref a)])) rfl (hb hby d1_44) _ k) ?_
    refine Goes.on (B := T7.setTop (mkF m 47 #[.val (.ref a), .val (.int p1), .val (.int p2)] [(.int (p2 &&& (65535 : Int32))), (.int (p1 + (2 : Int32))), (.ref a)])) (fun _ k => XS.iand X7.here hx rfl (hb hby d1_46) rfl k) ?_
    refine Goes.on (B := T7.setTop (mkF m 48 #[.val (.ref a), .val (.int p1), .val (.int p2)] [(.int ((p2 &&& (65535 : Int32)).toInt16.toInt32)), (.int (p1 + (2 : Int32))), (.ref a)])) (fun _ k => XS.i2s X7.here hx rfl (hb hby d1_47) rfl k) ?_
    obtain ⟨cl10, Ar10, q10, S10, Nn10, H10, G10⟩ := id V7
    have hin10 : ¬ ((p1 + (2 : Int32)) < 0 ∨ cl10.slots.size ≤ ((p1 + (2 : Int32))).toNatClampNeg) := inb_of S10 (own_hin (own_p2 ht))
    obtain ⟨T11, h11, X11, e11, W11, st11⟩ := stS X7 hx hZ e7 Ar10 (j := (p1 + (2 : Int32))) hin10 (g := (mkF m 48 #[.val (.ref a), .val (.int p1), .val (.int p2)] [(.int ((p2 &&& (65535 : Int32)).toInt16.toInt32)), (.int (p1 + (2 : Int32))), (.ref a)])) rfl rfl (hb hby d1_48)
    have V11 : Arv Z h11 a kA .short (11 : Int32) (((vs.set (p1).toNatClampNeg (.int (nar .short (-32768 : Int32)))).set ((p1 + (1 : Int32))).toNatClampNeg (.int (nar .short ((p2 >>> ((16 : Int32) &&& 31)).toInt16.toInt32)))).set ((p1 + (2 : Int32))).toNatClampNeg (.int (nar .short ((p2 &&& (65535 : Int32)).toInt16.toInt32)))) (.int (0 : Int32)) := Arv.set Ar10 q10 S10 Nn10 H10 G10 (fits_nar_short _) W11 ((p1 + (2 : Int32))).toNatClampNeg rfl (by simp only [List.length_set, hl]; exact own_nat (own_p2 ht))
    have z12 : n0 ≤ h11.size := Nat.le_trans z8 (Keep.of_wr W11).1
    have K13 : Keep h0 h11 [a] := K9.wr W11 (Or.inl (List.mem_of_getElem? (i := 0) rfl))
    have N11 := Fr.snoc X11 N7 ga
    refine Goes.on (B := T11.setTop (mkF m 49 #[.val (.ref a), .val (.int p1), .val (.int p2)] [])) (fun t k => st11 t k) ?_
    refine Goes.on (B := T11.setTop (mkF m 50 #[.val (.ref a), .val (.int p1), .val (.int p2)] [(.int p1)])) (fun _ k => XS.iloadN X11.here hx rfl (hb hby d1_49) rfl  k) ?_
    refine Goes.on (B := T11.setTop (mkF m 51 #[.val (.ref a), .val (.int p1), .val (.int p2)] [(.int (3 : Int32)), (.int p1)])) (fun _ k => XS.iconst X11.here hx rfl (hb hby d1_50) k) ?_
    refine Goes.on (B := T11.setTop (mkF m 52 #[.val (.ref a), .val (.int p1), .val (.int p2)] [(.int (p1 + (3 : Int32)))])) (fun _ k => XS.iadd X11.here hx rfl (hb hby d1_51) rfl k) ?_
    obtain ⟨fs, hr, hrun, hended, hW, hsame⟩ := X11.leave (v := some (.int (p1 + (3 : Int32)))) (fun h => by rw [Bd.returns] at h; cases h)
    exact Goes.leaf (own_retI X11 hx Bd.returns (hb hby d1_52) hr) hrun hended ⟨_, _, rfl, by show Qu Z a p1 p2 kA vs h0 n0 _ T11.heap _; rw [e11]; exact ⟨by rw [own_at, if_pos hc4_1], N11, K13, by rw [own_put, if_pos hc4_1]; exact V11⟩, ⟨_, rfl⟩, hW, hsame.mono (by decide) (by decide)⟩
  · refine Goes.on (B := s₁.setTop (mkF m 7 #[.val (.ref a), .val (.int p1), .val (.int p2)] [])) (fun _ k => XS.icmpNo X0.here hx rfl (hb hby d1_4) rfl (flt hc4_1).1 k) ?_
    refine Goes.on (B := s₁.setTop (mkF m 8 #[.val (.ref a), .val (.int p1), .val (.int p2)] [(.int p2)])) (fun _ k => XS.iloadN X0.here hx rfl (hb hby d1_7) rfl  k) ?_
    refine Goes.on (B := s₁.setTop (mkF m 11 #[.val (.ref a), .val (.int p1), .val (.int p2)] [(.int (32767 : Int32)), (.int p2)])) (fun _ k => XS.sipush X0.here hx rfl (hb hby d1_8) k) ?_
    by_cases hc11_14 : (32767 : Int32) < p2
    · refine Goes.on (B := s₁.setTop (mkF m 23 #[.val (.ref a), .val (.int p1), .val (.int p2)] [])) (fun _ k => XS.icmpYes X0.here hx rfl (pc0 := 11) (pc' := 23) rfl (hb hby d1_11) rfl (tlt hc11_14).2.2.1 (by decide) (by decide) k) ?_
      refine Goes.on (B := s₁.setTop (mkF m 24 #[.val (.ref a), .val (.int p1), .val (.int p2)] [(.ref a)])) (fun _ k => XS.aloadN X0.here hx rfl (hb hby d1_23) rfl rfl  k) ?_
      refine Goes.on (B := s₁.setTop (mkF m 25 #[.val (.ref a), .val (.int p1), .val (.int p2)] [(.int p1), (.ref a)])) (fun _ k => XS.iloadN X0.here hx rfl (hb hby d1_24) rfl  k) ?_
      refine Goes.on (B := s₁.setTop (mkF m 28 #[.val (.ref a), .val (.int p1), .val (.int p2)] [(.int (-32768 : Int32)), (.int p1), (.ref a)])) (fun _ k => XS.sipush X0.here hx rfl (hb hby d1_25) k) ?_
      obtain ⟨cl15, Ar15, q15, S15, Nn15, H15, G15⟩ := id VA
      have hin15 : ¬ (p1 < 0 ∨ cl15.slots.size ≤ (p1).toNatClampNeg) := inb_of S15 (own_hin (own_up ht (by decide)))
      obtain ⟨T16, h16, X16, e16, W16, st16⟩ := stS X0 hx hZ e0 Ar15 (j := p1) hin15 (g := (mkF m 28 #[.val (.ref a), .val (.int p1), .val (.int p2)] [(.int (-32768 : Int32)), (.int p1), (.ref a)])) rfl rfl (hb hby d1_28)
      have V16 : Arv Z h16 a kA .short (11 : Int32) (vs.set (p1).toNatClampNeg (.int (nar .short (-32768 : Int32)))) (.int (0 : Int32)) := Arv.set Ar15 q15 S15 Nn15 H15 G15 (fits_nar_short _) W16 (p1).toNatClampNeg rfl (by simp only [List.length_set, hl]; exact own_nat (own_up ht (by decide)))
      have z17 : n0 ≤ h16.size := Nat.le_trans Z0 (Keep.of_wr W16).1
      have K18 : Keep h0 h16 [a] := (Keep.refl h0 [a]).wr W16 (Or.inl (List.mem_of_getElem? (i := 0) rfl))
      have N16 := Fr.snoc X16 N0 ga
      refine Goes.on (B := T16.setTop (mkF m 29 #[.val (.ref a), .val (.int p1), .val (.int p2)] [])) (fun t k => st16 t k) ?_
      refine Goes.on (B := T16.setTop (mkF m 30 #[.val (.ref a), .val (.int p1), .val (.int p2)] [(.ref a)])) (fun _ k => XS.aloadN X16.here hx rfl (hb hby d1_29) rfl rfl  k) ?_
      refine Goes.on (B := T16.setTop (mkF m 31 #[.val (.ref a), .val (.int p1), .val (.int p2)] [(.int p1), (.ref a)])) (fun _ k => XS.iloadN X16.here hx rfl (hb hby d1_30) rfl  k) ?_
      refine Goes.on (B := T16.setTop (mkF m 32 #[.val (.ref a), .val (.int p1), .val (.int p2)] [(.int (1 : Int32)), (.int p1), (.ref a)])) (fun _ k => XS.iconst X16.here hx rfl (hb hby d1_31) k) ?_
      refine Goes.on (B := T16.setTop (mkF m 33 #[.val (.ref a), .val (.int p1), .val (.int p2)] [(.int (p1 + (1 : Int32))), (.ref a)])) (fun _ k => XS.iadd X16.here hx rfl (hb hby d1_32) rfl k) ?_
      refine Goes.on (B := T16.setTop (mkF m 34 #[.val (.ref a), .val (.int p1), .val (.int p2)] [(.int p2), (.int (p1 + (1 : Int32))), (.ref a)])) (fun _ k => XS.iloadN X16.here hx rfl (hb hby d1_33) rfl  k) ?_
      refine Goes.on (B := T16.setTop (mkF m 36 #[.val (.ref a), .val (.int p1), .val (.int p2)] [(.int (16 : Int32)), (.int p2), (.int (p1 + (1 : Int32))), (.ref a)])) (fun _ k => XS.bipush X16.here hx rfl (hb hby d1_34) k) ?_
      refine Goes.on (B := T16.setTop (mkF m 37 #[.val (.ref a), .val (.int p1), .val (.int p2)] [(.int (p2 >>> ((16 : Int32) &&& 31))), (.int (p1 + (1 : Int32))), (.ref a)])) (fun _ k => XS.ishr X16.here hx rfl (hb hby d1_36) rfl k) ?_
      refine Goes.on (B := T16.setTop (mkF m 38 #[.val (.ref a), .val (.int p1), .val (.int p2)] [(.int ((p2 >>> ((16 : Int32) &&& 31)).toInt16.toInt32)), (.int (p1 + (1 : Int32))), (.ref a)])) (fun _ k => XS.i2s X16.here hx rfl (hb hby d1_37) rfl k) ?_
      obtain ⟨cl19, Ar19, q19, S19, Nn19, H19, G19⟩ := id V16
      have hin19 : ¬ ((p1 + (1 : Int32)) < 0 ∨ cl19.slots.size ≤ ((p1 + (1 : Int32))).toNatClampNeg) := inb_of S19 (own_hin (own_s1 ht))
      obtain ⟨T20, h20, X20, e20, W20, st20⟩ := stS X16 hx hZ e16 Ar19 (j := (p1 + (1 : Int32))) hin19 (g := (mkF m 38 #[.val (.ref a), .val (.int p1), .val (.int p2)] [(.int ((p2 >>> ((16 : Int32) &&& 31)).toInt16.toInt32)), (.int (p1 + (1 : Int32))), (.ref a)])) rfl rfl (hb hby d1_38)
      have V20 : Arv Z h20 a kA .short (11 : Int32) ((vs.set (p1).toNatClampNeg (.int (nar .short (-32768 : Int32)))).set ((p1 + (1 : Int32))).toNatClampNeg (.int (nar .short ((p2 >>> ((16 : Int32) &&& 31)).toInt16.toInt32)))) (.int (0 : Int32)) := Arv.set Ar19 q19 S19 Nn19 H19 G19 (fits_nar_short _) W20 ((p1 + (1 : Int32))).toNatClampNeg rfl (by simp only [List.length_set, hl]; exact own_nat (own_s1 ht))
      have z21 : n0 ≤ h20.size := Nat.le_trans z17 (Keep.of_wr W20).1
      have K22 : Keep h0 h20 [a] := K18.wr W20 (Or.inl (List.mem_of_getElem? (i := 0) rfl))
      have N20 := Fr.snoc X20 N16 ga
      refine Goes.on (B := T20.setTop (mkF m 39 #[.val (.ref a), .val (.int p1), .val (.int p2)] [])) (fun t k => st20 t k) ?_
      refine Goes.on (B := T20.setTop (mkF m 40 #[.val (.ref a), .val (.int p1), .val (.int p2)] [(.ref a)])) (fun _ k => XS.aloadN X20.here hx rfl (hb hby d1_39) rfl rfl  k) ?_
      refine Goes.on (B := T20.setTop (mkF m 41 #[.val (.ref a), .val (.int p1), .val (.int p2)] [(.int p1), (.ref a)])) (fun _ k => XS.iloadN X20.here hx rfl (hb hby d1_40) rfl  k) ?_
      refine Goes.on (B := T20.setTop (mkF m 42 #[.val (.ref a), .val (.int p1), .val (.int p2)] [(.int (2 : Int32)), (.int p1), (.ref a)])) (fun _ k => XS.iconst X20.here hx rfl (hb hby d1_41) k) ?_
      refine Goes.on (B := T20.setTop (mkF m 43 #[.val (.ref a), .val (.int p1), .val (.int p2)] [(.int (p1 + (2 : Int32))), (.ref a)])) (fun _ k => XS.iadd X20.here hx rfl (hb hby d1_42) rfl k) ?_
      refine Goes.on (B := T20.setTop (mkF m 44 #[.val (.ref a), .val (.int p1), .val (.int p2)] [(.int p2), (.int (p1 + (2 : Int32))), (.ref a)])) (fun _ k => XS.iloadN X20.here hx rfl (hb hby d1_43) rfl  k) ?_
      refine Goes.on (B := T20.setTop (mkF m 46 #[.val (.ref a), .val (.int p1), .val (.int p2)] [(.int (65535 : Int32)), (.int p2), (.int (p1 + (2 : Int32))), (.ref a)])) (fun _ k => X20.ldcInt hx hown (mvT hZ (hw _ (List.mem_of_getElem? (i := 16) rfl))) (g := (mkF m 44 #[.val (.ref a), .val (.int p1), .val (.int p2)] [(.int p2), (.int (p1 + (2 : Int32))), (.ref a)])) rfl (hb hby d1_44) _ k) ?_
      refine Goes.on (B := T20.setTop (mkF m 47 #[.val (.ref a), .val (.int p1), .val (.int p2)] [(.int (p2 &&& (65535 : Int32))), (.int (p1 + (2 : Int32))), (.ref a)])) (fun _ k => XS.iand X20.here hx rfl (hb hby d1_46) rfl k) ?_
      refine Goes.on (B := T20.setTop (mkF m 48 #[.val (.ref a), .val (.int p1), .val (.int p2)] [(.int ((p2 &&& (65535 : Int32)).toInt16.toInt32)), (.int (p1 + (2 : Int32))), (.ref a)])) (fun _ k => XS.i2s X20.here hx rfl (hb hby d1_47) rfl k) ?_
      obtain ⟨cl23, Ar23, q23, S23, Nn23, H23, G23⟩ := id V20
      have hin23 : ¬ ((p1 + (2 : Int32)) < 0 ∨ cl23.slots.size ≤ ((p1 + (2 : Int32))).toNatClampNeg) := inb_of S23 (own_hin (own_p2 ht))
      obtain ⟨T24, h24, X24, e24, W24, st24⟩ := stS X20 hx hZ e20 Ar23 (j := (p1 + (2 : Int32))) hin23 (g := (mkF m 48 #[.val (.ref a), .val (.int p1), .val (.int p2)] [(.int ((p2 &&& (65535 : Int32)).toInt16.toInt32)), (.int (p1 + (2 : Int32))), (.ref a)])) rfl rfl (hb hby d1_48)
      have V24 : Arv Z h24 a kA .short (11 : Int32) (((vs.set (p1).toNatClampNeg (.int (nar .short (-32768 : Int32)))).set ((p1 + (1 : Int32))).toNatClampNeg (.int (nar .short ((p2 >>> ((16 : Int32) &&& 31)).toInt16.toInt32)))).set ((p1 + (2 : Int32))).toNatClampNeg (.int (nar .short ((p2 &&& (65535 : Int32)).toInt16.toInt32)))) (.int (0 : Int32)) := Arv.set Ar23 q23 S23 Nn23 H23 G23 (fits_nar_short _) W24 ((p1 + (2 : Int32))).toNatClampNeg rfl (by simp only [List.length_set, hl]; exact own_nat (own_p2 ht))
      have z25 : n0 ≤ h24.size := Nat.le_trans z21 (Keep.of_wr W24).1
      have K26 : Keep h0 h24 [a] := K22.wr W24 (Or.inl (List.mem_of_getElem? (i := 0) rfl))
      have N24 := Fr.snoc X24 N20 ga
      refine Goes.on (B := T24.setTop (mkF m 49 #[.val (.ref a), .val (.int p1), .val (.int p2)] [])) (fun t k => st24 t k) ?_
      refine Goes.on (B := T24.setTop (mkF m 50 #[.val (.ref a), .val (.int p1), .val (.int p2)] [(.int p1)])) (fun _ k => XS.iloadN X24.here hx rfl (hb hby d1_49) rfl  k) ?_
      refine Goes.on (B := T24.setTop (mkF m 51 #[.val (.ref a), .val (.int p1), .val (.int p2)] [(.int (3 : Int32)), (.int p1)])) (fun _ k => XS.iconst X24.here hx rfl (hb hby d1_50) k) ?_
      refine Goes.on (B := T24.setTop (mkF m 52 #[.val (.ref a), .val (.int p1), .val (.int p2)] [(.int (p1 + (3 : Int32)))])) (fun _ k => XS.iadd X24.here hx rfl (hb hby d1_51) rfl k) ?_
      obtain ⟨fs, hr, hrun, hended, hW, hsame⟩ := X24.leave (v := some (.int (p1 + (3 : Int32)))) (fun h => by rw [Bd.returns] at h; cases h)
      exact Goes.leaf (own_retI X24 hx Bd.returns (hb hby d1_52) hr) hrun hended ⟨_, _, rfl, by show Qu Z a p1 p2 kA vs h0 n0 _ T24.heap _; rw [e24]; exact ⟨by rw [own_at, if_neg hc4_1, if_pos hc11_14], N24, K26, by rw [own_put, if_neg hc4_1, if_pos hc11_14]; exact V24⟩, ⟨_, rfl⟩, hW, hsame.mono (by decide) (by decide)⟩
    · refine Goes.on (B := s₁.setTop (mkF m 14 #[.val (.ref a), .val (.int p1), .val (.int p2)] [])) (fun _ k => XS.icmpNo X0.here hx rfl (hb hby d1_11) rfl (flt hc11_14).2.2.1 k) ?_
      refine Goes.on (B := s₁.setTop (mkF m 15 #[.val (.ref a), .val (.int p1), .val (.int p2)] [(.ref a)])) (fun _ k => XS.aloadN X0.here hx rfl (hb hby d1_14) rfl rfl  k) ?_
      refine Goes.on (B := s₁.setTop (mkF m 16 #[.val (.ref a), .val (.int p1), .val (.int p2)] [(.int p1), (.ref a)])) (fun _ k => XS.iloadN X0.here hx rfl (hb hby d1_15) rfl  k) ?_
      refine Goes.on (B := s₁.setTop (mkF m 17 #[.val (.ref a), .val (.int p1), .val (.int p2)] [(.int p2), (.int p1), (.ref a)])) (fun _ k => XS.iloadN X0.here hx rfl (hb hby d1_16) rfl  k) ?_
      refine Goes.on (B := s₁.setTop (mkF m 18 #[.val (.ref a), .val (.int p1), .val (.int p2)] [(.int (p2.toInt16.toInt32)), (.int p1), (.ref a)])) (fun _ k => XS.i2s X0.here hx rfl (hb hby d1_17) rfl k) ?_
      obtain ⟨cl27, Ar27, q27, S27, Nn27, H27, G27⟩ := id VA
      have hin27 : ¬ (p1 < 0 ∨ cl27.slots.size ≤ (p1).toNatClampNeg) := inb_of S27 (own_hin (own_up ht (by decide)))
      obtain ⟨T28, h28, X28, e28, W28, st28⟩ := stS X0 hx hZ e0 Ar27 (j := p1) hin27 (g := (mkF m 18 #[.val (.ref a), .val (.int p1), .val (.int p2)] [(.int (p2.toInt16.toInt32)), (.int p1), (.ref a)])) rfl rfl (hb hby d1_18)
      have V28 : Arv Z h28 a kA .short (11 : Int32) (vs.set (p1).toNatClampNeg (.int (nar .short (p2.toInt16.toInt32)))) (.int (0 : Int32)) := Arv.set Ar27 q27 S27 Nn27 H27 G27 (fits_nar_short _) W28 (p1).toNatClampNeg rfl (by simp only [List.length_set, hl]; exact own_nat (own_up ht (by decide)))
      have z29 : n0 ≤ h28.size := Nat.le_trans Z0 (Keep.of_wr W28).1
      have K30 : Keep h0 h28 [a] := (Keep.refl h0 [a]).wr W28 (Or.inl (List.mem_of_getElem? (i := 0) rfl))
      have N28 := Fr.snoc X28 N0 ga
      refine Goes.on (B := T28.setTop (mkF m 19 #[.val (.ref a), .val (.int p1), .val (.int p2)] [])) (fun t k => st28 t k) ?_
      refine Goes.on (B := T28.setTop (mkF m 20 #[.val (.ref a), .val (.int p1), .val (.int p2)] [(.int p1)])) (fun _ k => XS.iloadN X28.here hx rfl (hb hby d1_19) rfl  k) ?_
      refine Goes.on (B := T28.setTop (mkF m 21 #[.val (.ref a), .val (.int p1), .val (.int p2)] [(.int (1 : Int32)), (.int p1)])) (fun _ k => XS.iconst X28.here hx rfl (hb hby d1_20) k) ?_
      refine Goes.on (B := T28.setTop (mkF m 22 #[.val (.ref a), .val (.int p1), .val (.int p2)] [(.int (p1 + (1 : Int32)))])) (fun _ k => XS.iadd X28.here hx rfl (hb hby d1_21) rfl k) ?_
      obtain ⟨fs, hr, hrun, hended, hW, hsame⟩ := X28.leave (v := some (.int (p1 + (1 : Int32)))) (fun h => by rw [Bd.returns] at h; cases h)
      exact Goes.leaf (own_retI X28 hx Bd.returns (hb hby d1_22) hr) hrun hended ⟨_, _, rfl, by show Qu Z a p1 p2 kA vs h0 n0 _ T28.heap _; rw [e28]; exact ⟨by rw [own_at, if_neg hc4_1, if_neg hc11_14], N28, K30, by rw [own_put, if_neg hc4_1, if_neg hc11_14]; exact V28⟩, ⟨_, rfl⟩, hW, hsame.mono (by decide) (by decide)⟩
theorem own_i2 : own_in (2 : Int32) 2 := ⟨by decide, by decide⟩
theorem own_len {vs : List Value} (h : vs.length = 11) {t d : Int32} : (own_put vs t d).length = 11 := by
  unfold own_put; repeat' split
  all_goals simp only [List.length_set, h]
theorem own_ib {t d : Int32} {b : Int} (h : own_in t b) (hb : b ≤ 8) : own_in (own_at t d) (b + 3) := by
  unfold own_at; repeat' split
  · exact own_plus 3 h hb (by decide) (by decide)
  · exact own_plus 3 h hb (by decide) (by decide)
  · exact own_up (own_plus 1 h hb (by decide) (by decide)) (by show b + 1 ≤ b + 3; omega)
def own_nar (p0 : Int32) : Int32 := (if (-32768 : Int32) < p0 then (if (32767 : Int32) < p0 then (0 : Int32) else (1 : Int32)) else (0 : Int32))
theorem d3_0 : decode prog_31_method_5_code 0 = .ok (.iload_n 0, 1) := by decide +kernel
theorem d3_1 : decode prog_31_method_5_code 1 = .ok (.sipush (-32768), 3) := by decide +kernel
theorem d3_4 : decode prog_31_method_5_code 4 = .ok (.if_icmp .le 14, 3) := by decide +kernel
theorem d3_7 : decode prog_31_method_5_code 7 = .ok (.iload_n 0, 1) := by decide +kernel
theorem d3_8 : decode prog_31_method_5_code 8 = .ok (.sipush 32767, 3) := by decide +kernel
theorem d3_11 : decode prog_31_method_5_code 11 = .ok (.if_icmp .gt 7, 3) := by decide +kernel
theorem d3_14 : decode prog_31_method_5_code 14 = .ok (.iconst 1, 1) := by decide +kernel
theorem d3_15 : decode prog_31_method_5_code 15 = .ok (.goto 4, 3) := by decide +kernel
theorem d3_18 : decode prog_31_method_5_code 18 = .ok (.iconst 0, 1) := by decide +kernel
theorem d3_19 : decode prog_31_method_5_code 19 = .ok (.ireturn, 1) := by decide +kernel
theorem pn_3 : plainName "com/example/roadeq/roadeq/assign/LinkCode" = true := by first | (simp [plainName, overriddenIn]; done) | decide +kernel
theorem ef_n (m : MethodId) (x0 : Int32) : entryFrame m #[(.int x0)] 1 = mkF m 0 #[.val (.int x0)] [] := by first | (simp [entryFrame, mkF, argsToLocals, Value.category]; done) | rfl
def Qn (Z : State) (p0 : Int32)  (h0 : Heap) (n0 : Nat) (v : Option Value) (h : Heap) (L : List Loc) : Prop := v = some (.int (own_nar p0)) ∧ Fr n0 L ∧ h = h0
set_option maxRecDepth 65536 in
set_option maxHeartbeats 40000000 in
theorem rmn (l : Launch) (Z : State) (a0 : Array Value) (hw : ∀ d ∈ tables_1, d.before a0 Z = true) (ws : List Jvm.Cond) (p0 : Int32)  (h0 : Heap) (n0 : Nat) (Z0 : n0 ≤ h0.size)  :
    MetFree l (⟨"com/example/roadeq/roadeq/assign/LinkCode", "narrow", "(I)Z"⟩ : MethodName) (head1 (Jvm.Cond.code (⟨"com/example/roadeq/roadeq/assign/LinkCode", "narrow", "(I)Z"⟩ : MethodName) prog_31_method_5_code 1 (some .boolean) :: ws) ({ frames := 0, cells := 0, slots := 0, locals := 0 } : Room)) (fun aa U => aa = #[(.int p0)] ∧ Z.Warmed39 U.vm ∧ U.heap = h0) (fun _ _ _ _ _ => True) (fun _ U oo U' => ∃ vv LL, oo = .returned vv ∧ Qn Z p0 h0 n0 vv U'.heap LL ∧ FrameEnd U oo U' LL ({ frames := 0, cells := 0, slots := 0, locals := 0 } : Room).cells ({ frames := 0, cells := 0, slots := 0, locals := 0 } : Room).slots) := by
  refine MetFree.of_bodySF (plainFor_of_name pn_3) hisR ?_
  intro p e s m args below meth c s₁ Bd hml0 hP hK
  obtain ⟨rfl, hZ, hh⟩ := hP
  have hx := Bd.exec
  have hby := Bd.bytes
  have hml : c.maxLocals = 1 := hml0
  have hown : s.vm.findClass "com/example/roadeq/roadeq/assign/LinkCode" = some m.cls := findClass_of_methodNamed Bd.named
  have hnm := (name_of_methodNamed Bd.named Bd.method).1
  have X0 : Stand p l e ({ frames := 0, cells := 0, slots := 0, locals := 0 } : Room) s m #[(.int p0)] below meth c s₁ [] 0 0 := Stand.of_body Bd
  have e0 : s₁.heap = h0 := by rw [← hh, Bd.state]; rfl
  have N0 := Fr.nil n0
  show Goes p e below _ (s₁.setTop (entryFrame m #[(.int p0)] 1))
  refine Goes.on (B := s₁.setTop (mkF m 0 #[.val (.int p0)] [])) (fun t k => castTop (ef_n m p0) k) ?_
  refine Goes.on (B := s₁.setTop (mkF m 1 #[.val (.int p0)] [(.int p0)])) (fun _ k => XS.iloadN X0.here hx rfl (hb hby d3_0) rfl  k) ?_
  refine Goes.on (B := s₁.setTop (mkF m 4 #[.val (.int p0)] [(.int (-32768 : Int32)), (.int p0)])) (fun _ k => XS.sipush X0.here hx rfl (hb hby d3_1) k) ?_
  by_cases hc4_1 : (-32768 : Int32) < p0
  · refine Goes.on (B := s₁.setTop (mkF m 7 #[.val (.int p0)] [])) (fun _ k => XS.icmpNo X0.here hx rfl (hb hby d3_4) rfl (tlt hc4_1).2.2.2 k) ?_
    refine Goes.on (B := s₁.setTop (mkF m 8 #[.val (.int p0)] [(.int p0)])) (fun _ k => XS.iloadN X0.here hx rfl (hb hby d3_7) rfl  k) ?_
    refine Goes.on (B := s₁.setTop (mkF m 11 #[.val (.int p0)] [(.int (32767 : Int32)), (.int p0)])) (fun _ k => XS.sipush X0.here hx rfl (hb hby d3_8) k) ?_
    by_cases hc11_2 : (32767 : Int32) < p0
    · refine Goes.on (B := s₁.setTop (mkF m 18 #[.val (.int p0)] [])) (fun _ k => XS.icmpYes X0.here hx rfl (pc0 := 11) (pc' := 18) rfl (hb hby d3_11) rfl (tlt hc11_2).2.2.1 (by decide) (by decide) k) ?_
      refine Goes.on (B := s₁.setTop (mkF m 19 #[.val (.int p0)] [(.int (0 : Int32))])) (fun _ k => XS.iconst X0.here hx rfl (hb hby d3_18) k) ?_
      obtain ⟨fs, hr, hrun, hended, hW, hsame⟩ := X0.leave (v := some (.int (0 : Int32))) (fun h => by rw [Bd.returns] at h; cases h)
      exact Goes.leaf (retN X0 hx (t := .boolean) Bd.returns (by simp) (hb hby d3_19) hr) hrun hended ⟨_, _, rfl, by show Qn Z p0 h0 n0 _ s₁.heap _; rw [e0]; exact ⟨by rw [own_nar, if_pos hc4_1, if_pos hc11_2], N0, rfl⟩, ⟨_, rfl⟩, hW, hsame.mono (by decide) (by decide)⟩
    · refine Goes.on (B := s₁.setTop (mkF m 14 #[.val (.int p0)] [])) (fun _ k => XS.icmpNo X0.here hx rfl (hb hby d3_11) rfl (flt hc11_2).2.2.1 k) ?_
      refine Goes.on (B := s₁.setTop (mkF m 15 #[.val (.int p0)] [(.int (1 : Int32))])) (fun _ k => XS.iconst X0.here hx rfl (hb hby d3_14) k) ?_
      refine Goes.on (B := s₁.setTop (mkF m 19 #[.val (.int p0)] [(.int (1 : Int32))])) (fun _ k => XS.goto X0.here hx rfl (pc0 := 15) (pc' := 19) rfl (hb hby d3_15) (by decide) (by decide) k) ?_
      obtain ⟨fs, hr, hrun, hended, hW, hsame⟩ := X0.leave (v := some (.int (1 : Int32))) (fun h => by rw [Bd.returns] at h; cases h)
      exact Goes.leaf (retN X0 hx (t := .boolean) Bd.returns (by simp) (hb hby d3_19) hr) hrun hended ⟨_, _, rfl, by show Qn Z p0 h0 n0 _ s₁.heap _; rw [e0]; exact ⟨by rw [own_nar, if_pos hc4_1, if_neg hc11_2], N0, rfl⟩, ⟨_, rfl⟩, hW, hsame.mono (by decide) (by decide)⟩
  · refine Goes.on (B := s₁.setTop (mkF m 18 #[.val (.int p0)] [])) (fun _ k => XS.icmpYes X0.here hx rfl (pc0 := 4) (pc' := 18) rfl (hb hby d3_4) rfl (flt hc4_1).2.2.2 (by decide) (by decide) k) ?_
    refine Goes.on (B := s₁.setTop (mkF m 19 #[.val (.int p0)] [(.int (0 : Int32))])) (fun _ k => XS.iconst X0.here hx rfl (hb hby d3_18) k) ?_
    obtain ⟨fs, hr, hrun, hended, hW, hsame⟩ := X0.leave (v := some (.int (0 : Int32))) (fun h => by rw [Bd.returns] at h; cases h)
    exact Goes.leaf (retN X0 hx (t := .boolean) Bd.returns (by simp) (hb hby d3_19) hr) hrun hended ⟨_, _, rfl, by show Qn Z p0 h0 n0 _ s₁.heap _; rw [e0]; exact ⟨by rw [own_nar, if_neg hc4_1], N0, rfl⟩, ⟨_, rfl⟩, hW, hsame.mono (by decide) (by decide)⟩
def own_es (vs : List Value) (p1 p2 : Int32) : List Value := if (own_nar p2) = (0 : Int32) then (((vs.set (p1).toNatClampNeg (.int (nar .short (-32768 : Int32)))).set ((p1 + (1 : Int32))).toNatClampNeg (.int (nar .short (((p2.toUInt32 >>> ((16 : Int32) &&& 31).toUInt32).toInt32).toInt16.toInt32)))).set (((p1 + (1 : Int32)) + (1 : Int32))).toNatClampNeg (.int (nar .short (p2.toInt16.toInt32)))) else (vs.set (p1).toNatClampNeg (.int (nar .short (p2.toInt16.toInt32))))
def own_ea (p1 p2 : Int32) : Int32 := if (own_nar p2) = (0 : Int32) then (((p1 + (1 : Int32)) + (1 : Int32)) + (1 : Int32)) else (p1 + (1 : Int32))
theorem own_nw (d : Int32) : (own_nar d = 0) ↔ (d < (-32767 : Int32) ∨ (32767 : Int32) < d) := by
  unfold own_nar
  simp only [Int32.lt_iff_toInt_lt]
  simp only [show (-32768 : Int32).toInt = -32768 from rfl, show (-32767 : Int32).toInt = -32767 from rfl, show (32767 : Int32).toInt = 32767 from rfl]
  repeat' split
  all_goals first | (constructor <;> intro h <;> first | rfl | omega) | (constructor <;> intro h <;> first | omega | (exfalso; revert h; decide))
theorem own_ea_at (t d : Int32) : own_ea t d = own_at t d := by
  unfold own_ea own_at
  by_cases h : own_nar d = 0
  · rw [if_pos h, own_three]
    rcases (own_nw d).mp h with q | q
    · rw [if_pos q]
    · rw [if_pos q]; split <;> rfl
  · rw [if_neg h]
    have q := fun z => h ((own_nw d).mpr z)
    rw [if_neg (fun z => q (Or.inl z)), if_neg (fun z => q (Or.inr z))]
theorem own_b1 (d : Int32) : (((d.toUInt32 >>> ((16 : Int32) &&& 31).toUInt32).toInt32).toInt16) = ((d >>> ((16 : Int32) &&& 31)).toInt16) := by
  apply Int16.toBitVec_inj.mp
  have e1 : (((d.toUInt32 >>> ((16 : Int32) &&& 31).toUInt32).toInt32).toInt16).toBitVec = (d.toBitVec >>> 16).signExtend 16 := by
    show BitVec.signExtend 16 _ = _
    congr 1
  have e2 : ((d >>> ((16 : Int32) &&& 31)).toInt16).toBitVec = (d.toBitVec.sshiftRight 16).signExtend 16 := by
    show BitVec.signExtend 16 _ = _
    congr 1
  rw [e1, e2]
  apply BitVec.eq_of_getLsbD_eq
  intro i hi
  simp only [BitVec.getLsbD_signExtend, BitVec.getLsbD_ushiftRight, BitVec.getLsbD_sshiftRight]
  have h1 : i < 32 := by omega
  have h2 : 16 + i < 32 := by omega
  have h3 : ¬ 32 ≤ i := by omega
  simp [hi, h1, h2, h3]
theorem own_b2 (d : Int32) : (d.toInt16) = ((d &&& (65535 : Int32)).toInt16) := by
  apply Int16.toBitVec_inj.mp
  have e1 : (d.toInt16).toBitVec = d.toBitVec.signExtend 16 := rfl
  have e2 : ((d &&& (65535 : Int32)).toInt16).toBitVec = (d.toBitVec &&& 65535#32).signExtend 16 := rfl
  rw [e1, e2]
  apply BitVec.eq_of_getLsbD_eq
  intro i hi
  have h1 : i < 32 := by omega
  have k : (65535#32).getLsbD i = true := by
    have t : ∀ j : Fin 16, (65535#32).getLsbD j.val = true := by decide
    exact t ⟨i, hi⟩
  rw [BitVec.getLsbD_signExtend, BitVec.getLsbD_signExtend, if_pos h1, if_pos h1, BitVec.getLsbD_and, k, Bool.and_true]
theorem own_es_put (vs : List Value) (t d : Int32) : own_es vs t d = own_put vs t d := by
  have w : (((vs.set (t).toNatClampNeg (.int (nar .short (-32768 : Int32)))).set ((t + (1 : Int32))).toNatClampNeg (.int (nar .short (((d.toUInt32 >>> ((16 : Int32) &&& 31).toUInt32).toInt32).toInt16.toInt32)))).set (((t + (1 : Int32)) + (1 : Int32))).toNatClampNeg (.int (nar .short (d.toInt16.toInt32)))) = (((vs.set (t).toNatClampNeg (.int (nar .short (-32768 : Int32)))).set ((t + (1 : Int32))).toNatClampNeg (.int (nar .short ((d >>> ((16 : Int32) &&& 31)).toInt16.toInt32)))).set ((t + (2 : Int32))).toNatClampNeg (.int (nar .short ((d &&& (65535 : Int32)).toInt16.toInt32)))) := by rw [own_two, own_b1, ← own_b2]
  unfold own_es own_put
  by_cases h : own_nar d = 0
  · rw [if_pos h, w]
    rcases (own_nw d).mp h with q | q
    · rw [if_pos q]
    · rw [if_pos q]; split <;> rfl
  · rw [if_neg h]
    have q := fun z => h ((own_nw d).mpr z)
    rw [if_neg (fun z => q (Or.inl z)), if_neg (fun z => q (Or.inr z))]
theorem own_elen {vs : List Value} (h : vs.length = 11) {t d : Int32} : (own_es vs t d).length = 11 := by rw [own_es_put]; exact own_len h
theorem own_eib {t d : Int32} {b : Int} (h : own_in t b) (hb : b ≤ 8) : own_in (own_ea t d) (b + 3) := by rw [own_ea_at]; exact own_ib h hb
theorem d2_0 : decode prog_31_method_3_code 0 = .ok (.iconst 2, 1) := by decide +kernel
theorem d2_1 : decode prog_31_method_3_code 1 = .ok (.istore_n 3, 1) := by decide +kernel
theorem d2_2 : decode prog_31_method_3_code 2 = .ok (.iconst 0, 1) := by decide +kernel
theorem d2_3 : decode prog_31_method_3_code 3 = .ok (.istore 4, 2) := by decide +kernel
theorem d2_5 : decode prog_31_method_3_code 5 = .ok (.iconst 0, 1) := by decide +kernel
theorem d2_6 : decode prog_31_method_3_code 6 = .ok (.istore 5, 2) := by decide +kernel
theorem d2_8 : decode prog_31_method_3_code 8 = .ok (.iload 5, 2) := by decide +kernel
theorem d2_10 : decode prog_31_method_3_code 10 = .ok (.iload_n 1, 1) := by decide +kernel
theorem d2_11 : decode prog_31_method_3_code 11 = .ok (.if_icmp .ge 74, 3) := by decide +kernel
theorem d2_85 : decode prog_31_method_3_code 85 = .ok (.aload_n 2, 1) := by decide +kernel
theorem d2_86 : decode prog_31_method_3_code 86 = .ok (.iconst 0, 1) := by decide +kernel
theorem d2_87 : decode prog_31_method_3_code 87 = .ok (.iload_n 3, 1) := by decide +kernel
theorem d2_88 : decode prog_31_method_3_code 88 = .ok (.bipush 16, 2) := by decide +kernel
theorem d2_90 : decode prog_31_method_3_code 90 = .ok (.iushr, 1) := by decide +kernel
theorem d2_91 : decode prog_31_method_3_code 91 = .ok (.i2s, 1) := by decide +kernel
theorem d2_92 : decode prog_31_method_3_code 92 = .ok (.sastore, 1) := by decide +kernel
theorem d2_93 : decode prog_31_method_3_code 93 = .ok (.aload_n 2, 1) := by decide +kernel
theorem d2_94 : decode prog_31_method_3_code 94 = .ok (.iconst 1, 1) := by decide +kernel
theorem d2_95 : decode prog_31_method_3_code 95 = .ok (.iload_n 3, 1) := by decide +kernel
theorem d2_96 : decode prog_31_method_3_code 96 = .ok (.i2s, 1) := by decide +kernel
theorem d2_97 : decode prog_31_method_3_code 97 = .ok (.sastore, 1) := by decide +kernel
theorem d2_98 : decode prog_31_method_3_code 98 = .ok (.return_, 1) := by decide +kernel
theorem pn_2 : plainName "com/example/roadeq/roadeq/assign/LinkCode" = true := by first | (simp [plainName, overriddenIn]; done) | decide +kernel
theorem ef_en0 (m : MethodId) (x0 : Addr) (x1 : Int32) (x2 : Addr) : entryFrame m #[(.ref x0), (.int x1), (.ref x2)] 7 = mkF m 0 #[.val (.ref x0), .val (.int x1), .val (.ref x2), .unset, .unset, .unset, .unset] [] := by first | (simp [entryFrame, mkF, argsToLocals, Value.category]; done) | rfl
def Qen0 (Z : State) (a : Addr) (b : Addr) (kA kB : ClassId) (x0 x1 x2 : Int32) (vs : List Value) (h0 : Heap) (n0 : Nat) (v : Option Value) (h : Heap) (L : List Loc) : Prop := v = none ∧ Fr n0 L ∧ Keep h0 h [b] ∧ Arv Z h b kB .short (11 : Int32) ((vs.set 0 (.int (nar .short ((((2 : Int32).toUInt32 >>> ((16 : Int32) &&& 31).toUInt32).toInt32).toInt16.toInt32)))).set 1 (.int (nar .short ((2 : Int32).toInt16.toInt32)))) (.int (0 : Int32))
set_option maxRecDepth 65536 in
set_option maxHeartbeats 40000000 in
theorem rmen0 (l : Launch) (Z : State) (a0 : Array Value) (hw : ∀ d ∈ tables_1, d.before a0 Z = true) (ws : List Jvm.Cond) (a : Addr) (b : Addr) (kA kB : ClassId) (x0 x1 x2 : Int32) (vs : List Value) (h0 : Heap) (n0 : Nat) (Z0 : n0 ≤ h0.size) (VA : Arv Z h0 a kA .int (3 : Int32) [(.int x0), (.int x1), (.int x2)] (.int (0 : Int32))) (VB : Arv Z h0 b kB .short (11 : Int32) vs (.int (0 : Int32))) (gb : n0 ≤ b) (hl : vs.length = 11) (nab : a ≠ b) :
    MetFree l (⟨"com/example/roadeq/roadeq/assign/LinkCode", "encode", "([II[S)V"⟩ : MethodName) (head1 (Jvm.Cond.code (⟨"com/example/roadeq/roadeq/assign/LinkCode", "encode", "([II[S)V"⟩ : MethodName) prog_31_method_3_code 7 none :: ws) ({ frames := 1, cells := 0, slots := 0, locals := 12 } : Room)) (fun aa U => aa = #[(.ref a), (.int (0 : Int32)), (.ref b)] ∧ Z.Warmed39 U.vm ∧ U.heap = h0) (fun _ _ _ _ _ => True) (fun _ U oo U' => ∃ vv LL, oo = .returned vv ∧ Qen0 Z a b kA kB x0 x1 x2 vs h0 n0 vv U'.heap LL ∧ FrameEnd U oo U' LL ({ frames := 1, cells := 0, slots := 0, locals := 12 } : Room).cells ({ frames := 1, cells := 0, slots := 0, locals := 12 } : Room).slots) := by
  refine MetFree.of_bodySF (plainFor_of_name pn_2) hisR ?_
  intro p e s m args below meth c s₁ Bd hml0 hP hK
  obtain ⟨rfl, hZ, hh⟩ := hP
  have hx := Bd.exec
  have hby := Bd.bytes
  have hml : c.maxLocals = 7 := hml0
  have hown : s.vm.findClass "com/example/roadeq/roadeq/assign/LinkCode" = some m.cls := findClass_of_methodNamed Bd.named
  have hnm := (name_of_methodNamed Bd.named Bd.method).1
  have X0 : Stand p l e ({ frames := 1, cells := 0, slots := 0, locals := 12 } : Room) s m #[(.ref a), (.int (0 : Int32)), (.ref b)] below meth c s₁ [] 0 0 := Stand.of_body Bd
  have e0 : s₁.heap = h0 := by rw [← hh, Bd.state]; rfl
  have N0 := Fr.nil n0
  show Goes p e below _ (s₁.setTop (entryFrame m #[(.ref a), (.int (0 : Int32)), (.ref b)] 7))
  refine Goes.on (B := s₁.setTop (mkF m 0 #[.val (.ref a), .val (.int (0 : Int32)), .val (.ref b), .unset, .unset, .unset, .unset] [])) (fun t k => castTop (ef_en0 m a (0 : Int32) b) k) ?_
  refine Goes.on (B := s₁.setTop (mkF m 1 #[.val (.ref a), .val (.int (0 : Int32)), .val (.ref b), .unset, .unset, .unset, .unset] [(.int (2 : Int32))])) (fun _ k => XS.iconst X0.here hx rfl (hb hby d2_0) k) ?_
  refine Goes.on (B := s₁.setTop (mkF m 2 #[.val (.ref a), .val (.int (0 : Int32)), .val (.ref b), .val (.int (2 : Int32)), .unset, .unset, .unset] [])) (fun _ k => XS.istoreN X0.here hx rfl (hb hby d2_1) rfl (l' := #[.val (.ref a), .val (.int (0 : Int32)), .val (.ref b), .val (.int (2 : Int32)), .unset, .unset, .unset]) rfl k) ?_
  refine Goes.on (B := s₁.setTop (mkF m 3 #[.val (.ref a), .val (.int (0 : Int32)), .val (.ref b), .val (.int (2 : Int32)), .unset, .unset, .unset] [(.int (0 : Int32))])) (fun _ k => XS.iconst X0.here hx rfl (hb hby d2_2) k) ?_
  refine Goes.on (B := s₁.setTop (mkF m 5 #[.val (.ref a), .val (.int (0 : Int32)), .val (.ref b), .val (.int (2 : Int32)), .val (.int (0 : Int32)), .unset, .unset] [])) (fun _ k => XS.istore X0.here hx rfl (hb hby d2_3) rfl (l' := #[.val (.ref a), .val (.int (0 : Int32)), .val (.ref b), .val (.int (2 : Int32)), .val (.int (0 : Int32)), .unset, .unset]) rfl k) ?_
  refine Goes.on (B := s₁.setTop (mkF m 6 #[.val (.ref a), .val (.int (0 : Int32)), .val (.ref b), .val (.int (2 : Int32)), .val (.int (0 : Int32)), .unset, .unset] [(.int (0 : Int32))])) (fun _ k => XS.iconst X0.here hx rfl (hb hby d2_5) k) ?_
  refine Goes.on (B := s₁.setTop (mkF m 8 #[.val (.ref a), .val (.int (0 : Int32)), .val (.ref b), .val (.int (2 : Int32)), .val (.int (0 : Int32)), .val (.int (0 : Int32)), .unset] [])) (fun _ k => XS.istore X0.here hx rfl (hb hby d2_6) rfl (l' := #[.val (.ref a), .val (.int (0 : Int32)), .val (.ref b), .val (.int (2 : Int32)), .val (.int (0 : Int32)), .val (.int (0 : Int32)), .unset]) rfl k) ?_
  refine Goes.on (B := s₁.setTop (mkF m 10 #[.val (.ref a), .val (.int (0 : Int32)), .val (.ref b), .val (.int (2 : Int32)), .val (.int (0 : Int32)), .val (.int (0 : Int32)), .unset] [(.int (0 : Int32))])) (fun _ k => XS.iload X0.here hx rfl (hb hby d2_8) rfl  k) ?_
  refine Goes.on (B := s₁.setTop (mkF m 11 #[.val (.ref a), .val (.int (0 : Int32)), .val (.ref b), .val (.int (2 : Int32)), .val (.int (0 : Int32)), .val (.int (0 : Int32)), .unset] [(.int (0 : Int32)), (.int (0 : Int32))])) (fun _ k => XS.iloadN X0.here hx rfl (hb hby d2_10) rfl  k) ?_
  refine Goes.on (B := s₁.setTop (mkF m 85 #[.val (.ref a), .val (.int (0 : Int32)), .val (.ref b), .val (.int (2 : Int32)), .val (.int (0 : Int32)), .val (.int (0 : Int32)), .unset] [])) (fun _ k => XS.icmpYes X0.here hx rfl (pc0 := 11) (pc' := 85) rfl (hb hby d2_11) rfl (flt (by decide)).2.1 (by decide) (by decide) k) ?_
  refine Goes.on (B := s₁.setTop (mkF m 86 #[.val (.ref a), .val (.int (0 : Int32)), .val (.ref b), .val (.int (2 : Int32)), .val (.int (0 : Int32)), .val (.int (0 : Int32)), .unset] [(.ref b)])) (fun _ k => XS.aloadN X0.here hx rfl (hb hby d2_85) rfl rfl  k) ?_
  refine Goes.on (B := s₁.setTop (mkF m 87 #[.val (.ref a), .val (.int (0 : Int32)), .val (.ref b), .val (.int (2 : Int32)), .val (.int (0 : Int32)), .val (.int (0 : Int32)), .unset] [(.int (0 : Int32)), (.ref b)])) (fun _ k => XS.iconst X0.here hx rfl (hb hby d2_86) k) ?_
  refine Goes.on (B := s₁.setTop (mkF m 88 #[.val (.ref a), .val (.int (0 : Int32)), .val (.ref b), .val (.int (2 : Int32)), .val (.int (0 : Int32)), .val (.int (0 : Int32)), .unset] [(.int (2 : Int32)), (.int (0 : Int32)), (.ref b)])) (fun _ k => XS.iloadN X0.here hx rfl (hb hby d2_87) rfl  k) ?_
  refine Goes.on (B := s₁.setTop (mkF m 90 #[.val (.ref a), .val (.int (0 : Int32)), .val (.ref b), .val (.int (2 : Int32)), .val (.int (0 : Int32)), .val (.int (0 : Int32)), .unset] [(.int (16 : Int32)), (.int (2 : Int32)), (.int (0 : Int32)), (.ref b)])) (fun _ k => XS.bipush X0.here hx rfl (hb hby d2_88) k) ?_
  refine Goes.on (B := s₁.setTop (mkF m 91 #[.val (.ref a), .val (.int (0 : Int32)), .val (.ref b), .val (.int (2 : Int32)), .val (.int (0 : Int32)), .val (.int (0 : Int32)), .unset] [(.int (0 : Int32)), (.int (0 : Int32)), (.ref b)])) (fun _ k => XS.iushr X0.here hx rfl (hb hby d2_90) rfl k) ?_
  refine Goes.on (B := s₁.setTop (mkF m 92 #[.val (.ref a), .val (.int (0 : Int32)), .val (.ref b), .val (.int (2 : Int32)), .val (.int (0 : Int32)), .val (.int (0 : Int32)), .unset] [(.int (0 : Int32)), (.int (0 : Int32)), (.ref b)])) (fun _ k => XS.i2s X0.here hx rfl (hb hby d2_91) rfl k) ?_
  obtain ⟨cl1, Ar1, q1, S1, Nn1, H1, G1⟩ := id VB
  have hin1 : ¬ ((0 : Int32) < 0 ∨ cl1.slots.size ≤ ((0 : Int32)).toNatClampNeg) := inb_of S1 (own_hin (⟨by decide, by decide⟩ : own_in (0 : Int32) 10))
  obtain ⟨T2, h2, X2, e2, W2, st2⟩ := stS X0 hx hZ e0 Ar1 (j := (0 : Int32)) hin1 (g := (mkF m 92 #[.val (.ref a), .val (.int (0 : Int32)), .val (.ref b), .val (.int (2 : Int32)), .val (.int (0 : Int32)), .val (.int (0 : Int32)), .unset] [(.int (0 : Int32)), (.int (0 : Int32)), (.ref b)])) rfl rfl (hb hby d2_92)
  have V2 : Arv Z h2 b kB .short (11 : Int32) (vs.set 0 (.int (nar .short (0 : Int32)))) (.int (0 : Int32)) := Arv.set Ar1 q1 S1 Nn1 H1 G1 (fits_nar_short _) W2 0 rfl (by simp only [List.length_set, hl]; decide)
  have f3 := VA.other W2 nab
  have z4 : n0 ≤ h2.size := Nat.le_trans Z0 (Keep.of_wr W2).1
  have K5 : Keep h0 h2 [b] := (Keep.refl h0 [b]).wr W2 (Or.inl (List.mem_of_getElem? (i := 0) rfl))
  have N2 := Fr.snoc X2 N0 gb
  refine Goes.on (B := T2.setTop (mkF m 93 #[.val (.ref a), .val (.int (0 : Int32)), .val (.ref b), .val (.int (2 : Int32)), .val (.int (0 : Int32)), .val (.int (0 : Int32)), .unset] [])) (fun t k => st2 t k) ?_
  refine Goes.on (B := T2.setTop (mkF m 94 #[.val (.ref a), .val (.int (0 : Int32)), .val (.ref b), .val (.int (2 : Int32)), .val (.int (0 : Int32)), .val (.int (0 : Int32)), .unset] [(.ref b)])) (fun _ k => XS.aloadN X2.here hx rfl (hb hby d2_93) rfl rfl  k) ?_
  refine Goes.on (B := T2.setTop (mkF m 95 #[.val (.ref a), .val (.int (0 : Int32)), .val (.ref b), .val (.int (2 : Int32)), .val (.int (0 : Int32)), .val (.int (0 : Int32)), .unset] [(.int (1 : Int32)), (.ref b)])) (fun _ k => XS.iconst X2.here hx rfl (hb hby d2_94) k) ?_
  refine Goes.on (B := T2.setTop (mkF m 96 #[.val (.ref a), .val (.int (0 : Int32)), .val (.ref b), .val (.int (2 : Int32)), .val (.int (0 : Int32)), .val (.int (0 : Int32)), .unset] [(.int (2 : Int32)), (.int (1 : Int32)), (.ref b)])) (fun _ k => XS.iloadN X2.here hx rfl (hb hby d2_95) rfl  k) ?_
  refine Goes.on (B := T2.setTop (mkF m 97 #[.val (.ref a), .val (.int (0 : Int32)), .val (.ref b), .val (.int (2 : Int32)), .val (.int (0 : Int32)), .val (.int (0 : Int32)), .unset] [(.int (2 : Int32)), (.int (1 : Int32)), (.ref b)])) (fun _ k => XS.i2s X2.here hx rfl (hb hby d2_96) rfl k) ?_
  obtain ⟨cl6, Ar6, q6, S6, Nn6, H6, G6⟩ := id V2
  have hin6 : ¬ ((1 : Int32) < 0 ∨ cl6.slots.size ≤ ((1 : Int32)).toNatClampNeg) := inb_of S6 (own_hin (⟨by decide, by decide⟩ : own_in (1 : Int32) 10))
  obtain ⟨T7, h7, X7, e7, W7, st7⟩ := stS X2 hx hZ e2 Ar6 (j := (1 : Int32)) hin6 (g := (mkF m 97 #[.val (.ref a), .val (.int (0 : Int32)), .val (.ref b), .val (.int (2 : Int32)), .val (.int (0 : Int32)), .val (.int (0 : Int32)), .unset] [(.int (2 : Int32)), (.int (1 : Int32)), (.ref b)])) rfl rfl (hb hby d2_97)
  have V7 : Arv Z h7 b kB .short (11 : Int32) ((vs.set 0 (.int (nar .short (0 : Int32)))).set 1 (.int (nar .short (2 : Int32)))) (.int (0 : Int32)) := Arv.set Ar6 q6 S6 Nn6 H6 G6 (fits_nar_short _) W7 1 rfl (by simp only [List.length_set, hl]; decide)
  have f8 := f3.other W7 nab
  have z9 : n0 ≤ h7.size := Nat.le_trans z4 (Keep.of_wr W7).1
  have K10 : Keep h0 h7 [b] := K5.wr W7 (Or.inl (List.mem_of_getElem? (i := 0) rfl))
  have N7 := Fr.snoc X7 N2 gb
  refine Goes.on (B := T7.setTop (mkF m 98 #[.val (.ref a), .val (.int (0 : Int32)), .val (.ref b), .val (.int (2 : Int32)), .val (.int (0 : Int32)), .val (.int (0 : Int32)), .unset] [])) (fun t k => st7 t k) ?_
  obtain ⟨fs, hr, hrun, hended, hW, hsame⟩ := X7.leave (v := none) (fun _ => rfl)
  exact Goes.leaf (X7.returnOut hx Bd.returns (hb hby d2_98) hr) hrun hended ⟨_, _, rfl, by show Qen0 Z a b kA kB x0 x1 x2 vs h0 n0 _ T7.heap _; rw [e7]; exact ⟨rfl, N7, K10, V7⟩, ⟨_, rfl⟩, hW, hsame.mono (by decide) (by decide)⟩
theorem own_hz {t : Int32} (h : own_in t 20) : (nar .short (((t.toUInt32 >>> ((16 : Int32) &&& 31).toUInt32).toInt32).toInt16.toInt32)) = (nar .short (0 : Int32)) := by
  have t0 : ∀ k : Fin 21, (nar .short ((((Int32.ofNat k.val).toUInt32 >>> ((16 : Int32) &&& 31).toUInt32).toInt32).toInt16.toInt32)) = (nar .short (0 : Int32)) := by decide +kernel
  obtain ⟨h1, h2⟩ := h
  have e : t = Int32.ofNat t.toInt.toNat := by
    apply Int32.toInt_inj.mp
    rw [Int32.toInt_ofNat_of_lt (by omega)]
    omega
  have q := t0 ⟨t.toInt.toNat, by omega⟩
  simp only [← e] at q
  exact q
theorem own_lists0 (vs : List Value) : ((vs.set 0 (.int (nar .short ((((2 : Int32).toUInt32 >>> ((16 : Int32) &&& 31).toUInt32).toInt32).toInt16.toInt32)))).set 1 (.int (nar .short ((2 : Int32).toInt16.toInt32)))) = ((vs.set 0 (.int (nar .short (0 : Int32)))).set 1 (.int (nar .short ((2 : Int32).toInt16.toInt32)))) := by
  rw [own_hz (own_up own_i2 (by decide))]
theorem d2_14 : decode prog_31_method_3_code 14 = .ok (.aload_n 0, 1) := by decide +kernel
theorem d2_15 : decode prog_31_method_3_code 15 = .ok (.iload 5, 2) := by decide +kernel
theorem d2_17 : decode prog_31_method_3_code 17 = .ok (.iaload, 1) := by decide +kernel
theorem d2_18 : decode prog_31_method_3_code 18 = .ok (.iload 4, 2) := by decide +kernel
theorem d2_20 : decode prog_31_method_3_code 20 = .ok (.isub, 1) := by decide +kernel
theorem d2_21 : decode prog_31_method_3_code 21 = .ok (.istore 6, 2) := by decide +kernel
theorem d2_23 : decode prog_31_method_3_code 23 = .ok (.iload 6, 2) := by decide +kernel
theorem d2_25 : decode prog_31_method_3_code 25 = .ok (.invokestatic 11, 3) := by decide +kernel
theorem d2_28 : decode prog_31_method_3_code 28 = .ok (.ifCond .eq 15, 3) := by decide +kernel
theorem d2_31 : decode prog_31_method_3_code 31 = .ok (.aload_n 2, 1) := by decide +kernel
theorem d2_32 : decode prog_31_method_3_code 32 = .ok (.iload_n 3, 1) := by decide +kernel
theorem d2_33 : decode prog_31_method_3_code 33 = .ok (.iinc 3 1, 3) := by decide +kernel
theorem d2_36 : decode prog_31_method_3_code 36 = .ok (.iload 6, 2) := by decide +kernel
theorem d2_38 : decode prog_31_method_3_code 38 = .ok (.i2s, 1) := by decide +kernel
theorem d2_39 : decode prog_31_method_3_code 39 = .ok (.sastore, 1) := by decide +kernel
theorem d2_40 : decode prog_31_method_3_code 40 = .ok (.goto 33, 3) := by decide +kernel
theorem d2_43 : decode prog_31_method_3_code 43 = .ok (.aload_n 2, 1) := by decide +kernel
theorem d2_44 : decode prog_31_method_3_code 44 = .ok (.iload_n 3, 1) := by decide +kernel
theorem d2_45 : decode prog_31_method_3_code 45 = .ok (.iinc 3 1, 3) := by decide +kernel
theorem d2_48 : decode prog_31_method_3_code 48 = .ok (.sipush (-32768), 3) := by decide +kernel
theorem d2_51 : decode prog_31_method_3_code 51 = .ok (.sastore, 1) := by decide +kernel
theorem d2_52 : decode prog_31_method_3_code 52 = .ok (.aload_n 2, 1) := by decide +kernel
theorem d2_53 : decode prog_31_method_3_code 53 = .ok (.iload_n 3, 1) := by decide +kernel
theorem d2_54 : decode prog_31_method_3_code 54 = .ok (.iinc 3 1, 3) := by decide +kernel
theorem d2_57 : decode prog_31_method_3_code 57 = .ok (.iload 6, 2) := by decide +kernel
theorem d2_59 : decode prog_31_method_3_code 59 = .ok (.bipush 16, 2) := by decide +kernel
theorem d2_61 : decode prog_31_method_3_code 61 = .ok (.iushr, 1) := by decide +kernel
theorem d2_62 : decode prog_31_method_3_code 62 = .ok (.i2s, 1) := by decide +kernel
theorem d2_63 : decode prog_31_method_3_code 63 = .ok (.sastore, 1) := by decide +kernel
theorem d2_64 : decode prog_31_method_3_code 64 = .ok (.aload_n 2, 1) := by decide +kernel
theorem d2_65 : decode prog_31_method_3_code 65 = .ok (.iload_n 3, 1) := by decide +kernel
theorem d2_66 : decode prog_31_method_3_code 66 = .ok (.iinc 3 1, 3) := by decide +kernel
theorem d2_69 : decode prog_31_method_3_code 69 = .ok (.iload 6, 2) := by decide +kernel
theorem d2_71 : decode prog_31_method_3_code 71 = .ok (.i2s, 1) := by decide +kernel
theorem d2_72 : decode prog_31_method_3_code 72 = .ok (.sastore, 1) := by decide +kernel
theorem d2_73 : decode prog_31_method_3_code 73 = .ok (.aload_n 0, 1) := by decide +kernel
theorem d2_74 : decode prog_31_method_3_code 74 = .ok (.iload 5, 2) := by decide +kernel
theorem d2_76 : decode prog_31_method_3_code 76 = .ok (.iaload, 1) := by decide +kernel
theorem d2_77 : decode prog_31_method_3_code 77 = .ok (.istore 4, 2) := by decide +kernel
theorem d2_79 : decode prog_31_method_3_code 79 = .ok (.iinc 5 1, 3) := by decide +kernel
theorem d2_82 : decode prog_31_method_3_code 82 = .ok (.goto (-74), 3) := by decide +kernel
theorem pd_2__I_Z : parseMethodDescriptor "(I)Z" = some ⟨[.int], some .boolean⟩ := by decide +kernel
theorem ef_en1 (m : MethodId) (x0 : Addr) (x1 : Int32) (x2 : Addr) : entryFrame m #[(.ref x0), (.int x1), (.ref x2)] 7 = mkF m 0 #[.val (.ref x0), .val (.int x1), .val (.ref x2), .unset, .unset, .unset, .unset] [] := by first | (simp [entryFrame, mkF, argsToLocals, Value.category]; done) | rfl
def Qen1 (Z : State) (a : Addr) (b : Addr) (kA kB : ClassId) (x0 x1 x2 : Int32) (vs : List Value) (h0 : Heap) (n0 : Nat) (v : Option Value) (h : Heap) (L : List Loc) : Prop := v = none ∧ Fr n0 L ∧ Keep h0 h [b] ∧ Arv Z h b kB .short (11 : Int32) (((own_es vs (2 : Int32) (x0 - (0 : Int32))).set 0 (.int (nar .short ((((own_ea (2 : Int32) (x0 - (0 : Int32))).toUInt32 >>> ((16 : Int32) &&& 31).toUInt32).toInt32).toInt16.toInt32)))).set 1 (.int (nar .short ((own_ea (2 : Int32) (x0 - (0 : Int32))).toInt16.toInt32)))) (.int (0 : Int32))
set_option maxRecDepth 65536 in
set_option maxHeartbeats 40000000 in
theorem rmen1 (l : Launch) (Z : State) (a0 : Array Value) (hw : ∀ d ∈ tables_1, d.before a0 Z = true) (ws : List Jvm.Cond) (a : Addr) (b : Addr) (kA kB : ClassId) (x0 x1 x2 : Int32) (vs : List Value) (h0 : Heap) (n0 : Nat) (Z0 : n0 ≤ h0.size) (VA : Arv Z h0 a kA .int (3 : Int32) [(.int x0), (.int x1), (.int x2)] (.int (0 : Int32))) (VB : Arv Z h0 b kB .short (11 : Int32) vs (.int (0 : Int32))) (gb : n0 ≤ b) (hl : vs.length = 11) (nab : a ≠ b) :
    MetFree l (⟨"com/example/roadeq/roadeq/assign/LinkCode", "encode", "([II[S)V"⟩ : MethodName) (head1 (Jvm.Cond.code (⟨"com/example/roadeq/roadeq/assign/LinkCode", "encode", "([II[S)V"⟩ : MethodName) prog_31_method_3_code 7 none :: ws) ({ frames := 1, cells := 0, slots := 0, locals := 12 } : Room)) (fun aa U => aa = #[(.ref a), (.int (1 : Int32)), (.ref b)] ∧ Z.Warmed39 U.vm ∧ U.heap = h0) (fun _ _ _ _ _ => True) (fun _ U oo U' => ∃ vv LL, oo = .returned vv ∧ Qen1 Z a b kA kB x0 x1 x2 vs h0 n0 vv U'.heap LL ∧ FrameEnd U oo U' LL ({ frames := 1, cells := 0, slots := 0, locals := 12 } : Room).cells ({ frames := 1, cells := 0, slots := 0, locals := 12 } : Room).slots) := by
  refine MetFree.of_bodySF (plainFor_of_name pn_2) hisR ?_
  intro p e s m args below meth c s₁ Bd hml0 hP hK
  obtain ⟨rfl, hZ, hh⟩ := hP
  have hx := Bd.exec
  have hby := Bd.bytes
  have hml : c.maxLocals = 7 := hml0
  have hown : s.vm.findClass "com/example/roadeq/roadeq/assign/LinkCode" = some m.cls := findClass_of_methodNamed Bd.named
  have hnm := (name_of_methodNamed Bd.named Bd.method).1
  have X0 : Stand p l e ({ frames := 1, cells := 0, slots := 0, locals := 12 } : Room) s m #[(.ref a), (.int (1 : Int32)), (.ref b)] below meth c s₁ [] 0 0 := Stand.of_body Bd
  have e0 : s₁.heap = h0 := by rw [← hh, Bd.state]; rfl
  have N0 := Fr.nil n0
  show Goes p e below _ (s₁.setTop (entryFrame m #[(.ref a), (.int (1 : Int32)), (.ref b)] 7))
  refine Goes.on (B := s₁.setTop (mkF m 0 #[.val (.ref a), .val (.int (1 : Int32)), .val (.ref b), .unset, .unset, .unset, .unset] [])) (fun t k => castTop (ef_en1 m a (1 : Int32) b) k) ?_
  refine Goes.on (B := s₁.setTop (mkF m 1 #[.val (.ref a), .val (.int (1 : Int32)), .val (.ref b), .unset, .unset, .unset, .unset] [(.int (2 : Int32))])) (fun _ k => XS.iconst X0.here hx rfl (hb hby d2_0) k) ?_
  refine Goes.on (B := s₁.setTop (mkF m 2 #[.val (.ref a), .val (.int (1 : Int32)), .val (.ref b), .val (.int (2 : Int32)), .unset, .unset, .unset] [])) (fun _ k => XS.istoreN X0.here hx rfl (hb hby d2_1) rfl (l' := #[.val (.ref a), .val (.int (1 : Int32)), .val (.ref b), .val (.int (2 : Int32)), .unset, .unset, .unset]) rfl k) ?_
  refine Goes.on (B := s₁.setTop (mkF m 3 #[.val (.ref a), .val (.int (1 : Int32)), .val (.ref b), .val (.int (2 : Int32)), .unset, .unset, .unset] [(.int (0 : Int32))])) (fun _ k => XS.iconst X0.here hx rfl (hb hby d2_2) k) ?_
  refine Goes.on (B := s₁.setTop (mkF m 5 #[.val (.ref a), .val (.int (1 : Int32)), .val (.ref b), .val (.int (2 : Int32)), .val (.int (0 : Int32)), .unset, .unset] [])) (fun _ k => XS.istore X0.here hx rfl (hb hby d2_3) rfl (l' := #[.val (.ref a), .val (.int (1 : Int32)), .val (.ref b), .val (.int (2 : Int32)), .val (.int (0 : Int32)), .unset, .unset]) rfl k) ?_
  refine Goes.on (B := s₁.setTop (mkF m 6 #[.val (.ref a), .val (.int (1 : Int32)), .val (.ref b), .val (.int (2 : Int32)), .val (.int (0 : Int32)), .unset, .unset] [(.int (0 : Int32))])) (fun _ k => XS.iconst X0.here hx rfl (hb hby d2_5) k) ?_
  refine Goes.on (B := s₁.setTop (mkF m 8 #[.val (.ref a), .val (.int (1 : Int32)), .val (.ref b), .val (.int (2 : Int32)), .val (.int (0 : Int32)), .val (.int (0 : Int32)), .unset] [])) (fun _ k => XS.istore X0.here hx rfl (hb hby d2_6) rfl (l' := #[.val (.ref a), .val (.int (1 : Int32)), .val (.ref b), .val (.int (2 : Int32)), .val (.int (0 : Int32)), .val (.int (0 : Int32)), .unset]) rfl k) ?_
  refine Goes.on (B := s₁.setTop (mkF m 10 #[.val (.ref a), .val (.int (1 : Int32)), .val (.ref b), .val (.int (2 : Int32)), .val (.int (0 : Int32)), .val (.int (0 : Int32)), .unset] [(.int (0 : Int32))])) (fun _ k => XS.iload X0.here hx rfl (hb hby d2_8) rfl  k) ?_
  refine Goes.on (B := s₁.setTop (mkF m 11 #[.val (.ref a), .val (.int (1 : Int32)), .val (.ref b), .val (.int (2 : Int32)), .val (.int (0 : Int32)), .val (.int (0 : Int32)), .unset] [(.int (1 : Int32)), (.int (0 : Int32))])) (fun _ k => XS.iloadN X0.here hx rfl (hb hby d2_10) rfl  k) ?_
  refine Goes.on (B := s₁.setTop (mkF m 14 #[.val (.ref a), .val (.int (1 : Int32)), .val (.ref b), .val (.int (2 : Int32)), .val (.int (0 : Int32)), .val (.int (0 : Int32)), .unset] [])) (fun _ k => XS.icmpNo X0.here hx rfl (hb hby d2_11) rfl (tlt (by decide)).2.1 k) ?_
  refine Goes.on (B := s₁.setTop (mkF m 15 #[.val (.ref a), .val (.int (1 : Int32)), .val (.ref b), .val (.int (2 : Int32)), .val (.int (0 : Int32)), .val (.int (0 : Int32)), .unset] [(.ref a)])) (fun _ k => XS.aloadN X0.here hx rfl (hb hby d2_14) rfl rfl  k) ?_
  refine Goes.on (B := s₁.setTop (mkF m 17 #[.val (.ref a), .val (.int (1 : Int32)), .val (.ref b), .val (.int (2 : Int32)), .val (.int (0 : Int32)), .val (.int (0 : Int32)), .unset] [(.int (0 : Int32)), (.ref a)])) (fun _ k => XS.iload X0.here hx rfl (hb hby d2_15) rfl  k) ?_
  obtain ⟨cl1, Ar1, q1, S1, Nn1, H1, G1⟩ := id VA
  have hin1 : ¬ ((0 : Int32) < 0 ∨ cl1.slots.size ≤ ((0 : Int32)).toNatClampNeg) := inb_of S1 ⟨by decide, by decide⟩
  refine Goes.on (B := s₁.setTop (mkF m 18 #[.val (.ref a), .val (.int (1 : Int32)), .val (.ref b), .val (.int (2 : Int32)), .val (.int (0 : Int32)), .val (.int (0 : Int32)), .unset] [(.int x0)])) (fun _ k => X0.iaload hx (j := (0 : Int32)) (v := (.int x0)) (by rw [e0]; exact Ar1.1) (State.isArrayOf_alike hZ.alike Ar1.2.1) Ar1.2.2 hin1 (H1.at hin1 rfl) (g := (mkF m 17 #[.val (.ref a), .val (.int (1 : Int32)), .val (.ref b), .val (.int (2 : Int32)), .val (.int (0 : Int32)), .val (.int (0 : Int32)), .unset] [(.int (0 : Int32)), (.ref a)])) rfl rfl (hb hby d2_17) _ k) ?_
  refine Goes.on (B := s₁.setTop (mkF m 20 #[.val (.ref a), .val (.int (1 : Int32)), .val (.ref b), .val (.int (2 : Int32)), .val (.int (0 : Int32)), .val (.int (0 : Int32)), .unset] [(.int (0 : Int32)), (.int x0)])) (fun _ k => XS.iload X0.here hx rfl (hb hby d2_18) rfl  k) ?_
  refine Goes.on (B := s₁.setTop (mkF m 21 #[.val (.ref a), .val (.int (1 : Int32)), .val (.ref b), .val (.int (2 : Int32)), .val (.int (0 : Int32)), .val (.int (0 : Int32)), .unset] [(.int (x0 - (0 : Int32)))])) (fun _ k => XS.isub X0.here hx rfl (hb hby d2_20) rfl k) ?_
  refine Goes.on (B := s₁.setTop (mkF m 23 #[.val (.ref a), .val (.int (1 : Int32)), .val (.ref b), .val (.int (2 : Int32)), .val (.int (0 : Int32)), .val (.int (0 : Int32)), .val (.int (x0 - (0 : Int32)))] [])) (fun _ k => XS.istore X0.here hx rfl (hb hby d2_21) rfl (l' := #[.val (.ref a), .val (.int (1 : Int32)), .val (.ref b), .val (.int (2 : Int32)), .val (.int (0 : Int32)), .val (.int (0 : Int32)), .val (.int (x0 - (0 : Int32)))]) rfl k) ?_
  refine Goes.on (B := s₁.setTop (mkF m 25 #[.val (.ref a), .val (.int (1 : Int32)), .val (.ref b), .val (.int (2 : Int32)), .val (.int (0 : Int32)), .val (.int (0 : Int32)), .val (.int (x0 - (0 : Int32)))] [(.int (x0 - (0 : Int32)))])) (fun _ k => XS.iload X0.here hx rfl (hb hby d2_23) rfl  k) ?_
  obtain ⟨_, _, ⟨T2, L2, k2, n2⟩, -, X2, ⟨Lc2, hQ2, l2, y2, z2⟩, st2⟩ := Jvm.LawKit.callS X0 hx (y := (⟨"com/example/roadeq/roadeq/assign/LinkCode", "narrow", "(I)Z"⟩ : MethodName)) hown (mvT hZ (hw _ (List.mem_of_getElem? (i := 10) rfl))) (mvT hZ (hw _ (List.mem_of_getElem? (i := 11) rfl))) (mvT hZ (hw _ (List.mem_of_getElem? (i := 8) rfl))) (mvT hZ (hw _ (List.mem_of_getElem? (i := 12) rfl))) (by decide) (backOf (W := 0) (rmn l Z a0 hw [] (x0 - (0 : Int32)) h0 n0 Z0) hZ (hw _ (List.mem_of_getElem? (i := 12) rfl)) (hw _ (List.mem_of_getElem? (i := 8) rfl)) (by decide) (by decide)) (g := (mkF m 25 #[.val (.ref a), .val (.int (1 : Int32)), .val (.ref b), .val (.int (2 : Int32)), .val (.int (0 : Int32)), .val (.int (0 : Int32)), .val (.int (x0 - (0 : Int32)))] [(.int (x0 - (0 : Int32)))])) rfl (by rw [hml]; rfl) (argsL := [(.int (x0 - (0 : Int32)))]) (rest := []) (lenOf pd_2__I_Z rfl) rfl (by show 2 * 0 + _ ≤ _; exact Nat.le_of_eq rfl) (hb hby d2_25) (fun _ _ => ⟨rfl, e0, (by decide : 0 + 0 ≤ _), (by decide : 0 + 0 ≤ _)⟩)
  dsimp only [Pt.U, Pt.locs, Pt.cells, Pt.slots] at X2 l2 y2 z2 st2 hQ2
  subst l2 y2 z2
  obtain ⟨rfl, Nq2, eh2⟩ := hQ2
  have N2 := Fr.app N0 Nq2
  refine Goes.on (B := T2.setTop (mkF m 28 #[.val (.ref a), .val (.int (1 : Int32)), .val (.ref b), .val (.int (2 : Int32)), .val (.int (0 : Int32)), .val (.int (0 : Int32)), .val (.int (x0 - (0 : Int32)))] [(.int (own_nar (x0 - (0 : Int32))))])) (fun t k => st2 t k) ?_
  refine Goes.viaT (Φ := fun T => ∃ (h' : Heap) (ls : List Loc), Stand p l e ({ frames := 1, cells := 0, slots := 0, locals := 12 } : Room) s m #[(.ref a), (.int (1 : Int32)), (.ref b)] below meth c T ls 0 0 ∧ T.heap = h' ∧ Fr n0 ls ∧ Keep h0 h' [b] ∧ Arv Z h' a kA .int (3 : Int32) [(.int x0), (.int x1), (.int x2)] (.int (0 : Int32)) ∧ Arv Z h' b kB .short (11 : Int32) (own_es vs (2 : Int32) (x0 - (0 : Int32))) (.int (0 : Int32))) (F := (mkF m 73 #[.val (.ref a), .val (.int (1 : Int32)), .val (.ref b), .val (.int (own_ea (2 : Int32) (x0 - (0 : Int32)))), .val (.int (0 : Int32)), .val (.int (0 : Int32)), .val (.int (x0 - (0 : Int32)))] [])) (fun J0 => ?_) ?_
  · skip
    by_cases hc28_3 : (own_nar (x0 - (0 : Int32))) = (0 : Int32)
    · refine Goes.on (B := T2.setTop (mkF m 43 #[.val (.ref a), .val (.int (1 : Int32)), .val (.ref b), .val (.int (2 : Int32)), .val (.int (0 : Int32)), .val (.int (0 : Int32)), .val (.int (x0 - (0 : Int32)))] [])) (fun _ k => XS.ifYes X2.here hx rfl (pc0 := 28) (pc' := 43) rfl (hb hby d2_28) rfl ((if0 _ _).trans (teq hc28_3).1) (by decide) (by decide) k) ?_
      refine Goes.on (B := T2.setTop (mkF m 44 #[.val (.ref a), .val (.int (1 : Int32)), .val (.ref b), .val (.int (2 : Int32)), .val (.int (0 : Int32)), .val (.int (0 : Int32)), .val (.int (x0 - (0 : Int32)))] [(.ref b)])) (fun _ k => XS.aloadN X2.here hx rfl (hb hby d2_43) rfl rfl  k) ?_
      refine Goes.on (B := T2.setTop (mkF m 45 #[.val (.ref a), .val (.int (1 : Int32)), .val (.ref b), .val (.int (2 : Int32)), .val (.int (0 : Int32)), .val (.int (0 : Int32)), .val (.int (x0 - (0 : Int32)))] [(.int (2 : Int32)), (.ref b)])) (fun _ k => XS.iloadN X2.here hx rfl (hb hby d2_44) rfl  k) ?_
      refine Goes.on (B := T2.setTop (mkF m 48 #[.val (.ref a), .val (.int (1 : Int32)), .val (.ref b), .val (.int (3 : Int32)), .val (.int (0 : Int32)), .val (.int (0 : Int32)), .val (.int (x0 - (0 : Int32)))] [(.int (2 : Int32)), (.ref b)])) (fun _ k => XS.iinc X2.here hx rfl (hb hby d2_45) rfl (l' := #[.val (.ref a), .val (.int (1 : Int32)), .val (.ref b), .val (.int (3 : Int32)), .val (.int (0 : Int32)), .val (.int (0 : Int32)), .val (.int (x0 - (0 : Int32)))]) rfl k) ?_
      refine Goes.on (B := T2.setTop (mkF m 51 #[.val (.ref a), .val (.int (1 : Int32)), .val (.ref b), .val (.int (3 : Int32)), .val (.int (0 : Int32)), .val (.int (0 : Int32)), .val (.int (x0 - (0 : Int32)))] [(.int (-32768 : Int32)), (.int (2 : Int32)), (.ref b)])) (fun _ k => XS.sipush X2.here hx rfl (hb hby d2_48) k) ?_
      obtain ⟨cl4, Ar4, q4, S4, Nn4, H4, G4⟩ := id VB
      have hin4 : ¬ ((2 : Int32) < 0 ∨ cl4.slots.size ≤ ((2 : Int32)).toNatClampNeg) := inb_of S4 (own_hin (own_up own_i2 (by decide)))
      obtain ⟨T5, h5, X5, e5, W5, st5⟩ := stS X2 hx hZ eh2 Ar4 (j := (2 : Int32)) hin4 (g := (mkF m 51 #[.val (.ref a), .val (.int (1 : Int32)), .val (.ref b), .val (.int (3 : Int32)), .val (.int (0 : Int32)), .val (.int (0 : Int32)), .val (.int (x0 - (0 : Int32)))] [(.int (-32768 : Int32)), (.int (2 : Int32)), (.ref b)])) rfl rfl (hb hby d2_51)
      have V5 : Arv Z h5 b kB .short (11 : Int32) (vs.set 2 (.int (nar .short (-32768 : Int32)))) (.int (0 : Int32)) := Arv.set Ar4 q4 S4 Nn4 H4 G4 (fits_nar_short _) W5 2 rfl (by simp only [List.length_set, hl]; exact own_nat (own_up own_i2 (by decide)))
      have f6 := VA.other W5 nab
      have z7 : n0 ≤ h5.size := Nat.le_trans Z0 (Keep.of_wr W5).1
      have K8 : Keep h0 h5 [b] := (Keep.refl h0 [b]).wr W5 (Or.inl (List.mem_of_getElem? (i := 0) rfl))
      have N5 := Fr.snoc X5 N2 gb
      refine Goes.on (B := T5.setTop (mkF m 52 #[.val (.ref a), .val (.int (1 : Int32)), .val (.ref b), .val (.int (3 : Int32)), .val (.int (0 : Int32)), .val (.int (0 : Int32)), .val (.int (x0 - (0 : Int32)))] [])) (fun t k => st5 t k) ?_
      refine Goes.on (B := T5.setTop (mkF m 53 #[.val (.ref a), .val (.int (1 : Int32)), .val (.ref b), .val (.int (3 : Int32)), .val (.int (0 : Int32)), .val (.int (0 : Int32)), .val (.int (x0 - (0 : Int32)))] [(.ref b)])) (fun _ k => XS.aloadN X5.here hx rfl (hb hby d2_52) rfl rfl  k) ?_
      refine Goes.on (B := T5.setTop (mkF m 54 #[.val (.ref a), .val (.int (1 : Int32)), .val (.ref b), .val (.int (3 : Int32)), .val (.int (0 : Int32)), .val (.int (0 : Int32)), .val (.int (x0 - (0 : Int32)))] [(.int (3 : Int32)), (.ref b)])) (fun _ k => XS.iloadN X5.here hx rfl (hb hby d2_53) rfl  k) ?_
      refine Goes.on (B := T5.setTop (mkF m 57 #[.val (.ref a), .val (.int (1 : Int32)), .val (.ref b), .val (.int (4 : Int32)), .val (.int (0 : Int32)), .val (.int (0 : Int32)), .val (.int (x0 - (0 : Int32)))] [(.int (3 : Int32)), (.ref b)])) (fun _ k => XS.iinc X5.here hx rfl (hb hby d2_54) rfl (l' := #[.val (.ref a), .val (.int (1 : Int32)), .val (.ref b), .val (.int (4 : Int32)), .val (.int (0 : Int32)), .val (.int (0 : Int32)), .val (.int (x0 - (0 : Int32)))]) rfl k) ?_
      refine Goes.on (B := T5.setTop (mkF m 59 #[.val (.ref a), .val (.int (1 : Int32)), .val (.ref b), .val (.int (4 : Int32)), .val (.int (0 : Int32)), .val (.int (0 : Int32)), .val (.int (x0 - (0 : Int32)))] [(.int (x0 - (0 : Int32))), (.int (3 : Int32)), (.ref b)])) (fun _ k => XS.iload X5.here hx rfl (hb hby d2_57) rfl  k) ?_
      refine Goes.on (B := T5.setTop (mkF m 61 #[.val (.ref a), .val (.int (1 : Int32)), .val (.ref b), .val (.int (4 : Int32)), .val (.int (0 : Int32)), .val (.int (0 : Int32)), .val (.int (x0 - (0 : Int32)))] [(.int (16 : Int32)), (.int (x0 - (0 : Int32))), (.int (3 : Int32)), (.ref b)])) (fun _ k => XS.bipush X5.here hx rfl (hb hby d2_59) k) ?_
      refine Goes.on (B := T5.setTop (mkF m 62 #[.val (.ref a), .val (.int (1 : Int32)), .val (.ref b), .val (.int (4 : Int32)), .val (.int (0 : Int32)), .val (.int (0 : Int32)), .val (.int (x0 - (0 : Int32)))] [(.int (((x0 - (0 : Int32)).toUInt32 >>> ((16 : Int32) &&& 31).toUInt32).toInt32)), (.int (3 : Int32)), (.ref b)])) (fun _ k => XS.iushr X5.here hx rfl (hb hby d2_61) rfl k) ?_
      refine Goes.on (B := T5.setTop (mkF m 63 #[.val (.ref a), .val (.int (1 : Int32)), .val (.ref b), .val (.int (4 : Int32)), .val (.int (0 : Int32)), .val (.int (0 : Int32)), .val (.int (x0 - (0 : Int32)))] [(.int ((((x0 - (0 : Int32)).toUInt32 >>> ((16 : Int32) &&& 31).toUInt32).toInt32).toInt16.toInt32)), (.int (3 : Int32)), (.ref b)])) (fun _ k => XS.i2s X5.here hx rfl (hb hby d2_62) rfl k) ?_
      obtain ⟨cl9, Ar9, q9, S9, Nn9, H9, G9⟩ := id V5
      have hin9 : ¬ ((3 : Int32) < 0 ∨ cl9.slots.size ≤ ((3 : Int32)).toNatClampNeg) := inb_of S9 (own_hin (own_s1 (own_up own_i2 (by decide))))
      obtain ⟨T10, h10, X10, e10, W10, st10⟩ := stS X5 hx hZ e5 Ar9 (j := (3 : Int32)) hin9 (g := (mkF m 63 #[.val (.ref a), .val (.int (1 : Int32)), .val (.ref b), .val (.int (4 : Int32)), .val (.int (0 : Int32)), .val (.int (0 : Int32)), .val (.int (x0 - (0 : Int32)))] [(.int ((((x0 - (0 : Int32)).toUInt32 >>> ((16 : Int32) &&& 31).toUInt32).toInt32).toInt16.toInt32)), (.int (3 : Int32)), (.ref b)])) rfl rfl (hb hby d2_63)
      have V10 : Arv Z h10 b kB .short (11 : Int32) ((vs.set 2 (.int (nar .short (-32768 : Int32)))).set 3 (.int (nar .short ((((x0 - (0 : Int32)).toUInt32 >>> ((16 : Int32) &&& 31).toUInt32).toInt32).toInt16.toInt32)))) (.int (0 : Int32)) := Arv.set Ar9 q9 S9 Nn9 H9 G9 (fits_nar_short _) W10 3 rfl (by simp only [List.length_set, hl]; exact own_nat (own_s1 (own_up own_i2 (by decide))))
      have f11 := f6.other W10 nab
      have z12 : n0 ≤ h10.size := Nat.le_trans z7 (Keep.of_wr W10).1
      have K13 : Keep h0 h10 [b] := K8.wr W10 (Or.inl (List.mem_of_getElem? (i := 0) rfl))
      have N10 := Fr.snoc X10 N5 gb
      refine Goes.on (B := T10.setTop (mkF m 64 #[.val (.ref a), .val (.int (1 : Int32)), .val (.ref b), .val (.int (4 : Int32)), .val (.int (0 : Int32)), .val (.int (0 : Int32)), .val (.int (x0 - (0 : Int32)))] [])) (fun t k => st10 t k) ?_
      refine Goes.on (B := T10.setTop (mkF m 65 #[.val (.ref a), .val (.int (1 : Int32)), .val (.ref b), .val (.int (4 : Int32)), .val (.int (0 : Int32)), .val (.int (0 : Int32)), .val (.int (x0 - (0 : Int32)))] [(.ref b)])) (fun _ k => XS.aloadN X10.here hx rfl (hb hby d2_64) rfl rfl  k) ?_
      refine Goes.on (B := T10.setTop (mkF m 66 #[.val (.ref a), .val (.int (1 : Int32)), .val (.ref b), .val (.int (4 : Int32)), .val (.int (0 : Int32)), .val (.int (0 : Int32)), .val (.int (x0 - (0 : Int32)))] [(.int (4 : Int32)), (.ref b)])) (fun _ k => XS.iloadN X10.here hx rfl (hb hby d2_65) rfl  k) ?_
      refine Goes.on (B := T10.setTop (mkF m 69 #[.val (.ref a), .val (.int (1 : Int32)), .val (.ref b), .val (.int (5 : Int32)), .val (.int (0 : Int32)), .val (.int (0 : Int32)), .val (.int (x0 - (0 : Int32)))] [(.int (4 : Int32)), (.ref b)])) (fun _ k => XS.iinc X10.here hx rfl (hb hby d2_66) rfl (l' := #[.val (.ref a), .val (.int (1 : Int32)), .val (.ref b), .val (.int (5 : Int32)), .val (.int (0 : Int32)), .val (.int (0 : Int32)), .val (.int (x0 - (0 : Int32)))]) rfl k) ?_
      refine Goes.on (B := T10.setTop (mkF m 71 #[.val (.ref a), .val (.int (1 : Int32)), .val (.ref b), .val (.int (5 : Int32)), .val (.int (0 : Int32)), .val (.int (0 : Int32)), .val (.int (x0 - (0 : Int32)))] [(.int (x0 - (0 : Int32))), (.int (4 : Int32)), (.ref b)])) (fun _ k => XS.iload X10.here hx rfl (hb hby d2_69) rfl  k) ?_
      refine Goes.on (B := T10.setTop (mkF m 72 #[.val (.ref a), .val (.int (1 : Int32)), .val (.ref b), .val (.int (5 : Int32)), .val (.int (0 : Int32)), .val (.int (0 : Int32)), .val (.int (x0 - (0 : Int32)))] [(.int ((x0 - (0 : Int32)).toInt16.toInt32)), (.int (4 : Int32)), (.ref b)])) (fun _ k => XS.i2s X10.here hx rfl (hb hby d2_71) rfl k) ?_
      obtain ⟨cl14, Ar14, q14, S14, Nn14, H14, G14⟩ := id V10
      have hin14 : ¬ ((4 : Int32) < 0 ∨ cl14.slots.size ≤ ((4 : Int32)).toNatClampNeg) := inb_of S14 (own_hin (own_s2 (own_up own_i2 (by decide))))
      obtain ⟨T15, h15, X15, e15, W15, st15⟩ := stS X10 hx hZ e10 Ar14 (j := (4 : Int32)) hin14 (g := (mkF m 72 #[.val (.ref a), .val (.int (1 : Int32)), .val (.ref b), .val (.int (5 : Int32)), .val (.int (0 : Int32)), .val (.int (0 : Int32)), .val (.int (x0 - (0 : Int32)))] [(.int ((x0 - (0 : Int32)).toInt16.toInt32)), (.int (4 : Int32)), (.ref b)])) rfl rfl (hb hby d2_72)
      have V15 : Arv Z h15 b kB .short (11 : Int32) (((vs.set 2 (.int (nar .short (-32768 : Int32)))).set 3 (.int (nar .short ((((x0 - (0 : Int32)).toUInt32 >>> ((16 : Int32) &&& 31).toUInt32).toInt32).toInt16.toInt32)))).set 4 (.int (nar .short ((x0 - (0 : Int32)).toInt16.toInt32)))) (.int (0 : Int32)) := Arv.set Ar14 q14 S14 Nn14 H14 G14 (fits_nar_short _) W15 4 rfl (by simp only [List.length_set, hl]; exact own_nat (own_s2 (own_up own_i2 (by decide))))
      have f16 := f11.other W15 nab
      have z17 : n0 ≤ h15.size := Nat.le_trans z12 (Keep.of_wr W15).1
      have K18 : Keep h0 h15 [b] := K13.wr W15 (Or.inl (List.mem_of_getElem? (i := 0) rfl))
      have N15 := Fr.snoc X15 N10 gb
      refine Goes.on (B := T15.setTop (mkF m 73 #[.val (.ref a), .val (.int (1 : Int32)), .val (.ref b), .val (.int (5 : Int32)), .val (.int (0 : Int32)), .val (.int (0 : Int32)), .val (.int (x0 - (0 : Int32)))] [])) (fun t k => st15 t k) ?_
      have hj1 : (own_ea (2 : Int32) (x0 - (0 : Int32))) = (5 : Int32) := by rw [own_ea, if_pos hc28_3]; try rfl
      have hj2 : (own_es vs (2 : Int32) (x0 - (0 : Int32))) = (((vs.set 2 (.int (nar .short (-32768 : Int32)))).set 3 (.int (nar .short ((((x0 - (0 : Int32)).toUInt32 >>> ((16 : Int32) &&& 31).toUInt32).toInt32).toInt16.toInt32)))).set 4 (.int (nar .short ((x0 - (0 : Int32)).toInt16.toInt32)))) := by rw [own_es, if_pos hc28_3]; try rfl
      have JJ := J0 T15 ⟨_, _, X15, e15, N15, K18, f16, by rw [hj2]; exact V15⟩
      rw [hj1] at JJ; exact JJ
    · refine Goes.on (B := T2.setTop (mkF m 31 #[.val (.ref a), .val (.int (1 : Int32)), .val (.ref b), .val (.int (2 : Int32)), .val (.int (0 : Int32)), .val (.int (0 : Int32)), .val (.int (x0 - (0 : Int32)))] [])) (fun _ k => XS.ifNo X2.here hx rfl (hb hby d2_28) rfl ((if0 _ _).trans (feq hc28_3).1) k) ?_
      refine Goes.on (B := T2.setTop (mkF m 32 #[.val (.ref a), .val (.int (1 : Int32)), .val (.ref b), .val (.int (2 : Int32)), .val (.int (0 : Int32)), .val (.int (0 : Int32)), .val (.int (x0 - (0 : Int32)))] [(.ref b)])) (fun _ k => XS.aloadN X2.here hx rfl (hb hby d2_31) rfl rfl  k) ?_
      refine Goes.on (B := T2.setTop (mkF m 33 #[.val (.ref a), .val (.int (1 : Int32)), .val (.ref b), .val (.int (2 : Int32)), .val (.int (0 : Int32)), .val (.int (0 : Int32)), .val (.int (x0 - (0 : Int32)))] [(.int (2 : Int32)), (.ref b)])) (fun _ k => XS.iloadN X2.here hx rfl (hb hby d2_32) rfl  k) ?_
      refine Goes.on (B := T2.setTop (mkF m 36 #[.val (.ref a), .val (.int (1 : Int32)), .val (.ref b), .val (.int (3 : Int32)), .val (.int (0 : Int32)), .val (.int (0 : Int32)), .val (.int (x0 - (0 : Int32)))] [(.int (2 : Int32)), (.ref b)])) (fun _ k => XS.iinc X2.here hx rfl (hb hby d2_33) rfl (l' := #[.val (.ref a), .val (.int (1 : Int32)), .val (.ref b), .val (.int (3 : Int32)), .val (.int (0 : Int32)), .val (.int (0 : Int32)), .val (.int (x0 - (0 : Int32)))]) rfl k) ?_
      refine Goes.on (B := T2.setTop (mkF m 38 #[.val (.ref a), .val (.int (1 : Int32)), .val (.ref b), .val (.int (3 : Int32)), .val (.int (0 : Int32)), .val (.int (0 : Int32)), .val (.int (x0 - (0 : Int32)))] [(.int (x0 - (0 : Int32))), (.int (2 : Int32)), (.ref b)])) (fun _ k => XS.iload X2.here hx rfl (hb hby d2_36) rfl  k) ?_
      refine Goes.on (B := T2.setTop (mkF m 39 #[.val (.ref a), .val (.int (1 : Int32)), .val (.ref b), .val (.int (3 : Int32)), .val (.int (0 : Int32)), .val (.int (0 : Int32)), .val (.int (x0 - (0 : Int32)))] [(.int ((x0 - (0 : Int32)).toInt16.toInt32)), (.int (2 : Int32)), (.ref b)])) (fun _ k => XS.i2s X2.here hx rfl (hb hby d2_38) rfl k) ?_
      obtain ⟨cl19, Ar19, q19, S19, Nn19, H19, G19⟩ := id VB
      have hin19 : ¬ ((2 : Int32) < 0 ∨ cl19.slots.size ≤ ((2 : Int32)).toNatClampNeg) := inb_of S19 (own_hin (own_up own_i2 (by decide)))
      obtain ⟨T20, h20, X20, e20, W20, st20⟩ := stS X2 hx hZ eh2 Ar19 (j := (2 : Int32)) hin19 (g := (mkF m 39 #[.val (.ref a), .val (.int (1 : Int32)), .val (.ref b), .val (.int (3 : Int32)), .val (.int (0 : Int32)), .val (.int (0 : Int32)), .val (.int (x0 - (0 : Int32)))] [(.int ((x0 - (0 : Int32)).toInt16.toInt32)), (.int (2 : Int32)), (.ref b)])) rfl rfl (hb hby d2_39)
      have V20 : Arv Z h20 b kB .short (11 : Int32) (vs.set 2 (.int (nar .short ((x0 - (0 : Int32)).toInt16.toInt32)))) (.int (0 : Int32)) := Arv.set Ar19 q19 S19 Nn19 H19 G19 (fits_nar_short _) W20 2 rfl (by simp only [List.length_set, hl]; exact own_nat (own_up own_i2 (by decide)))
      have f21 := VA.other W20 nab
      have z22 : n0 ≤ h20.size := Nat.le_trans Z0 (Keep.of_wr W20).1
      have K23 : Keep h0 h20 [b] := (Keep.refl h0 [b]).wr W20 (Or.inl (List.mem_of_getElem? (i := 0) rfl))
      have N20 := Fr.snoc X20 N2 gb
      refine Goes.on (B := T20.setTop (mkF m 40 #[.val (.ref a), .val (.int (1 : Int32)), .val (.ref b), .val (.int (3 : Int32)), .val (.int (0 : Int32)), .val (.int (0 : Int32)), .val (.int (x0 - (0 : Int32)))] [])) (fun t k => st20 t k) ?_
      refine Goes.on (B := T20.setTop (mkF m 73 #[.val (.ref a), .val (.int (1 : Int32)), .val (.ref b), .val (.int (3 : Int32)), .val (.int (0 : Int32)), .val (.int (0 : Int32)), .val (.int (x0 - (0 : Int32)))] [])) (fun _ k => XS.goto X20.here hx rfl (pc0 := 40) (pc' := 73) rfl (hb hby d2_40) (by decide) (by decide) k) ?_
      have hj1 : (own_ea (2 : Int32) (x0 - (0 : Int32))) = (3 : Int32) := by rw [own_ea, if_neg hc28_3]; try rfl
      have hj2 : (own_es vs (2 : Int32) (x0 - (0 : Int32))) = (vs.set 2 (.int (nar .short ((x0 - (0 : Int32)).toInt16.toInt32)))) := by rw [own_es, if_neg hc28_3]; try rfl
      have JJ := J0 T20 ⟨_, _, X20, e20, N20, K23, f21, by rw [hj2]; exact V20⟩
      rw [hj1] at JJ; exact JJ
  intro T24 hT24
  obtain ⟨h24, ls24, X24, e24, N24, K24, VA24, VB24⟩ := hT24
  have z24 : n0 ≤ h24.size := Nat.le_trans Z0 K24.1
  refine Goes.on (B := T24.setTop (mkF m 74 #[.val (.ref a), .val (.int (1 : Int32)), .val (.ref b), .val (.int (own_ea (2 : Int32) (x0 - (0 : Int32)))), .val (.int (0 : Int32)), .val (.int (0 : Int32)), .val (.int (x0 - (0 : Int32)))] [(.ref a)])) (fun _ k => XS.aloadN X24.here hx rfl (hb hby d2_73) rfl rfl  k) ?_
  refine Goes.on (B := T24.setTop (mkF m 76 #[.val (.ref a), .val (.int (1 : Int32)), .val (.ref b), .val (.int (own_ea (2 : Int32) (x0 - (0 : Int32)))), .val (.int (0 : Int32)), .val (.int (0 : Int32)), .val (.int (x0 - (0 : Int32)))] [(.int (0 : Int32)), (.ref a)])) (fun _ k => XS.iload X24.here hx rfl (hb hby d2_74) rfl  k) ?_
  obtain ⟨cl25, Ar25, q25, S25, Nn25, H25, G25⟩ := id VA24
  have hin25 : ¬ ((0 : Int32) < 0 ∨ cl25.slots.size ≤ ((0 : Int32)).toNatClampNeg) := inb_of S25 ⟨by decide, by decide⟩
  refine Goes.on (B := T24.setTop (mkF m 77 #[.val (.ref a), .val (.int (1 : Int32)), .val (.ref b), .val (.int (own_ea (2 : Int32) (x0 - (0 : Int32)))), .val (.int (0 : Int32)), .val (.int (0 : Int32)), .val (.int (x0 - (0 : Int32)))] [(.int x0)])) (fun _ k => X24.iaload hx (j := (0 : Int32)) (v := (.int x0)) (by rw [e24]; exact Ar25.1) (State.isArrayOf_alike hZ.alike Ar25.2.1) Ar25.2.2 hin25 (H25.at hin25 rfl) (g := (mkF m 76 #[.val (.ref a), .val (.int (1 : Int32)), .val (.ref b), .val (.int (own_ea (2 : Int32) (x0 - (0 : Int32)))), .val (.int (0 : Int32)), .val (.int (0 : Int32)), .val (.int (x0 - (0 : Int32)))] [(.int (0 : Int32)), (.ref a)])) rfl rfl (hb hby d2_76) _ k) ?_
  refine Goes.on (B := T24.setTop (mkF m 79 #[.val (.ref a), .val (.int (1 : Int32)), .val (.ref b), .val (.int (own_ea (2 : Int32) (x0 - (0 : Int32)))), .val (.int x0), .val (.int (0 : Int32)), .val (.int (x0 - (0 : Int32)))] [])) (fun _ k => XS.istore X24.here hx rfl (hb hby d2_77) rfl (l' := #[.val (.ref a), .val (.int (1 : Int32)), .val (.ref b), .val (.int (own_ea (2 : Int32) (x0 - (0 : Int32)))), .val (.int x0), .val (.int (0 : Int32)), .val (.int (x0 - (0 : Int32)))]) rfl k) ?_
  refine Goes.on (B := T24.setTop (mkF m 82 #[.val (.ref a), .val (.int (1 : Int32)), .val (.ref b), .val (.int (own_ea (2 : Int32) (x0 - (0 : Int32)))), .val (.int x0), .val (.int (1 : Int32)), .val (.int (x0 - (0 : Int32)))] [])) (fun _ k => XS.iinc X24.here hx rfl (hb hby d2_79) rfl (l' := #[.val (.ref a), .val (.int (1 : Int32)), .val (.ref b), .val (.int (own_ea (2 : Int32) (x0 - (0 : Int32)))), .val (.int x0), .val (.int (1 : Int32)), .val (.int (x0 - (0 : Int32)))]) rfl k) ?_
  refine Goes.on (B := T24.setTop (mkF m 8 #[.val (.ref a), .val (.int (1 : Int32)), .val (.ref b), .val (.int (own_ea (2 : Int32) (x0 - (0 : Int32)))), .val (.int x0), .val (.int (1 : Int32)), .val (.int (x0 - (0 : Int32)))] [])) (fun _ k => XS.goto X24.here hx rfl (pc0 := 82) (pc' := 8) rfl (hb hby d2_82) (by decide) (by decide) k) ?_
  refine Goes.on (B := T24.setTop (mkF m 10 #[.val (.ref a), .val (.int (1 : Int32)), .val (.ref b), .val (.int (own_ea (2 : Int32) (x0 - (0 : Int32)))), .val (.int x0), .val (.int (1 : Int32)), .val (.int (x0 - (0 : Int32)))] [(.int (1 : Int32))])) (fun _ k => XS.iload X24.here hx rfl (hb hby d2_8) rfl  k) ?_
  refine Goes.on (B := T24.setTop (mkF m 11 #[.val (.ref a), .val (.int (1 : Int32)), .val (.ref b), .val (.int (own_ea (2 : Int32) (x0 - (0 : Int32)))), .val (.int x0), .val (.int (1 : Int32)), .val (.int (x0 - (0 : Int32)))] [(.int (1 : Int32)), (.int (1 : Int32))])) (fun _ k => XS.iloadN X24.here hx rfl (hb hby d2_10) rfl  k) ?_
  refine Goes.on (B := T24.setTop (mkF m 85 #[.val (.ref a), .val (.int (1 : Int32)), .val (.ref b), .val (.int (own_ea (2 : Int32) (x0 - (0 : Int32)))), .val (.int x0), .val (.int (1 : Int32)), .val (.int (x0 - (0 : Int32)))] [])) (fun _ k => XS.icmpYes X24.here hx rfl (pc0 := 11) (pc' := 85) rfl (hb hby d2_11) rfl (flt (by decide)).2.1 (by decide) (by decide) k) ?_
  refine Goes.on (B := T24.setTop (mkF m 86 #[.val (.ref a), .val (.int (1 : Int32)), .val (.ref b), .val (.int (own_ea (2 : Int32) (x0 - (0 : Int32)))), .val (.int x0), .val (.int (1 : Int32)), .val (.int (x0 - (0 : Int32)))] [(.ref b)])) (fun _ k => XS.aloadN X24.here hx rfl (hb hby d2_85) rfl rfl  k) ?_
  refine Goes.on (B := T24.setTop (mkF m 87 #[.val (.ref a), .val (.int (1 : Int32)), .val (.ref b), .val (.int (own_ea (2 : Int32) (x0 - (0 : Int32)))), .val (.int x0), .val (.int (1 : Int32)), .val (.int (x0 - (0 : Int32)))] [(.int (0 : Int32)), (.ref b)])) (fun _ k => XS.iconst X24.here hx rfl (hb hby d2_86) k) ?_
  refine Goes.on (B := T24.setTop (mkF m 88 #[.val (.ref a), .val (.int (1 : Int32)), .val (.ref b), .val (.int (own_ea (2 : Int32) (x0 - (0 : Int32)))), .val (.int x0), .val (.int (1 : Int32)), .val (.int (x0 - (0 : Int32)))] [(.int (own_ea (2 : Int32) (x0 - (0 : Int32)))), (.int (0 : Int32)), (.ref b)])) (fun _ k => XS.iloadN X24.here hx rfl (hb hby d2_87) rfl  k) ?_
  refine Goes.on (B := T24.setTop (mkF m 90 #[.val (.ref a), .val (.int (1 : Int32)), .val (.ref b), .val (.int (own_ea (2 : Int32) (x0 - (0 : Int32)))), .val (.int x0), .val (.int (1 : Int32)), .val (.int (x0 - (0 : Int32)))] [(.int (16 : Int32)), (.int (own_ea (2 : Int32) (x0 - (0 : Int32)))), (.int (0 : Int32)), (.ref b)])) (fun _ k => XS.bipush X24.here hx rfl (hb hby d2_88) k) ?_
  refine Goes.on (B := T24.setTop (mkF m 91 #[.val (.ref a), .val (.int (1 : Int32)), .val (.ref b), .val (.int (own_ea (2 : Int32) (x0 - (0 : Int32)))), .val (.int x0), .val (.int (1 : Int32)), .val (.int (x0 - (0 : Int32)))] [(.int (((own_ea (2 : Int32) (x0 - (0 : Int32))).toUInt32 >>> ((16 : Int32) &&& 31).toUInt32).toInt32)), (.int (0 : Int32)), (.ref b)])) (fun _ k => XS.iushr X24.here hx rfl (hb hby d2_90) rfl k) ?_
  refine Goes.on (B := T24.setTop (mkF m 92 #[.val (.ref a), .val (.int (1 : Int32)), .val (.ref b), .val (.int (own_ea (2 : Int32) (x0 - (0 : Int32)))), .val (.int x0), .val (.int (1 : Int32)), .val (.int (x0 - (0 : Int32)))] [(.int ((((own_ea (2 : Int32) (x0 - (0 : Int32))).toUInt32 >>> ((16 : Int32) &&& 31).toUInt32).toInt32).toInt16.toInt32)), (.int (0 : Int32)), (.ref b)])) (fun _ k => XS.i2s X24.here hx rfl (hb hby d2_91) rfl k) ?_
  obtain ⟨cl26, Ar26, q26, S26, Nn26, H26, G26⟩ := id VB24
  have hin26 : ¬ ((0 : Int32) < 0 ∨ cl26.slots.size ≤ ((0 : Int32)).toNatClampNeg) := inb_of S26 (own_hin (⟨by decide, by decide⟩ : own_in (0 : Int32) 10))
  obtain ⟨T27, h27, X27, e27, W27, st27⟩ := stS X24 hx hZ e24 Ar26 (j := (0 : Int32)) hin26 (g := (mkF m 92 #[.val (.ref a), .val (.int (1 : Int32)), .val (.ref b), .val (.int (own_ea (2 : Int32) (x0 - (0 : Int32)))), .val (.int x0), .val (.int (1 : Int32)), .val (.int (x0 - (0 : Int32)))] [(.int ((((own_ea (2 : Int32) (x0 - (0 : Int32))).toUInt32 >>> ((16 : Int32) &&& 31).toUInt32).toInt32).toInt16.toInt32)), (.int (0 : Int32)), (.ref b)])) rfl rfl (hb hby d2_92)
  have V27 : Arv Z h27 b kB .short (11 : Int32) ((own_es vs (2 : Int32) (x0 - (0 : Int32))).set 0 (.int (nar .short ((((own_ea (2 : Int32) (x0 - (0 : Int32))).toUInt32 >>> ((16 : Int32) &&& 31).toUInt32).toInt32).toInt16.toInt32)))) (.int (0 : Int32)) := Arv.set Ar26 q26 S26 Nn26 H26 G26 (fits_nar_short _) W27 0 rfl (by simp only [List.length_set, (own_elen hl)]; decide)
  have f28 := VA24.other W27 nab
  have z29 : n0 ≤ h27.size := Nat.le_trans z24 (Keep.of_wr W27).1
  have K30 : Keep h0 h27 [b] := K24.wr W27 (Or.inl (List.mem_of_getElem? (i := 0) rfl))
  have N27 := Fr.snoc X27 N24 gb
  refine Goes.on (B := T27.setTop (mkF m 93 #[.val (.ref a), .val (.int (1 : Int32)), .val (.ref b), .val (.int (own_ea (2 : Int32) (x0 - (0 : Int32)))), .val (.int x0), .val (.int (1 : Int32)), .val (.int (x0 - (0 : Int32)))] [])) (fun t k => st27 t k) ?_
  refine Goes.on (B := T27.setTop (mkF m 94 #[.val (.ref a), .val (.int (1 : Int32)), .val (.ref b), .val (.int (own_ea (2 : Int32) (x0 - (0 : Int32)))), .val (.int x0), .val (.int (1 : Int32)), .val (.int (x0 - (0 : Int32)))] [(.ref b)])) (fun _ k => XS.aloadN X27.here hx rfl (hb hby d2_93) rfl rfl  k) ?_
  refine Goes.on (B := T27.setTop (mkF m 95 #[.val (.ref a), .val (.int (1 : Int32)), .val (.ref b), .val (.int (own_ea (2 : Int32) (x0 - (0 : Int32)))), .val (.int x0), .val (.int (1 : Int32)), .val (.int (x0 - (0 : Int32)))] [(.int (1 : Int32)), (.ref b)])) (fun _ k => XS.iconst X27.here hx rfl (hb hby d2_94) k) ?_
  refine Goes.on (B := T27.setTop (mkF m 96 #[.val (.ref a), .val (.int (1 : Int32)), .val (.ref b), .val (.int (own_ea (2 : Int32) (x0 - (0 : Int32)))), .val (.int x0), .val (.int (1 : Int32)), .val (.int (x0 - (0 : Int32)))] [(.int (own_ea (2 : Int32) (x0 - (0 : Int32)))), (.int (1 : Int32)), (.ref b)])) (fun _ k => XS.iloadN X27.here hx rfl (hb hby d2_95) rfl  k) ?_
  refine Goes.on (B := T27.setTop (mkF m 97 #[.val (.ref a), .val (.int (1 : Int32)), .val (.ref b), .val (.int (own_ea (2 : Int32) (x0 - (0 : Int32)))), .val (.int x0), .val (.int (1 : Int32)), .val (.int (x0 - (0 : Int32)))] [(.int ((own_ea (2 : Int32) (x0 - (0 : Int32))).toInt16.toInt32)), (.int (1 : Int32)), (.ref b)])) (fun _ k => XS.i2s X27.here hx rfl (hb hby d2_96) rfl k) ?_
  obtain ⟨cl31, Ar31, q31, S31, Nn31, H31, G31⟩ := id V27
  have hin31 : ¬ ((1 : Int32) < 0 ∨ cl31.slots.size ≤ ((1 : Int32)).toNatClampNeg) := inb_of S31 (own_hin (⟨by decide, by decide⟩ : own_in (1 : Int32) 10))
  obtain ⟨T32, h32, X32, e32, W32, st32⟩ := stS X27 hx hZ e27 Ar31 (j := (1 : Int32)) hin31 (g := (mkF m 97 #[.val (.ref a), .val (.int (1 : Int32)), .val (.ref b), .val (.int (own_ea (2 : Int32) (x0 - (0 : Int32)))), .val (.int x0), .val (.int (1 : Int32)), .val (.int (x0 - (0 : Int32)))] [(.int ((own_ea (2 : Int32) (x0 - (0 : Int32))).toInt16.toInt32)), (.int (1 : Int32)), (.ref b)])) rfl rfl (hb hby d2_97)
  have V32 : Arv Z h32 b kB .short (11 : Int32) (((own_es vs (2 : Int32) (x0 - (0 : Int32))).set 0 (.int (nar .short ((((own_ea (2 : Int32) (x0 - (0 : Int32))).toUInt32 >>> ((16 : Int32) &&& 31).toUInt32).toInt32).toInt16.toInt32)))).set 1 (.int (nar .short ((own_ea (2 : Int32) (x0 - (0 : Int32))).toInt16.toInt32)))) (.int (0 : Int32)) := Arv.set Ar31 q31 S31 Nn31 H31 G31 (fits_nar_short _) W32 1 rfl (by simp only [List.length_set, (own_elen hl)]; decide)
  have f33 := f28.other W32 nab
  have z34 : n0 ≤ h32.size := Nat.le_trans z29 (Keep.of_wr W32).1
  have K35 : Keep h0 h32 [b] := K30.wr W32 (Or.inl (List.mem_of_getElem? (i := 0) rfl))
  have N32 := Fr.snoc X32 N27 gb
  refine Goes.on (B := T32.setTop (mkF m 98 #[.val (.ref a), .val (.int (1 : Int32)), .val (.ref b), .val (.int (own_ea (2 : Int32) (x0 - (0 : Int32)))), .val (.int x0), .val (.int (1 : Int32)), .val (.int (x0 - (0 : Int32)))] [])) (fun t k => st32 t k) ?_
  obtain ⟨fs, hr, hrun, hended, hW, hsame⟩ := X32.leave (v := none) (fun _ => rfl)
  exact Goes.leaf (X32.returnOut hx Bd.returns (hb hby d2_98) hr) hrun hended ⟨_, _, rfl, by show Qen1 Z a b kA kB x0 x1 x2 vs h0 n0 _ T32.heap _; rw [e32]; exact ⟨rfl, N32, K35, V32⟩, ⟨_, rfl⟩, hW, hsame.mono (by decide) (by decide)⟩
theorem own_lists1 (vs : List Value) (x0 x1 x2 : Int32) : (((own_es vs (2 : Int32) (x0 - (0 : Int32))).set 0 (.int (nar .short ((((own_ea (2 : Int32) (x0 - (0 : Int32))).toUInt32 >>> ((16 : Int32) &&& 31).toUInt32).toInt32).toInt16.toInt32)))).set 1 (.int (nar .short ((own_ea (2 : Int32) (x0 - (0 : Int32))).toInt16.toInt32)))) = (((own_put vs (2 : Int32) x0).set 0 (.int (nar .short (0 : Int32)))).set 1 (.int (nar .short ((own_at (2 : Int32) x0).toInt16.toInt32)))) := by
  simp only [own_es_put, own_ea_at, Int32.sub_zero]
  rw [own_hz (own_up (b := 5) (own_ib own_i2 (by decide)) (by decide))]
theorem ef_en2 (m : MethodId) (x0 : Addr) (x1 : Int32) (x2 : Addr) : entryFrame m #[(.ref x0), (.int x1), (.ref x2)] 7 = mkF m 0 #[.val (.ref x0), .val (.int x1), .val (.ref x2), .unset, .unset, .unset, .unset] [] := by first | (simp [entryFrame, mkF, argsToLocals, Value.category]; done) | rfl
def Qen2 (Z : State) (a : Addr) (b : Addr) (kA kB : ClassId) (x0 x1 x2 : Int32) (vs : List Value) (h0 : Heap) (n0 : Nat) (v : Option Value) (h : Heap) (L : List Loc) : Prop := v = none ∧ Fr n0 L ∧ Keep h0 h [b] ∧ Arv Z h b kB .short (11 : Int32) (((own_es (own_es vs (2 : Int32) (x0 - (0 : Int32))) (own_ea (2 : Int32) (x0 - (0 : Int32))) (x1 - x0)).set 0 (.int (nar .short ((((own_ea (own_ea (2 : Int32) (x0 - (0 : Int32))) (x1 - x0)).toUInt32 >>> ((16 : Int32) &&& 31).toUInt32).toInt32).toInt16.toInt32)))).set 1 (.int (nar .short ((own_ea (own_ea (2 : Int32) (x0 - (0 : Int32))) (x1 - x0)).toInt16.toInt32)))) (.int (0 : Int32))
set_option maxRecDepth 65536 in
set_option maxHeartbeats 40000000 in
theorem rmen2 (l : Launch) (Z : State) (a0 : Array Value) (hw : ∀ d ∈ tables_1, d.before a0 Z = true) (ws : List Jvm.Cond) (a : Addr) (b : Addr) (kA kB : ClassId) (x0 x1 x2 : Int32) (vs : List Value) (h0 : Heap) (n0 : Nat) (Z0 : n0 ≤ h0.size) (VA : Arv Z h0 a kA .int (3 : Int32) [(.int x0), (.int x1), (.int x2)] (.int (0 : Int32))) (VB : Arv Z h0 b kB .short (11 : Int32) vs (.int (0 : Int32))) (gb : n0 ≤ b) (hl : vs.length = 11) (nab : a ≠ b) :
    MetFree l (⟨"com/example/roadeq/roadeq/assign/LinkCode", "encode", "([II[S)V"⟩ : MethodName) (head1 (Jvm.Cond.code (⟨"com/example/roadeq/roadeq/assign/LinkCode", "encode", "([II[S)V"⟩ : MethodName) prog_31_method_3_code 7 none :: ws) ({ frames := 1, cells := 0, slots := 0, locals := 12 } : Room)) (fun aa U => aa = #[(.ref a), (.int (2 : Int32)), (.ref b)] ∧ Z.Warmed39 U.vm ∧ U.heap = h0) (fun _ _ _ _ _ => True) (fun _ U oo U' => ∃ vv LL, oo = .returned vv ∧ Qen2 Z a b kA kB x0 x1 x2 vs h0 n0 vv U'.heap LL ∧ FrameEnd U oo U' LL ({ frames := 1, cells := 0, slots := 0, locals := 12 } : Room).cells ({ frames := 1, cells := 0, slots := 0, locals := 12 } : Room).slots) := by
  refine MetFree.of_bodySF (plainFor_of_name pn_2) hisR ?_
  intro p e s m args below meth c s₁ Bd hml0 hP hK
  obtain ⟨rfl, hZ, hh⟩ := hP
  have hx := Bd.exec
  have hby := Bd.bytes
  have hml : c.maxLocals = 7 := hml0
  have hown : s.vm.findClass "com/example/roadeq/roadeq/assign/LinkCode" = some m.cls := findClass_of_methodNamed Bd.named
  have hnm := (name_of_methodNamed Bd.named Bd.method).1
  have X0 : Stand p l e ({ frames := 1, cells := 0, slots := 0, locals := 12 } : Room) s m #[(.ref a), (.int (2 : Int32)), (.ref b)] below meth c s₁ [] 0 0 := Stand.of_body Bd
  have e0 : s₁.heap = h0 := by rw [← hh, Bd.state]; rfl
  have N0 := Fr.nil n0
  show Goes p e below _ (s₁.setTop (entryFrame m #[(.ref a), (.int (2 : Int32)), (.ref b)] 7))
  refine Goes.on (B := s₁.setTop (mkF m 0 #[.val (.ref a), .val (.int (2 : Int32)), .val (.ref b), .unset, .unset, .unset, .unset] [])) (fun t k => castTop (ef_en2 m a (2 : Int32) b) k) ?_
  refine Goes.on (B := s₁.setTop (mkF m 1 #[.val (.ref a), .val (.int (2 : Int32)), .val (.ref b), .unset, .unset, .unset, .unset] [(.int (2 : Int32))])) (fun _ k => XS.iconst X0.here hx rfl (hb hby d2_0) k) ?_
  refine Goes.on (B := s₁.setTop (mkF m 2 #[.val (.ref a), .val (.int (2 : Int32)), .val (.ref b), .val (.int (2 : Int32)), .unset, .unset, .unset] [])) (fun _ k => XS.istoreN X0.here hx rfl (hb hby d2_1) rfl (l' := #[.val (.ref a), .val (.int (2 : Int32)), .val (.ref b), .val (.int (2 : Int32)), .unset, .unset, .unset]) rfl k) ?_
  refine Goes.on (B := s₁.setTop (mkF m 3 #[.val (.ref a), .val (.int (2 : Int32)), .val (.ref b), .val (.int (2 : Int32)), .unset, .unset, .unset] [(.int (0 : Int32))])) (fun _ k => XS.iconst X0.here hx rfl (hb hby d2_2) k) ?_
  refine Goes.on (B := s₁.setTop (mkF m 5 #[.val (.ref a), .val (.int (2 : Int32)), .val (.ref b), .val (.int (2 : Int32)), .val (.int (0 : Int32)), .unset, .unset] [])) (fun _ k => XS.istore X0.here hx rfl (hb hby d2_3) rfl (l' := #[.val (.ref a), .val (.int (2 : Int32)), .val (.ref b), .val (.int (2 : Int32)), .val (.int (0 : Int32)), .unset, .unset]) rfl k) ?_
  refine Goes.on (B := s₁.setTop (mkF m 6 #[.val (.ref a), .val (.int (2 : Int32)), .val (.ref b), .val (.int (2 : Int32)), .val (.int (0 : Int32)), .unset, .unset] [(.int (0 : Int32))])) (fun _ k => XS.iconst X0.here hx rfl (hb hby d2_5) k) ?_
  refine Goes.on (B := s₁.setTop (mkF m 8 #[.val (.ref a), .val (.int (2 : Int32)), .val (.ref b), .val (.int (2 : Int32)), .val (.int (0 : Int32)), .val (.int (0 : Int32)), .unset] [])) (fun _ k => XS.istore X0.here hx rfl (hb hby d2_6) rfl (l' := #[.val (.ref a), .val (.int (2 : Int32)), .val (.ref b), .val (.int (2 : Int32)), .val (.int (0 : Int32)), .val (.int (0 : Int32)), .unset]) rfl k) ?_
  refine Goes.on (B := s₁.setTop (mkF m 10 #[.val (.ref a), .val (.int (2 : Int32)), .val (.ref b), .val (.int (2 : Int32)), .val (.int (0 : Int32)), .val (.int (0 : Int32)), .unset] [(.int (0 : Int32))])) (fun _ k => XS.iload X0.here hx rfl (hb hby d2_8) rfl  k) ?_
  refine Goes.on (B := s₁.setTop (mkF m 11 #[.val (.ref a), .val (.int (2 : Int32)), .val (.ref b), .val (.int (2 : Int32)), .val (.int (0 : Int32)), .val (.int (0 : Int32)), .unset] [(.int (2 : Int32)), (.int (0 : Int32))])) (fun _ k => XS.iloadN X0.here hx rfl (hb hby d2_10) rfl  k) ?_
  refine Goes.on (B := s₁.setTop (mkF m 14 #[.val (.ref a), .val (.int (2 : Int32)), .val (.ref b), .val (.int (2 : Int32)), .val (.int (0 : Int32)), .val (.int (0 : Int32)), .unset] [])) (fun _ k => XS.icmpNo X0.here hx rfl (hb hby d2_11) rfl (tlt (by decide)).2.1 k) ?_
  refine Goes.on (B := s₁.setTop (mkF m 15 #[.val (.ref a), .val (.int (2 : Int32)), .val (.ref b), .val (.int (2 : Int32)), .val (.int (0 : Int32)), .val (.int (0 : Int32)), .unset] [(.ref a)])) (fun _ k => XS.aloadN X0.here hx rfl (hb hby d2_14) rfl rfl  k) ?_
  refine Goes.on (B := s₁.setTop (mkF m 17 #[.val (.ref a), .val (.int (2 : Int32)), .val (.ref b), .val (.int (2 : Int32)), .val (.int (0 : Int32)), .val (.int (0 : Int32)), .unset] [(.int (0 : Int32)), (.ref a)])) (fun _ k => XS.iload X0.here hx rfl (hb hby d2_15) rfl  k) ?_
  obtain ⟨cl1, Ar1, q1, S1, Nn1, H1, G1⟩ := id VA
  have hin1 : ¬ ((0 : Int32) < 0 ∨ cl1.slots.size ≤ ((0 : Int32)).toNatClampNeg) := inb_of S1 ⟨by decide, by decide⟩
  refine Goes.on (B := s₁.setTop (mkF m 18 #[.val (.ref a), .val (.int (2 : Int32)), .val (.ref b), .val (.int (2 : Int32)), .val (.int (0 : Int32)), .val (.int (0 : Int32)), .unset] [(.int x0)])) (fun _ k => X0.iaload hx (j := (0 : Int32)) (v := (.int x0)) (by rw [e0]; exact Ar1.1) (State.isArrayOf_alike hZ.alike Ar1.2.1) Ar1.2.2 hin1 (H1.at hin1 rfl) (g := (mkF m 17 #[.val (.ref a), .val (.int (2 : Int32)), .val (.ref b), .val (.int (2 : Int32)), .val (.int (0 : Int32)), .val (.int (0 : Int32)), .unset] [(.int (0 : Int32)), (.ref a)])) rfl rfl (hb hby d2_17) _ k) ?_
  refine Goes.on (B := s₁.setTop (mkF m 20 #[.val (.ref a), .val (.int (2 : Int32)), .val (.ref b), .val (.int (2 : Int32)), .val (.int (0 : Int32)), .val (.int (0 : Int32)), .unset] [(.int (0 : Int32)), (.int x0)])) (fun _ k => XS.iload X0.here hx rfl (hb hby d2_18) rfl  k) ?_
  refine Goes.on (B := s₁.setTop (mkF m 21 #[.val (.ref a), .val (.int (2 : Int32)), .val (.ref b), .val (.int (2 : Int32)), .val (.int (0 : Int32)), .val (.int (0 : Int32)), .unset] [(.int (x0 - (0 : Int32)))])) (fun _ k => XS.isub X0.here hx rfl (hb hby d2_20) rfl k) ?_
  refine Goes.on (B := s₁.setTop (mkF m 23 #[.val (.ref a), .val (.int (2 : Int32)), .val (.ref b), .val (.int (2 : Int32)), .val (.int (0 : Int32)), .val (.int (0 : Int32)), .val (.int (x0 - (0 : Int32)))] [])) (fun _ k => XS.istore X0.here hx rfl (hb hby d2_21) rfl (l' := #[.val (.ref a), .val (.int (2 : Int32)), .val (.ref b), .val (.int (2 : Int32)), .val (.int (0 : Int32)), .val (.int (0 : Int32)), .val (.int (x0 - (0 : Int32)))]) rfl k) ?_
  refine Goes.on (B := s₁.setTop (mkF m 25 #[.val (.ref a), .val (.int (2 : Int32)), .val (.ref b), .val (.int (2 : Int32)), .val (.int (0 : Int32)), .val (.int (0 : Int32)), .val (.int (x0 - (0 : Int32)))] [(.int (x0 - (0 : Int32)))])) (fun _ k => XS.iload X0.here hx rfl (hb hby d2_23) rfl  k) ?_
  obtain ⟨_, _, ⟨T2, L2, k2, n2⟩, -, X2, ⟨Lc2, hQ2, l2, y2, z2⟩, st2⟩ := Jvm.LawKit.callS X0 hx (y := (⟨"com/example/roadeq/roadeq/assign/LinkCode", "narrow", "(I)Z"⟩ : MethodName)) hown (mvT hZ (hw _ (List.mem_of_getElem? (i := 10) rfl))) (mvT hZ (hw _ (List.mem_of_getElem? (i := 11) rfl))) (mvT hZ (hw _ (List.mem_of_getElem? (i := 8) rfl))) (mvT hZ (hw _ (List.mem_of_getElem? (i := 12) rfl))) (by decide) (backOf (W := 0) (rmn l Z a0 hw [] (x0 - (0 : Int32)) h0 n0 Z0) hZ (hw _ (List.mem_of_getElem? (i := 12) rfl)) (hw _ (List.mem_of_getElem? (i := 8) rfl)) (by decide) (by decide)) (g := (mkF m 25 #[.val (.ref a), .val (.int (2 : Int32)), .val (.ref b), .val (.int (2 : Int32)), .val (.int (0 : Int32)), .val (.int (0 : Int32)), .val (.int (x0 - (0 : Int32)))] [(.int (x0 - (0 : Int32)))])) rfl (by rw [hml]; rfl) (argsL := [(.int (x0 - (0 : Int32)))]) (rest := []) (lenOf pd_2__I_Z rfl) rfl (by show 2 * 0 + _ ≤ _; exact Nat.le_of_eq rfl) (hb hby d2_25) (fun _ _ => ⟨rfl, e0, (by decide : 0 + 0 ≤ _), (by decide : 0 + 0 ≤ _)⟩)
  dsimp only [Pt.U, Pt.locs, Pt.cells, Pt.slots] at X2 l2 y2 z2 st2 hQ2
  subst l2 y2 z2
  obtain ⟨rfl, Nq2, eh2⟩ := hQ2
  have N2 := Fr.app N0 Nq2
  refine Goes.on (B := T2.setTop (mkF m 28 #[.val (.ref a), .val (.int (2 : Int32)), .val (.ref b), .val (.int (2 : Int32)), .val (.int (0 : Int32)), .val (.int (0 : Int32)), .val (.int (x0 - (0 : Int32)))] [(.int (own_nar (x0 - (0 : Int32))))])) (fun t k => st2 t k) ?_
  refine Goes.viaT (Φ := fun T => ∃ (h' : Heap) (ls : List Loc), Stand p l e ({ frames := 1, cells := 0, slots := 0, locals := 12 } : Room) s m #[(.ref a), (.int (2 : Int32)), (.ref b)] below meth c T ls 0 0 ∧ T.heap = h' ∧ Fr n0 ls ∧ Keep h0 h' [b] ∧ Arv Z h' a kA .int (3 : Int32) [(.int x0), (.int x1), (.int x2)] (.int (0 : Int32)) ∧ Arv Z h' b kB .short (11 : Int32) (own_es vs (2 : Int32) (x0 - (0 : Int32))) (.int (0 : Int32))) (F := (mkF m 73 #[.val (.ref a), .val (.int (2 : Int32)), .val (.ref b), .val (.int (own_ea (2 : Int32) (x0 - (0 : Int32)))), .val (.int (0 : Int32)), .val (.int (0 : Int32)), .val (.int (x0 - (0 : Int32)))] [])) (fun J0 => ?_) ?_
  · skip
    by_cases hc28_3 : (own_nar (x0 - (0 : Int32))) = (0 : Int32)
    · refine Goes.on (B := T2.setTop (mkF m 43 #[.val (.ref a), .val (.int (2 : Int32)), .val (.ref b), .val (.int (2 : Int32)), .val (.int (0 : Int32)), .val (.int (0 : Int32)), .val (.int (x0 - (0 : Int32)))] [])) (fun _ k => XS.ifYes X2.here hx rfl (pc0 := 28) (pc' := 43) rfl (hb hby d2_28) rfl ((if0 _ _).trans (teq hc28_3).1) (by decide) (by decide) k) ?_
      refine Goes.on (B := T2.setTop (mkF m 44 #[.val (.ref a), .val (.int (2 : Int32)), .val (.ref b), .val (.int (2 : Int32)), .val (.int (0 : Int32)), .val (.int (0 : Int32)), .val (.int (x0 - (0 : Int32)))] [(.ref b)])) (fun _ k => XS.aloadN X2.here hx rfl (hb hby d2_43) rfl rfl  k) ?_
      refine Goes.on (B := T2.setTop (mkF m 45 #[.val (.ref a), .val (.int (2 : Int32)), .val (.ref b), .val (.int (2 : Int32)), .val (.int (0 : Int32)), .val (.int (0 : Int32)), .val (.int (x0 - (0 : Int32)))] [(.int (2 : Int32)), (.ref b)])) (fun _ k => XS.iloadN X2.here hx rfl (hb hby d2_44) rfl  k) ?_
      refine Goes.on (B := T2.setTop (mkF m 48 #[.val (.ref a), .val (.int (2 : Int32)), .val (.ref b), .val (.int (3 : Int32)), .val (.int (0 : Int32)), .val (.int (0 : Int32)), .val (.int (x0 - (0 : Int32)))] [(.int (2 : Int32)), (.ref b)])) (fun _ k => XS.iinc X2.here hx rfl (hb hby d2_45) rfl (l' := #[.val (.ref a), .val (.int (2 : Int32)), .val (.ref b), .val (.int (3 : Int32)), .val (.int (0 : Int32)), .val (.int (0 : Int32)), .val (.int (x0 - (0 : Int32)))]) rfl k) ?_
      refine Goes.on (B := T2.setTop (mkF m 51 #[.val (.ref a), .val (.int (2 : Int32)), .val (.ref b), .val (.int (3 : Int32)), .val (.int (0 : Int32)), .val (.int (0 : Int32)), .val (.int (x0 - (0 : Int32)))] [(.int (-32768 : Int32)), (.int (2 : Int32)), (.ref b)])) (fun _ k => XS.sipush X2.here hx rfl (hb hby d2_48) k) ?_
      obtain ⟨cl4, Ar4, q4, S4, Nn4, H4, G4⟩ := id VB
      have hin4 : ¬ ((2 : Int32) < 0 ∨ cl4.slots.size ≤ ((2 : Int32)).toNatClampNeg) := inb_of S4 (own_hin (own_up own_i2 (by decide)))
      obtain ⟨T5, h5, X5, e5, W5, st5⟩ := stS X2 hx hZ eh2 Ar4 (j := (2 : Int32)) hin4 (g := (mkF m 51 #[.val (.ref a), .val (.int (2 : Int32)), .val (.ref b), .val (.int (3 : Int32)), .val (.int (0 : Int32)), .val (.int (0 : Int32)), .val (.int (x0 - (0 : Int32)))] [(.int (-32768 : Int32)), (.int (2 : Int32)), (.ref b)])) rfl rfl (hb hby d2_51)
      have V5 : Arv Z h5 b kB .short (11 : Int32) (vs.set 2 (.int (nar .short (-32768 : Int32)))) (.int (0 : Int32)) := Arv.set Ar4 q4 S4 Nn4 H4 G4 (fits_nar_short _) W5 2 rfl (by simp only [List.length_set, hl]; exact own_nat (own_up own_i2 (by decide)))
      have f6 := VA.other W5 nab
      have z7 : n0 ≤ h5.size := Nat.le_trans Z0 (Keep.of_wr W5).1
      have K8 : Keep h0 h5 [b] := (Keep.refl h0 [b]).wr W5 (Or.inl (List.mem_of_getElem? (i := 0) rfl))
      have N5 := Fr.snoc X5 N2 gb
      refine Goes.on (B := T5.setTop (mkF m 52 #[.val (.ref a), .val (.int (2 : Int32)), .val (.ref b), .val (.int (3 : Int32)), .val (.int (0 : Int32)), .val (.int (0 : Int32)), .val (.int (x0 - (0 : Int32)))] [])) (fun t k => st5 t k) ?_
      refine Goes.on (B := T5.setTop (mkF m 53 #[.val (.ref a), .val (.int (2 : Int32)), .val (.ref b), .val (.int (3 : Int32)), .val (.int (0 : Int32)), .val (.int (0 : Int32)), .val (.int (x0 - (0 : Int32)))] [(.ref b)])) (fun _ k => XS.aloadN X5.here hx rfl (hb hby d2_52) rfl rfl  k) ?_
      refine Goes.on (B := T5.setTop (mkF m 54 #[.val (.ref a), .val (.int (2 : Int32)), .val (.ref b), .val (.int (3 : Int32)), .val (.int (0 : Int32)), .val (.int (0 : Int32)), .val (.int (x0 - (0 : Int32)))] [(.int (3 : Int32)), (.ref b)])) (fun _ k => XS.iloadN X5.here hx rfl (hb hby d2_53) rfl  k) ?_
      refine Goes.on (B := T5.setTop (mkF m 57 #[.val (.ref a), .val (.int (2 : Int32)), .val (.ref b), .val (.int (4 : Int32)), .val (.int (0 : Int32)), .val (.int (0 : Int32)), .val (.int (x0 - (0 : Int32)))] [(.int (3 : Int32)), (.ref b)])) (fun _ k => XS.iinc X5.here hx rfl (hb hby d2_54) rfl (l' := #[.val (.ref a), .val (.int (2 : Int32)), .val (.ref b), .val (.int (4 : Int32)), .val (.int (0 : Int32)), .val (.int (0 : Int32)), .val (.int (x0 - (0 : Int32)))]) rfl k) ?_
      refine Goes.on (B := T5.setTop (mkF m 59 #[.val (.ref a), .val (.int (2 : Int32)), .val (.ref b), .val (.int (4 : Int32)), .val (.int (0 : Int32)), .val (.int (0 : Int32)), .val (.int (x0 - (0 : Int32)))] [(.int (x0 - (0 : Int32))), (.int (3 : Int32)), (.ref b)])) (fun _ k => XS.iload X5.here hx rfl (hb hby d2_57) rfl  k) ?_
      refine Goes.on (B := T5.setTop (mkF m 61 #[.val (.ref a), .val (.int (2 : Int32)), .val (.ref b), .val (.int (4 : Int32)), .val (.int (0 : Int32)), .val (.int (0 : Int32)), .val (.int (x0 - (0 : Int32)))] [(.int (16 : Int32)), (.int (x0 - (0 : Int32))), (.int (3 : Int32)), (.ref b)])) (fun _ k => XS.bipush X5.here hx rfl (hb hby d2_59) k) ?_
      refine Goes.on (B := T5.setTop (mkF m 62 #[.val (.ref a), .val (.int (2 : Int32)), .val (.ref b), .val (.int (4 : Int32)), .val (.int (0 : Int32)), .val (.int (0 : Int32)), .val (.int (x0 - (0 : Int32)))] [(.int (((x0 - (0 : Int32)).toUInt32 >>> ((16 : Int32) &&& 31).toUInt32).toInt32)), (.int (3 : Int32)), (.ref b)])) (fun _ k => XS.iushr X5.here hx rfl (hb hby d2_61) rfl k) ?_
      refine Goes.on (B := T5.setTop (mkF m 63 #[.val (.ref a), .val (.int (2 : Int32)), .val (.ref b), .val (.int (4 : Int32)), .val (.int (0 : Int32)), .val (.int (0 : Int32)), .val (.int (x0 - (0 : Int32)))] [(.int ((((x0 - (0 : Int32)).toUInt32 >>> ((16 : Int32) &&& 31).toUInt32).toInt32).toInt16.toInt32)), (.int (3 : Int32)), (.ref b)])) (fun _ k => XS.i2s X5.here hx rfl (hb hby d2_62) rfl k) ?_
      obtain ⟨cl9, Ar9, q9, S9, Nn9, H9, G9⟩ := id V5
      have hin9 : ¬ ((3 : Int32) < 0 ∨ cl9.slots.size ≤ ((3 : Int32)).toNatClampNeg) := inb_of S9 (own_hin (own_s1 (own_up own_i2 (by decide))))
      obtain ⟨T10, h10, X10, e10, W10, st10⟩ := stS X5 hx hZ e5 Ar9 (j := (3 : Int32)) hin9 (g := (mkF m 63 #[.val (.ref a), .val (.int (2 : Int32)), .val (.ref b), .val (.int (4 : Int32)), .val (.int (0 : Int32)), .val (.int (0 : Int32)), .val (.int (x0 - (0 : Int32)))] [(.int ((((x0 - (0 : Int32)).toUInt32 >>> ((16 : Int32) &&& 31).toUInt32).toInt32).toInt16.toInt32)), (.int (3 : Int32)), (.ref b)])) rfl rfl (hb hby d2_63)
      have V10 : Arv Z h10 b kB .short (11 : Int32) ((vs.set 2 (.int (nar .short (-32768 : Int32)))).set 3 (.int (nar .short ((((x0 - (0 : Int32)).toUInt32 >>> ((16 : Int32) &&& 31).toUInt32).toInt32).toInt16.toInt32)))) (.int (0 : Int32)) := Arv.set Ar9 q9 S9 Nn9 H9 G9 (fits_nar_short _) W10 3 rfl (by simp only [List.length_set, hl]; exact own_nat (own_s1 (own_up own_i2 (by decide))))
      have f11 := f6.other W10 nab
      have z12 : n0 ≤ h10.size := Nat.le_trans z7 (Keep.of_wr W10).1
      have K13 : Keep h0 h10 [b] := K8.wr W10 (Or.inl (List.mem_of_getElem? (i := 0) rfl))
      have N10 := Fr.snoc X10 N5 gb
      refine Goes.on (B := T10.setTop (mkF m 64 #[.val (.ref a), .val (.int (2 : Int32)), .val (.ref b), .val (.int (4 : Int32)), .val (.int (0 : Int32)), .val (.int (0 : Int32)), .val (.int (x0 - (0 : Int32)))] [])) (fun t k => st10 t k) ?_
      refine Goes.on (B := T10.setTop (mkF m 65 #[.val (.ref a), .val (.int (2 : Int32)), .val (.ref b), .val (.int (4 : Int32)), .val (.int (0 : Int32)), .val (.int (0 : Int32)), .val (.int (x0 - (0 : Int32)))] [(.ref b)])) (fun _ k => XS.aloadN X10.here hx rfl (hb hby d2_64) rfl rfl  k) ?_
      refine Goes.on (B := T10.setTop (mkF m 66 #[.val (.ref a), .val (.int (2 : Int32)), .val (.ref b), .val (.int (4 : Int32)), .val (.int (0 : Int32)), .val (.int (0 : Int32)), .val (.int (x0 - (0 : Int32)))] [(.int (4 : Int32)), (.ref b)])) (fun _ k => XS.iloadN X10.here hx rfl (hb hby d2_65) rfl  k) ?_
      refine Goes.on (B := T10.setTop (mkF m 69 #[.val (.ref a), .val (.int (2 : Int32)), .val (.ref b), .val (.int (5 : Int32)), .val (.int (0 : Int32)), .val (.int (0 : Int32)), .val (.int (x0 - (0 : Int32)))] [(.int (4 : Int32)), (.ref b)])) (fun _ k => XS.iinc X10.here hx rfl (hb hby d2_66) rfl (l' := #[.val (.ref a), .val (.int (2 : Int32)), .val (.ref b), .val (.int (5 : Int32)), .val (.int (0 : Int32)), .val (.int (0 : Int32)), .val (.int (x0 - (0 : Int32)))]) rfl k) ?_
      refine Goes.on (B := T10.setTop (mkF m 71 #[.val (.ref a), .val (.int (2 : Int32)), .val (.ref b), .val (.int (5 : Int32)), .val (.int (0 : Int32)), .val (.int (0 : Int32)), .val (.int (x0 - (0 : Int32)))] [(.int (x0 - (0 : Int32))), (.int (4 : Int32)), (.ref b)])) (fun _ k => XS.iload X10.here hx rfl (hb hby d2_69) rfl  k) ?_
      refine Goes.on (B := T10.setTop (mkF m 72 #[.val (.ref a), .val (.int (2 : Int32)), .val (.ref b), .val (.int (5 : Int32)), .val (.int (0 : Int32)), .val (.int (0 : Int32)), .val (.int (x0 - (0 : Int32)))] [(.int ((x0 - (0 : Int32)).toInt16.toInt32)), (.int (4 : Int32)), (.ref b)])) (fun _ k => XS.i2s X10.here hx rfl (hb hby d2_71) rfl k) ?_
      obtain ⟨cl14, Ar14, q14, S14, Nn14, H14, G14⟩ := id V10
      have hin14 : ¬ ((4 : Int32) < 0 ∨ cl14.slots.size ≤ ((4 : Int32)).toNatClampNeg) := inb_of S14 (own_hin (own_s2 (own_up own_i2 (by decide))))
      obtain ⟨T15, h15, X15, e15, W15, st15⟩ := stS X10 hx hZ e10 Ar14 (j := (4 : Int32)) hin14 (g := (mkF m 72 #[.val (.ref a), .val (.int (2 : Int32)), .val (.ref b), .val (.int (5 : Int32)), .val (.int (0 : Int32)), .val (.int (0 : Int32)), .val (.int (x0 - (0 : Int32)))] [(.int ((x0 - (0 : Int32)).toInt16.toInt32)), (.int (4 : Int32)), (.ref b)])) rfl rfl (hb hby d2_72)
      have V15 : Arv Z h15 b kB .short (11 : Int32) (((vs.set 2 (.int (nar .short (-32768 : Int32)))).set 3 (.int (nar .short ((((x0 - (0 : Int32)).toUInt32 >>> ((16 : Int32) &&& 31).toUInt32).toInt32).toInt16.toInt32)))).set 4 (.int (nar .short ((x0 - (0 : Int32)).toInt16.toInt32)))) (.int (0 : Int32)) := Arv.set Ar14 q14 S14 Nn14 H14 G14 (fits_nar_short _) W15 4 rfl (by simp only [List.length_set, hl]; exact own_nat (own_s2 (own_up own_i2 (by decide))))
      have f16 := f11.other W15 nab
      have z17 : n0 ≤ h15.size := Nat.le_trans z12 (Keep.of_wr W15).1
      have K18 : Keep h0 h15 [b] := K13.wr W15 (Or.inl (List.mem_of_getElem? (i := 0) rfl))
      have N15 := Fr.snoc X15 N10 gb
      refine Goes.on (B := T15.setTop (mkF m 73 #[.val (.ref a), .val (.int (2 : Int32)), .val (.ref b), .val (.int (5 : Int32)), .val (.int (0 : Int32)), .val (.int (0 : Int32)), .val (.int (x0 - (0 : Int32)))] [])) (fun t k => st15 t k) ?_
      have hj1 : (own_ea (2 : Int32) (x0 - (0 : Int32))) = (5 : Int32) := by rw [own_ea, if_pos hc28_3]; try rfl
      have hj2 : (own_es vs (2 : Int32) (x0 - (0 : Int32))) = (((vs.set 2 (.int (nar .short (-32768 : Int32)))).set 3 (.int (nar .short ((((x0 - (0 : Int32)).toUInt32 >>> ((16 : Int32) &&& 31).toUInt32).toInt32).toInt16.toInt32)))).set 4 (.int (nar .short ((x0 - (0 : Int32)).toInt16.toInt32)))) := by rw [own_es, if_pos hc28_3]; try rfl
      have JJ := J0 T15 ⟨_, _, X15, e15, N15, K18, f16, by rw [hj2]; exact V15⟩
      rw [hj1] at JJ; exact JJ
    · refine Goes.on (B := T2.setTop (mkF m 31 #[.val (.ref a), .val (.int (2 : Int32)), .val (.ref b), .val (.int (2 : Int32)), .val (.int (0 : Int32)), .val (.int (0 : Int32)), .val (.int (x0 - (0 : Int32)))] [])) (fun _ k => XS.ifNo X2.here hx rfl (hb hby d2_28) rfl ((if0 _ _).trans (feq hc28_3).1) k) ?_
      refine Goes.on (B := T2.setTop (mkF m 32 #[.val (.ref a), .val (.int (2 : Int32)), .val (.ref b), .val (.int (2 : Int32)), .val (.int (0 : Int32)), .val (.int (0 : Int32)), .val (.int (x0 - (0 : Int32)))] [(.ref b)])) (fun _ k => XS.aloadN X2.here hx rfl (hb hby d2_31) rfl rfl  k) ?_
      refine Goes.on (B := T2.setTop (mkF m 33 #[.val (.ref a), .val (.int (2 : Int32)), .val (.ref b), .val (.int (2 : Int32)), .val (.int (0 : Int32)), .val (.int (0 : Int32)), .val (.int (x0 - (0 : Int32)))] [(.int (2 : Int32)), (.ref b)])) (fun _ k => XS.iloadN X2.here hx rfl (hb hby d2_32) rfl  k) ?_
      refine Goes.on (B := T2.setTop (mkF m 36 #[.val (.ref a), .val (.int (2 : Int32)), .val (.ref b), .val (.int (3 : Int32)), .val (.int (0 : Int32)), .val (.int (0 : Int32)), .val (.int (x0 - (0 : Int32)))] [(.int (2 : Int32)), (.ref b)])) (fun _ k => XS.iinc X2.here hx rfl (hb hby d2_33) rfl (l' := #[.val (.ref a), .val (.int (2 : Int32)), .val (.ref b), .val (.int (3 : Int32)), .val (.int (0 : Int32)), .val (.int (0 : Int32)), .val (.int (x0 - (0 : Int32)))]) rfl k) ?_
      refine Goes.on (B := T2.setTop (mkF m 38 #[.val (.ref a), .val (.int (2 : Int32)), .val (.ref b), .val (.int (3 : Int32)), .val (.int (0 : Int32)), .val (.int (0 : Int32)), .val (.int (x0 - (0 : Int32)))] [(.int (x0 - (0 : Int32))), (.int (2 : Int32)), (.ref b)])) (fun _ k => XS.iload X2.here hx rfl (hb hby d2_36) rfl  k) ?_
      refine Goes.on (B := T2.setTop (mkF m 39 #[.val (.ref a), .val (.int (2 : Int32)), .val (.ref b), .val (.int (3 : Int32)), .val (.int (0 : Int32)), .val (.int (0 : Int32)), .val (.int (x0 - (0 : Int32)))] [(.int ((x0 - (0 : Int32)).toInt16.toInt32)), (.int (2 : Int32)), (.ref b)])) (fun _ k => XS.i2s X2.here hx rfl (hb hby d2_38) rfl k) ?_
      obtain ⟨cl19, Ar19, q19, S19, Nn19, H19, G19⟩ := id VB
      have hin19 : ¬ ((2 : Int32) < 0 ∨ cl19.slots.size ≤ ((2 : Int32)).toNatClampNeg) := inb_of S19 (own_hin (own_up own_i2 (by decide)))
      obtain ⟨T20, h20, X20, e20, W20, st20⟩ := stS X2 hx hZ eh2 Ar19 (j := (2 : Int32)) hin19 (g := (mkF m 39 #[.val (.ref a), .val (.int (2 : Int32)), .val (.ref b), .val (.int (3 : Int32)), .val (.int (0 : Int32)), .val (.int (0 : Int32)), .val (.int (x0 - (0 : Int32)))] [(.int ((x0 - (0 : Int32)).toInt16.toInt32)), (.int (2 : Int32)), (.ref b)])) rfl rfl (hb hby d2_39)
      have V20 : Arv Z h20 b kB .short (11 : Int32) (vs.set 2 (.int (nar .short ((x0 - (0 : Int32)).toInt16.toInt32)))) (.int (0 : Int32)) := Arv.set Ar19 q19 S19 Nn19 H19 G19 (fits_nar_short _) W20 2 rfl (by simp only [List.length_set, hl]; exact own_nat (own_up own_i2 (by decide)))
      have f21 := VA.other W20 nab
      have z22 : n0 ≤ h20.size := Nat.le_trans Z0 (Keep.of_wr W20).1
      have K23 : Keep h0 h20 [b] := (Keep.refl h0 [b]).wr W20 (Or.inl (List.mem_of_getElem? (i := 0) rfl))
      have N20 := Fr.snoc X20 N2 gb
      refine Goes.on (B := T20.setTop (mkF m 40 #[.val (.ref a), .val (.int (2 : Int32)), .val (.ref b), .val (.int (3 : Int32)), .val (.int (0 : Int32)), .val (.int (0 : Int32)), .val (.int (x0 - (0 : Int32)))] [])) (fun t k => st20 t k) ?_
      refine Goes.on (B := T20.setTop (mkF m 73 #[.val (.ref a), .val (.int (2 : Int32)), .val (.ref b), .val (.int (3 : Int32)), .val (.int (0 : Int32)), .val (.int (0 : Int32)), .val (.int (x0 - (0 : Int32)))] [])) (fun _ k => XS.goto X20.here hx rfl (pc0 := 40) (pc' := 73) rfl (hb hby d2_40) (by decide) (by decide) k) ?_
      have hj1 : (own_ea (2 : Int32) (x0 - (0 : Int32))) = (3 : Int32) := by rw [own_ea, if_neg hc28_3]; try rfl
      have hj2 : (own_es vs (2 : Int32) (x0 - (0 : Int32))) = (vs.set 2 (.int (nar .short ((x0 - (0 : Int32)).toInt16.toInt32)))) := by rw [own_es, if_neg hc28_3]; try rfl
      have JJ := J0 T20 ⟨_, _, X20, e20, N20, K23, f21, by rw [hj2]; exact V20⟩
      rw [hj1] at JJ; exact JJ
  intro T24 hT24
  obtain ⟨h24, ls24, X24, e24, N24, K24, VA24, VB24⟩ := hT24
  have z24 : n0 ≤ h24.size := Nat.le_trans Z0 K24.1
  refine Goes.on (B := T24.setTop (mkF m 74 #[.val (.ref a), .val (.int (2 : Int32)), .val (.ref b), .val (.int (own_ea (2 : Int32) (x0 - (0 : Int32)))), .val (.int (0 : Int32)), .val (.int (0 : Int32)), .val (.int (x0 - (0 : Int32)))] [(.ref a)])) (fun _ k => XS.aloadN X24.here hx rfl (hb hby d2_73) rfl rfl  k) ?_
  refine Goes.on (B := T24.setTop (mkF m 76 #[.val (.ref a), .val (.int (2 : Int32)), .val (.ref b), .val (.int (own_ea (2 : Int32) (x0 - (0 : Int32)))), .val (.int (0 : Int32)), .val (.int (0 : Int32)), .val (.int (x0 - (0 : Int32)))] [(.int (0 : Int32)), (.ref a)])) (fun _ k => XS.iload X24.here hx rfl (hb hby d2_74) rfl  k) ?_
  obtain ⟨cl25, Ar25, q25, S25, Nn25, H25, G25⟩ := id VA24
  have hin25 : ¬ ((0 : Int32) < 0 ∨ cl25.slots.size ≤ ((0 : Int32)).toNatClampNeg) := inb_of S25 ⟨by decide, by decide⟩
  refine Goes.on (B := T24.setTop (mkF m 77 #[.val (.ref a), .val (.int (2 : Int32)), .val (.ref b), .val (.int (own_ea (2 : Int32) (x0 - (0 : Int32)))), .val (.int (0 : Int32)), .val (.int (0 : Int32)), .val (.int (x0 - (0 : Int32)))] [(.int x0)])) (fun _ k => X24.iaload hx (j := (0 : Int32)) (v := (.int x0)) (by rw [e24]; exact Ar25.1) (State.isArrayOf_alike hZ.alike Ar25.2.1) Ar25.2.2 hin25 (H25.at hin25 rfl) (g := (mkF m 76 #[.val (.ref a), .val (.int (2 : Int32)), .val (.ref b), .val (.int (own_ea (2 : Int32) (x0 - (0 : Int32)))), .val (.int (0 : Int32)), .val (.int (0 : Int32)), .val (.int (x0 - (0 : Int32)))] [(.int (0 : Int32)), (.ref a)])) rfl rfl (hb hby d2_76) _ k) ?_
  refine Goes.on (B := T24.setTop (mkF m 79 #[.val (.ref a), .val (.int (2 : Int32)), .val (.ref b), .val (.int (own_ea (2 : Int32) (x0 - (0 : Int32)))), .val (.int x0), .val (.int (0 : Int32)), .val (.int (x0 - (0 : Int32)))] [])) (fun _ k => XS.istore X24.here hx rfl (hb hby d2_77) rfl (l' := #[.val (.ref a), .val (.int (2 : Int32)), .val (.ref b), .val (.int (own_ea (2 : Int32) (x0 - (0 : Int32)))), .val (.int x0), .val (.int (0 : Int32)), .val (.int (x0 - (0 : Int32)))]) rfl k) ?_
  refine Goes.on (B := T24.setTop (mkF m 82 #[.val (.ref a), .val (.int (2 : Int32)), .val (.ref b), .val (.int (own_ea (2 : Int32) (x0 - (0 : Int32)))), .val (.int x0), .val (.int (1 : Int32)), .val (.int (x0 - (0 : Int32)))] [])) (fun _ k => XS.iinc X24.here hx rfl (hb hby d2_79) rfl (l' := #[.val (.ref a), .val (.int (2 : Int32)), .val (.ref b), .val (.int (own_ea (2 : Int32) (x0 - (0 : Int32)))), .val (.int x0), .val (.int (1 : Int32)), .val (.int (x0 - (0 : Int32)))]) rfl k) ?_
  refine Goes.on (B := T24.setTop (mkF m 8 #[.val (.ref a), .val (.int (2 : Int32)), .val (.ref b), .val (.int (own_ea (2 : Int32) (x0 - (0 : Int32)))), .val (.int x0), .val (.int (1 : Int32)), .val (.int (x0 - (0 : Int32)))] [])) (fun _ k => XS.goto X24.here hx rfl (pc0 := 82) (pc' := 8) rfl (hb hby d2_82) (by decide) (by decide) k) ?_
  refine Goes.on (B := T24.setTop (mkF m 10 #[.val (.ref a), .val (.int (2 : Int32)), .val (.ref b), .val (.int (own_ea (2 : Int32) (x0 - (0 : Int32)))), .val (.int x0), .val (.int (1 : Int32)), .val (.int (x0 - (0 : Int32)))] [(.int (1 : Int32))])) (fun _ k => XS.iload X24.here hx rfl (hb hby d2_8) rfl  k) ?_
  refine Goes.on (B := T24.setTop (mkF m 11 #[.val (.ref a), .val (.int (2 : Int32)), .val (.ref b), .val (.int (own_ea (2 : Int32) (x0 - (0 : Int32)))), .val (.int x0), .val (.int (1 : Int32)), .val (.int (x0 - (0 : Int32)))] [(.int (2 : Int32)), (.int (1 : Int32))])) (fun _ k => XS.iloadN X24.here hx rfl (hb hby d2_10) rfl  k) ?_
  refine Goes.on (B := T24.setTop (mkF m 14 #[.val (.ref a), .val (.int (2 : Int32)), .val (.ref b), .val (.int (own_ea (2 : Int32) (x0 - (0 : Int32)))), .val (.int x0), .val (.int (1 : Int32)), .val (.int (x0 - (0 : Int32)))] [])) (fun _ k => XS.icmpNo X24.here hx rfl (hb hby d2_11) rfl (tlt (by decide)).2.1 k) ?_
  refine Goes.on (B := T24.setTop (mkF m 15 #[.val (.ref a), .val (.int (2 : Int32)), .val (.ref b), .val (.int (own_ea (2 : Int32) (x0 - (0 : Int32)))), .val (.int x0), .val (.int (1 : Int32)), .val (.int (x0 - (0 : Int32)))] [(.ref a)])) (fun _ k => XS.aloadN X24.here hx rfl (hb hby d2_14) rfl rfl  k) ?_
  refine Goes.on (B := T24.setTop (mkF m 17 #[.val (.ref a), .val (.int (2 : Int32)), .val (.ref b), .val (.int (own_ea (2 : Int32) (x0 - (0 : Int32)))), .val (.int x0), .val (.int (1 : Int32)), .val (.int (x0 - (0 : Int32)))] [(.int (1 : Int32)), (.ref a)])) (fun _ k => XS.iload X24.here hx rfl (hb hby d2_15) rfl  k) ?_
  obtain ⟨cl26, Ar26, q26, S26, Nn26, H26, G26⟩ := id VA24
  have hin26 : ¬ ((1 : Int32) < 0 ∨ cl26.slots.size ≤ ((1 : Int32)).toNatClampNeg) := inb_of S26 ⟨by decide, by decide⟩
  refine Goes.on (B := T24.setTop (mkF m 18 #[.val (.ref a), .val (.int (2 : Int32)), .val (.ref b), .val (.int (own_ea (2 : Int32) (x0 - (0 : Int32)))), .val (.int x0), .val (.int (1 : Int32)), .val (.int (x0 - (0 : Int32)))] [(.int x1)])) (fun _ k => X24.iaload hx (j := (1 : Int32)) (v := (.int x1)) (by rw [e24]; exact Ar26.1) (State.isArrayOf_alike hZ.alike Ar26.2.1) Ar26.2.2 hin26 (H26.at hin26 rfl) (g := (mkF m 17 #[.val (.ref a), .val (.int (2 : Int32)), .val (.ref b), .val (.int (own_ea (2 : Int32) (x0 - (0 : Int32)))), .val (.int x0), .val (.int (1 : Int32)), .val (.int (x0 - (0 : Int32)))] [(.int (1 : Int32)), (.ref a)])) rfl rfl (hb hby d2_17) _ k) ?_
  refine Goes.on (B := T24.setTop (mkF m 20 #[.val (.ref a), .val (.int (2 : Int32)), .val (.ref b), .val (.int (own_ea (2 : Int32) (x0 - (0 : Int32)))), .val (.int x0), .val (.int (1 : Int32)), .val (.int (x0 - (0 : Int32)))] [(.int x0), (.int x1)])) (fun _ k => XS.iload X24.here hx rfl (hb hby d2_18) rfl  k) ?_
  refine Goes.on (B := T24.setTop (mkF m 21 #[.val (.ref a), .val (.int (2 : Int32)), .val (.ref b), .val (.int (own_ea (2 : Int32) (x0 - (0 : Int32)))), .val (.int x0), .val (.int (1 : Int32)), .val (.int (x0 - (0 : Int32)))] [(.int (x1 - x0))])) (fun _ k => XS.isub X24.here hx rfl (hb hby d2_20) rfl k) ?_
  refine Goes.on (B := T24.setTop (mkF m 23 #[.val (.ref a), .val (.int (2 : Int32)), .val (.ref b), .val (.int (own_ea (2 : Int32) (x0 - (0 : Int32)))), .val (.int x0), .val (.int (1 : Int32)), .val (.int (x1 - x0))] [])) (fun _ k => XS.istore X24.here hx rfl (hb hby d2_21) rfl (l' := #[.val (.ref a), .val (.int (2 : Int32)), .val (.ref b), .val (.int (own_ea (2 : Int32) (x0 - (0 : Int32)))), .val (.int x0), .val (.int (1 : Int32)), .val (.int (x1 - x0))]) rfl k) ?_
  refine Goes.on (B := T24.setTop (mkF m 25 #[.val (.ref a), .val (.int (2 : Int32)), .val (.ref b), .val (.int (own_ea (2 : Int32) (x0 - (0 : Int32)))), .val (.int x0), .val (.int (1 : Int32)), .val (.int (x1 - x0))] [(.int (x1 - x0))])) (fun _ k => XS.iload X24.here hx rfl (hb hby d2_23) rfl  k) ?_
  obtain ⟨_, _, ⟨T27, L27, k27, n27⟩, -, X27, ⟨Lc27, hQ27, l27, y27, z27⟩, st27⟩ := Jvm.LawKit.callS X24 hx (y := (⟨"com/example/roadeq/roadeq/assign/LinkCode", "narrow", "(I)Z"⟩ : MethodName)) hown (mvT hZ (hw _ (List.mem_of_getElem? (i := 10) rfl))) (mvT hZ (hw _ (List.mem_of_getElem? (i := 11) rfl))) (mvT hZ (hw _ (List.mem_of_getElem? (i := 8) rfl))) (mvT hZ (hw _ (List.mem_of_getElem? (i := 12) rfl))) (by decide) (backOf (W := 0) (rmn l Z a0 hw [] (x1 - x0) h24 n0 z24) hZ (hw _ (List.mem_of_getElem? (i := 12) rfl)) (hw _ (List.mem_of_getElem? (i := 8) rfl)) (by decide) (by decide)) (g := (mkF m 25 #[.val (.ref a), .val (.int (2 : Int32)), .val (.ref b), .val (.int (own_ea (2 : Int32) (x0 - (0 : Int32)))), .val (.int x0), .val (.int (1 : Int32)), .val (.int (x1 - x0))] [(.int (x1 - x0))])) rfl (by rw [hml]; rfl) (argsL := [(.int (x1 - x0))]) (rest := []) (lenOf pd_2__I_Z rfl) rfl (by show 2 * 0 + _ ≤ _; exact Nat.le_of_eq rfl) (hb hby d2_25) (fun _ _ => ⟨rfl, e24, (by decide : 0 + 0 ≤ _), (by decide : 0 + 0 ≤ _)⟩)
  dsimp only [Pt.U, Pt.locs, Pt.cells, Pt.slots] at X27 l27 y27 z27 st27 hQ27
  subst l27 y27 z27
  obtain ⟨rfl, Nq27, eh27⟩ := hQ27
  have N27 := Fr.app N24 Nq27
  refine Goes.on (B := T27.setTop (mkF m 28 #[.val (.ref a), .val (.int (2 : Int32)), .val (.ref b), .val (.int (own_ea (2 : Int32) (x0 - (0 : Int32)))), .val (.int x0), .val (.int (1 : Int32)), .val (.int (x1 - x0))] [(.int (own_nar (x1 - x0)))])) (fun t k => st27 t k) ?_
  refine Goes.viaT (Φ := fun T => ∃ (h' : Heap) (ls : List Loc), Stand p l e ({ frames := 1, cells := 0, slots := 0, locals := 12 } : Room) s m #[(.ref a), (.int (2 : Int32)), (.ref b)] below meth c T ls 0 0 ∧ T.heap = h' ∧ Fr n0 ls ∧ Keep h0 h' [b] ∧ Arv Z h' a kA .int (3 : Int32) [(.int x0), (.int x1), (.int x2)] (.int (0 : Int32)) ∧ Arv Z h' b kB .short (11 : Int32) (own_es (own_es vs (2 : Int32) (x0 - (0 : Int32))) (own_ea (2 : Int32) (x0 - (0 : Int32))) (x1 - x0)) (.int (0 : Int32))) (F := (mkF m 73 #[.val (.ref a), .val (.int (2 : Int32)), .val (.ref b), .val (.int (own_ea (own_ea (2 : Int32) (x0 - (0 : Int32))) (x1 - x0))), .val (.int x0), .val (.int (1 : Int32)), .val (.int (x1 - x0))] [])) (fun J1 => ?_) ?_
  · skip
    by_cases hc28_28 : (own_nar (x1 - x0)) = (0 : Int32)
    · refine Goes.on (B := T27.setTop (mkF m 43 #[.val (.ref a), .val (.int (2 : Int32)), .val (.ref b), .val (.int (own_ea (2 : Int32) (x0 - (0 : Int32)))), .val (.int x0), .val (.int (1 : Int32)), .val (.int (x1 - x0))] [])) (fun _ k => XS.ifYes X27.here hx rfl (pc0 := 28) (pc' := 43) rfl (hb hby d2_28) rfl ((if0 _ _).trans (teq hc28_28).1) (by decide) (by decide) k) ?_
      refine Goes.on (B := T27.setTop (mkF m 44 #[.val (.ref a), .val (.int (2 : Int32)), .val (.ref b), .val (.int (own_ea (2 : Int32) (x0 - (0 : Int32)))), .val (.int x0), .val (.int (1 : Int32)), .val (.int (x1 - x0))] [(.ref b)])) (fun _ k => XS.aloadN X27.here hx rfl (hb hby d2_43) rfl rfl  k) ?_
      refine Goes.on (B := T27.setTop (mkF m 45 #[.val (.ref a), .val (.int (2 : Int32)), .val (.ref b), .val (.int (own_ea (2 : Int32) (x0 - (0 : Int32)))), .val (.int x0), .val (.int (1 : Int32)), .val (.int (x1 - x0))] [(.int (own_ea (2 : Int32) (x0 - (0 : Int32)))), (.ref b)])) (fun _ k => XS.iloadN X27.here hx rfl (hb hby d2_44) rfl  k) ?_
      refine Goes.on (B := T27.setTop (mkF m 48 #[.val (.ref a), .val (.int (2 : Int32)), .val (.ref b), .val (.int ((own_ea (2 : Int32) (x0 - (0 : Int32))) + (1 : Int32))), .val (.int x0), .val (.int (1 : Int32)), .val (.int (x1 - x0))] [(.int (own_ea (2 : Int32) (x0 - (0 : Int32)))), (.ref b)])) (fun _ k => XS.iinc X27.here hx rfl (hb hby d2_45) rfl (l' := #[.val (.ref a), .val (.int (2 : Int32)), .val (.ref b), .val (.int ((own_ea (2 : Int32) (x0 - (0 : Int32))) + (1 : Int32))), .val (.int x0), .val (.int (1 : Int32)), .val (.int (x1 - x0))]) rfl k) ?_
      refine Goes.on (B := T27.setTop (mkF m 51 #[.val (.ref a), .val (.int (2 : Int32)), .val (.ref b), .val (.int ((own_ea (2 : Int32) (x0 - (0 : Int32))) + (1 : Int32))), .val (.int x0), .val (.int (1 : Int32)), .val (.int (x1 - x0))] [(.int (-32768 : Int32)), (.int (own_ea (2 : Int32) (x0 - (0 : Int32)))), (.ref b)])) (fun _ k => XS.sipush X27.here hx rfl (hb hby d2_48) k) ?_
      obtain ⟨cl29, Ar29, q29, S29, Nn29, H29, G29⟩ := id VB24
      have hin29 : ¬ ((own_ea (2 : Int32) (x0 - (0 : Int32))) < 0 ∨ cl29.slots.size ≤ ((own_ea (2 : Int32) (x0 - (0 : Int32)))).toNatClampNeg) := inb_of S29 (own_hin (own_up (own_eib own_i2 (by decide)) (by decide)))
      obtain ⟨T30, h30, X30, e30, W30, st30⟩ := stS X27 hx hZ eh27 Ar29 (j := (own_ea (2 : Int32) (x0 - (0 : Int32)))) hin29 (g := (mkF m 51 #[.val (.ref a), .val (.int (2 : Int32)), .val (.ref b), .val (.int ((own_ea (2 : Int32) (x0 - (0 : Int32))) + (1 : Int32))), .val (.int x0), .val (.int (1 : Int32)), .val (.int (x1 - x0))] [(.int (-32768 : Int32)), (.int (own_ea (2 : Int32) (x0 - (0 : Int32)))), (.ref b)])) rfl rfl (hb hby d2_51)
      have V30 : Arv Z h30 b kB .short (11 : Int32) ((own_es vs (2 : Int32) (x0 - (0 : Int32))).set ((own_ea (2 : Int32) (x0 - (0 : Int32)))).toNatClampNeg (.int (nar .short (-32768 : Int32)))) (.int (0 : Int32)) := Arv.set Ar29 q29 S29 Nn29 H29 G29 (fits_nar_short _) W30 ((own_ea (2 : Int32) (x0 - (0 : Int32)))).toNatClampNeg rfl (by simp only [List.length_set, (own_elen hl)]; exact own_nat (own_up (own_eib own_i2 (by decide)) (by decide)))
      have f31 := VA24.other W30 nab
      have z32 : n0 ≤ h30.size := Nat.le_trans z24 (Keep.of_wr W30).1
      have K33 : Keep h0 h30 [b] := K24.wr W30 (Or.inl (List.mem_of_getElem? (i := 0) rfl))
      have N30 := Fr.snoc X30 N27 gb
      refine Goes.on (B := T30.setTop (mkF m 52 #[.val (.ref a), .val (.int (2 : Int32)), .val (.ref b), .val (.int ((own_ea (2 : Int32) (x0 - (0 : Int32))) + (1 : Int32))), .val (.int x0), .val (.int (1 : Int32)), .val (.int (x1 - x0))] [])) (fun t k => st30 t k) ?_
      refine Goes.on (B := T30.setTop (mkF m 53 #[.val (.ref a), .val (.int (2 : Int32)), .val (.ref b), .val (.int ((own_ea (2 : Int32) (x0 - (0 : Int32))) + (1 : Int32))), .val (.int x0), .val (.int (1 : Int32)), .val (.int (x1 - x0))] [(.ref b)])) (fun _ k => XS.aloadN X30.here hx rfl (hb hby d2_52) rfl rfl  k) ?_
      refine Goes.on (B := T30.setTop (mkF m 54 #[.val (.ref a), .val (.int (2 : Int32)), .val (.ref b), .val (.int ((own_ea (2 : Int32) (x0 - (0 : Int32))) + (1 : Int32))), .val (.int x0), .val (.int (1 : Int32)), .val (.int (x1 - x0))] [(.int ((own_ea (2 : Int32) (x0 - (0 : Int32))) + (1 : Int32))), (.ref b)])) (fun _ k => XS.iloadN X30.here hx rfl (hb hby d2_53) rfl  k) ?_
      refine Goes.on (B := T30.setTop (mkF m 57 #[.val (.ref a), .val (.int (2 : Int32)), .val (.ref b), .val (.int (((own_ea (2 : Int32) (x0 - (0 : Int32))) + (1 : Int32)) + (1 : Int32))), .val (.int x0), .val (.int (1 : Int32)), .val (.int (x1 - x0))] [(.int ((own_ea (2 : Int32) (x0 - (0 : Int32))) + (1 : Int32))), (.ref b)])) (fun _ k => XS.iinc X30.here hx rfl (hb hby d2_54) rfl (l' := #[.val (.ref a), .val (.int (2 : Int32)), .val (.ref b), .val (.int (((own_ea (2 : Int32) (x0 - (0 : Int32))) + (1 : Int32)) + (1 : Int32))), .val (.int x0), .val (.int (1 : Int32)), .val (.int (x1 - x0))]) rfl k) ?_
      refine Goes.on (B := T30.setTop (mkF m 59 #[.val (.ref a), .val (.int (2 : Int32)), .val (.ref b), .val (.int (((own_ea (2 : Int32) (x0 - (0 : Int32))) + (1 : Int32)) + (1 : Int32))), .val (.int x0), .val (.int (1 : Int32)), .val (.int (x1 - x0))] [(.int (x1 - x0)), (.int ((own_ea (2 : Int32) (x0 - (0 : Int32))) + (1 : Int32))), (.ref b)])) (fun _ k => XS.iload X30.here hx rfl (hb hby d2_57) rfl  k) ?_
      refine Goes.on (B := T30.setTop (mkF m 61 #[.val (.ref a), .val (.int (2 : Int32)), .val (.ref b), .val (.int (((own_ea (2 : Int32) (x0 - (0 : Int32))) + (1 : Int32)) + (1 : Int32))), .val (.int x0), .val (.int (1 : Int32)), .val (.int (x1 - x0))] [(.int (16 : Int32)), (.int (x1 - x0)), (.int ((own_ea (2 : Int32) (x0 - (0 : Int32))) + (1 : Int32))), (.ref b)])) (fun _ k => XS.bipush X30.here hx rfl (hb hby d2_59) k) ?_
      refine Goes.on (B := T30.setTop (mkF m 62 #[.val (.ref a), .val (.int (2 : Int32)), .val (.ref b), .val (.int (((own_ea (2 : Int32) (x0 - (0 : Int32))) + (1 : Int32)) + (1 : Int32))), .val (.int x0), .val (.int (1 : Int32)), .val (.int (x1 - x0))] [(.int (((x1 - x0).toUInt32 >>> ((16 : Int32) &&& 31).toUInt32).toInt32)), (.int ((own_ea (2 : Int32) (x0 - (0 : Int32))) + (1 : Int32))), (.ref b)])) (fun _ k => XS.iushr X30.here hx rfl (hb hby d2_61) rfl k) ?_
      refine Goes.on (B := T30.setTop (mkF m 63 #[.val (.ref a), .val (.int (2 : Int32)), .val (.ref b), .val (.int (((own_ea (2 : Int32) (x0 - (0 : Int32))) + (1 : Int32)) + (1 : Int32))), .val (.int x0), .val (.int (1 : Int32)), .val (.int (x1 - x0))] [(.int ((((x1 - x0).toUInt32 >>> ((16 : Int32) &&& 31).toUInt32).toInt32).toInt16.toInt32)), (.int ((own_ea (2 : Int32) (x0 - (0 : Int32))) + (1 : Int32))), (.ref b)])) (fun _ k => XS.i2s X30.here hx rfl (hb hby d2_62) rfl k) ?_
      obtain ⟨cl34, Ar34, q34, S34, Nn34, H34, G34⟩ := id V30
      have hin34 : ¬ (((own_ea (2 : Int32) (x0 - (0 : Int32))) + (1 : Int32)) < 0 ∨ cl34.slots.size ≤ (((own_ea (2 : Int32) (x0 - (0 : Int32))) + (1 : Int32))).toNatClampNeg) := inb_of S34 (own_hin (own_s1 (own_up (own_eib own_i2 (by decide)) (by decide))))
      obtain ⟨T35, h35, X35, e35, W35, st35⟩ := stS X30 hx hZ e30 Ar34 (j := ((own_ea (2 : Int32) (x0 - (0 : Int32))) + (1 : Int32))) hin34 (g := (mkF m 63 #[.val (.ref a), .val (.int (2 : Int32)), .val (.ref b), .val (.int (((own_ea (2 : Int32) (x0 - (0 : Int32))) + (1 : Int32)) + (1 : Int32))), .val (.int x0), .val (.int (1 : Int32)), .val (.int (x1 - x0))] [(.int ((((x1 - x0).toUInt32 >>> ((16 : Int32) &&& 31).toUInt32).toInt32).toInt16.toInt32)), (.int ((own_ea (2 : Int32) (x0 - (0 : Int32))) + (1 : Int32))), (.ref b)])) rfl rfl (hb hby d2_63)
      have V35 : Arv Z h35 b kB .short (11 : Int32) (((own_es vs (2 : Int32) (x0 - (0 : Int32))).set ((own_ea (2 : Int32) (x0 - (0 : Int32)))).toNatClampNeg (.int (nar .short (-32768 : Int32)))).set (((own_ea (2 : Int32) (x0 - (0 : Int32))) + (1 : Int32))).toNatClampNeg (.int (nar .short ((((x1 - x0).toUInt32 >>> ((16 : Int32) &&& 31).toUInt32).toInt32).toInt16.toInt32)))) (.int (0 : Int32)) := Arv.set Ar34 q34 S34 Nn34 H34 G34 (fits_nar_short _) W35 (((own_ea (2 : Int32) (x0 - (0 : Int32))) + (1 : Int32))).toNatClampNeg rfl (by simp only [List.length_set, (own_elen hl)]; exact own_nat (own_s1 (own_up (own_eib own_i2 (by decide)) (by decide))))
      have f36 := f31.other W35 nab
      have z37 : n0 ≤ h35.size := Nat.le_trans z32 (Keep.of_wr W35).1
      have K38 : Keep h0 h35 [b] := K33.wr W35 (Or.inl (List.mem_of_getElem? (i := 0) rfl))
      have N35 := Fr.snoc X35 N30 gb
      refine Goes.on (B := T35.setTop (mkF m 64 #[.val (.ref a), .val (.int (2 : Int32)), .val (.ref b), .val (.int (((own_ea (2 : Int32) (x0 - (0 : Int32))) + (1 : Int32)) + (1 : Int32))), .val (.int x0), .val (.int (1 : Int32)), .val (.int (x1 - x0))] [])) (fun t k => st35 t k) ?_
      refine Goes.on (B := T35.setTop (mkF m 65 #[.val (.ref a), .val (.int (2 : Int32)), .val (.ref b), .val (.int (((own_ea (2 : Int32) (x0 - (0 : Int32))) + (1 : Int32)) + (1 : Int32))), .val (.int x0), .val (.int (1 : Int32)), .val (.int (x1 - x0))] [(.ref b)])) (fun _ k => XS.aloadN X35.here hx rfl (hb hby d2_64) rfl rfl  k) ?_
      refine Goes.on (B := T35.setTop (mkF m 66 #[.val (.ref a), .val (.int (2 : Int32)), .val (.ref b), .val (.int (((own_ea (2 : Int32) (x0 - (0 : Int32))) + (1 : Int32)) + (1 : Int32))), .val (.int x0), .val (.int (1 : Int32)), .val (.int (x1 - x0))] [(.int (((own_ea (2 : Int32) (x0 - (0 : Int32))) + (1 : Int32)) + (1 : Int32))), (.ref b)])) (fun _ k => XS.iloadN X35.here hx rfl (hb hby d2_65) rfl  k) ?_
      refine Goes.on (B := T35.setTop (mkF m 69 #[.val (.ref a), .val (.int (2 : Int32)), .val (.ref b), .val (.int ((((own_ea (2 : Int32) (x0 - (0 : Int32))) + (1 : Int32)) + (1 : Int32)) + (1 : Int32))), .val (.int x0), .val (.int (1 : Int32)), .val (.int (x1 - x0))] [(.int (((own_ea (2 : Int32) (x0 - (0 : Int32))) + (1 : Int32)) + (1 : Int32))), (.ref b)])) (fun _ k => XS.iinc X35.here hx rfl (hb hby d2_66) rfl (l' := #[.val (.ref a), .val (.int (2 : Int32)), .val (.ref b), .val (.int ((((own_ea (2 : Int32) (x0 - (0 : Int32))) + (1 : Int32)) + (1 : Int32)) + (1 : Int32))), .val (.int x0), .val (.int (1 : Int32)), .val (.int (x1 - x0))]) rfl k) ?_
      refine Goes.on (B := T35.setTop (mkF m 71 #[.val (.ref a), .val (.int (2 : Int32)), .val (.ref b), .val (.int ((((own_ea (2 : Int32) (x0 - (0 : Int32))) + (1 : Int32)) + (1 : Int32)) + (1 : Int32))), .val (.int x0), .val (.int (1 : Int32)), .val (.int (x1 - x0))] [(.int (x1 - x0)), (.int (((own_ea (2 : Int32) (x0 - (0 : Int32))) + (1 : Int32)) + (1 : Int32))), (.ref b)])) (fun _ k => XS.iload X35.here hx rfl (hb hby d2_69) rfl  k) ?_
      refine Goes.on (B := T35.setTop (mkF m 72 #[.val (.ref a), .val (.int (2 : Int32)), .val (.ref b), .val (.int ((((own_ea (2 : Int32) (x0 - (0 : Int32))) + (1 : Int32)) + (1 : Int32)) + (1 : Int32))), .val (.int x0), .val (.int (1 : Int32)), .val (.int (x1 - x0))] [(.int ((x1 - x0).toInt16.toInt32)), (.int (((own_ea (2 : Int32) (x0 - (0 : Int32))) + (1 : Int32)) + (1 : Int32))), (.ref b)])) (fun _ k => XS.i2s X35.here hx rfl (hb hby d2_71) rfl k) ?_
      obtain ⟨cl39, Ar39, q39, S39, Nn39, H39, G39⟩ := id V35
      have hin39 : ¬ ((((own_ea (2 : Int32) (x0 - (0 : Int32))) + (1 : Int32)) + (1 : Int32)) < 0 ∨ cl39.slots.size ≤ ((((own_ea (2 : Int32) (x0 - (0 : Int32))) + (1 : Int32)) + (1 : Int32))).toNatClampNeg) := inb_of S39 (own_hin (own_s2 (own_up (own_eib own_i2 (by decide)) (by decide))))
      obtain ⟨T40, h40, X40, e40, W40, st40⟩ := stS X35 hx hZ e35 Ar39 (j := (((own_ea (2 : Int32) (x0 - (0 : Int32))) + (1 : Int32)) + (1 : Int32))) hin39 (g := (mkF m 72 #[.val (.ref a), .val (.int (2 : Int32)), .val (.ref b), .val (.int ((((own_ea (2 : Int32) (x0 - (0 : Int32))) + (1 : Int32)) + (1 : Int32)) + (1 : Int32))), .val (.int x0), .val (.int (1 : Int32)), .val (.int (x1 - x0))] [(.int ((x1 - x0).toInt16.toInt32)), (.int (((own_ea (2 : Int32) (x0 - (0 : Int32))) + (1 : Int32)) + (1 : Int32))), (.ref b)])) rfl rfl (hb hby d2_72)
      have V40 : Arv Z h40 b kB .short (11 : Int32) ((((own_es vs (2 : Int32) (x0 - (0 : Int32))).set ((own_ea (2 : Int32) (x0 - (0 : Int32)))).toNatClampNeg (.int (nar .short (-32768 : Int32)))).set (((own_ea (2 : Int32) (x0 - (0 : Int32))) + (1 : Int32))).toNatClampNeg (.int (nar .short ((((x1 - x0).toUInt32 >>> ((16 : Int32) &&& 31).toUInt32).toInt32).toInt16.toInt32)))).set ((((own_ea (2 : Int32) (x0 - (0 : Int32))) + (1 : Int32)) + (1 : Int32))).toNatClampNeg (.int (nar .short ((x1 - x0).toInt16.toInt32)))) (.int (0 : Int32)) := Arv.set Ar39 q39 S39 Nn39 H39 G39 (fits_nar_short _) W40 ((((own_ea (2 : Int32) (x0 - (0 : Int32))) + (1 : Int32)) + (1 : Int32))).toNatClampNeg rfl (by simp only [List.length_set, (own_elen hl)]; exact own_nat (own_s2 (own_up (own_eib own_i2 (by decide)) (by decide))))
      have f41 := f36.other W40 nab
      have z42 : n0 ≤ h40.size := Nat.le_trans z37 (Keep.of_wr W40).1
      have K43 : Keep h0 h40 [b] := K38.wr W40 (Or.inl (List.mem_of_getElem? (i := 0) rfl))
      have N40 := Fr.snoc X40 N35 gb
      refine Goes.on (B := T40.setTop (mkF m 73 #[.val (.ref a), .val (.int (2 : Int32)), .val (.ref b), .val (.int ((((own_ea (2 : Int32) (x0 - (0 : Int32))) + (1 : Int32)) + (1 : Int32)) + (1 : Int32))), .val (.int x0), .val (.int (1 : Int32)), .val (.int (x1 - x0))] [])) (fun t k => st40 t k) ?_
      have hj1 : (own_ea (own_ea (2 : Int32) (x0 - (0 : Int32))) (x1 - x0)) = ((((own_ea (2 : Int32) (x0 - (0 : Int32))) + (1 : Int32)) + (1 : Int32)) + (1 : Int32)) := by rw [own_ea, if_pos hc28_28]; try rfl
      have hj2 : (own_es (own_es vs (2 : Int32) (x0 - (0 : Int32))) (own_ea (2 : Int32) (x0 - (0 : Int32))) (x1 - x0)) = ((((own_es vs (2 : Int32) (x0 - (0 : Int32))).set ((own_ea (2 : Int32) (x0 - (0 : Int32)))).toNatClampNeg (.int (nar .short (-32768 : Int32)))).set (((own_ea (2 : Int32) (x0 - (0 : Int32))) + (1 : Int32))).toNatClampNeg (.int (nar .short ((((x1 - x0).toUInt32 >>> ((16 : Int32) &&& 31).toUInt32).toInt32).toInt16.toInt32)))).set ((((own_ea (2 : Int32) (x0 - (0 : Int32))) + (1 : Int32)) + (1 : Int32))).toNatClampNeg (.int (nar .short ((x1 - x0).toInt16.toInt32)))) := by rw [own_es, if_pos hc28_28]; try rfl
      have JJ := J1 T40 ⟨_, _, X40, e40, N40, K43, f41, by rw [hj2]; exact V40⟩
      rw [hj1] at JJ; exact JJ
    · refine Goes.on (B := T27.setTop (mkF m 31 #[.val (.ref a), .val (.int (2 : Int32)), .val (.ref b), .val (.int (own_ea (2 : Int32) (x0 - (0 : Int32)))), .val (.int x0), .val (.int (1 : Int32)), .val (.int (x1 - x0))] [])) (fun _ k => XS.ifNo X27.here hx rfl (hb hby d2_28) rfl ((if0 _ _).trans (feq hc28_28).1) k) ?_
      refine Goes.on (B := T27.setTop (mkF m 32 #[.val (.ref a), .val (.int (2 : Int32)), .val (.ref b), .val (.int (own_ea (2 : Int32) (x0 - (0 : Int32)))), .val (.int x0), .val (.int (1 : Int32)), .val (.int (x1 - x0))] [(.ref b)])) (fun _ k => XS.aloadN X27.here hx rfl (hb hby d2_31) rfl rfl  k) ?_
      refine Goes.on (B := T27.setTop (mkF m 33 #[.val (.ref a), .val (.int (2 : Int32)), .val (.ref b), .val (.int (own_ea (2 : Int32) (x0 - (0 : Int32)))), .val (.int x0), .val (.int (1 : Int32)), .val (.int (x1 - x0))] [(.int (own_ea (2 : Int32) (x0 - (0 : Int32)))), (.ref b)])) (fun _ k => XS.iloadN X27.here hx rfl (hb hby d2_32) rfl  k) ?_
      refine Goes.on (B := T27.setTop (mkF m 36 #[.val (.ref a), .val (.int (2 : Int32)), .val (.ref b), .val (.int ((own_ea (2 : Int32) (x0 - (0 : Int32))) + (1 : Int32))), .val (.int x0), .val (.int (1 : Int32)), .val (.int (x1 - x0))] [(.int (own_ea (2 : Int32) (x0 - (0 : Int32)))), (.ref b)])) (fun _ k => XS.iinc X27.here hx rfl (hb hby d2_33) rfl (l' := #[.val (.ref a), .val (.int (2 : Int32)), .val (.ref b), .val (.int ((own_ea (2 : Int32) (x0 - (0 : Int32))) + (1 : Int32))), .val (.int x0), .val (.int (1 : Int32)), .val (.int (x1 - x0))]) rfl k) ?_
      refine Goes.on (B := T27.setTop (mkF m 38 #[.val (.ref a), .val (.int (2 : Int32)), .val (.ref b), .val (.int ((own_ea (2 : Int32) (x0 - (0 : Int32))) + (1 : Int32))), .val (.int x0), .val (.int (1 : Int32)), .val (.int (x1 - x0))] [(.int (x1 - x0)), (.int (own_ea (2 : Int32) (x0 - (0 : Int32)))), (.ref b)])) (fun _ k => XS.iload X27.here hx rfl (hb hby d2_36) rfl  k) ?_
      refine Goes.on (B := T27.setTop (mkF m 39 #[.val (.ref a), .val (.int (2 : Int32)), .val (.ref b), .val (.int ((own_ea (2 : Int32) (x0 - (0 : Int32))) + (1 : Int32))), .val (.int x0), .val (.int (1 : Int32)), .val (.int (x1 - x0))] [(.int ((x1 - x0).toInt16.toInt32)), (.int (own_ea (2 : Int32) (x0 - (0 : Int32)))), (.ref b)])) (fun _ k => XS.i2s X27.here hx rfl (hb hby d2_38) rfl k) ?_
      obtain ⟨cl44, Ar44, q44, S44, Nn44, H44, G44⟩ := id VB24
      have hin44 : ¬ ((own_ea (2 : Int32) (x0 - (0 : Int32))) < 0 ∨ cl44.slots.size ≤ ((own_ea (2 : Int32) (x0 - (0 : Int32)))).toNatClampNeg) := inb_of S44 (own_hin (own_up (own_eib own_i2 (by decide)) (by decide)))
      obtain ⟨T45, h45, X45, e45, W45, st45⟩ := stS X27 hx hZ eh27 Ar44 (j := (own_ea (2 : Int32) (x0 - (0 : Int32)))) hin44 (g := (mkF m 39 #[.val (.ref a), .val (.int (2 : Int32)), .val (.ref b), .val (.int ((own_ea (2 : Int32) (x0 - (0 : Int32))) + (1 : Int32))), .val (.int x0), .val (.int (1 : Int32)), .val (.int (x1 - x0))] [(.int ((x1 - x0).toInt16.toInt32)), (.int (own_ea (2 : Int32) (x0 - (0 : Int32)))), (.ref b)])) rfl rfl (hb hby d2_39)
      have V45 : Arv Z h45 b kB .short (11 : Int32) ((own_es vs (2 : Int32) (x0 - (0 : Int32))).set ((own_ea (2 : Int32) (x0 - (0 : Int32)))).toNatClampNeg (.int (nar .short ((x1 - x0).toInt16.toInt32)))) (.int (0 : Int32)) := Arv.set Ar44 q44 S44 Nn44 H44 G44 (fits_nar_short _) W45 ((own_ea (2 : Int32) (x0 - (0 : Int32)))).toNatClampNeg rfl (by simp only [List.length_set, (own_elen hl)]; exact own_nat (own_up (own_eib own_i2 (by decide)) (by decide)))
      have f46 := VA24.other W45 nab
      have z47 : n0 ≤ h45.size := Nat.le_trans z24 (Keep.of_wr W45).1
      have K48 : Keep h0 h45 [b] := K24.wr W45 (Or.inl (List.mem_of_getElem? (i := 0) rfl))
      have N45 := Fr.snoc X45 N27 gb
      refine Goes.on (B := T45.setTop (mkF m 40 #[.val (.ref a), .val (.int (2 : Int32)), .val (.ref b), .val (.int ((own_ea (2 : Int32) (x0 - (0 : Int32))) + (1 : Int32))), .val (.int x0), .val (.int (1 : Int32)), .val (.int (x1 - x0))] [])) (fun t k => st45 t k) ?_
      refine Goes.on (B := T45.setTop (mkF m 73 #[.val (.ref a), .val (.int (2 : Int32)), .val (.ref b), .val (.int ((own_ea (2 : Int32) (x0 - (0 : Int32))) + (1 : Int32))), .val (.int x0), .val (.int (1 : Int32)), .val (.int (x1 - x0))] [])) (fun _ k => XS.goto X45.here hx rfl (pc0 := 40) (pc' := 73) rfl (hb hby d2_40) (by decide) (by decide) k) ?_
      have hj1 : (own_ea (own_ea (2 : Int32) (x0 - (0 : Int32))) (x1 - x0)) = ((own_ea (2 : Int32) (x0 - (0 : Int32))) + (1 : Int32)) := by rw [own_ea, if_neg hc28_28]; try rfl
      have hj2 : (own_es (own_es vs (2 : Int32) (x0 - (0 : Int32))) (own_ea (2 : Int32) (x0 - (0 : Int32))) (x1 - x0)) = ((own_es vs (2 : Int32) (x0 - (0 : Int32))).set ((own_ea (2 : Int32) (x0 - (0 : Int32)))).toNatClampNeg (.int (nar .short ((x1 - x0).toInt16.toInt32)))) := by rw [own_es, if_neg hc28_28]; try rfl
      have JJ := J1 T45 ⟨_, _, X45, e45, N45, K48, f46, by rw [hj2]; exact V45⟩
      rw [hj1] at JJ; exact JJ
  intro T49 hT49
  obtain ⟨h49, ls49, X49, e49, N49, K49, VA49, VB49⟩ := hT49
  have z49 : n0 ≤ h49.size := Nat.le_trans Z0 K49.1
  refine Goes.on (B := T49.setTop (mkF m 74 #[.val (.ref a), .val (.int (2 : Int32)), .val (.ref b), .val (.int (own_ea (own_ea (2 : Int32) (x0 - (0 : Int32))) (x1 - x0))), .val (.int x0), .val (.int (1 : Int32)), .val (.int (x1 - x0))] [(.ref a)])) (fun _ k => XS.aloadN X49.here hx rfl (hb hby d2_73) rfl rfl  k) ?_
  refine Goes.on (B := T49.setTop (mkF m 76 #[.val (.ref a), .val (.int (2 : Int32)), .val (.ref b), .val (.int (own_ea (own_ea (2 : Int32) (x0 - (0 : Int32))) (x1 - x0))), .val (.int x0), .val (.int (1 : Int32)), .val (.int (x1 - x0))] [(.int (1 : Int32)), (.ref a)])) (fun _ k => XS.iload X49.here hx rfl (hb hby d2_74) rfl  k) ?_
  obtain ⟨cl50, Ar50, q50, S50, Nn50, H50, G50⟩ := id VA49
  have hin50 : ¬ ((1 : Int32) < 0 ∨ cl50.slots.size ≤ ((1 : Int32)).toNatClampNeg) := inb_of S50 ⟨by decide, by decide⟩
  refine Goes.on (B := T49.setTop (mkF m 77 #[.val (.ref a), .val (.int (2 : Int32)), .val (.ref b), .val (.int (own_ea (own_ea (2 : Int32) (x0 - (0 : Int32))) (x1 - x0))), .val (.int x0), .val (.int (1 : Int32)), .val (.int (x1 - x0))] [(.int x1)])) (fun _ k => X49.iaload hx (j := (1 : Int32)) (v := (.int x1)) (by rw [e49]; exact Ar50.1) (State.isArrayOf_alike hZ.alike Ar50.2.1) Ar50.2.2 hin50 (H50.at hin50 rfl) (g := (mkF m 76 #[.val (.ref a), .val (.int (2 : Int32)), .val (.ref b), .val (.int (own_ea (own_ea (2 : Int32) (x0 - (0 : Int32))) (x1 - x0))), .val (.int x0), .val (.int (1 : Int32)), .val (.int (x1 - x0))] [(.int (1 : Int32)), (.ref a)])) rfl rfl (hb hby d2_76) _ k) ?_
  refine Goes.on (B := T49.setTop (mkF m 79 #[.val (.ref a), .val (.int (2 : Int32)), .val (.ref b), .val (.int (own_ea (own_ea (2 : Int32) (x0 - (0 : Int32))) (x1 - x0))), .val (.int x1), .val (.int (1 : Int32)), .val (.int (x1 - x0))] [])) (fun _ k => XS.istore X49.here hx rfl (hb hby d2_77) rfl (l' := #[.val (.ref a), .val (.int (2 : Int32)), .val (.ref b), .val (.int (own_ea (own_ea (2 : Int32) (x0 - (0 : Int32))) (x1 - x0))), .val (.int x1), .val (.int (1 : Int32)), .val (.int (x1 - x0))]) rfl k) ?_
  refine Goes.on (B := T49.setTop (mkF m 82 #[.val (.ref a), .val (.int (2 : Int32)), .val (.ref b), .val (.int (own_ea (own_ea (2 : Int32) (x0 - (0 : Int32))) (x1 - x0))), .val (.int x1), .val (.int (2 : Int32)), .val (.int (x1 - x0))] [])) (fun _ k => XS.iinc X49.here hx rfl (hb hby d2_79) rfl (l' := #[.val (.ref a), .val (.int (2 : Int32)), .val (.ref b), .val (.int (own_ea (own_ea (2 : Int32) (x0 - (0 : Int32))) (x1 - x0))), .val (.int x1), .val (.int (2 : Int32)), .val (.int (x1 - x0))]) rfl k) ?_
  refine Goes.on (B := T49.setTop (mkF m 8 #[.val (.ref a), .val (.int (2 : Int32)), .val (.ref b), .val (.int (own_ea (own_ea (2 : Int32) (x0 - (0 : Int32))) (x1 - x0))), .val (.int x1), .val (.int (2 : Int32)), .val (.int (x1 - x0))] [])) (fun _ k => XS.goto X49.here hx rfl (pc0 := 82) (pc' := 8) rfl (hb hby d2_82) (by decide) (by decide) k) ?_
  refine Goes.on (B := T49.setTop (mkF m 10 #[.val (.ref a), .val (.int (2 : Int32)), .val (.ref b), .val (.int (own_ea (own_ea (2 : Int32) (x0 - (0 : Int32))) (x1 - x0))), .val (.int x1), .val (.int (2 : Int32)), .val (.int (x1 - x0))] [(.int (2 : Int32))])) (fun _ k => XS.iload X49.here hx rfl (hb hby d2_8) rfl  k) ?_
  refine Goes.on (B := T49.setTop (mkF m 11 #[.val (.ref a), .val (.int (2 : Int32)), .val (.ref b), .val (.int (own_ea (own_ea (2 : Int32) (x0 - (0 : Int32))) (x1 - x0))), .val (.int x1), .val (.int (2 : Int32)), .val (.int (x1 - x0))] [(.int (2 : Int32)), (.int (2 : Int32))])) (fun _ k => XS.iloadN X49.here hx rfl (hb hby d2_10) rfl  k) ?_
  refine Goes.on (B := T49.setTop (mkF m 85 #[.val (.ref a), .val (.int (2 : Int32)), .val (.ref b), .val (.int (own_ea (own_ea (2 : Int32) (x0 - (0 : Int32))) (x1 - x0))), .val (.int x1), .val (.int (2 : Int32)), .val (.int (x1 - x0))] [])) (fun _ k => XS.icmpYes X49.here hx rfl (pc0 := 11) (pc' := 85) rfl (hb hby d2_11) rfl (flt (by decide)).2.1 (by decide) (by decide) k) ?_
  refine Goes.on (B := T49.setTop (mkF m 86 #[.val (.ref a), .val (.int (2 : Int32)), .val (.ref b), .val (.int (own_ea (own_ea (2 : Int32) (x0 - (0 : Int32))) (x1 - x0))), .val (.int x1), .val (.int (2 : Int32)), .val (.int (x1 - x0))] [(.ref b)])) (fun _ k => XS.aloadN X49.here hx rfl (hb hby d2_85) rfl rfl  k) ?_
  refine Goes.on (B := T49.setTop (mkF m 87 #[.val (.ref a), .val (.int (2 : Int32)), .val (.ref b), .val (.int (own_ea (own_ea (2 : Int32) (x0 - (0 : Int32))) (x1 - x0))), .val (.int x1), .val (.int (2 : Int32)), .val (.int (x1 - x0))] [(.int (0 : Int32)), (.ref b)])) (fun _ k => XS.iconst X49.here hx rfl (hb hby d2_86) k) ?_
  refine Goes.on (B := T49.setTop (mkF m 88 #[.val (.ref a), .val (.int (2 : Int32)), .val (.ref b), .val (.int (own_ea (own_ea (2 : Int32) (x0 - (0 : Int32))) (x1 - x0))), .val (.int x1), .val (.int (2 : Int32)), .val (.int (x1 - x0))] [(.int (own_ea (own_ea (2 : Int32) (x0 - (0 : Int32))) (x1 - x0))), (.int (0 : Int32)), (.ref b)])) (fun _ k => XS.iloadN X49.here hx rfl (hb hby d2_87) rfl  k) ?_
  refine Goes.on (B := T49.setTop (mkF m 90 #[.val (.ref a), .val (.int (2 : Int32)), .val (.ref b), .val (.int (own_ea (own_ea (2 : Int32) (x0 - (0 : Int32))) (x1 - x0))), .val (.int x1), .val (.int (2 : Int32)), .val (.int (x1 - x0))] [(.int (16 : Int32)), (.int (own_ea (own_ea (2 : Int32) (x0 - (0 : Int32))) (x1 - x0))), (.int (0 : Int32)), (.ref b)])) (fun _ k => XS.bipush X49.here hx rfl (hb hby d2_88) k) ?_
  refine Goes.on (B := T49.setTop (mkF m 91 #[.val (.ref a), .val (.int (2 : Int32)), .val (.ref b), .val (.int (own_ea (own_ea (2 : Int32) (x0 - (0 : Int32))) (x1 - x0))), .val (.int x1), .val (.int (2 : Int32)), .val (.int (x1 - x0))] [(.int (((own_ea (own_ea (2 : Int32) (x0 - (0 : Int32))) (x1 - x0)).toUInt32 >>> ((16 : Int32) &&& 31).toUInt32).toInt32)), (.int (0 : Int32)), (.ref b)])) (fun _ k => XS.iushr X49.here hx rfl (hb hby d2_90) rfl k) ?_
  refine Goes.on (B := T49.setTop (mkF m 92 #[.val (.ref a), .val (.int (2 : Int32)), .val (.ref b), .val (.int (own_ea (own_ea (2 : Int32) (x0 - (0 : Int32))) (x1 - x0))), .val (.int x1), .val (.int (2 : Int32)), .val (.int (x1 - x0))] [(.int ((((own_ea (own_ea (2 : Int32) (x0 - (0 : Int32))) (x1 - x0)).toUInt32 >>> ((16 : Int32) &&& 31).toUInt32).toInt32).toInt16.toInt32)), (.int (0 : Int32)), (.ref b)])) (fun _ k => XS.i2s X49.here hx rfl (hb hby d2_91) rfl k) ?_
  obtain ⟨cl51, Ar51, q51, S51, Nn51, H51, G51⟩ := id VB49
  have hin51 : ¬ ((0 : Int32) < 0 ∨ cl51.slots.size ≤ ((0 : Int32)).toNatClampNeg) := inb_of S51 (own_hin (⟨by decide, by decide⟩ : own_in (0 : Int32) 10))
  obtain ⟨T52, h52, X52, e52, W52, st52⟩ := stS X49 hx hZ e49 Ar51 (j := (0 : Int32)) hin51 (g := (mkF m 92 #[.val (.ref a), .val (.int (2 : Int32)), .val (.ref b), .val (.int (own_ea (own_ea (2 : Int32) (x0 - (0 : Int32))) (x1 - x0))), .val (.int x1), .val (.int (2 : Int32)), .val (.int (x1 - x0))] [(.int ((((own_ea (own_ea (2 : Int32) (x0 - (0 : Int32))) (x1 - x0)).toUInt32 >>> ((16 : Int32) &&& 31).toUInt32).toInt32).toInt16.toInt32)), (.int (0 : Int32)), (.ref b)])) rfl rfl (hb hby d2_92)
  have V52 : Arv Z h52 b kB .short (11 : Int32) ((own_es (own_es vs (2 : Int32) (x0 - (0 : Int32))) (own_ea (2 : Int32) (x0 - (0 : Int32))) (x1 - x0)).set 0 (.int (nar .short ((((own_ea (own_ea (2 : Int32) (x0 - (0 : Int32))) (x1 - x0)).toUInt32 >>> ((16 : Int32) &&& 31).toUInt32).toInt32).toInt16.toInt32)))) (.int (0 : Int32)) := Arv.set Ar51 q51 S51 Nn51 H51 G51 (fits_nar_short _) W52 0 rfl (by simp only [List.length_set, (own_elen (own_elen hl))]; decide)
  have f53 := VA49.other W52 nab
  have z54 : n0 ≤ h52.size := Nat.le_trans z49 (Keep.of_wr W52).1
  have K55 : Keep h0 h52 [b] := K49.wr W52 (Or.inl (List.mem_of_getElem? (i := 0) rfl))
  have N52 := Fr.snoc X52 N49 gb
  refine Goes.on (B := T52.setTop (mkF m 93 #[.val (.ref a), .val (.int (2 : Int32)), .val (.ref b), .val (.int (own_ea (own_ea (2 : Int32) (x0 - (0 : Int32))) (x1 - x0))), .val (.int x1), .val (.int (2 : Int32)), .val (.int (x1 - x0))] [])) (fun t k => st52 t k) ?_
  refine Goes.on (B := T52.setTop (mkF m 94 #[.val (.ref a), .val (.int (2 : Int32)), .val (.ref b), .val (.int (own_ea (own_ea (2 : Int32) (x0 - (0 : Int32))) (x1 - x0))), .val (.int x1), .val (.int (2 : Int32)), .val (.int (x1 - x0))] [(.ref b)])) (fun _ k => XS.aloadN X52.here hx rfl (hb hby d2_93) rfl rfl  k) ?_
  refine Goes.on (B := T52.setTop (mkF m 95 #[.val (.ref a), .val (.int (2 : Int32)), .val (.ref b), .val (.int (own_ea (own_ea (2 : Int32) (x0 - (0 : Int32))) (x1 - x0))), .val (.int x1), .val (.int (2 : Int32)), .val (.int (x1 - x0))] [(.int (1 : Int32)), (.ref b)])) (fun _ k => XS.iconst X52.here hx rfl (hb hby d2_94) k) ?_
  refine Goes.on (B := T52.setTop (mkF m 96 #[.val (.ref a), .val (.int (2 : Int32)), .val (.ref b), .val (.int (own_ea (own_ea (2 : Int32) (x0 - (0 : Int32))) (x1 - x0))), .val (.int x1), .val (.int (2 : Int32)), .val (.int (x1 - x0))] [(.int (own_ea (own_ea (2 : Int32) (x0 - (0 : Int32))) (x1 - x0))), (.int (1 : Int32)), (.ref b)])) (fun _ k => XS.iloadN X52.here hx rfl (hb hby d2_95) rfl  k) ?_
  refine Goes.on (B := T52.setTop (mkF m 97 #[.val (.ref a), .val (.int (2 : Int32)), .val (.ref b), .val (.int (own_ea (own_ea (2 : Int32) (x0 - (0 : Int32))) (x1 - x0))), .val (.int x1), .val (.int (2 : Int32)), .val (.int (x1 - x0))] [(.int ((own_ea (own_ea (2 : Int32) (x0 - (0 : Int32))) (x1 - x0)).toInt16.toInt32)), (.int (1 : Int32)), (.ref b)])) (fun _ k => XS.i2s X52.here hx rfl (hb hby d2_96) rfl k) ?_
  obtain ⟨cl56, Ar56, q56, S56, Nn56, H56, G56⟩ := id V52
  have hin56 : ¬ ((1 : Int32) < 0 ∨ cl56.slots.size ≤ ((1 : Int32)).toNatClampNeg) := inb_of S56 (own_hin (⟨by decide, by decide⟩ : own_in (1 : Int32) 10))
  obtain ⟨T57, h57, X57, e57, W57, st57⟩ := stS X52 hx hZ e52 Ar56 (j := (1 : Int32)) hin56 (g := (mkF m 97 #[.val (.ref a), .val (.int (2 : Int32)), .val (.ref b), .val (.int (own_ea (own_ea (2 : Int32) (x0 - (0 : Int32))) (x1 - x0))), .val (.int x1), .val (.int (2 : Int32)), .val (.int (x1 - x0))] [(.int ((own_ea (own_ea (2 : Int32) (x0 - (0 : Int32))) (x1 - x0)).toInt16.toInt32)), (.int (1 : Int32)), (.ref b)])) rfl rfl (hb hby d2_97)
  have V57 : Arv Z h57 b kB .short (11 : Int32) (((own_es (own_es vs (2 : Int32) (x0 - (0 : Int32))) (own_ea (2 : Int32) (x0 - (0 : Int32))) (x1 - x0)).set 0 (.int (nar .short ((((own_ea (own_ea (2 : Int32) (x0 - (0 : Int32))) (x1 - x0)).toUInt32 >>> ((16 : Int32) &&& 31).toUInt32).toInt32).toInt16.toInt32)))).set 1 (.int (nar .short ((own_ea (own_ea (2 : Int32) (x0 - (0 : Int32))) (x1 - x0)).toInt16.toInt32)))) (.int (0 : Int32)) := Arv.set Ar56 q56 S56 Nn56 H56 G56 (fits_nar_short _) W57 1 rfl (by simp only [List.length_set, (own_elen (own_elen hl))]; decide)
  have f58 := f53.other W57 nab
  have z59 : n0 ≤ h57.size := Nat.le_trans z54 (Keep.of_wr W57).1
  have K60 : Keep h0 h57 [b] := K55.wr W57 (Or.inl (List.mem_of_getElem? (i := 0) rfl))
  have N57 := Fr.snoc X57 N52 gb
  refine Goes.on (B := T57.setTop (mkF m 98 #[.val (.ref a), .val (.int (2 : Int32)), .val (.ref b), .val (.int (own_ea (own_ea (2 : Int32) (x0 - (0 : Int32))) (x1 - x0))), .val (.int x1), .val (.int (2 : Int32)), .val (.int (x1 - x0))] [])) (fun t k => st57 t k) ?_
  obtain ⟨fs, hr, hrun, hended, hW, hsame⟩ := X57.leave (v := none) (fun _ => rfl)
  exact Goes.leaf (X57.returnOut hx Bd.returns (hb hby d2_98) hr) hrun hended ⟨_, _, rfl, by show Qen2 Z a b kA kB x0 x1 x2 vs h0 n0 _ T57.heap _; rw [e57]; exact ⟨rfl, N57, K60, V57⟩, ⟨_, rfl⟩, hW, hsame.mono (by decide) (by decide)⟩
theorem own_lists2 (vs : List Value) (x0 x1 x2 : Int32) : (((own_es (own_es vs (2 : Int32) (x0 - (0 : Int32))) (own_ea (2 : Int32) (x0 - (0 : Int32))) (x1 - x0)).set 0 (.int (nar .short ((((own_ea (own_ea (2 : Int32) (x0 - (0 : Int32))) (x1 - x0)).toUInt32 >>> ((16 : Int32) &&& 31).toUInt32).toInt32).toInt16.toInt32)))).set 1 (.int (nar .short ((own_ea (own_ea (2 : Int32) (x0 - (0 : Int32))) (x1 - x0)).toInt16.toInt32)))) = (((own_put (own_put vs (2 : Int32) x0) (own_at (2 : Int32) x0) (x1 - x0)).set 0 (.int (nar .short (0 : Int32)))).set 1 (.int (nar .short ((own_at (own_at (2 : Int32) x0) (x1 - x0)).toInt16.toInt32)))) := by
  simp only [own_es_put, own_ea_at, Int32.sub_zero]
  rw [own_hz (own_up (b := 8) (own_ib (own_ib own_i2 (by decide)) (by decide)) (by decide))]
theorem ef_en3 (m : MethodId) (x0 : Addr) (x1 : Int32) (x2 : Addr) : entryFrame m #[(.ref x0), (.int x1), (.ref x2)] 7 = mkF m 0 #[.val (.ref x0), .val (.int x1), .val (.ref x2), .unset, .unset, .unset, .unset] [] := by first | (simp [entryFrame, mkF, argsToLocals, Value.category]; done) | rfl
def Qen3 (Z : State) (a : Addr) (b : Addr) (kA kB : ClassId) (x0 x1 x2 : Int32) (vs : List Value) (h0 : Heap) (n0 : Nat) (v : Option Value) (h : Heap) (L : List Loc) : Prop := v = none ∧ Fr n0 L ∧ Keep h0 h [b] ∧ Arv Z h b kB .short (11 : Int32) (((own_es (own_es (own_es vs (2 : Int32) (x0 - (0 : Int32))) (own_ea (2 : Int32) (x0 - (0 : Int32))) (x1 - x0)) (own_ea (own_ea (2 : Int32) (x0 - (0 : Int32))) (x1 - x0)) (x2 - x1)).set 0 (.int (nar .short ((((own_ea (own_ea (own_ea (2 : Int32) (x0 - (0 : Int32))) (x1 - x0)) (x2 - x1)).toUInt32 >>> ((16 : Int32) &&& 31).toUInt32).toInt32).toInt16.toInt32)))).set 1 (.int (nar .short ((own_ea (own_ea (own_ea (2 : Int32) (x0 - (0 : Int32))) (x1 - x0)) (x2 - x1)).toInt16.toInt32)))) (.int (0 : Int32))
set_option maxRecDepth 65536 in
set_option maxHeartbeats 40000000 in
theorem rmen3 (l : Launch) (Z : State) (a0 : Array Value) (hw : ∀ d ∈ tables_1, d.before a0 Z = true) (ws : List Jvm.Cond) (a : Addr) (b : Addr) (kA kB : ClassId) (x0 x1 x2 : Int32) (vs : List Value) (h0 : Heap) (n0 : Nat) (Z0 : n0 ≤ h0.size) (VA : Arv Z h0 a kA .int (3 : Int32) [(.int x0), (.int x1), (.int x2)] (.int (0 : Int32))) (VB : Arv Z h0 b kB .short (11 : Int32) vs (.int (0 : Int32))) (gb : n0 ≤ b) (hl : vs.length = 11) (nab : a ≠ b) :
    MetFree l (⟨"com/example/roadeq/roadeq/assign/LinkCode", "encode", "([II[S)V"⟩ : MethodName) (head1 (Jvm.Cond.code (⟨"com/example/roadeq/roadeq/assign/LinkCode", "encode", "([II[S)V"⟩ : MethodName) prog_31_method_3_code 7 none :: ws) ({ frames := 1, cells := 0, slots := 0, locals := 12 } : Room)) (fun aa U => aa = #[(.ref a), (.int (3 : Int32)), (.ref b)] ∧ Z.Warmed39 U.vm ∧ U.heap = h0) (fun _ _ _ _ _ => True) (fun _ U oo U' => ∃ vv LL, oo = .returned vv ∧ Qen3 Z a b kA kB x0 x1 x2 vs h0 n0 vv U'.heap LL ∧ FrameEnd U oo U' LL ({ frames := 1, cells := 0, slots := 0, locals := 12 } : Room).cells ({ frames := 1, cells := 0, slots := 0, locals := 12 } : Room).slots) := by
  refine MetFree.of_bodySF (plainFor_of_name pn_2) hisR ?_
  intro p e s m args below meth c s₁ Bd hml0 hP hK
  obtain ⟨rfl, hZ, hh⟩ := hP
  have hx := Bd.exec
  have hby := Bd.bytes
  have hml : c.maxLocals = 7 := hml0
  have hown : s.vm.findClass "com/example/roadeq/roadeq/assign/LinkCode" = some m.cls := findClass_of_methodNamed Bd.named
  have hnm := (name_of_methodNamed Bd.named Bd.method).1
  have X0 : Stand p l e ({ frames := 1, cells := 0, slots := 0, locals := 12 } : Room) s m #[(.ref a), (.int (3 : Int32)), (.ref b)] below meth c s₁ [] 0 0 := Stand.of_body Bd
  have e0 : s₁.heap = h0 := by rw [← hh, Bd.state]; rfl
  have N0 := Fr.nil n0
  show Goes p e below _ (s₁.setTop (entryFrame m #[(.ref a), (.int (3 : Int32)), (.ref b)] 7))
  refine Goes.on (B := s₁.setTop (mkF m 0 #[.val (.ref a), .val (.int (3 : Int32)), .val (.ref b), .unset, .unset, .unset, .unset] [])) (fun t k => castTop (ef_en3 m a (3 : Int32) b) k) ?_
  refine Goes.on (B := s₁.setTop (mkF m 1 #[.val (.ref a), .val (.int (3 : Int32)), .val (.ref b), .unset, .unset, .unset, .unset] [(.int (2 : Int32))])) (fun _ k => XS.iconst X0.here hx rfl (hb hby d2_0) k) ?_
  refine Goes.on (B := s₁.setTop (mkF m 2 #[.val (.ref a), .val (.int (3 : Int32)), .val (.ref b), .val (.int (2 : Int32)), .unset, .unset, .unset] [])) (fun _ k => XS.istoreN X0.here hx rfl (hb hby d2_1) rfl (l' := #[.val (.ref a), .val (.int (3 : Int32)), .val (.ref b), .val (.int (2 : Int32)), .unset, .unset, .unset]) rfl k) ?_
  refine Goes.on (B := s₁.setTop (mkF m 3 #[.val (.ref a), .val (.int (3 : Int32)), .val (.ref b), .val (.int (2 : Int32)), .unset, .unset, .unset] [(.int (0 : Int32))])) (fun _ k => XS.iconst X0.here hx rfl (hb hby d2_2) k) ?_
  refine Goes.on (B := s₁.setTop (mkF m 5 #[.val (.ref a), .val (.int (3 : Int32)), .val (.ref b), .val (.int (2 : Int32)), .val (.int (0 : Int32)), .unset, .unset] [])) (fun _ k => XS.istore X0.here hx rfl (hb hby d2_3) rfl (l' := #[.val (.ref a), .val (.int (3 : Int32)), .val (.ref b), .val (.int (2 : Int32)), .val (.int (0 : Int32)), .unset, .unset]) rfl k) ?_
  refine Goes.on (B := s₁.setTop (mkF m 6 #[.val (.ref a), .val (.int (3 : Int32)), .val (.ref b), .val (.int (2 : Int32)), .val (.int (0 : Int32)), .unset, .unset] [(.int (0 : Int32))])) (fun _ k => XS.iconst X0.here hx rfl (hb hby d2_5) k) ?_
  refine Goes.on (B := s₁.setTop (mkF m 8 #[.val (.ref a), .val (.int (3 : Int32)), .val (.ref b), .val (.int (2 : Int32)), .val (.int (0 : Int32)), .val (.int (0 : Int32)), .unset] [])) (fun _ k => XS.istore X0.here hx rfl (hb hby d2_6) rfl (l' := #[.val (.ref a), .val (.int (3 : Int32)), .val (.ref b), .val (.int (2 : Int32)), .val (.int (0 : Int32)), .val (.int (0 : Int32)), .unset]) rfl k) ?_
  refine Goes.on (B := s₁.setTop (mkF m 10 #[.val (.ref a), .val (.int (3 : Int32)), .val (.ref b), .val (.int (2 : Int32)), .val (.int (0 : Int32)), .val (.int (0 : Int32)), .unset] [(.int (0 : Int32))])) (fun _ k => XS.iload X0.here hx rfl (hb hby d2_8) rfl  k) ?_
  refine Goes.on (B := s₁.setTop (mkF m 11 #[.val (.ref a), .val (.int (3 : Int32)), .val (.ref b), .val (.int (2 : Int32)), .val (.int (0 : Int32)), .val (.int (0 : Int32)), .unset] [(.int (3 : Int32)), (.int (0 : Int32))])) (fun _ k => XS.iloadN X0.here hx rfl (hb hby d2_10) rfl  k) ?_
  refine Goes.on (B := s₁.setTop (mkF m 14 #[.val (.ref a), .val (.int (3 : Int32)), .val (.ref b), .val (.int (2 : Int32)), .val (.int (0 : Int32)), .val (.int (0 : Int32)), .unset] [])) (fun _ k => XS.icmpNo X0.here hx rfl (hb hby d2_11) rfl (tlt (by decide)).2.1 k) ?_
  refine Goes.on (B := s₁.setTop (mkF m 15 #[.val (.ref a), .val (.int (3 : Int32)), .val (.ref b), .val (.int (2 : Int32)), .val (.int (0 : Int32)), .val (.int (0 : Int32)), .unset] [(.ref a)])) (fun _ k => XS.aloadN X0.here hx rfl (hb hby d2_14) rfl rfl  k) ?_
  refine Goes.on (B := s₁.setTop (mkF m 17 #[.val (.ref a), .val (.int (3 : Int32)), .val (.ref b), .val (.int (2 : Int32)), .val (.int (0 : Int32)), .val (.int (0 : Int32)), .unset] [(.int (0 : Int32)), (.ref a)])) (fun _ k => XS.iload X0.here hx rfl (hb hby d2_15) rfl  k) ?_
  obtain ⟨cl1, Ar1, q1, S1, Nn1, H1, G1⟩ := id VA
  have hin1 : ¬ ((0 : Int32) < 0 ∨ cl1.slots.size ≤ ((0 : Int32)).toNatClampNeg) := inb_of S1 ⟨by decide, by decide⟩
  refine Goes.on (B := s₁.setTop (mkF m 18 #[.val (.ref a), .val (.int (3 : Int32)), .val (.ref b), .val (.int (2 : Int32)), .val (.int (0 : Int32)), .val (.int (0 : Int32)), .unset] [(.int x0)])) (fun _ k => X0.iaload hx (j := (0 : Int32)) (v := (.int x0)) (by rw [e0]; exact Ar1.1) (State.isArrayOf_alike hZ.alike Ar1.2.1) Ar1.2.2 hin1 (H1.at hin1 rfl) (g := (mkF m 17 #[.val (.ref a), .val (.int (3 : Int32)), .val (.ref b), .val (.int (2 : Int32)), .val (.int (0 : Int32)), .val (.int (0 : Int32)), .unset] [(.int (0 : Int32)), (.ref a)])) rfl rfl (hb hby d2_17) _ k) ?_
  refine Goes.on (B := s₁.setTop (mkF m 20 #[.val (.ref a), .val (.int (3 : Int32)), .val (.ref b), .val (.int (2 : Int32)), .val (.int (0 : Int32)), .val (.int (0 : Int32)), .unset] [(.int (0 : Int32)), (.int x0)])) (fun _ k => XS.iload X0.here hx rfl (hb hby d2_18) rfl  k) ?_
  refine Goes.on (B := s₁.setTop (mkF m 21 #[.val (.ref a), .val (.int (3 : Int32)), .val (.ref b), .val (.int (2 : Int32)), .val (.int (0 : Int32)), .val (.int (0 : Int32)), .unset] [(.int (x0 - (0 : Int32)))])) (fun _ k => XS.isub X0.here hx rfl (hb hby d2_20) rfl k) ?_
  refine Goes.on (B := s₁.setTop (mkF m 23 #[.val (.ref a), .val (.int (3 : Int32)), .val (.ref b), .val (.int (2 : Int32)), .val (.int (0 : Int32)), .val (.int (0 : Int32)), .val (.int (x0 - (0 : Int32)))] [])) (fun _ k => XS.istore X0.here hx rfl (hb hby d2_21) rfl (l' := #[.val (.ref a), .val (.int (3 : Int32)), .val (.ref b), .val (.int (2 : Int32)), .val (.int (0 : Int32)), .val (.int (0 : Int32)), .val (.int (x0 - (0 : Int32)))]) rfl k) ?_
  refine Goes.on (B := s₁.setTop (mkF m 25 #[.val (.ref a), .val (.int (3 : Int32)), .val (.ref b), .val (.int (2 : Int32)), .val (.int (0 : Int32)), .val (.int (0 : Int32)), .val (.int (x0 - (0 : Int32)))] [(.int (x0 - (0 : Int32)))])) (fun _ k => XS.iload X0.here hx rfl (hb hby d2_23) rfl  k) ?_
  obtain ⟨_, _, ⟨T2, L2, k2, n2⟩, -, X2, ⟨Lc2, hQ2, l2, y2, z2⟩, st2⟩ := Jvm.LawKit.callS X0 hx (y := (⟨"com/example/roadeq/roadeq/assign/LinkCode", "narrow", "(I)Z"⟩ : MethodName)) hown (mvT hZ (hw _ (List.mem_of_getElem? (i := 10) rfl))) (mvT hZ (hw _ (List.mem_of_getElem? (i := 11) rfl))) (mvT hZ (hw _ (List.mem_of_getElem? (i := 8) rfl))) (mvT hZ (hw _ (List.mem_of_getElem? (i := 12) rfl))) (by decide) (backOf (W := 0) (rmn l Z a0 hw [] (x0 - (0 : Int32)) h0 n0 Z0) hZ (hw _ (List.mem_of_getElem? (i := 12) rfl)) (hw _ (List.mem_of_getElem? (i := 8) rfl)) (by decide) (by decide)) (g := (mkF m 25 #[.val (.ref a), .val (.int (3 : Int32)), .val (.ref b), .val (.int (2 : Int32)), .val (.int (0 : Int32)), .val (.int (0 : Int32)), .val (.int (x0 - (0 : Int32)))] [(.int (x0 - (0 : Int32)))])) rfl (by rw [hml]; rfl) (argsL := [(.int (x0 - (0 : Int32)))]) (rest := []) (lenOf pd_2__I_Z rfl) rfl (by show 2 * 0 + _ ≤ _; exact Nat.le_of_eq rfl) (hb hby d2_25) (fun _ _ => ⟨rfl, e0, (by decide : 0 + 0 ≤ _), (by decide : 0 + 0 ≤ _)⟩)
  dsimp only [Pt.U, Pt.locs, Pt.cells, Pt.slots] at X2 l2 y2 z2 st2 hQ2
  subst l2 y2 z2
  obtain ⟨rfl, Nq2, eh2⟩ := hQ2
  have N2 := Fr.app N0 Nq2
  refine Goes.on (B := T2.setTop (mkF m 28 #[.val (.ref a), .val (.int (3 : Int32)), .val (.ref b), .val (.int (2 : Int32)), .val (.int (0 : Int32)), .val (.int (0 : Int32)), .val (.int (x0 - (0 : Int32)))] [(.int (own_nar (x0 - (0 : Int32))))])) (fun t k => st2 t k) ?_
  refine Goes.viaT (Φ := fun T => ∃ (h' : Heap) (ls : List Loc), Stand p l e ({ frames := 1, cells := 0, slots := 0, locals := 12 } : Room) s m #[(.ref a), (.int (3 : Int32)), (.ref b)] below meth c T ls 0 0 ∧ T.heap = h' ∧ Fr n0 ls ∧ Keep h0 h' [b] ∧ Arv Z h' a kA .int (3 : Int32) [(.int x0), (.int x1), (.int x2)] (.int (0 : Int32)) ∧ Arv Z h' b kB .short (11 : Int32) (own_es vs (2 : Int32) (x0 - (0 : Int32))) (.int (0 : Int32))) (F := (mkF m 73 #[.val (.ref a), .val (.int (3 : Int32)), .val (.ref b), .val (.int (own_ea (2 : Int32) (x0 - (0 : Int32)))), .val (.int (0 : Int32)), .val (.int (0 : Int32)), .val (.int (x0 - (0 : Int32)))] [])) (fun J0 => ?_) ?_
  · skip
    by_cases hc28_3 : (own_nar (x0 - (0 : Int32))) = (0 : Int32)
    · refine Goes.on (B := T2.setTop (mkF m 43 #[.val (.ref a), .val (.int (3 : Int32)), .val (.ref b), .val (.int (2 : Int32)), .val (.int (0 : Int32)), .val (.int (0 : Int32)), .val (.int (x0 - (0 : Int32)))] [])) (fun _ k => XS.ifYes X2.here hx rfl (pc0 := 28) (pc' := 43) rfl (hb hby d2_28) rfl ((if0 _ _).trans (teq hc28_3).1) (by decide) (by decide) k) ?_
      refine Goes.on (B := T2.setTop (mkF m 44 #[.val (.ref a), .val (.int (3 : Int32)), .val (.ref b), .val (.int (2 : Int32)), .val (.int (0 : Int32)), .val (.int (0 : Int32)), .val (.int (x0 - (0 : Int32)))] [(.ref b)])) (fun _ k => XS.aloadN X2.here hx rfl (hb hby d2_43) rfl rfl  k) ?_
      refine Goes.on (B := T2.setTop (mkF m 45 #[.val (.ref a), .val (.int (3 : Int32)), .val (.ref b), .val (.int (2 : Int32)), .val (.int (0 : Int32)), .val (.int (0 : Int32)), .val (.int (x0 - (0 : Int32)))] [(.int (2 : Int32)), (.ref b)])) (fun _ k => XS.iloadN X2.here hx rfl (hb hby d2_44) rfl  k) ?_
      refine Goes.on (B := T2.setTop (mkF m 48 #[.val (.ref a), .val (.int (3 : Int32)), .val (.ref b), .val (.int (3 : Int32)), .val (.int (0 : Int32)), .val (.int (0 : Int32)), .val (.int (x0 - (0 : Int32)))] [(.int (2 : Int32)), (.ref b)])) (fun _ k => XS.iinc X2.here hx rfl (hb hby d2_45) rfl (l' := #[.val (.ref a), .val (.int (3 : Int32)), .val (.ref b), .val (.int (3 : Int32)), .val (.int (0 : Int32)), .val (.int (0 : Int32)), .val (.int (x0 - (0 : Int32)))]) rfl k) ?_
      refine Goes.on (B := T2.setTop (mkF m 51 #[.val (.ref a), .val (.int (3 : Int32)), .val (.ref b), .val (.int (3 : Int32)), .val (.int (0 : Int32)), .val (.int (0 : Int32)), .val (.int (x0 - (0 : Int32)))] [(.int (-32768 : Int32)), (.int (2 : Int32)), (.ref b)])) (fun _ k => XS.sipush X2.here hx rfl (hb hby d2_48) k) ?_
      obtain ⟨cl4, Ar4, q4, S4, Nn4, H4, G4⟩ := id VB
      have hin4 : ¬ ((2 : Int32) < 0 ∨ cl4.slots.size ≤ ((2 : Int32)).toNatClampNeg) := inb_of S4 (own_hin (own_up own_i2 (by decide)))
      obtain ⟨T5, h5, X5, e5, W5, st5⟩ := stS X2 hx hZ eh2 Ar4 (j := (2 : Int32)) hin4 (g := (mkF m 51 #[.val (.ref a), .val (.int (3 : Int32)), .val (.ref b), .val (.int (3 : Int32)), .val (.int (0 : Int32)), .val (.int (0 : Int32)), .val (.int (x0 - (0 : Int32)))] [(.int (-32768 : Int32)), (.int (2 : Int32)), (.ref b)])) rfl rfl (hb hby d2_51)
      have V5 : Arv Z h5 b kB .short (11 : Int32) (vs.set 2 (.int (nar .short (-32768 : Int32)))) (.int (0 : Int32)) := Arv.set Ar4 q4 S4 Nn4 H4 G4 (fits_nar_short _) W5 2 rfl (by simp only [List.length_set, hl]; exact own_nat (own_up own_i2 (by decide)))
      have f6 := VA.other W5 nab
      have z7 : n0 ≤ h5.size := Nat.le_trans Z0 (Keep.of_wr W5).1
      have K8 : Keep h0 h5 [b] := (Keep.refl h0 [b]).wr W5 (Or.inl (List.mem_of_getElem? (i := 0) rfl))
      have N5 := Fr.snoc X5 N2 gb
      refine Goes.on (B := T5.setTop (mkF m 52 #[.val (.ref a), .val (.int (3 : Int32)), .val (.ref b), .val (.int (3 : Int32)), .val (.int (0 : Int32)), .val (.int (0 : Int32)), .val (.int (x0 - (0 : Int32)))] [])) (fun t k => st5 t k) ?_
      refine Goes.on (B := T5.setTop (mkF m 53 #[.val (.ref a), .val (.int (3 : Int32)), .val (.ref b), .val (.int (3 : Int32)), .val (.int (0 : Int32)), .val (.int (0 : Int32)), .val (.int (x0 - (0 : Int32)))] [(.ref b)])) (fun _ k => XS.aloadN X5.here hx rfl (hb hby d2_52) rfl rfl  k) ?_
      refine Goes.on (B := T5.setTop (mkF m 54 #[.val (.ref a), .val (.int (3 : Int32)), .val (.ref b), .val (.int (3 : Int32)), .val (.int (0 : Int32)), .val (.int (0 : Int32)), .val (.int (x0 - (0 : Int32)))] [(.int (3 : Int32)), (.ref b)])) (fun _ k => XS.iloadN X5.here hx rfl (hb hby d2_53) rfl  k) ?_
      refine Goes.on (B := T5.setTop (mkF m 57 #[.val (.ref a), .val (.int (3 : Int32)), .val (.ref b), .val (.int (4 : Int32)), .val (.int (0 : Int32)), .val (.int (0 : Int32)), .val (.int (x0 - (0 : Int32)))] [(.int (3 : Int32)), (.ref b)])) (fun _ k => XS.iinc X5.here hx rfl (hb hby d2_54) rfl (l' := #[.val (.ref a), .val (.int (3 : Int32)), .val (.ref b), .val (.int (4 : Int32)), .val (.int (0 : Int32)), .val (.int (0 : Int32)), .val (.int (x0 - (0 : Int32)))]) rfl k) ?_
      refine Goes.on (B := T5.setTop (mkF m 59 #[.val (.ref a), .val (.int (3 : Int32)), .val (.ref b), .val (.int (4 : Int32)), .val (.int (0 : Int32)), .val (.int (0 : Int32)), .val (.int (x0 - (0 : Int32)))] [(.int (x0 - (0 : Int32))), (.int (3 : Int32)), (.ref b)])) (fun _ k => XS.iload X5.here hx rfl (hb hby d2_57) rfl  k) ?_
      refine Goes.on (B := T5.setTop (mkF m 61 #[.val (.ref a), .val (.int (3 : Int32)), .val (.ref b), .val (.int (4 : Int32)), .val (.int (0 : Int32)), .val (.int (0 : Int32)), .val (.int (x0 - (0 : Int32)))] [(.int (16 : Int32)), (.int (x0 - (0 : Int32))), (.int (3 : Int32)), (.ref b)])) (fun _ k => XS.bipush X5.here hx rfl (hb hby d2_59) k) ?_
      refine Goes.on (B := T5.setTop (mkF m 62 #[.val (.ref a), .val (.int (3 : Int32)), .val (.ref b), .val (.int (4 : Int32)), .val (.int (0 : Int32)), .val (.int (0 : Int32)), .val (.int (x0 - (0 : Int32)))] [(.int (((x0 - (0 : Int32)).toUInt32 >>> ((16 : Int32) &&& 31).toUInt32).toInt32)), (.int (3 : Int32)), (.ref b)])) (fun _ k => XS.iushr X5.here hx rfl (hb hby d2_61) rfl k) ?_
      refine Goes.on (B := T5.setTop (mkF m 63 #[.val (.ref a), .val (.int (3 : Int32)), .val (.ref b), .val (.int (4 : Int32)), .val (.int (0 : Int32)), .val (.int (0 : Int32)), .val (.int (x0 - (0 : Int32)))] [(.int ((((x0 - (0 : Int32)).toUInt32 >>> ((16 : Int32) &&& 31).toUInt32).toInt32).toInt16.toInt32)), (.int (3 : Int32)), (.ref b)])) (fun _ k => XS.i2s X5.here hx rfl (hb hby d2_62) rfl k) ?_
      obtain ⟨cl9, Ar9, q9, S9, Nn9, H9, G9⟩ := id V5
      have hin9 : ¬ ((3 : Int32) < 0 ∨ cl9.slots.size ≤ ((3 : Int32)).toNatClampNeg) := inb_of S9 (own_hin (own_s1 (own_up own_i2 (by decide))))
      obtain ⟨T10, h10, X10, e10, W10, st10⟩ := stS X5 hx hZ e5 Ar9 (j := (3 : Int32)) hin9 (g := (mkF m 63 #[.val (.ref a), .val (.int (3 : Int32)), .val (.ref b), .val (.int (4 : Int32)), .val (.int (0 : Int32)), .val (.int (0 : Int32)), .val (.int (x0 - (0 : Int32)))] [(.int ((((x0 - (0 : Int32)).toUInt32 >>> ((16 : Int32) &&& 31).toUInt32).toInt32).toInt16.toInt32)), (.int (3 : Int32)), (.ref b)])) rfl rfl (hb hby d2_63)
      have V10 : Arv Z h10 b kB .short (11 : Int32) ((vs.set 2 (.int (nar .short (-32768 : Int32)))).set 3 (.int (nar .short ((((x0 - (0 : Int32)).toUInt32 >>> ((16 : Int32) &&& 31).toUInt32).toInt32).toInt16.toInt32)))) (.int (0 : Int32)) := Arv.set Ar9 q9 S9 Nn9 H9 G9 (fits_nar_short _) W10 3 rfl (by simp only [List.length_set, hl]; exact own_nat (own_s1 (own_up own_i2 (by decide))))
      have f11 := f6.other W10 nab
      have z12 : n0 ≤ h10.size := Nat.le_trans z7 (Keep.of_wr W10).1
      have K13 : Keep h0 h10 [b] := K8.wr W10 (Or.inl (List.mem_of_getElem? (i := 0) rfl))
      have N10 := Fr.snoc X10 N5 gb
      refine Goes.on (B := T10.setTop (mkF m 64 #[.val (.ref a), .val (.int (3 : Int32)), .val (.ref b), .val (.int (4 : Int32)), .val (.int (0 : Int32)), .val (.int (0 : Int32)), .val (.int (x0 - (0 : Int32)))] [])) (fun t k => st10 t k) ?_
      refine Goes.on (B := T10.setTop (mkF m 65 #[.val (.ref a), .val (.int (3 : Int32)), .val (.ref b), .val (.int (4 : Int32)), .val (.int (0 : Int32)), .val (.int (0 : Int32)), .val (.int (x0 - (0 : Int32)))] [(.ref b)])) (fun _ k => XS.aloadN X10.here hx rfl (hb hby d2_64) rfl rfl  k) ?_
      refine Goes.on (B := T10.setTop (mkF m 66 #[.val (.ref a), .val (.int (3 : Int32)), .val (.ref b), .val (.int (4 : Int32)), .val (.int (0 : Int32)), .val (.int (0 : Int32)), .val (.int (x0 - (0 : Int32)))] [(.int (4 : Int32)), (.ref b)])) (fun _ k => XS.iloadN X10.here hx rfl (hb hby d2_65) rfl  k) ?_
      refine Goes.on (B := T10.setTop (mkF m 69 #[.val (.ref a), .val (.int (3 : Int32)), .val (.ref b), .val (.int (5 : Int32)), .val (.int (0 : Int32)), .val (.int (0 : Int32)), .val (.int (x0 - (0 : Int32)))] [(.int (4 : Int32)), (.ref b)])) (fun _ k => XS.iinc X10.here hx rfl (hb hby d2_66) rfl (l' := #[.val (.ref a), .val (.int (3 : Int32)), .val (.ref b), .val (.int (5 : Int32)), .val (.int (0 : Int32)), .val (.int (0 : Int32)), .val (.int (x0 - (0 : Int32)))]) rfl k) ?_
      refine Goes.on (B := T10.setTop (mkF m 71 #[.val (.ref a), .val (.int (3 : Int32)), .val (.ref b), .val (.int (5 : Int32)), .val (.int (0 : Int32)), .val (.int (0 : Int32)), .val (.int (x0 - (0 : Int32)))] [(.int (x0 - (0 : Int32))), (.int (4 : Int32)), (.ref b)])) (fun _ k => XS.iload X10.here hx rfl (hb hby d2_69) rfl  k) ?_
      refine Goes.on (B := T10.setTop (mkF m 72 #[.val (.ref a), .val (.int (3 : Int32)), .val (.ref b), .val (.int (5 : Int32)), .val (.int (0 : Int32)), .val (.int (0 : Int32)), .val (.int (x0 - (0 : Int32)))] [(.int ((x0 - (0 : Int32)).toInt16.toInt32)), (.int (4 : Int32)), (.ref b)])) (fun _ k => XS.i2s X10.here hx rfl (hb hby d2_71) rfl k) ?_
      obtain ⟨cl14, Ar14, q14, S14, Nn14, H14, G14⟩ := id V10
      have hin14 : ¬ ((4 : Int32) < 0 ∨ cl14.slots.size ≤ ((4 : Int32)).toNatClampNeg) := inb_of S14 (own_hin (own_s2 (own_up own_i2 (by decide))))
      obtain ⟨T15, h15, X15, e15, W15, st15⟩ := stS X10 hx hZ e10 Ar14 (j := (4 : Int32)) hin14 (g := (mkF m 72 #[.val (.ref a), .val (.int (3 : Int32)), .val (.ref b), .val (.int (5 : Int32)), .val (.int (0 : Int32)), .val (.int (0 : Int32)), .val (.int (x0 - (0 : Int32)))] [(.int ((x0 - (0 : Int32)).toInt16.toInt32)), (.int (4 : Int32)), (.ref b)])) rfl rfl (hb hby d2_72)
      have V15 : Arv Z h15 b kB .short (11 : Int32) (((vs.set 2 (.int (nar .short (-32768 : Int32)))).set 3 (.int (nar .short ((((x0 - (0 : Int32)).toUInt32 >>> ((16 : Int32) &&& 31).toUInt32).toInt32).toInt16.toInt32)))).set 4 (.int (nar .short ((x0 - (0 : Int32)).toInt16.toInt32)))) (.int (0 : Int32)) := Arv.set Ar14 q14 S14 Nn14 H14 G14 (fits_nar_short _) W15 4 rfl (by simp only [List.length_set, hl]; exact own_nat (own_s2 (own_up own_i2 (by decide))))
      have f16 := f11.other W15 nab
      have z17 : n0 ≤ h15.size := Nat.le_trans z12 (Keep.of_wr W15).1
      have K18 : Keep h0 h15 [b] := K13.wr W15 (Or.inl (List.mem_of_getElem? (i := 0) rfl))
      have N15 := Fr.snoc X15 N10 gb
      refine Goes.on (B := T15.setTop (mkF m 73 #[.val (.ref a), .val (.int (3 : Int32)), .val (.ref b), .val (.int (5 : Int32)), .val (.int (0 : Int32)), .val (.int (0 : Int32)), .val (.int (x0 - (0 : Int32)))] [])) (fun t k => st15 t k) ?_
      have hj1 : (own_ea (2 : Int32) (x0 - (0 : Int32))) = (5 : Int32) := by rw [own_ea, if_pos hc28_3]; try rfl
      have hj2 : (own_es vs (2 : Int32) (x0 - (0 : Int32))) = (((vs.set 2 (.int (nar .short (-32768 : Int32)))).set 3 (.int (nar .short ((((x0 - (0 : Int32)).toUInt32 >>> ((16 : Int32) &&& 31).toUInt32).toInt32).toInt16.toInt32)))).set 4 (.int (nar .short ((x0 - (0 : Int32)).toInt16.toInt32)))) := by rw [own_es, if_pos hc28_3]; try rfl
      have JJ := J0 T15 ⟨_, _, X15, e15, N15, K18, f16, by rw [hj2]; exact V15⟩
      rw [hj1] at JJ; exact JJ
    · refine Goes.on (B := T2.setTop (mkF m 31 #[.val (.ref a), .val (.int (3 : Int32)), .val (.ref b), .val (.int (2 : Int32)), .val (.int (0 : Int32)), .val (.int (0 : Int32)), .val (.int (x0 - (0 : Int32)))] [])) (fun _ k => XS.ifNo X2.here hx rfl (hb hby d2_28) rfl ((if0 _ _).trans (feq hc28_3).1) k) ?_
      refine Goes.on (B := T2.setTop (mkF m 32 #[.val (.ref a), .val (.int (3 : Int32)), .val (.ref b), .val (.int (2 : Int32)), .val (.int (0 : Int32)), .val (.int (0 : Int32)), .val (.int (x0 - (0 : Int32)))] [(.ref b)])) (fun _ k => XS.aloadN X2.here hx rfl (hb hby d2_31) rfl rfl  k) ?_
      refine Goes.on (B := T2.setTop (mkF m 33 #[.val (.ref a), .val (.int (3 : Int32)), .val (.ref b), .val (.int (2 : Int32)), .val (.int (0 : Int32)), .val (.int (0 : Int32)), .val (.int (x0 - (0 : Int32)))] [(.int (2 : Int32)), (.ref b)])) (fun _ k => XS.iloadN X2.here hx rfl (hb hby d2_32) rfl  k) ?_
      refine Goes.on (B := T2.setTop (mkF m 36 #[.val (.ref a), .val (.int (3 : Int32)), .val (.ref b), .val (.int (3 : Int32)), .val (.int (0 : Int32)), .val (.int (0 : Int32)), .val (.int (x0 - (0 : Int32)))] [(.int (2 : Int32)), (.ref b)])) (fun _ k => XS.iinc X2.here hx rfl (hb hby d2_33) rfl (l' := #[.val (.ref a), .val (.int (3 : Int32)), .val (.ref b), .val (.int (3 : Int32)), .val (.int (0 : Int32)), .val (.int (0 : Int32)), .val (.int (x0 - (0 : Int32)))]) rfl k) ?_
      refine Goes.on (B := T2.setTop (mkF m 38 #[.val (.ref a), .val (.int (3 : Int32)), .val (.ref b), .val (.int (3 : Int32)), .val (.int (0 : Int32)), .val (.int (0 : Int32)), .val (.int (x0 - (0 : Int32)))] [(.int (x0 - (0 : Int32))), (.int (2 : Int32)), (.ref b)])) (fun _ k => XS.iload X2.here hx rfl (hb hby d2_36) rfl  k) ?_
      refine Goes.on (B := T2.setTop (mkF m 39 #[.val (.ref a), .val (.int (3 : Int32)), .val (.ref b), .val (.int (3 : Int32)), .val (.int (0 : Int32)), .val (.int (0 : Int32)), .val (.int (x0 - (0 : Int32)))] [(.int ((x0 - (0 : Int32)).toInt16.toInt32)), (.int (2 : Int32)), (.ref b)])) (fun _ k => XS.i2s X2.here hx rfl (hb hby d2_38) rfl k) ?_
      obtain ⟨cl19, Ar19, q19, S19, Nn19, H19, G19⟩ := id VB
      have hin19 : ¬ ((2 : Int32) < 0 ∨ cl19.slots.size ≤ ((2 : Int32)).toNatClampNeg) := inb_of S19 (own_hin (own_up own_i2 (by decide)))
      obtain ⟨T20, h20, X20, e20, W20, st20⟩ := stS X2 hx hZ eh2 Ar19 (j := (2 : Int32)) hin19 (g := (mkF m 39 #[.val (.ref a), .val (.int (3 : Int32)), .val (.ref b), .val (.int (3 : Int32)), .val (.int (0 : Int32)), .val (.int (0 : Int32)), .val (.int (x0 - (0 : Int32)))] [(.int ((x0 - (0 : Int32)).toInt16.toInt32)), (.int (2 : Int32)), (.ref b)])) rfl rfl (hb hby d2_39)
      have V20 : Arv Z h20 b kB .short (11 : Int32) (vs.set 2 (.int (nar .short ((x0 - (0 : Int32)).toInt16.toInt32)))) (.int (0 : Int32)) := Arv.set Ar19 q19 S19 Nn19 H19 G19 (fits_nar_short _) W20 2 rfl (by simp only [List.length_set, hl]; exact own_nat (own_up own_i2 (by decide)))
      have f21 := VA.other W20 nab
      have z22 : n0 ≤ h20.size := Nat.le_trans Z0 (Keep.of_wr W20).1
      have K23 : Keep h0 h20 [b] := (Keep.refl h0 [b]).wr W20 (Or.inl (List.mem_of_getElem? (i := 0) rfl))
      have N20 := Fr.snoc X20 N2 gb
      refine Goes.on (B := T20.setTop (mkF m 40 #[.val (.ref a), .val (.int (3 : Int32)), .val (.ref b), .val (.int (3 : Int32)), .val (.int (0 : Int32)), .val (.int (0 : Int32)), .val (.int (x0 - (0 : Int32)))] [])) (fun t k => st20 t k) ?_
      refine Goes.on (B := T20.setTop (mkF m 73 #[.val (.ref a), .val (.int (3 : Int32)), .val (.ref b), .val (.int (3 : Int32)), .val (.int (0 : Int32)), .val (.int (0 : Int32)), .val (.int (x0 - (0 : Int32)))] [])) (fun _ k => XS.goto X20.here hx rfl (pc0 := 40) (pc' := 73) rfl (hb hby d2_40) (by decide) (by decide) k) ?_
      have hj1 : (own_ea (2 : Int32) (x0 - (0 : Int32))) = (3 : Int32) := by rw [own_ea, if_neg hc28_3]; try rfl
      have hj2 : (own_es vs (2 : Int32) (x0 - (0 : Int32))) = (vs.set 2 (.int (nar .short ((x0 - (0 : Int32)).toInt16.toInt32)))) := by rw [own_es, if_neg hc28_3]; try rfl
      have JJ := J0 T20 ⟨_, _, X20, e20, N20, K23, f21, by rw [hj2]; exact V20⟩
      rw [hj1] at JJ; exact JJ
  intro T24 hT24
  obtain ⟨h24, ls24, X24, e24, N24, K24, VA24, VB24⟩ := hT24
  have z24 : n0 ≤ h24.size := Nat.le_trans Z0 K24.1
  refine Goes.on (B := T24.setTop (mkF m 74 #[.val (.ref a), .val (.int (3 : Int32)), .val (.ref b), .val (.int (own_ea (2 : Int32) (x0 - (0 : Int32)))), .val (.int (0 : Int32)), .val (.int (0 : Int32)), .val (.int (x0 - (0 : Int32)))] [(.ref a)])) (fun _ k => XS.aloadN X24.here hx rfl (hb hby d2_73) rfl rfl  k) ?_
  refine Goes.on (B := T24.setTop (mkF m 76 #[.val (.ref a), .val (.int (3 : Int32)), .val (.ref b), .val (.int (own_ea (2 : Int32) (x0 - (0 : Int32)))), .val (.int (0 : Int32)), .val (.int (0 : Int32)), .val (.int (x0 - (0 : Int32)))] [(.int (0 : Int32)), (.ref a)])) (fun _ k => XS.iload X24.here hx rfl (hb hby d2_74) rfl  k) ?_
  obtain ⟨cl25, Ar25, q25, S25, Nn25, H25, G25⟩ := id VA24
  have hin25 : ¬ ((0 : Int32) < 0 ∨ cl25.slots.size ≤ ((0 : Int32)).toNatClampNeg) := inb_of S25 ⟨by decide, by decide⟩
  refine Goes.on (B := T24.setTop (mkF m 77 #[.val (.ref a), .val (.int (3 : Int32)), .val (.ref b), .val (.int (own_ea (2 : Int32) (x0 - (0 : Int32)))), .val (.int (0 : Int32)), .val (.int (0 : Int32)), .val (.int (x0 - (0 : Int32)))] [(.int x0)])) (fun _ k => X24.iaload hx (j := (0 : Int32)) (v := (.int x0)) (by rw [e24]; exact Ar25.1) (State.isArrayOf_alike hZ.alike Ar25.2.1) Ar25.2.2 hin25 (H25.at hin25 rfl) (g := (mkF m 76 #[.val (.ref a), .val (.int (3 : Int32)), .val (.ref b), .val (.int (own_ea (2 : Int32) (x0 - (0 : Int32)))), .val (.int (0 : Int32)), .val (.int (0 : Int32)), .val (.int (x0 - (0 : Int32)))] [(.int (0 : Int32)), (.ref a)])) rfl rfl (hb hby d2_76) _ k) ?_
  refine Goes.on (B := T24.setTop (mkF m 79 #[.val (.ref a), .val (.int (3 : Int32)), .val (.ref b), .val (.int (own_ea (2 : Int32) (x0 - (0 : Int32)))), .val (.int x0), .val (.int (0 : Int32)), .val (.int (x0 - (0 : Int32)))] [])) (fun _ k => XS.istore X24.here hx rfl (hb hby d2_77) rfl (l' := #[.val (.ref a), .val (.int (3 : Int32)), .val (.ref b), .val (.int (own_ea (2 : Int32) (x0 - (0 : Int32)))), .val (.int x0), .val (.int (0 : Int32)), .val (.int (x0 - (0 : Int32)))]) rfl k) ?_
  refine Goes.on (B := T24.setTop (mkF m 82 #[.val (.ref a), .val (.int (3 : Int32)), .val (.ref b), .val (.int (own_ea (2 : Int32) (x0 - (0 : Int32)))), .val (.int x0), .val (.int (1 : Int32)), .val (.int (x0 - (0 : Int32)))] [])) (fun _ k => XS.iinc X24.here hx rfl (hb hby d2_79) rfl (l' := #[.val (.ref a), .val (.int (3 : Int32)), .val (.ref b), .val (.int (own_ea (2 : Int32) (x0 - (0 : Int32)))), .val (.int x0), .val (.int (1 : Int32)), .val (.int (x0 - (0 : Int32)))]) rfl k) ?_
  refine Goes.on (B := T24.setTop (mkF m 8 #[.val (.ref a), .val (.int (3 : Int32)), .val (.ref b), .val (.int (own_ea (2 : Int32) (x0 - (0 : Int32)))), .val (.int x0), .val (.int (1 : Int32)), .val (.int (x0 - (0 : Int32)))] [])) (fun _ k => XS.goto X24.here hx rfl (pc0 := 82) (pc' := 8) rfl (hb hby d2_82) (by decide) (by decide) k) ?_
  refine Goes.on (B := T24.setTop (mkF m 10 #[.val (.ref a), .val (.int (3 : Int32)), .val (.ref b), .val (.int (own_ea (2 : Int32) (x0 - (0 : Int32)))), .val (.int x0), .val (.int (1 : Int32)), .val (.int (x0 - (0 : Int32)))] [(.int (1 : Int32))])) (fun _ k => XS.iload X24.here hx rfl (hb hby d2_8) rfl  k) ?_
  refine Goes.on (B := T24.setTop (mkF m 11 #[.val (.ref a), .val (.int (3 : Int32)), .val (.ref b), .val (.int (own_ea (2 : Int32) (x0 - (0 : Int32)))), .val (.int x0), .val (.int (1 : Int32)), .val (.int (x0 - (0 : Int32)))] [(.int (3 : Int32)), (.int (1 : Int32))])) (fun _ k => XS.iloadN X24.here hx rfl (hb hby d2_10) rfl  k) ?_
  refine Goes.on (B := T24.setTop (mkF m 14 #[.val (.ref a), .val (.int (3 : Int32)), .val (.ref b), .val (.int (own_ea (2 : Int32) (x0 - (0 : Int32)))), .val (.int x0), .val (.int (1 : Int32)), .val (.int (x0 - (0 : Int32)))] [])) (fun _ k => XS.icmpNo X24.here hx rfl (hb hby d2_11) rfl (tlt (by decide)).2.1 k) ?_
  refine Goes.on (B := T24.setTop (mkF m 15 #[.val (.ref a), .val (.int (3 : Int32)), .val (.ref b), .val (.int (own_ea (2 : Int32) (x0 - (0 : Int32)))), .val (.int x0), .val (.int (1 : Int32)), .val (.int (x0 - (0 : Int32)))] [(.ref a)])) (fun _ k => XS.aloadN X24.here hx rfl (hb hby d2_14) rfl rfl  k) ?_
  refine Goes.on (B := T24.setTop (mkF m 17 #[.val (.ref a), .val (.int (3 : Int32)), .val (.ref b), .val (.int (own_ea (2 : Int32) (x0 - (0 : Int32)))), .val (.int x0), .val (.int (1 : Int32)), .val (.int (x0 - (0 : Int32)))] [(.int (1 : Int32)), (.ref a)])) (fun _ k => XS.iload X24.here hx rfl (hb hby d2_15) rfl  k) ?_
  obtain ⟨cl26, Ar26, q26, S26, Nn26, H26, G26⟩ := id VA24
  have hin26 : ¬ ((1 : Int32) < 0 ∨ cl26.slots.size ≤ ((1 : Int32)).toNatClampNeg) := inb_of S26 ⟨by decide, by decide⟩
  refine Goes.on (B := T24.setTop (mkF m 18 #[.val (.ref a), .val (.int (3 : Int32)), .val (.ref b), .val (.int (own_ea (2 : Int32) (x0 - (0 : Int32)))), .val (.int x0), .val (.int (1 : Int32)), .val (.int (x0 - (0 : Int32)))] [(.int x1)])) (fun _ k => X24.iaload hx (j := (1 : Int32)) (v := (.int x1)) (by rw [e24]; exact Ar26.1) (State.isArrayOf_alike hZ.alike Ar26.2.1) Ar26.2.2 hin26 (H26.at hin26 rfl) (g := (mkF m 17 #[.val (.ref a), .val (.int (3 : Int32)), .val (.ref b), .val (.int (own_ea (2 : Int32) (x0 - (0 : Int32)))), .val (.int x0), .val (.int (1 : Int32)), .val (.int (x0 - (0 : Int32)))] [(.int (1 : Int32)), (.ref a)])) rfl rfl (hb hby d2_17) _ k) ?_
  refine Goes.on (B := T24.setTop (mkF m 20 #[.val (.ref a), .val (.int (3 : Int32)), .val (.ref b), .val (.int (own_ea (2 : Int32) (x0 - (0 : Int32)))), .val (.int x0), .val (.int (1 : Int32)), .val (.int (x0 - (0 : Int32)))] [(.int x0), (.int x1)])) (fun _ k => XS.iload X24.here hx rfl (hb hby d2_18) rfl  k) ?_
  refine Goes.on (B := T24.setTop (mkF m 21 #[.val (.ref a), .val (.int (3 : Int32)), .val (.ref b), .val (.int (own_ea (2 : Int32) (x0 - (0 : Int32)))), .val (.int x0), .val (.int (1 : Int32)), .val (.int (x0 - (0 : Int32)))] [(.int (x1 - x0))])) (fun _ k => XS.isub X24.here hx rfl (hb hby d2_20) rfl k) ?_
  refine Goes.on (B := T24.setTop (mkF m 23 #[.val (.ref a), .val (.int (3 : Int32)), .val (.ref b), .val (.int (own_ea (2 : Int32) (x0 - (0 : Int32)))), .val (.int x0), .val (.int (1 : Int32)), .val (.int (x1 - x0))] [])) (fun _ k => XS.istore X24.here hx rfl (hb hby d2_21) rfl (l' := #[.val (.ref a), .val (.int (3 : Int32)), .val (.ref b), .val (.int (own_ea (2 : Int32) (x0 - (0 : Int32)))), .val (.int x0), .val (.int (1 : Int32)), .val (.int (x1 - x0))]) rfl k) ?_
  refine Goes.on (B := T24.setTop (mkF m 25 #[.val (.ref a), .val (.int (3 : Int32)), .val (.ref b), .val (.int (own_ea (2 : Int32) (x0 - (0 : Int32)))), .val (.int x0), .val (.int (1 : Int32)), .val (.int (x1 - x0))] [(.int (x1 - x0))])) (fun _ k => XS.iload X24.here hx rfl (hb hby d2_23) rfl  k) ?_
  obtain ⟨_, _, ⟨T27, L27, k27, n27⟩, -, X27, ⟨Lc27, hQ27, l27, y27, z27⟩, st27⟩ := Jvm.LawKit.callS X24 hx (y := (⟨"com/example/roadeq/roadeq/assign/LinkCode", "narrow", "(I)Z"⟩ : MethodName)) hown (mvT hZ (hw _ (List.mem_of_getElem? (i := 10) rfl))) (mvT hZ (hw _ (List.mem_of_getElem? (i := 11) rfl))) (mvT hZ (hw _ (List.mem_of_getElem? (i := 8) rfl))) (mvT hZ (hw _ (List.mem_of_getElem? (i := 12) rfl))) (by decide) (backOf (W := 0) (rmn l Z a0 hw [] (x1 - x0) h24 n0 z24) hZ (hw _ (List.mem_of_getElem? (i := 12) rfl)) (hw _ (List.mem_of_getElem? (i := 8) rfl)) (by decide) (by decide)) (g := (mkF m 25 #[.val (.ref a), .val (.int (3 : Int32)), .val (.ref b), .val (.int (own_ea (2 : Int32) (x0 - (0 : Int32)))), .val (.int x0), .val (.int (1 : Int32)), .val (.int (x1 - x0))] [(.int (x1 - x0))])) rfl (by rw [hml]; rfl) (argsL := [(.int (x1 - x0))]) (rest := []) (lenOf pd_2__I_Z rfl) rfl (by show 2 * 0 + _ ≤ _; exact Nat.le_of_eq rfl) (hb hby d2_25) (fun _ _ => ⟨rfl, e24, (by decide : 0 + 0 ≤ _), (by decide : 0 + 0 ≤ _)⟩)
  dsimp only [Pt.U, Pt.locs, Pt.cells, Pt.slots] at X27 l27 y27 z27 st27 hQ27
  subst l27 y27 z27
  obtain ⟨rfl, Nq27, eh27⟩ := hQ27
  have N27 := Fr.app N24 Nq27
  refine Goes.on (B := T27.setTop (mkF m 28 #[.val (.ref a), .val (.int (3 : Int32)), .val (.ref b), .val (.int (own_ea (2 : Int32) (x0 - (0 : Int32)))), .val (.int x0), .val (.int (1 : Int32)), .val (.int (x1 - x0))] [(.int (own_nar (x1 - x0)))])) (fun t k => st27 t k) ?_
  refine Goes.viaT (Φ := fun T => ∃ (h' : Heap) (ls : List Loc), Stand p l e ({ frames := 1, cells := 0, slots := 0, locals := 12 } : Room) s m #[(.ref a), (.int (3 : Int32)), (.ref b)] below meth c T ls 0 0 ∧ T.heap = h' ∧ Fr n0 ls ∧ Keep h0 h' [b] ∧ Arv Z h' a kA .int (3 : Int32) [(.int x0), (.int x1), (.int x2)] (.int (0 : Int32)) ∧ Arv Z h' b kB .short (11 : Int32) (own_es (own_es vs (2 : Int32) (x0 - (0 : Int32))) (own_ea (2 : Int32) (x0 - (0 : Int32))) (x1 - x0)) (.int (0 : Int32))) (F := (mkF m 73 #[.val (.ref a), .val (.int (3 : Int32)), .val (.ref b), .val (.int (own_ea (own_ea (2 : Int32) (x0 - (0 : Int32))) (x1 - x0))), .val (.int x0), .val (.int (1 : Int32)), .val (.int (x1 - x0))] [])) (fun J1 => ?_) ?_
  · skip
    by_cases hc28_28 : (own_nar (x1 - x0)) = (0 : Int32)
    · refine Goes.on (B := T27.setTop (mkF m 43 #[.val (.ref a), .val (.int (3 : Int32)), .val (.ref b), .val (.int (own_ea (2 : Int32) (x0 - (0 : Int32)))), .val (.int x0), .val (.int (1 : Int32)), .val (.int (x1 - x0))] [])) (fun _ k => XS.ifYes X27.here hx rfl (pc0 := 28) (pc' := 43) rfl (hb hby d2_28) rfl ((if0 _ _).trans (teq hc28_28).1) (by decide) (by decide) k) ?_
      refine Goes.on (B := T27.setTop (mkF m 44 #[.val (.ref a), .val (.int (3 : Int32)), .val (.ref b), .val (.int (own_ea (2 : Int32) (x0 - (0 : Int32)))), .val (.int x0), .val (.int (1 : Int32)), .val (.int (x1 - x0))] [(.ref b)])) (fun _ k => XS.aloadN X27.here hx rfl (hb hby d2_43) rfl rfl  k) ?_
      refine Goes.on (B := T27.setTop (mkF m 45 #[.val (.ref a), .val (.int (3 : Int32)), .val (.ref b), .val (.int (own_ea (2 : Int32) (x0 - (0 : Int32)))), .val (.int x0), .val (.int (1 : Int32)), .val (.int (x1 - x0))] [(.int (own_ea (2 : Int32) (x0 - (0 : Int32)))), (.ref b)])) (fun _ k => XS.iloadN X27.here hx rfl (hb hby d2_44) rfl  k) ?_
      refine Goes.on (B := T27.setTop (mkF m 48 #[.val (.ref a), .val (.int (3 : Int32)), .val (.ref b), .val (.int ((own_ea (2 : Int32) (x0 - (0 : Int32))) + (1 : Int32))), .val (.int x0), .val (.int (1 : Int32)), .val (.int (x1 - x0))] [(.int (own_ea (2 : Int32) (x0 - (0 : Int32)))), (.ref b)])) (fun _ k => XS.iinc X27.here hx rfl (hb hby d2_45) rfl (l' := #[.val (.ref a), .val (.int (3 : Int32)), .val (.ref b), .val (.int ((own_ea (2 : Int32) (x0 - (0 : Int32))) + (1 : Int32))), .val (.int x0), .val (.int (1 : Int32)), .val (.int (x1 - x0))]) rfl k) ?_
      refine Goes.on (B := T27.setTop (mkF m 51 #[.val (.ref a), .val (.int (3 : Int32)), .val (.ref b), .val (.int ((own_ea (2 : Int32) (x0 - (0 : Int32))) + (1 : Int32))), .val (.int x0), .val (.int (1 : Int32)), .val (.int (x1 - x0))] [(.int (-32768 : Int32)), (.int (own_ea (2 : Int32) (x0 - (0 : Int32)))), (.ref b)])) (fun _ k => XS.sipush X27.here hx rfl (hb hby d2_48) k) ?_
      obtain ⟨cl29, Ar29, q29, S29, Nn29, H29, G29⟩ := id VB24
      have hin29 : ¬ ((own_ea (2 : Int32) (x0 - (0 : Int32))) < 0 ∨ cl29.slots.size ≤ ((own_ea (2 : Int32) (x0 - (0 : Int32)))).toNatClampNeg) := inb_of S29 (own_hin (own_up (own_eib own_i2 (by decide)) (by decide)))
      obtain ⟨T30, h30, X30, e30, W30, st30⟩ := stS X27 hx hZ eh27 Ar29 (j := (own_ea (2 : Int32) (x0 - (0 : Int32)))) hin29 (g := (mkF m 51 #[.val (.ref a), .val (.int (3 : Int32)), .val (.ref b), .val (.int ((own_ea (2 : Int32) (x0 - (0 : Int32))) + (1 : Int32))), .val (.int x0), .val (.int (1 : Int32)), .val (.int (x1 - x0))] [(.int (-32768 : Int32)), (.int (own_ea (2 : Int32) (x0 - (0 : Int32)))), (.ref b)])) rfl rfl (hb hby d2_51)
      have V30 : Arv Z h30 b kB .short (11 : Int32) ((own_es vs (2 : Int32) (x0 - (0 : Int32))).set ((own_ea (2 : Int32) (x0 - (0 : Int32)))).toNatClampNeg (.int (nar .short (-32768 : Int32)))) (.int (0 : Int32)) := Arv.set Ar29 q29 S29 Nn29 H29 G29 (fits_nar_short _) W30 ((own_ea (2 : Int32) (x0 - (0 : Int32)))).toNatClampNeg rfl (by simp only [List.length_set, (own_elen hl)]; exact own_nat (own_up (own_eib own_i2 (by decide)) (by decide)))
      have f31 := VA24.other W30 nab
      have z32 : n0 ≤ h30.size := Nat.le_trans z24 (Keep.of_wr W30).1
      have K33 : Keep h0 h30 [b] := K24.wr W30 (Or.inl (List.mem_of_getElem? (i := 0) rfl))
      have N30 := Fr.snoc X30 N27 gb
      refine Goes.on (B := T30.setTop (mkF m 52 #[.val (.ref a), .val (.int (3 : Int32)), .val (.ref b), .val (.int ((own_ea (2 : Int32) (x0 - (0 : Int32))) + (1 : Int32))), .val (.int x0), .val (.int (1 : Int32)), .val (.int (x1 - x0))] [])) (fun t k => st30 t k) ?_
      refine Goes.on (B := T30.setTop (mkF m 53 #[.val (.ref a), .val (.int (3 : Int32)), .val (.ref b), .val (.int ((own_ea (2 : Int32) (x0 - (0 : Int32))) + (1 : Int32))), .val (.int x0), .val (.int (1 : Int32)), .val (.int (x1 - x0))] [(.ref b)])) (fun _ k => XS.aloadN X30.here hx rfl (hb hby d2_52) rfl rfl  k) ?_
      refine Goes.on (B := T30.setTop (mkF m 54 #[.val (.ref a), .val (.int (3 : Int32)), .val (.ref b), .val (.int ((own_ea (2 : Int32) (x0 - (0 : Int32))) + (1 : Int32))), .val (.int x0), .val (.int (1 : Int32)), .val (.int (x1 - x0))] [(.int ((own_ea (2 : Int32) (x0 - (0 : Int32))) + (1 : Int32))), (.ref b)])) (fun _ k => XS.iloadN X30.here hx rfl (hb hby d2_53) rfl  k) ?_
      refine Goes.on (B := T30.setTop (mkF m 57 #[.val (.ref a), .val (.int (3 : Int32)), .val (.ref b), .val (.int (((own_ea (2 : Int32) (x0 - (0 : Int32))) + (1 : Int32)) + (1 : Int32))), .val (.int x0), .val (.int (1 : Int32)), .val (.int (x1 - x0))] [(.int ((own_ea (2 : Int32) (x0 - (0 : Int32))) + (1 : Int32))), (.ref b)])) (fun _ k => XS.iinc X30.here hx rfl (hb hby d2_54) rfl (l' := #[.val (.ref a), .val (.int (3 : Int32)), .val (.ref b), .val (.int (((own_ea (2 : Int32) (x0 - (0 : Int32))) + (1 : Int32)) + (1 : Int32))), .val (.int x0), .val (.int (1 : Int32)), .val (.int (x1 - x0))]) rfl k) ?_
      refine Goes.on (B := T30.setTop (mkF m 59 #[.val (.ref a), .val (.int (3 : Int32)), .val (.ref b), .val (.int (((own_ea (2 : Int32) (x0 - (0 : Int32))) + (1 : Int32)) + (1 : Int32))), .val (.int x0), .val (.int (1 : Int32)), .val (.int (x1 - x0))] [(.int (x1 - x0)), (.int ((own_ea (2 : Int32) (x0 - (0 : Int32))) + (1 : Int32))), (.ref b)])) (fun _ k => XS.iload X30.here hx rfl (hb hby d2_57) rfl  k) ?_
      refine Goes.on (B := T30.setTop (mkF m 61 #[.val (.ref a), .val (.int (3 : Int32)), .val (.ref b), .val (.int (((own_ea (2 : Int32) (x0 - (0 : Int32))) + (1 : Int32)) + (1 : Int32))), .val (.int x0), .val (.int (1 : Int32)), .val (.int (x1 - x0))] [(.int (16 : Int32)), (.int (x1 - x0)), (.int ((own_ea (2 : Int32) (x0 - (0 : Int32))) + (1 : Int32))), (.ref b)])) (fun _ k => XS.bipush X30.here hx rfl (hb hby d2_59) k) ?_
      refine Goes.on (B := T30.setTop (mkF m 62 #[.val (.ref a), .val (.int (3 : Int32)), .val (.ref b), .val (.int (((own_ea (2 : Int32) (x0 - (0 : Int32))) + (1 : Int32)) + (1 : Int32))), .val (.int x0), .val (.int (1 : Int32)), .val (.int (x1 - x0))] [(.int (((x1 - x0).toUInt32 >>> ((16 : Int32) &&& 31).toUInt32).toInt32)), (.int ((own_ea (2 : Int32) (x0 - (0 : Int32))) + (1 : Int32))), (.ref b)])) (fun _ k => XS.iushr X30.here hx rfl (hb hby d2_61) rfl k) ?_
      refine Goes.on (B := T30.setTop (mkF m 63 #[.val (.ref a), .val (.int (3 : Int32)), .val (.ref b), .val (.int (((own_ea (2 : Int32) (x0 - (0 : Int32))) + (1 : Int32)) + (1 : Int32))), .val (.int x0), .val (.int (1 : Int32)), .val (.int (x1 - x0))] [(.int ((((x1 - x0).toUInt32 >>> ((16 : Int32) &&& 31).toUInt32).toInt32).toInt16.toInt32)), (.int ((own_ea (2 : Int32) (x0 - (0 : Int32))) + (1 : Int32))), (.ref b)])) (fun _ k => XS.i2s X30.here hx rfl (hb hby d2_62) rfl k) ?_
      obtain ⟨cl34, Ar34, q34, S34, Nn34, H34, G34⟩ := id V30
      have hin34 : ¬ (((own_ea (2 : Int32) (x0 - (0 : Int32))) + (1 : Int32)) < 0 ∨ cl34.slots.size ≤ (((own_ea (2 : Int32) (x0 - (0 : Int32))) + (1 : Int32))).toNatClampNeg) := inb_of S34 (own_hin (own_s1 (own_up (own_eib own_i2 (by decide)) (by decide))))
      obtain ⟨T35, h35, X35, e35, W35, st35⟩ := stS X30 hx hZ e30 Ar34 (j := ((own_ea (2 : Int32) (x0 - (0 : Int32))) + (1 : Int32))) hin34 (g := (mkF m 63 #[.val (.ref a), .val (.int (3 : Int32)), .val (.ref b), .val (.int (((own_ea (2 : Int32) (x0 - (0 : Int32))) + (1 : Int32)) + (1 : Int32))), .val (.int x0), .val (.int (1 : Int32)), .val (.int (x1 - x0))] [(.int ((((x1 - x0).toUInt32 >>> ((16 : Int32) &&& 31).toUInt32).toInt32).toInt16.toInt32)), (.int ((own_ea (2 : Int32) (x0 - (0 : Int32))) + (1 : Int32))), (.ref b)])) rfl rfl (hb hby d2_63)
      have V35 : Arv Z h35 b kB .short (11 : Int32) (((own_es vs (2 : Int32) (x0 - (0 : Int32))).set ((own_ea (2 : Int32) (x0 - (0 : Int32)))).toNatClampNeg (.int (nar .short (-32768 : Int32)))).set (((own_ea (2 : Int32) (x0 - (0 : Int32))) + (1 : Int32))).toNatClampNeg (.int (nar .short ((((x1 - x0).toUInt32 >>> ((16 : Int32) &&& 31).toUInt32).toInt32).toInt16.toInt32)))) (.int (0 : Int32)) := Arv.set Ar34 q34 S34 Nn34 H34 G34 (fits_nar_short _) W35 (((own_ea (2 : Int32) (x0 - (0 : Int32))) + (1 : Int32))).toNatClampNeg rfl (by simp only [List.length_set, (own_elen hl)]; exact own_nat (own_s1 (own_up (own_eib own_i2 (by decide)) (by decide))))
      have f36 := f31.other W35 nab
      have z37 : n0 ≤ h35.size := Nat.le_trans z32 (Keep.of_wr W35).1
      have K38 : Keep h0 h35 [b] := K33.wr W35 (Or.inl (List.mem_of_getElem? (i := 0) rfl))
      have N35 := Fr.snoc X35 N30 gb
      refine Goes.on (B := T35.setTop (mkF m 64 #[.val (.ref a), .val (.int (3 : Int32)), .val (.ref b), .val (.int (((own_ea (2 : Int32) (x0 - (0 : Int32))) + (1 : Int32)) + (1 : Int32))), .val (.int x0), .val (.int (1 : Int32)), .val (.int (x1 - x0))] [])) (fun t k => st35 t k) ?_
      refine Goes.on (B := T35.setTop (mkF m 65 #[.val (.ref a), .val (.int (3 : Int32)), .val (.ref b), .val (.int (((own_ea (2 : Int32) (x0 - (0 : Int32))) + (1 : Int32)) + (1 : Int32))), .val (.int x0), .val (.int (1 : Int32)), .val (.int (x1 - x0))] [(.ref b)])) (fun _ k => XS.aloadN X35.here hx rfl (hb hby d2_64) rfl rfl  k) ?_
      refine Goes.on (B := T35.setTop (mkF m 66 #[.val (.ref a), .val (.int (3 : Int32)), .val (.ref b), .val (.int (((own_ea (2 : Int32) (x0 - (0 : Int32))) + (1 : Int32)) + (1 : Int32))), .val (.int x0), .val (.int (1 : Int32)), .val (.int (x1 - x0))] [(.int (((own_ea (2 : Int32) (x0 - (0 : Int32))) + (1 : Int32)) + (1 : Int32))), (.ref b)])) (fun _ k => XS.iloadN X35.here hx rfl (hb hby d2_65) rfl  k) ?_
      refine Goes.on (B := T35.setTop (mkF m 69 #[.val (.ref a), .val (.int (3 : Int32)), .val (.ref b), .val (.int ((((own_ea (2 : Int32) (x0 - (0 : Int32))) + (1 : Int32)) + (1 : Int32)) + (1 : Int32))), .val (.int x0), .val (.int (1 : Int32)), .val (.int (x1 - x0))] [(.int (((own_ea (2 : Int32) (x0 - (0 : Int32))) + (1 : Int32)) + (1 : Int32))), (.ref b)])) (fun _ k => XS.iinc X35.here hx rfl (hb hby d2_66) rfl (l' := #[.val (.ref a), .val (.int (3 : Int32)), .val (.ref b), .val (.int ((((own_ea (2 : Int32) (x0 - (0 : Int32))) + (1 : Int32)) + (1 : Int32)) + (1 : Int32))), .val (.int x0), .val (.int (1 : Int32)), .val (.int (x1 - x0))]) rfl k) ?_
      refine Goes.on (B := T35.setTop (mkF m 71 #[.val (.ref a), .val (.int (3 : Int32)), .val (.ref b), .val (.int ((((own_ea (2 : Int32) (x0 - (0 : Int32))) + (1 : Int32)) + (1 : Int32)) + (1 : Int32))), .val (.int x0), .val (.int (1 : Int32)), .val (.int (x1 - x0))] [(.int (x1 - x0)), (.int (((own_ea (2 : Int32) (x0 - (0 : Int32))) + (1 : Int32)) + (1 : Int32))), (.ref b)])) (fun _ k => XS.iload X35.here hx rfl (hb hby d2_69) rfl  k) ?_
      refine Goes.on (B := T35.setTop (mkF m 72 #[.val (.ref a), .val (.int (3 : Int32)), .val (.ref b), .val (.int ((((own_ea (2 : Int32) (x0 - (0 : Int32))) + (1 : Int32)) + (1 : Int32)) + (1 : Int32))), .val (.int x0), .val (.int (1 : Int32)), .val (.int (x1 - x0))] [(.int ((x1 - x0).toInt16.toInt32)), (.int (((own_ea (2 : Int32) (x0 - (0 : Int32))) + (1 : Int32)) + (1 : Int32))), (.ref b)])) (fun _ k => XS.i2s X35.here hx rfl (hb hby d2_71) rfl k) ?_
      obtain ⟨cl39, Ar39, q39, S39, Nn39, H39, G39⟩ := id V35
      have hin39 : ¬ ((((own_ea (2 : Int32) (x0 - (0 : Int32))) + (1 : Int32)) + (1 : Int32)) < 0 ∨ cl39.slots.size ≤ ((((own_ea (2 : Int32) (x0 - (0 : Int32))) + (1 : Int32)) + (1 : Int32))).toNatClampNeg) := inb_of S39 (own_hin (own_s2 (own_up (own_eib own_i2 (by decide)) (by decide))))
      obtain ⟨T40, h40, X40, e40, W40, st40⟩ := stS X35 hx hZ e35 Ar39 (j := (((own_ea (2 : Int32) (x0 - (0 : Int32))) + (1 : Int32)) + (1 : Int32))) hin39 (g := (mkF m 72 #[.val (.ref a), .val (.int (3 : Int32)), .val (.ref b), .val (.int ((((own_ea (2 : Int32) (x0 - (0 : Int32))) + (1 : Int32)) + (1 : Int32)) + (1 : Int32))), .val (.int x0), .val (.int (1 : Int32)), .val (.int (x1 - x0))] [(.int ((x1 - x0).toInt16.toInt32)), (.int (((own_ea (2 : Int32) (x0 - (0 : Int32))) + (1 : Int32)) + (1 : Int32))), (.ref b)])) rfl rfl (hb hby d2_72)
      have V40 : Arv Z h40 b kB .short (11 : Int32) ((((own_es vs (2 : Int32) (x0 - (0 : Int32))).set ((own_ea (2 : Int32) (x0 - (0 : Int32)))).toNatClampNeg (.int (nar .short (-32768 : Int32)))).set (((own_ea (2 : Int32) (x0 - (0 : Int32))) + (1 : Int32))).toNatClampNeg (.int (nar .short ((((x1 - x0).toUInt32 >>> ((16 : Int32) &&& 31).toUInt32).toInt32).toInt16.toInt32)))).set ((((own_ea (2 : Int32) (x0 - (0 : Int32))) + (1 : Int32)) + (1 : Int32))).toNatClampNeg (.int (nar .short ((x1 - x0).toInt16.toInt32)))) (.int (0 : Int32)) := Arv.set Ar39 q39 S39 Nn39 H39 G39 (fits_nar_short _) W40 ((((own_ea (2 : Int32) (x0 - (0 : Int32))) + (1 : Int32)) + (1 : Int32))).toNatClampNeg rfl (by simp only [List.length_set, (own_elen hl)]; exact own_nat (own_s2 (own_up (own_eib own_i2 (by decide)) (by decide))))
      have f41 := f36.other W40 nab
      have z42 : n0 ≤ h40.size := Nat.le_trans z37 (Keep.of_wr W40).1
      have K43 : Keep h0 h40 [b] := K38.wr W40 (Or.inl (List.mem_of_getElem? (i := 0) rfl))
      have N40 := Fr.snoc X40 N35 gb
      refine Goes.on (B := T40.setTop (mkF m 73 #[.val (.ref a), .val (.int (3 : Int32)), .val (.ref b), .val (.int ((((own_ea (2 : Int32) (x0 - (0 : Int32))) + (1 : Int32)) + (1 : Int32)) + (1 : Int32))), .val (.int x0), .val (.int (1 : Int32)), .val (.int (x1 - x0))] [])) (fun t k => st40 t k) ?_
      have hj1 : (own_ea (own_ea (2 : Int32) (x0 - (0 : Int32))) (x1 - x0)) = ((((own_ea (2 : Int32) (x0 - (0 : Int32))) + (1 : Int32)) + (1 : Int32)) + (1 : Int32)) := by rw [own_ea, if_pos hc28_28]; try rfl
      have hj2 : (own_es (own_es vs (2 : Int32) (x0 - (0 : Int32))) (own_ea (2 : Int32) (x0 - (0 : Int32))) (x1 - x0)) = ((((own_es vs (2 : Int32) (x0 - (0 : Int32))).set ((own_ea (2 : Int32) (x0 - (0 : Int32)))).toNatClampNeg (.int (nar .short (-32768 : Int32)))).set (((own_ea (2 : Int32) (x0 - (0 : Int32))) + (1 : Int32))).toNatClampNeg (.int (nar .short ((((x1 - x0).toUInt32 >>> ((16 : Int32) &&& 31).toUInt32).toInt32).toInt16.toInt32)))).set ((((own_ea (2 : Int32) (x0 - (0 : Int32))) + (1 : Int32)) + (1 : Int32))).toNatClampNeg (.int (nar .short ((x1 - x0).toInt16.toInt32)))) := by rw [own_es, if_pos hc28_28]; try rfl
      have JJ := J1 T40 ⟨_, _, X40, e40, N40, K43, f41, by rw [hj2]; exact V40⟩
      rw [hj1] at JJ; exact JJ
    · refine Goes.on (B := T27.setTop (mkF m 31 #[.val (.ref a), .val (.int (3 : Int32)), .val (.ref b), .val (.int (own_ea (2 : Int32) (x0 - (0 : Int32)))), .val (.int x0), .val (.int (1 : Int32)), .val (.int (x1 - x0))] [])) (fun _ k => XS.ifNo X27.here hx rfl (hb hby d2_28) rfl ((if0 _ _).trans (feq hc28_28).1) k) ?_
      refine Goes.on (B := T27.setTop (mkF m 32 #[.val (.ref a), .val (.int (3 : Int32)), .val (.ref b), .val (.int (own_ea (2 : Int32) (x0 - (0 : Int32)))), .val (.int x0), .val (.int (1 : Int32)), .val (.int (x1 - x0))] [(.ref b)])) (fun _ k => XS.aloadN X27.here hx rfl (hb hby d2_31) rfl rfl  k) ?_
      refine Goes.on (B := T27.setTop (mkF m 33 #[.val (.ref a), .val (.int (3 : Int32)), .val (.ref b), .val (.int (own_ea (2 : Int32) (x0 - (0 : Int32)))), .val (.int x0), .val (.int (1 : Int32)), .val (.int (x1 - x0))] [(.int (own_ea (2 : Int32) (x0 - (0 : Int32)))), (.ref b)])) (fun _ k => XS.iloadN X27.here hx rfl (hb hby d2_32) rfl  k) ?_
      refine Goes.on (B := T27.setTop (mkF m 36 #[.val (.ref a), .val (.int (3 : Int32)), .val (.ref b), .val (.int ((own_ea (2 : Int32) (x0 - (0 : Int32))) + (1 : Int32))), .val (.int x0), .val (.int (1 : Int32)), .val (.int (x1 - x0))] [(.int (own_ea (2 : Int32) (x0 - (0 : Int32)))), (.ref b)])) (fun _ k => XS.iinc X27.here hx rfl (hb hby d2_33) rfl (l' := #[.val (.ref a), .val (.int (3 : Int32)), .val (.ref b), .val (.int ((own_ea (2 : Int32) (x0 - (0 : Int32))) + (1 : Int32))), .val (.int x0), .val (.int (1 : Int32)), .val (.int (x1 - x0))]) rfl k) ?_
      refine Goes.on (B := T27.setTop (mkF m 38 #[.val (.ref a), .val (.int (3 : Int32)), .val (.ref b), .val (.int ((own_ea (2 : Int32) (x0 - (0 : Int32))) + (1 : Int32))), .val (.int x0), .val (.int (1 : Int32)), .val (.int (x1 - x0))] [(.int (x1 - x0)), (.int (own_ea (2 : Int32) (x0 - (0 : Int32)))), (.ref b)])) (fun _ k => XS.iload X27.here hx rfl (hb hby d2_36) rfl  k) ?_
      refine Goes.on (B := T27.setTop (mkF m 39 #[.val (.ref a), .val (.int (3 : Int32)), .val (.ref b), .val (.int ((own_ea (2 : Int32) (x0 - (0 : Int32))) + (1 : Int32))), .val (.int x0), .val (.int (1 : Int32)), .val (.int (x1 - x0))] [(.int ((x1 - x0).toInt16.toInt32)), (.int (own_ea (2 : Int32) (x0 - (0 : Int32)))), (.ref b)])) (fun _ k => XS.i2s X27.here hx rfl (hb hby d2_38) rfl k) ?_
      obtain ⟨cl44, Ar44, q44, S44, Nn44, H44, G44⟩ := id VB24
      have hin44 : ¬ ((own_ea (2 : Int32) (x0 - (0 : Int32))) < 0 ∨ cl44.slots.size ≤ ((own_ea (2 : Int32) (x0 - (0 : Int32)))).toNatClampNeg) := inb_of S44 (own_hin (own_up (own_eib own_i2 (by decide)) (by decide)))
      obtain ⟨T45, h45, X45, e45, W45, st45⟩ := stS X27 hx hZ eh27 Ar44 (j := (own_ea (2 : Int32) (x0 - (0 : Int32)))) hin44 (g := (mkF m 39 #[.val (.ref a), .val (.int (3 : Int32)), .val (.ref b), .val (.int ((own_ea (2 : Int32) (x0 - (0 : Int32))) + (1 : Int32))), .val (.int x0), .val (.int (1 : Int32)), .val (.int (x1 - x0))] [(.int ((x1 - x0).toInt16.toInt32)), (.int (own_ea (2 : Int32) (x0 - (0 : Int32)))), (.ref b)])) rfl rfl (hb hby d2_39)
      have V45 : Arv Z h45 b kB .short (11 : Int32) ((own_es vs (2 : Int32) (x0 - (0 : Int32))).set ((own_ea (2 : Int32) (x0 - (0 : Int32)))).toNatClampNeg (.int (nar .short ((x1 - x0).toInt16.toInt32)))) (.int (0 : Int32)) := Arv.set Ar44 q44 S44 Nn44 H44 G44 (fits_nar_short _) W45 ((own_ea (2 : Int32) (x0 - (0 : Int32)))).toNatClampNeg rfl (by simp only [List.length_set, (own_elen hl)]; exact own_nat (own_up (own_eib own_i2 (by decide)) (by decide)))
      have f46 := VA24.other W45 nab
      have z47 : n0 ≤ h45.size := Nat.le_trans z24 (Keep.of_wr W45).1
      have K48 : Keep h0 h45 [b] := K24.wr W45 (Or.inl (List.mem_of_getElem? (i := 0) rfl))
      have N45 := Fr.snoc X45 N27 gb
      refine Goes.on (B := T45.setTop (mkF m 40 #[.val (.ref a), .val (.int (3 : Int32)), .val (.ref b), .val (.int ((own_ea (2 : Int32) (x0 - (0 : Int32))) + (1 : Int32))), .val (.int x0), .val (.int (1 : Int32)), .val (.int (x1 - x0))] [])) (fun t k => st45 t k) ?_
      refine Goes.on (B := T45.setTop (mkF m 73 #[.val (.ref a), .val (.int (3 : Int32)), .val (.ref b), .val (.int ((own_ea (2 : Int32) (x0 - (0 : Int32))) + (1 : Int32))), .val (.int x0), .val (.int (1 : Int32)), .val (.int (x1 - x0))] [])) (fun _ k => XS.goto X45.here hx rfl (pc0 := 40) (pc' := 73) rfl (hb hby d2_40) (by decide) (by decide) k) ?_
      have hj1 : (own_ea (own_ea (2 : Int32) (x0 - (0 : Int32))) (x1 - x0)) = ((own_ea (2 : Int32) (x0 - (0 : Int32))) + (1 : Int32)) := by rw [own_ea, if_neg hc28_28]; try rfl
      have hj2 : (own_es (own_es vs (2 : Int32) (x0 - (0 : Int32))) (own_ea (2 : Int32) (x0 - (0 : Int32))) (x1 - x0)) = ((own_es vs (2 : Int32) (x0 - (0 : Int32))).set ((own_ea (2 : Int32) (x0 - (0 : Int32)))).toNatClampNeg (.int (nar .short ((x1 - x0).toInt16.toInt32)))) := by rw [own_es, if_neg hc28_28]; try rfl
      have JJ := J1 T45 ⟨_, _, X45, e45, N45, K48, f46, by rw [hj2]; exact V45⟩
      rw [hj1] at JJ; exact JJ
  intro T49 hT49
  obtain ⟨h49, ls49, X49, e49, N49, K49, VA49, VB49⟩ := hT49
  have z49 : n0 ≤ h49.size := Nat.le_trans Z0 K49.1
  refine Goes.on (B := T49.setTop (mkF m 74 #[.val (.ref a), .val (.int (3 : Int32)), .val (.ref b), .val (.int (own_ea (own_ea (2 : Int32) (x0 - (0 : Int32))) (x1 - x0))), .val (.int x0), .val (.int (1 : Int32)), .val (.int (x1 - x0))] [(.ref a)])) (fun _ k => XS.aloadN X49.here hx rfl (hb hby d2_73) rfl rfl  k) ?_
  refine Goes.on (B := T49.setTop (mkF m 76 #[.val (.ref a), .val (.int (3 : Int32)), .val (.ref b), .val (.int (own_ea (own_ea (2 : Int32) (x0 - (0 : Int32))) (x1 - x0))), .val (.int x0), .val (.int (1 : Int32)), .val (.int (x1 - x0))] [(.int (1 : Int32)), (.ref a)])) (fun _ k => XS.iload X49.here hx rfl (hb hby d2_74) rfl  k) ?_
  obtain ⟨cl50, Ar50, q50, S50, Nn50, H50, G50⟩ := id VA49
  have hin50 : ¬ ((1 : Int32) < 0 ∨ cl50.slots.size ≤ ((1 : Int32)).toNatClampNeg) := inb_of S50 ⟨by decide, by decide⟩
  refine Goes.on (B := T49.setTop (mkF m 77 #[.val (.ref a), .val (.int (3 : Int32)), .val (.ref b), .val (.int (own_ea (own_ea (2 : Int32) (x0 - (0 : Int32))) (x1 - x0))), .val (.int x0), .val (.int (1 : Int32)), .val (.int (x1 - x0))] [(.int x1)])) (fun _ k => X49.iaload hx (j := (1 : Int32)) (v := (.int x1)) (by rw [e49]; exact Ar50.1) (State.isArrayOf_alike hZ.alike Ar50.2.1) Ar50.2.2 hin50 (H50.at hin50 rfl) (g := (mkF m 76 #[.val (.ref a), .val (.int (3 : Int32)), .val (.ref b), .val (.int (own_ea (own_ea (2 : Int32) (x0 - (0 : Int32))) (x1 - x0))), .val (.int x0), .val (.int (1 : Int32)), .val (.int (x1 - x0))] [(.int (1 : Int32)), (.ref a)])) rfl rfl (hb hby d2_76) _ k) ?_
  refine Goes.on (B := T49.setTop (mkF m 79 #[.val (.ref a), .val (.int (3 : Int32)), .val (.ref b), .val (.int (own_ea (own_ea (2 : Int32) (x0 - (0 : Int32))) (x1 - x0))), .val (.int x1), .val (.int (1 : Int32)), .val (.int (x1 - x0))] [])) (fun _ k => XS.istore X49.here hx rfl (hb hby d2_77) rfl (l' := #[.val (.ref a), .val (.int (3 : Int32)), .val (.ref b), .val (.int (own_ea (own_ea (2 : Int32) (x0 - (0 : Int32))) (x1 - x0))), .val (.int x1), .val (.int (1 : Int32)), .val (.int (x1 - x0))]) rfl k) ?_
  refine Goes.on (B := T49.setTop (mkF m 82 #[.val (.ref a), .val (.int (3 : Int32)), .val (.ref b), .val (.int (own_ea (own_ea (2 : Int32) (x0 - (0 : Int32))) (x1 - x0))), .val (.int x1), .val (.int (2 : Int32)), .val (.int (x1 - x0))] [])) (fun _ k => XS.iinc X49.here hx rfl (hb hby d2_79) rfl (l' := #[.val (.ref a), .val (.int (3 : Int32)), .val (.ref b), .val (.int (own_ea (own_ea (2 : Int32) (x0 - (0 : Int32))) (x1 - x0))), .val (.int x1), .val (.int (2 : Int32)), .val (.int (x1 - x0))]) rfl k) ?_
  refine Goes.on (B := T49.setTop (mkF m 8 #[.val (.ref a), .val (.int (3 : Int32)), .val (.ref b), .val (.int (own_ea (own_ea (2 : Int32) (x0 - (0 : Int32))) (x1 - x0))), .val (.int x1), .val (.int (2 : Int32)), .val (.int (x1 - x0))] [])) (fun _ k => XS.goto X49.here hx rfl (pc0 := 82) (pc' := 8) rfl (hb hby d2_82) (by decide) (by decide) k) ?_
  refine Goes.on (B := T49.setTop (mkF m 10 #[.val (.ref a), .val (.int (3 : Int32)), .val (.ref b), .val (.int (own_ea (own_ea (2 : Int32) (x0 - (0 : Int32))) (x1 - x0))), .val (.int x1), .val (.int (2 : Int32)), .val (.int (x1 - x0))] [(.int (2 : Int32))])) (fun _ k => XS.iload X49.here hx rfl (hb hby d2_8) rfl  k) ?_
  refine Goes.on (B := T49.setTop (mkF m 11 #[.val (.ref a), .val (.int (3 : Int32)), .val (.ref b), .val (.int (own_ea (own_ea (2 : Int32) (x0 - (0 : Int32))) (x1 - x0))), .val (.int x1), .val (.int (2 : Int32)), .val (.int (x1 - x0))] [(.int (3 : Int32)), (.int (2 : Int32))])) (fun _ k => XS.iloadN X49.here hx rfl (hb hby d2_10) rfl  k) ?_
  refine Goes.on (B := T49.setTop (mkF m 14 #[.val (.ref a), .val (.int (3 : Int32)), .val (.ref b), .val (.int (own_ea (own_ea (2 : Int32) (x0 - (0 : Int32))) (x1 - x0))), .val (.int x1), .val (.int (2 : Int32)), .val (.int (x1 - x0))] [])) (fun _ k => XS.icmpNo X49.here hx rfl (hb hby d2_11) rfl (tlt (by decide)).2.1 k) ?_
  refine Goes.on (B := T49.setTop (mkF m 15 #[.val (.ref a), .val (.int (3 : Int32)), .val (.ref b), .val (.int (own_ea (own_ea (2 : Int32) (x0 - (0 : Int32))) (x1 - x0))), .val (.int x1), .val (.int (2 : Int32)), .val (.int (x1 - x0))] [(.ref a)])) (fun _ k => XS.aloadN X49.here hx rfl (hb hby d2_14) rfl rfl  k) ?_
  refine Goes.on (B := T49.setTop (mkF m 17 #[.val (.ref a), .val (.int (3 : Int32)), .val (.ref b), .val (.int (own_ea (own_ea (2 : Int32) (x0 - (0 : Int32))) (x1 - x0))), .val (.int x1), .val (.int (2 : Int32)), .val (.int (x1 - x0))] [(.int (2 : Int32)), (.ref a)])) (fun _ k => XS.iload X49.here hx rfl (hb hby d2_15) rfl  k) ?_
  obtain ⟨cl51, Ar51, q51, S51, Nn51, H51, G51⟩ := id VA49
  have hin51 : ¬ ((2 : Int32) < 0 ∨ cl51.slots.size ≤ ((2 : Int32)).toNatClampNeg) := inb_of S51 ⟨by decide, by decide⟩
  refine Goes.on (B := T49.setTop (mkF m 18 #[.val (.ref a), .val (.int (3 : Int32)), .val (.ref b), .val (.int (own_ea (own_ea (2 : Int32) (x0 - (0 : Int32))) (x1 - x0))), .val (.int x1), .val (.int (2 : Int32)), .val (.int (x1 - x0))] [(.int x2)])) (fun _ k => X49.iaload hx (j := (2 : Int32)) (v := (.int x2)) (by rw [e49]; exact Ar51.1) (State.isArrayOf_alike hZ.alike Ar51.2.1) Ar51.2.2 hin51 (H51.at hin51 rfl) (g := (mkF m 17 #[.val (.ref a), .val (.int (3 : Int32)), .val (.ref b), .val (.int (own_ea (own_ea (2 : Int32) (x0 - (0 : Int32))) (x1 - x0))), .val (.int x1), .val (.int (2 : Int32)), .val (.int (x1 - x0))] [(.int (2 : Int32)), (.ref a)])) rfl rfl (hb hby d2_17) _ k) ?_
  refine Goes.on (B := T49.setTop (mkF m 20 #[.val (.ref a), .val (.int (3 : Int32)), .val (.ref b), .val (.int (own_ea (own_ea (2 : Int32) (x0 - (0 : Int32))) (x1 - x0))), .val (.int x1), .val (.int (2 : Int32)), .val (.int (x1 - x0))] [(.int x1), (.int x2)])) (fun _ k => XS.iload X49.here hx rfl (hb hby d2_18) rfl  k) ?_
  refine Goes.on (B := T49.setTop (mkF m 21 #[.val (.ref a), .val (.int (3 : Int32)), .val (.ref b), .val (.int (own_ea (own_ea (2 : Int32) (x0 - (0 : Int32))) (x1 - x0))), .val (.int x1), .val (.int (2 : Int32)), .val (.int (x1 - x0))] [(.int (x2 - x1))])) (fun _ k => XS.isub X49.here hx rfl (hb hby d2_20) rfl k) ?_
  refine Goes.on (B := T49.setTop (mkF m 23 #[.val (.ref a), .val (.int (3 : Int32)), .val (.ref b), .val (.int (own_ea (own_ea (2 : Int32) (x0 - (0 : Int32))) (x1 - x0))), .val (.int x1), .val (.int (2 : Int32)), .val (.int (x2 - x1))] [])) (fun _ k => XS.istore X49.here hx rfl (hb hby d2_21) rfl (l' := #[.val (.ref a), .val (.int (3 : Int32)), .val (.ref b), .val (.int (own_ea (own_ea (2 : Int32) (x0 - (0 : Int32))) (x1 - x0))), .val (.int x1), .val (.int (2 : Int32)), .val (.int (x2 - x1))]) rfl k) ?_
  refine Goes.on (B := T49.setTop (mkF m 25 #[.val (.ref a), .val (.int (3 : Int32)), .val (.ref b), .val (.int (own_ea (own_ea (2 : Int32) (x0 - (0 : Int32))) (x1 - x0))), .val (.int x1), .val (.int (2 : Int32)), .val (.int (x2 - x1))] [(.int (x2 - x1))])) (fun _ k => XS.iload X49.here hx rfl (hb hby d2_23) rfl  k) ?_
  obtain ⟨_, _, ⟨T52, L52, k52, n52⟩, -, X52, ⟨Lc52, hQ52, l52, y52, z52⟩, st52⟩ := Jvm.LawKit.callS X49 hx (y := (⟨"com/example/roadeq/roadeq/assign/LinkCode", "narrow", "(I)Z"⟩ : MethodName)) hown (mvT hZ (hw _ (List.mem_of_getElem? (i := 10) rfl))) (mvT hZ (hw _ (List.mem_of_getElem? (i := 11) rfl))) (mvT hZ (hw _ (List.mem_of_getElem? (i := 8) rfl))) (mvT hZ (hw _ (List.mem_of_getElem? (i := 12) rfl))) (by decide) (backOf (W := 0) (rmn l Z a0 hw [] (x2 - x1) h49 n0 z49) hZ (hw _ (List.mem_of_getElem? (i := 12) rfl)) (hw _ (List.mem_of_getElem? (i := 8) rfl)) (by decide) (by decide)) (g := (mkF m 25 #[.val (.ref a), .val (.int (3 : Int32)), .val (.ref b), .val (.int (own_ea (own_ea (2 : Int32) (x0 - (0 : Int32))) (x1 - x0))), .val (.int x1), .val (.int (2 : Int32)), .val (.int (x2 - x1))] [(.int (x2 - x1))])) rfl (by rw [hml]; rfl) (argsL := [(.int (x2 - x1))]) (rest := []) (lenOf pd_2__I_Z rfl) rfl (by show 2 * 0 + _ ≤ _; exact Nat.le_of_eq rfl) (hb hby d2_25) (fun _ _ => ⟨rfl, e49, (by decide : 0 + 0 ≤ _), (by decide : 0 + 0 ≤ _)⟩)
  dsimp only [Pt.U, Pt.locs, Pt.cells, Pt.slots] at X52 l52 y52 z52 st52 hQ52
  subst l52 y52 z52
  obtain ⟨rfl, Nq52, eh52⟩ := hQ52
  have N52 := Fr.app N49 Nq52
  refine Goes.on (B := T52.setTop (mkF m 28 #[.val (.ref a), .val (.int (3 : Int32)), .val (.ref b), .val (.int (own_ea (own_ea (2 : Int32) (x0 - (0 : Int32))) (x1 - x0))), .val (.int x1), .val (.int (2 : Int32)), .val (.int (x2 - x1))] [(.int (own_nar (x2 - x1)))])) (fun t k => st52 t k) ?_
  refine Goes.viaT (Φ := fun T => ∃ (h' : Heap) (ls : List Loc), Stand p l e ({ frames := 1, cells := 0, slots := 0, locals := 12 } : Room) s m #[(.ref a), (.int (3 : Int32)), (.ref b)] below meth c T ls 0 0 ∧ T.heap = h' ∧ Fr n0 ls ∧ Keep h0 h' [b] ∧ Arv Z h' a kA .int (3 : Int32) [(.int x0), (.int x1), (.int x2)] (.int (0 : Int32)) ∧ Arv Z h' b kB .short (11 : Int32) (own_es (own_es (own_es vs (2 : Int32) (x0 - (0 : Int32))) (own_ea (2 : Int32) (x0 - (0 : Int32))) (x1 - x0)) (own_ea (own_ea (2 : Int32) (x0 - (0 : Int32))) (x1 - x0)) (x2 - x1)) (.int (0 : Int32))) (F := (mkF m 73 #[.val (.ref a), .val (.int (3 : Int32)), .val (.ref b), .val (.int (own_ea (own_ea (own_ea (2 : Int32) (x0 - (0 : Int32))) (x1 - x0)) (x2 - x1))), .val (.int x1), .val (.int (2 : Int32)), .val (.int (x2 - x1))] [])) (fun J2 => ?_) ?_
  · skip
    by_cases hc28_53 : (own_nar (x2 - x1)) = (0 : Int32)
    · refine Goes.on (B := T52.setTop (mkF m 43 #[.val (.ref a), .val (.int (3 : Int32)), .val (.ref b), .val (.int (own_ea (own_ea (2 : Int32) (x0 - (0 : Int32))) (x1 - x0))), .val (.int x1), .val (.int (2 : Int32)), .val (.int (x2 - x1))] [])) (fun _ k => XS.ifYes X52.here hx rfl (pc0 := 28) (pc' := 43) rfl (hb hby d2_28) rfl ((if0 _ _).trans (teq hc28_53).1) (by decide) (by decide) k) ?_
      refine Goes.on (B := T52.setTop (mkF m 44 #[.val (.ref a), .val (.int (3 : Int32)), .val (.ref b), .val (.int (own_ea (own_ea (2 : Int32) (x0 - (0 : Int32))) (x1 - x0))), .val (.int x1), .val (.int (2 : Int32)), .val (.int (x2 - x1))] [(.ref b)])) (fun _ k => XS.aloadN X52.here hx rfl (hb hby d2_43) rfl rfl  k) ?_
      refine Goes.on (B := T52.setTop (mkF m 45 #[.val (.ref a), .val (.int (3 : Int32)), .val (.ref b), .val (.int (own_ea (own_ea (2 : Int32) (x0 - (0 : Int32))) (x1 - x0))), .val (.int x1), .val (.int (2 : Int32)), .val (.int (x2 - x1))] [(.int (own_ea (own_ea (2 : Int32) (x0 - (0 : Int32))) (x1 - x0))), (.ref b)])) (fun _ k => XS.iloadN X52.here hx rfl (hb hby d2_44) rfl  k) ?_
      refine Goes.on (B := T52.setTop (mkF m 48 #[.val (.ref a), .val (.int (3 : Int32)), .val (.ref b), .val (.int ((own_ea (own_ea (2 : Int32) (x0 - (0 : Int32))) (x1 - x0)) + (1 : Int32))), .val (.int x1), .val (.int (2 : Int32)), .val (.int (x2 - x1))] [(.int (own_ea (own_ea (2 : Int32) (x0 - (0 : Int32))) (x1 - x0))), (.ref b)])) (fun _ k => XS.iinc X52.here hx rfl (hb hby d2_45) rfl (l' := #[.val (.ref a), .val (.int (3 : Int32)), .val (.ref b), .val (.int ((own_ea (own_ea (2 : Int32) (x0 - (0 : Int32))) (x1 - x0)) + (1 : Int32))), .val (.int x1), .val (.int (2 : Int32)), .val (.int (x2 - x1))]) rfl k) ?_
      refine Goes.on (B := T52.setTop (mkF m 51 #[.val (.ref a), .val (.int (3 : Int32)), .val (.ref b), .val (.int ((own_ea (own_ea (2 : Int32) (x0 - (0 : Int32))) (x1 - x0)) + (1 : Int32))), .val (.int x1), .val (.int (2 : Int32)), .val (.int (x2 - x1))] [(.int (-32768 : Int32)), (.int (own_ea (own_ea (2 : Int32) (x0 - (0 : Int32))) (x1 - x0))), (.ref b)])) (fun _ k => XS.sipush X52.here hx rfl (hb hby d2_48) k) ?_
      obtain ⟨cl54, Ar54, q54, S54, Nn54, H54, G54⟩ := id VB49
      have hin54 : ¬ ((own_ea (own_ea (2 : Int32) (x0 - (0 : Int32))) (x1 - x0)) < 0 ∨ cl54.slots.size ≤ ((own_ea (own_ea (2 : Int32) (x0 - (0 : Int32))) (x1 - x0))).toNatClampNeg) := inb_of S54 (own_hin (own_up (own_eib (own_eib own_i2 (by decide)) (by decide)) (by decide)))
      obtain ⟨T55, h55, X55, e55, W55, st55⟩ := stS X52 hx hZ eh52 Ar54 (j := (own_ea (own_ea (2 : Int32) (x0 - (0 : Int32))) (x1 - x0))) hin54 (g := (mkF m 51 #[.val (.ref a), .val (.int (3 : Int32)), .val (.ref b), .val (.int ((own_ea (own_ea (2 : Int32) (x0 - (0 : Int32))) (x1 - x0)) + (1 : Int32))), .val (.int x1), .val (.int (2 : Int32)), .val (.int (x2 - x1))] [(.int (-32768 : Int32)), (.int (own_ea (own_ea (2 : Int32) (x0 - (0 : Int32))) (x1 - x0))), (.ref b)])) rfl rfl (hb hby d2_51)
      have V55 : Arv Z h55 b kB .short (11 : Int32) ((own_es (own_es vs (2 : Int32) (x0 - (0 : Int32))) (own_ea (2 : Int32) (x0 - (0 : Int32))) (x1 - x0)).set ((own_ea (own_ea (2 : Int32) (x0 - (0 : Int32))) (x1 - x0))).toNatClampNeg (.int (nar .short (-32768 : Int32)))) (.int (0 : Int32)) := Arv.set Ar54 q54 S54 Nn54 H54 G54 (fits_nar_short _) W55 ((own_ea (own_ea (2 : Int32) (x0 - (0 : Int32))) (x1 - x0))).toNatClampNeg rfl (by simp only [List.length_set, (own_elen (own_elen hl))]; exact own_nat (own_up (own_eib (own_eib own_i2 (by decide)) (by decide)) (by decide)))
      have f56 := VA49.other W55 nab
      have z57 : n0 ≤ h55.size := Nat.le_trans z49 (Keep.of_wr W55).1
      have K58 : Keep h0 h55 [b] := K49.wr W55 (Or.inl (List.mem_of_getElem? (i := 0) rfl))
      have N55 := Fr.snoc X55 N52 gb
      refine Goes.on (B := T55.setTop (mkF m 52 #[.val (.ref a), .val (.int (3 : Int32)), .val (.ref b), .val (.int ((own_ea (own_ea (2 : Int32) (x0 - (0 : Int32))) (x1 - x0)) + (1 : Int32))), .val (.int x1), .val (.int (2 : Int32)), .val (.int (x2 - x1))] [])) (fun t k => st55 t k) ?_
      refine Goes.on (B := T55.setTop (mkF m 53 #[.val (.ref a), .val (.int (3 : Int32)), .val (.ref b), .val (.int ((own_ea (own_ea (2 : Int32) (x0 - (0 : Int32))) (x1 - x0)) + (1 : Int32))), .val (.int x1), .val (.int (2 : Int32)), .val (.int (x2 - x1))] [(.ref b)])) (fun _ k => XS.aloadN X55.here hx rfl (hb hby d2_52) rfl rfl  k) ?_
      refine Goes.on (B := T55.setTop (mkF m 54 #[.val (.ref a), .val (.int (3 : Int32)), .val (.ref b), .val (.int ((own_ea (own_ea (2 : Int32) (x0 - (0 : Int32))) (x1 - x0)) + (1 : Int32))), .val (.int x1), .val (.int (2 : Int32)), .val (.int (x2 - x1))] [(.int ((own_ea (own_ea (2 : Int32) (x0 - (0 : Int32))) (x1 - x0)) + (1 : Int32))), (.ref b)])) (fun _ k => XS.iloadN X55.here hx rfl (hb hby d2_53) rfl  k) ?_
      refine Goes.on (B := T55.setTop (mkF m 57 #[.val (.ref a), .val (.int (3 : Int32)), .val (.ref b), .val (.int (((own_ea (own_ea (2 : Int32) (x0 - (0 : Int32))) (x1 - x0)) + (1 : Int32)) + (1 : Int32))), .val (.int x1), .val (.int (2 : Int32)), .val (.int (x2 - x1))] [(.int ((own_ea (own_ea (2 : Int32) (x0 - (0 : Int32))) (x1 - x0)) + (1 : Int32))), (.ref b)])) (fun _ k => XS.iinc X55.here hx rfl (hb hby d2_54) rfl (l' := #[.val (.ref a), .val (.int (3 : Int32)), .val (.ref b), .val (.int (((own_ea (own_ea (2 : Int32) (x0 - (0 : Int32))) (x1 - x0)) + (1 : Int32)) + (1 : Int32))), .val (.int x1), .val (.int (2 : Int32)), .val (.int (x2 - x1))]) rfl k) ?_
      refine Goes.on (B := T55.setTop (mkF m 59 #[.val (.ref a), .val (.int (3 : Int32)), .val (.ref b), .val (.int (((own_ea (own_ea (2 : Int32) (x0 - (0 : Int32))) (x1 - x0)) + (1 : Int32)) + (1 : Int32))), .val (.int x1), .val (.int (2 : Int32)), .val (.int (x2 - x1))] [(.int (x2 - x1)), (.int ((own_ea (own_ea (2 : Int32) (x0 - (0 : Int32))) (x1 - x0)) + (1 : Int32))), (.ref b)])) (fun _ k => XS.iload X55.here hx rfl (hb hby d2_57) rfl  k) ?_
      refine Goes.on (B := T55.setTop (mkF m 61 #[.val (.ref a), .val (.int (3 : Int32)), .val (.ref b), .val (.int (((own_ea (own_ea (2 : Int32) (x0 - (0 : Int32))) (x1 - x0)) + (1 : Int32)) + (1 : Int32))), .val (.int x1), .val (.int (2 : Int32)), .val (.int (x2 - x1))] [(.int (16 : Int32)), (.int (x2 - x1)), (.int ((own_ea (own_ea (2 : Int32) (x0 - (0 : Int32))) (x1 - x0)) + (1 : Int32))), (.ref b)])) (fun _ k => XS.bipush X55.here hx rfl (hb hby d2_59) k) ?_
      refine Goes.on (B := T55.setTop (mkF m 62 #[.val (.ref a), .val (.int (3 : Int32)), .val (.ref b), .val (.int (((own_ea (own_ea (2 : Int32) (x0 - (0 : Int32))) (x1 - x0)) + (1 : Int32)) + (1 : Int32))), .val (.int x1), .val (.int (2 : Int32)), .val (.int (x2 - x1))] [(.int (((x2 - x1).toUInt32 >>> ((16 : Int32) &&& 31).toUInt32).toInt32)), (.int ((own_ea (own_ea (2 : Int32) (x0 - (0 : Int32))) (x1 - x0)) + (1 : Int32))), (.ref b)])) (fun _ k => XS.iushr X55.here hx rfl (hb hby d2_61) rfl k) ?_
      refine Goes.on (B := T55.setTop (mkF m 63 #[.val (.ref a), .val (.int (3 : Int32)), .val (.ref b), .val (.int (((own_ea (own_ea (2 : Int32) (x0 - (0 : Int32))) (x1 - x0)) + (1 : Int32)) + (1 : Int32))), .val (.int x1), .val (.int (2 : Int32)), .val (.int (x2 - x1))] [(.int ((((x2 - x1).toUInt32 >>> ((16 : Int32) &&& 31).toUInt32).toInt32).toInt16.toInt32)), (.int ((own_ea (own_ea (2 : Int32) (x0 - (0 : Int32))) (x1 - x0)) + (1 : Int32))), (.ref b)])) (fun _ k => XS.i2s X55.here hx rfl (hb hby d2_62) rfl k) ?_
      obtain ⟨cl59, Ar59, q59, S59, Nn59, H59, G59⟩ := id V55
      have hin59 : ¬ (((own_ea (own_ea (2 : Int32) (x0 - (0 : Int32))) (x1 - x0)) + (1 : Int32)) < 0 ∨ cl59.slots.size ≤ (((own_ea (own_ea (2 : Int32) (x0 - (0 : Int32))) (x1 - x0)) + (1 : Int32))).toNatClampNeg) := inb_of S59 (own_hin (own_s1 (own_up (own_eib (own_eib own_i2 (by decide)) (by decide)) (by decide))))
      obtain ⟨T60, h60, X60, e60, W60, st60⟩ := stS X55 hx hZ e55 Ar59 (j := ((own_ea (own_ea (2 : Int32) (x0 - (0 : Int32))) (x1 - x0)) + (1 : Int32))) hin59 (g := (mkF m 63 #[.val (.ref a), .val (.int (3 : Int32)), .val (.ref b), .val (.int (((own_ea (own_ea (2 : Int32) (x0 - (0 : Int32))) (x1 - x0)) + (1 : Int32)) + (1 : Int32))), .val (.int x1), .val (.int (2 : Int32)), .val (.int (x2 - x1))] [(.int ((((x2 - x1).toUInt32 >>> ((16 : Int32) &&& 31).toUInt32).toInt32).toInt16.toInt32)), (.int ((own_ea (own_ea (2 : Int32) (x0 - (0 : Int32))) (x1 - x0)) + (1 : Int32))), (.ref b)])) rfl rfl (hb hby d2_63)
      have V60 : Arv Z h60 b kB .short (11 : Int32) (((own_es (own_es vs (2 : Int32) (x0 - (0 : Int32))) (own_ea (2 : Int32) (x0 - (0 : Int32))) (x1 - x0)).set ((own_ea (own_ea (2 : Int32) (x0 - (0 : Int32))) (x1 - x0))).toNatClampNeg (.int (nar .short (-32768 : Int32)))).set (((own_ea (own_ea (2 : Int32) (x0 - (0 : Int32))) (x1 - x0)) + (1 : Int32))).toNatClampNeg (.int (nar .short ((((x2 - x1).toUInt32 >>> ((16 : Int32) &&& 31).toUInt32).toInt32).toInt16.toInt32)))) (.int (0 : Int32)) := Arv.set Ar59 q59 S59 Nn59 H59 G59 (fits_nar_short _) W60 (((own_ea (own_ea (2 : Int32) (x0 - (0 : Int32))) (x1 - x0)) + (1 : Int32))).toNatClampNeg rfl (by simp only [List.length_set, (own_elen (own_elen hl))]; exact own_nat (own_s1 (own_up (own_eib (own_eib own_i2 (by decide)) (by decide)) (by decide))))
      have f61 := f56.other W60 nab
      have z62 : n0 ≤ h60.size := Nat.le_trans z57 (Keep.of_wr W60).1
      have K63 : Keep h0 h60 [b] := K58.wr W60 (Or.inl (List.mem_of_getElem? (i := 0) rfl))
      have N60 := Fr.snoc X60 N55 gb
      refine Goes.on (B := T60.setTop (mkF m 64 #[.val (.ref a), .val (.int (3 : Int32)), .val (.ref b), .val (.int (((own_ea (own_ea (2 : Int32) (x0 - (0 : Int32))) (x1 - x0)) + (1 : Int32)) + (1 : Int32))), .val (.int x1), .val (.int (2 : Int32)), .val (.int (x2 - x1))] [])) (fun t k => st60 t k) ?_
      refine Goes.on (B := T60.setTop (mkF m 65 #[.val (.ref a), .val (.int (3 : Int32)), .val (.ref b), .val (.int (((own_ea (own_ea (2 : Int32) (x0 - (0 : Int32))) (x1 - x0)) + (1 : Int32)) + (1 : Int32))), .val (.int x1), .val (.int (2 : Int32)), .val (.int (x2 - x1))] [(.ref b)])) (fun _ k => XS.aloadN X60.here hx rfl (hb hby d2_64) rfl rfl  k) ?_
      refine Goes.on (B := T60.setTop (mkF m 66 #[.val (.ref a), .val (.int (3 : Int32)), .val (.ref b), .val (.int (((own_ea (own_ea (2 : Int32) (x0 - (0 : Int32))) (x1 - x0)) + (1 : Int32)) + (1 : Int32))), .val (.int x1), .val (.int (2 : Int32)), .val (.int (x2 - x1))] [(.int (((own_ea (own_ea (2 : Int32) (x0 - (0 : Int32))) (x1 - x0)) + (1 : Int32)) + (1 : Int32))), (.ref b)])) (fun _ k => XS.iloadN X60.here hx rfl (hb hby d2_65) rfl  k) ?_
      refine Goes.on (B := T60.setTop (mkF m 69 #[.val (.ref a), .val (.int (3 : Int32)), .val (.ref b), .val (.int ((((own_ea (own_ea (2 : Int32) (x0 - (0 : Int32))) (x1 - x0)) + (1 : Int32)) + (1 : Int32)) + (1 : Int32))), .val (.int x1), .val (.int (2 : Int32)), .val (.int (x2 - x1))] [(.int (((own_ea (own_ea (2 : Int32) (x0 - (0 : Int32))) (x1 - x0)) + (1 : Int32)) + (1 : Int32))), (.ref b)])) (fun _ k => XS.iinc X60.here hx rfl (hb hby d2_66) rfl (l' := #[.val (.ref a), .val (.int (3 : Int32)), .val (.ref b), .val (.int ((((own_ea (own_ea (2 : Int32) (x0 - (0 : Int32))) (x1 - x0)) + (1 : Int32)) + (1 : Int32)) + (1 : Int32))), .val (.int x1), .val (.int (2 : Int32)), .val (.int (x2 - x1))]) rfl k) ?_
      refine Goes.on (B := T60.setTop (mkF m 71 #[.val (.ref a), .val (.int (3 : Int32)), .val (.ref b), .val (.int ((((own_ea (own_ea (2 : Int32) (x0 - (0 : Int32))) (x1 - x0)) + (1 : Int32)) + (1 : Int32)) + (1 : Int32))), .val (.int x1), .val (.int (2 : Int32)), .val (.int (x2 - x1))] [(.int (x2 - x1)), (.int (((own_ea (own_ea (2 : Int32) (x0 - (0 : Int32))) (x1 - x0)) + (1 : Int32)) + (1 : Int32))), (.ref b)])) (fun _ k => XS.iload X60.here hx rfl (hb hby d2_69) rfl  k) ?_
      refine Goes.on (B := T60.setTop (mkF m 72 #[.val (.ref a), .val (.int (3 : Int32)), .val (.ref b), .val (.int ((((own_ea (own_ea (2 : Int32) (x0 - (0 : Int32))) (x1 - x0)) + (1 : Int32)) + (1 : Int32)) + (1 : Int32))), .val (.int x1), .val (.int (2 : Int32)), .val (.int (x2 - x1))] [(.int ((x2 - x1).toInt16.toInt32)), (.int (((own_ea (own_ea (2 : Int32) (x0 - (0 : Int32))) (x1 - x0)) + (1 : Int32)) + (1 : Int32))), (.ref b)])) (fun _ k => XS.i2s X60.here hx rfl (hb hby d2_71) rfl k) ?_
      obtain ⟨cl64, Ar64, q64, S64, Nn64, H64, G64⟩ := id V60
      have hin64 : ¬ ((((own_ea (own_ea (2 : Int32) (x0 - (0 : Int32))) (x1 - x0)) + (1 : Int32)) + (1 : Int32)) < 0 ∨ cl64.slots.size ≤ ((((own_ea (own_ea (2 : Int32) (x0 - (0 : Int32))) (x1 - x0)) + (1 : Int32)) + (1 : Int32))).toNatClampNeg) := inb_of S64 (own_hin (own_s2 (own_up (own_eib (own_eib own_i2 (by decide)) (by decide)) (by decide))))
      obtain ⟨T65, h65, X65, e65, W65, st65⟩ := stS X60 hx hZ e60 Ar64 (j := (((own_ea (own_ea (2 : Int32) (x0 - (0 : Int32))) (x1 - x0)) + (1 : Int32)) + (1 : Int32))) hin64 (g := (mkF m 72 #[.val (.ref a), .val (.int (3 : Int32)), .val (.ref b), .val (.int ((((own_ea (own_ea (2 : Int32) (x0 - (0 : Int32))) (x1 - x0)) + (1 : Int32)) + (1 : Int32)) + (1 : Int32))), .val (.int x1), .val (.int (2 : Int32)), .val (.int (x2 - x1))] [(.int ((x2 - x1).toInt16.toInt32)), (.int (((own_ea (own_ea (2 : Int32) (x0 - (0 : Int32))) (x1 - x0)) + (1 : Int32)) + (1 : Int32))), (.ref b)])) rfl rfl (hb hby d2_72)
      have V65 : Arv Z h65 b kB .short (11 : Int32) ((((own_es (own_es vs (2 : Int32) (x0 - (0 : Int32))) (own_ea (2 : Int32) (x0 - (0 : Int32))) (x1 - x0)).set ((own_ea (own_ea (2 : Int32) (x0 - (0 : Int32))) (x1 - x0))).toNatClampNeg (.int (nar .short (-32768 : Int32)))).set (((own_ea (own_ea (2 : Int32) (x0 - (0 : Int32))) (x1 - x0)) + (1 : Int32))).toNatClampNeg (.int (nar .short ((((x2 - x1).toUInt32 >>> ((16 : Int32) &&& 31).toUInt32).toInt32).toInt16.toInt32)))).set ((((own_ea (own_ea (2 : Int32) (x0 - (0 : Int32))) (x1 - x0)) + (1 : Int32)) + (1 : Int32))).toNatClampNeg (.int (nar .short ((x2 - x1).toInt16.toInt32)))) (.int (0 : Int32)) := Arv.set Ar64 q64 S64 Nn64 H64 G64 (fits_nar_short _) W65 ((((own_ea (own_ea (2 : Int32) (x0 - (0 : Int32))) (x1 - x0)) + (1 : Int32)) + (1 : Int32))).toNatClampNeg rfl (by simp only [List.length_set, (own_elen (own_elen hl))]; exact own_nat (own_s2 (own_up (own_eib (own_eib own_i2 (by decide)) (by decide)) (by decide))))
      have f66 := f61.other W65 nab
      have z67 : n0 ≤ h65.size := Nat.le_trans z62 (Keep.of_wr W65).1
      have K68 : Keep h0 h65 [b] := K63.wr W65 (Or.inl (List.mem_of_getElem? (i := 0) rfl))
      have N65 := Fr.snoc X65 N60 gb
      refine Goes.on (B := T65.setTop (mkF m 73 #[.val (.ref a), .val (.int (3 : Int32)), .val (.ref b), .val (.int ((((own_ea (own_ea (2 : Int32) (x0 - (0 : Int32))) (x1 - x0)) + (1 : Int32)) + (1 : Int32)) + (1 : Int32))), .val (.int x1), .val (.int (2 : Int32)), .val (.int (x2 - x1))] [])) (fun t k => st65 t k) ?_
      have hj1 : (own_ea (own_ea (own_ea (2 : Int32) (x0 - (0 : Int32))) (x1 - x0)) (x2 - x1)) = ((((own_ea (own_ea (2 : Int32) (x0 - (0 : Int32))) (x1 - x0)) + (1 : Int32)) + (1 : Int32)) + (1 : Int32)) := by rw [own_ea, if_pos hc28_53]; try rfl
      have hj2 : (own_es (own_es (own_es vs (2 : Int32) (x0 - (0 : Int32))) (own_ea (2 : Int32) (x0 - (0 : Int32))) (x1 - x0)) (own_ea (own_ea (2 : Int32) (x0 - (0 : Int32))) (x1 - x0)) (x2 - x1)) = ((((own_es (own_es vs (2 : Int32) (x0 - (0 : Int32))) (own_ea (2 : Int32) (x0 - (0 : Int32))) (x1 - x0)).set ((own_ea (own_ea (2 : Int32) (x0 - (0 : Int32))) (x1 - x0))).toNatClampNeg (.int (nar .short (-32768 : Int32)))).set (((own_ea (own_ea (2 : Int32) (x0 - (0 : Int32))) (x1 - x0)) + (1 : Int32))).toNatClampNeg (.int (nar .short ((((x2 - x1).toUInt32 >>> ((16 : Int32) &&& 31).toUInt32).toInt32).toInt16.toInt32)))).set ((((own_ea (own_ea (2 : Int32) (x0 - (0 : Int32))) (x1 - x0)) + (1 : Int32)) + (1 : Int32))).toNatClampNeg (.int (nar .short ((x2 - x1).toInt16.toInt32)))) := by rw [own_es, if_pos hc28_53]; try rfl
      have JJ := J2 T65 ⟨_, _, X65, e65, N65, K68, f66, by rw [hj2]; exact V65⟩
      rw [hj1] at JJ; exact JJ
    · refine Goes.on (B := T52.setTop (mkF m 31 #[.val (.ref a), .val (.int (3 : Int32)), .val (.ref b), .val (.int (own_ea (own_ea (2 : Int32) (x0 - (0 : Int32))) (x1 - x0))), .val (.int x1), .val (.int (2 : Int32)), .val (.int (x2 - x1))] [])) (fun _ k => XS.ifNo X52.here hx rfl (hb hby d2_28) rfl ((if0 _ _).trans (feq hc28_53).1) k) ?_
      refine Goes.on (B := T52.setTop (mkF m 32 #[.val (.ref a), .val (.int (3 : Int32)), .val (.ref b), .val (.int (own_ea (own_ea (2 : Int32) (x0 - (0 : Int32))) (x1 - x0))), .val (.int x1), .val (.int (2 : Int32)), .val (.int (x2 - x1))] [(.ref b)])) (fun _ k => XS.aloadN X52.here hx rfl (hb hby d2_31) rfl rfl  k) ?_
      refine Goes.on (B := T52.setTop (mkF m 33 #[.val (.ref a), .val (.int (3 : Int32)), .val (.ref b), .val (.int (own_ea (own_ea (2 : Int32) (x0 - (0 : Int32))) (x1 - x0))), .val (.int x1), .val (.int (2 : Int32)), .val (.int (x2 - x1))] [(.int (own_ea (own_ea (2 : Int32) (x0 - (0 : Int32))) (x1 - x0))), (.ref b)])) (fun _ k => XS.iloadN X52.here hx rfl (hb hby d2_32) rfl  k) ?_
      refine Goes.on (B := T52.setTop (mkF m 36 #[.val (.ref a), .val (.int (3 : Int32)), .val (.ref b), .val (.int ((own_ea (own_ea (2 : Int32) (x0 - (0 : Int32))) (x1 - x0)) + (1 : Int32))), .val (.int x1), .val (.int (2 : Int32)), .val (.int (x2 - x1))] [(.int (own_ea (own_ea (2 : Int32) (x0 - (0 : Int32))) (x1 - x0))), (.ref b)])) (fun _ k => XS.iinc X52.here hx rfl (hb hby d2_33) rfl (l' := #[.val (.ref a), .val (.int (3 : Int32)), .val (.ref b), .val (.int ((own_ea (own_ea (2 : Int32) (x0 - (0 : Int32))) (x1 - x0)) + (1 : Int32))), .val (.int x1), .val (.int (2 : Int32)), .val (.int (x2 - x1))]) rfl k) ?_
      refine Goes.on (B := T52.setTop (mkF m 38 #[.val (.ref a), .val (.int (3 : Int32)), .val (.ref b), .val (.int ((own_ea (own_ea (2 : Int32) (x0 - (0 : Int32))) (x1 - x0)) + (1 : Int32))), .val (.int x1), .val (.int (2 : Int32)), .val (.int (x2 - x1))] [(.int (x2 - x1)), (.int (own_ea (own_ea (2 : Int32) (x0 - (0 : Int32))) (x1 - x0))), (.ref b)])) (fun _ k => XS.iload X52.here hx rfl (hb hby d2_36) rfl  k) ?_
      refine Goes.on (B := T52.setTop (mkF m 39 #[.val (.ref a), .val (.int (3 : Int32)), .val (.ref b), .val (.int ((own_ea (own_ea (2 : Int32) (x0 - (0 : Int32))) (x1 - x0)) + (1 : Int32))), .val (.int x1), .val (.int (2 : Int32)), .val (.int (x2 - x1))] [(.int ((x2 - x1).toInt16.toInt32)), (.int (own_ea (own_ea (2 : Int32) (x0 - (0 : Int32))) (x1 - x0))), (.ref b)])) (fun _ k => XS.i2s X52.here hx rfl (hb hby d2_38) rfl k) ?_
      obtain ⟨cl69, Ar69, q69, S69, Nn69, H69, G69⟩ := id VB49
      have hin69 : ¬ ((own_ea (own_ea (2 : Int32) (x0 - (0 : Int32))) (x1 - x0)) < 0 ∨ cl69.slots.size ≤ ((own_ea (own_ea (2 : Int32) (x0 - (0 : Int32))) (x1 - x0))).toNatClampNeg) := inb_of S69 (own_hin (own_up (own_eib (own_eib own_i2 (by decide)) (by decide)) (by decide)))
      obtain ⟨T70, h70, X70, e70, W70, st70⟩ := stS X52 hx hZ eh52 Ar69 (j := (own_ea (own_ea (2 : Int32) (x0 - (0 : Int32))) (x1 - x0))) hin69 (g := (mkF m 39 #[.val (.ref a), .val (.int (3 : Int32)), .val (.ref b), .val (.int ((own_ea (own_ea (2 : Int32) (x0 - (0 : Int32))) (x1 - x0)) + (1 : Int32))), .val (.int x1), .val (.int (2 : Int32)), .val (.int (x2 - x1))] [(.int ((x2 - x1).toInt16.toInt32)), (.int (own_ea (own_ea (2 : Int32) (x0 - (0 : Int32))) (x1 - x0))), (.ref b)])) rfl rfl (hb hby d2_39)
      have V70 : Arv Z h70 b kB .short (11 : Int32) ((own_es (own_es vs (2 : Int32) (x0 - (0 : Int32))) (own_ea (2 : Int32) (x0 - (0 : Int32))) (x1 - x0)).set ((own_ea (own_ea (2 : Int32) (x0 - (0 : Int32))) (x1 - x0))).toNatClampNeg (.int (nar .short ((x2 - x1).toInt16.toInt32)))) (.int (0 : Int32)) := Arv.set Ar69 q69 S69 Nn69 H69 G69 (fits_nar_short _) W70 ((own_ea (own_ea (2 : Int32) (x0 - (0 : Int32))) (x1 - x0))).toNatClampNeg rfl (by simp only [List.length_set, (own_elen (own_elen hl))]; exact own_nat (own_up (own_eib (own_eib own_i2 (by decide)) (by decide)) (by decide)))
      have f71 := VA49.other W70 nab
      have z72 : n0 ≤ h70.size := Nat.le_trans z49 (Keep.of_wr W70).1
      have K73 : Keep h0 h70 [b] := K49.wr W70 (Or.inl (List.mem_of_getElem? (i := 0) rfl))
      have N70 := Fr.snoc X70 N52 gb
      refine Goes.on (B := T70.setTop (mkF m 40 #[.val (.ref a), .val (.int (3 : Int32)), .val (.ref b), .val (.int ((own_ea (own_ea (2 : Int32) (x0 - (0 : Int32))) (x1 - x0)) + (1 : Int32))), .val (.int x1), .val (.int (2 : Int32)), .val (.int (x2 - x1))] [])) (fun t k => st70 t k) ?_
      refine Goes.on (B := T70.setTop (mkF m 73 #[.val (.ref a), .val (.int (3 : Int32)), .val (.ref b), .val (.int ((own_ea (own_ea (2 : Int32) (x0 - (0 : Int32))) (x1 - x0)) + (1 : Int32))), .val (.int x1), .val (.int (2 : Int32)), .val (.int (x2 - x1))] [])) (fun _ k => XS.goto X70.here hx rfl (pc0 := 40) (pc' := 73) rfl (hb hby d2_40) (by decide) (by decide) k) ?_
      have hj1 : (own_ea (own_ea (own_ea (2 : Int32) (x0 - (0 : Int32))) (x1 - x0)) (x2 - x1)) = ((own_ea (own_ea (2 : Int32) (x0 - (0 : Int32))) (x1 - x0)) + (1 : Int32)) := by rw [own_ea, if_neg hc28_53]; try rfl
      have hj2 : (own_es (own_es (own_es vs (2 : Int32) (x0 - (0 : Int32))) (own_ea (2 : Int32) (x0 - (0 : Int32))) (x1 - x0)) (own_ea (own_ea (2 : Int32) (x0 - (0 : Int32))) (x1 - x0)) (x2 - x1)) = ((own_es (own_es vs (2 : Int32) (x0 - (0 : Int32))) (own_ea (2 : Int32) (x0 - (0 : Int32))) (x1 - x0)).set ((own_ea (own_ea (2 : Int32) (x0 - (0 : Int32))) (x1 - x0))).toNatClampNeg (.int (nar .short ((x2 - x1).toInt16.toInt32)))) := by rw [own_es, if_neg hc28_53]; try rfl
      have JJ := J2 T70 ⟨_, _, X70, e70, N70, K73, f71, by rw [hj2]; exact V70⟩
      rw [hj1] at JJ; exact JJ
  intro T74 hT74
  obtain ⟨h74, ls74, X74, e74, N74, K74, VA74, VB74⟩ := hT74
  have z74 : n0 ≤ h74.size := Nat.le_trans Z0 K74.1
  refine Goes.on (B := T74.setTop (mkF m 74 #[.val (.ref a), .val (.int (3 : Int32)), .val (.ref b), .val (.int (own_ea (own_ea (own_ea (2 : Int32) (x0 - (0 : Int32))) (x1 - x0)) (x2 - x1))), .val (.int x1), .val (.int (2 : Int32)), .val (.int (x2 - x1))] [(.ref a)])) (fun _ k => XS.aloadN X74.here hx rfl (hb hby d2_73) rfl rfl  k) ?_
  refine Goes.on (B := T74.setTop (mkF m 76 #[.val (.ref a), .val (.int (3 : Int32)), .val (.ref b), .val (.int (own_ea (own_ea (own_ea (2 : Int32) (x0 - (0 : Int32))) (x1 - x0)) (x2 - x1))), .val (.int x1), .val (.int (2 : Int32)), .val (.int (x2 - x1))] [(.int (2 : Int32)), (.ref a)])) (fun _ k => XS.iload X74.here hx rfl (hb hby d2_74) rfl  k) ?_
  obtain ⟨cl75, Ar75, q75, S75, Nn75, H75, G75⟩ := id VA74
  have hin75 : ¬ ((2 : Int32) < 0 ∨ cl75.slots.size ≤ ((2 : Int32)).toNatClampNeg) := inb_of S75 ⟨by decide, by decide⟩
  refine Goes.on (B := T74.setTop (mkF m 77 #[.val (.ref a), .val (.int (3 : Int32)), .val (.ref b), .val (.int (own_ea (own_ea (own_ea (2 : Int32) (x0 - (0 : Int32))) (x1 - x0)) (x2 - x1))), .val (.int x1), .val (.int (2 : Int32)), .val (.int (x2 - x1))] [(.int x2)])) (fun _ k => X74.iaload hx (j := (2 : Int32)) (v := (.int x2)) (by rw [e74]; exact Ar75.1) (State.isArrayOf_alike hZ.alike Ar75.2.1) Ar75.2.2 hin75 (H75.at hin75 rfl) (g := (mkF m 76 #[.val (.ref a), .val (.int (3 : Int32)), .val (.ref b), .val (.int (own_ea (own_ea (own_ea (2 : Int32) (x0 - (0 : Int32))) (x1 - x0)) (x2 - x1))), .val (.int x1), .val (.int (2 : Int32)), .val (.int (x2 - x1))] [(.int (2 : Int32)), (.ref a)])) rfl rfl (hb hby d2_76) _ k) ?_
  refine Goes.on (B := T74.setTop (mkF m 79 #[.val (.ref a), .val (.int (3 : Int32)), .val (.ref b), .val (.int (own_ea (own_ea (own_ea (2 : Int32) (x0 - (0 : Int32))) (x1 - x0)) (x2 - x1))), .val (.int x2), .val (.int (2 : Int32)), .val (.int (x2 - x1))] [])) (fun _ k => XS.istore X74.here hx rfl (hb hby d2_77) rfl (l' := #[.val (.ref a), .val (.int (3 : Int32)), .val (.ref b), .val (.int (own_ea (own_ea (own_ea (2 : Int32) (x0 - (0 : Int32))) (x1 - x0)) (x2 - x1))), .val (.int x2), .val (.int (2 : Int32)), .val (.int (x2 - x1))]) rfl k) ?_
  refine Goes.on (B := T74.setTop (mkF m 82 #[.val (.ref a), .val (.int (3 : Int32)), .val (.ref b), .val (.int (own_ea (own_ea (own_ea (2 : Int32) (x0 - (0 : Int32))) (x1 - x0)) (x2 - x1))), .val (.int x2), .val (.int (3 : Int32)), .val (.int (x2 - x1))] [])) (fun _ k => XS.iinc X74.here hx rfl (hb hby d2_79) rfl (l' := #[.val (.ref a), .val (.int (3 : Int32)), .val (.ref b), .val (.int (own_ea (own_ea (own_ea (2 : Int32) (x0 - (0 : Int32))) (x1 - x0)) (x2 - x1))), .val (.int x2), .val (.int (3 : Int32)), .val (.int (x2 - x1))]) rfl k) ?_
  refine Goes.on (B := T74.setTop (mkF m 8 #[.val (.ref a), .val (.int (3 : Int32)), .val (.ref b), .val (.int (own_ea (own_ea (own_ea (2 : Int32) (x0 - (0 : Int32))) (x1 - x0)) (x2 - x1))), .val (.int x2), .val (.int (3 : Int32)), .val (.int (x2 - x1))] [])) (fun _ k => XS.goto X74.here hx rfl (pc0 := 82) (pc' := 8) rfl (hb hby d2_82) (by decide) (by decide) k) ?_
  refine Goes.on (B := T74.setTop (mkF m 10 #[.val (.ref a), .val (.int (3 : Int32)), .val (.ref b), .val (.int (own_ea (own_ea (own_ea (2 : Int32) (x0 - (0 : Int32))) (x1 - x0)) (x2 - x1))), .val (.int x2), .val (.int (3 : Int32)), .val (.int (x2 - x1))] [(.int (3 : Int32))])) (fun _ k => XS.iload X74.here hx rfl (hb hby d2_8) rfl  k) ?_
  refine Goes.on (B := T74.setTop (mkF m 11 #[.val (.ref a), .val (.int (3 : Int32)), .val (.ref b), .val (.int (own_ea (own_ea (own_ea (2 : Int32) (x0 - (0 : Int32))) (x1 - x0)) (x2 - x1))), .val (.int x2), .val (.int (3 : Int32)), .val (.int (x2 - x1))] [(.int (3 : Int32)), (.int (3 : Int32))])) (fun _ k => XS.iloadN X74.here hx rfl (hb hby d2_10) rfl  k) ?_
  refine Goes.on (B := T74.setTop (mkF m 85 #[.val (.ref a), .val (.int (3 : Int32)), .val (.ref b), .val (.int (own_ea (own_ea (own_ea (2 : Int32) (x0 - (0 : Int32))) (x1 - x0)) (x2 - x1))), .val (.int x2), .val (.int (3 : Int32)), .val (.int (x2 - x1))] [])) (fun _ k => XS.icmpYes X74.here hx rfl (pc0 := 11) (pc' := 85) rfl (hb hby d2_11) rfl (flt (by decide)).2.1 (by decide) (by decide) k) ?_
  refine Goes.on (B := T74.setTop (mkF m 86 #[.val (.ref a), .val (.int (3 : Int32)), .val (.ref b), .val (.int (own_ea (own_ea (own_ea (2 : Int32) (x0 - (0 : Int32))) (x1 - x0)) (x2 - x1))), .val (.int x2), .val (.int (3 : Int32)), .val (.int (x2 - x1))] [(.ref b)])) (fun _ k => XS.aloadN X74.here hx rfl (hb hby d2_85) rfl rfl  k) ?_
  refine Goes.on (B := T74.setTop (mkF m 87 #[.val (.ref a), .val (.int (3 : Int32)), .val (.ref b), .val (.int (own_ea (own_ea (own_ea (2 : Int32) (x0 - (0 : Int32))) (x1 - x0)) (x2 - x1))), .val (.int x2), .val (.int (3 : Int32)), .val (.int (x2 - x1))] [(.int (0 : Int32)), (.ref b)])) (fun _ k => XS.iconst X74.here hx rfl (hb hby d2_86) k) ?_
  refine Goes.on (B := T74.setTop (mkF m 88 #[.val (.ref a), .val (.int (3 : Int32)), .val (.ref b), .val (.int (own_ea (own_ea (own_ea (2 : Int32) (x0 - (0 : Int32))) (x1 - x0)) (x2 - x1))), .val (.int x2), .val (.int (3 : Int32)), .val (.int (x2 - x1))] [(.int (own_ea (own_ea (own_ea (2 : Int32) (x0 - (0 : Int32))) (x1 - x0)) (x2 - x1))), (.int (0 : Int32)), (.ref b)])) (fun _ k => XS.iloadN X74.here hx rfl (hb hby d2_87) rfl  k) ?_
  refine Goes.on (B := T74.setTop (mkF m 90 #[.val (.ref a), .val (.int (3 : Int32)), .val (.ref b), .val (.int (own_ea (own_ea (own_ea (2 : Int32) (x0 - (0 : Int32))) (x1 - x0)) (x2 - x1))), .val (.int x2), .val (.int (3 : Int32)), .val (.int (x2 - x1))] [(.int (16 : Int32)), (.int (own_ea (own_ea (own_ea (2 : Int32) (x0 - (0 : Int32))) (x1 - x0)) (x2 - x1))), (.int (0 : Int32)), (.ref b)])) (fun _ k => XS.bipush X74.here hx rfl (hb hby d2_88) k) ?_
  refine Goes.on (B := T74.setTop (mkF m 91 #[.val (.ref a), .val (.int (3 : Int32)), .val (.ref b), .val (.int (own_ea (own_ea (own_ea (2 : Int32) (x0 - (0 : Int32))) (x1 - x0)) (x2 - x1))), .val (.int x2), .val (.int (3 : Int32)), .val (.int (x2 - x1))] [(.int (((own_ea (own_ea (own_ea (2 : Int32) (x0 - (0 : Int32))) (x1 - x0)) (x2 - x1)).toUInt32 >>> ((16 : Int32) &&& 31).toUInt32).toInt32)), (.int (0 : Int32)), (.ref b)])) (fun _ k => XS.iushr X74.here hx rfl (hb hby d2_90) rfl k) ?_
  refine Goes.on (B := T74.setTop (mkF m 92 #[.val (.ref a), .val (.int (3 : Int32)), .val (.ref b), .val (.int (own_ea (own_ea (own_ea (2 : Int32) (x0 - (0 : Int32))) (x1 - x0)) (x2 - x1))), .val (.int x2), .val (.int (3 : Int32)), .val (.int (x2 - x1))] [(.int ((((own_ea (own_ea (own_ea (2 : Int32) (x0 - (0 : Int32))) (x1 - x0)) (x2 - x1)).toUInt32 >>> ((16 : Int32) &&& 31).toUInt32).toInt32).toInt16.toInt32)), (.int (0 : Int32)), (.ref b)])) (fun _ k => XS.i2s X74.here hx rfl (hb hby d2_91) rfl k) ?_
  obtain ⟨cl76, Ar76, q76, S76, Nn76, H76, G76⟩ := id VB74
  have hin76 : ¬ ((0 : Int32) < 0 ∨ cl76.slots.size ≤ ((0 : Int32)).toNatClampNeg) := inb_of S76 (own_hin (⟨by decide, by decide⟩ : own_in (0 : Int32) 10))
  obtain ⟨T77, h77, X77, e77, W77, st77⟩ := stS X74 hx hZ e74 Ar76 (j := (0 : Int32)) hin76 (g := (mkF m 92 #[.val (.ref a), .val (.int (3 : Int32)), .val (.ref b), .val (.int (own_ea (own_ea (own_ea (2 : Int32) (x0 - (0 : Int32))) (x1 - x0)) (x2 - x1))), .val (.int x2), .val (.int (3 : Int32)), .val (.int (x2 - x1))] [(.int ((((own_ea (own_ea (own_ea (2 : Int32) (x0 - (0 : Int32))) (x1 - x0)) (x2 - x1)).toUInt32 >>> ((16 : Int32) &&& 31).toUInt32).toInt32).toInt16.toInt32)), (.int (0 : Int32)), (.ref b)])) rfl rfl (hb hby d2_92)
  have V77 : Arv Z h77 b kB .short (11 : Int32) ((own_es (own_es (own_es vs (2 : Int32) (x0 - (0 : Int32))) (own_ea (2 : Int32) (x0 - (0 : Int32))) (x1 - x0)) (own_ea (own_ea (2 : Int32) (x0 - (0 : Int32))) (x1 - x0)) (x2 - x1)).set 0 (.int (nar .short ((((own_ea (own_ea (own_ea (2 : Int32) (x0 - (0 : Int32))) (x1 - x0)) (x2 - x1)).toUInt32 >>> ((16 : Int32) &&& 31).toUInt32).toInt32).toInt16.toInt32)))) (.int (0 : Int32)) := Arv.set Ar76 q76 S76 Nn76 H76 G76 (fits_nar_short _) W77 0 rfl (by simp only [List.length_set, (own_elen (own_elen (own_elen hl)))]; decide)
  have f78 := VA74.other W77 nab
  have z79 : n0 ≤ h77.size := Nat.le_trans z74 (Keep.of_wr W77).1
  have K80 : Keep h0 h77 [b] := K74.wr W77 (Or.inl (List.mem_of_getElem? (i := 0) rfl))
  have N77 := Fr.snoc X77 N74 gb
  refine Goes.on (B := T77.setTop (mkF m 93 #[.val (.ref a), .val (.int (3 : Int32)), .val (.ref b), .val (.int (own_ea (own_ea (own_ea (2 : Int32) (x0 - (0 : Int32))) (x1 - x0)) (x2 - x1))), .val (.int x2), .val (.int (3 : Int32)), .val (.int (x2 - x1))] [])) (fun t k => st77 t k) ?_
  refine Goes.on (B := T77.setTop (mkF m 94 #[.val (.ref a), .val (.int (3 : Int32)), .val (.ref b), .val (.int (own_ea (own_ea (own_ea (2 : Int32) (x0 - (0 : Int32))) (x1 - x0)) (x2 - x1))), .val (.int x2), .val (.int (3 : Int32)), .val (.int (x2 - x1))] [(.ref b)])) (fun _ k => XS.aloadN X77.here hx rfl (hb hby d2_93) rfl rfl  k) ?_
  refine Goes.on (B := T77.setTop (mkF m 95 #[.val (.ref a), .val (.int (3 : Int32)), .val (.ref b), .val (.int (own_ea (own_ea (own_ea (2 : Int32) (x0 - (0 : Int32))) (x1 - x0)) (x2 - x1))), .val (.int x2), .val (.int (3 : Int32)), .val (.int (x2 - x1))] [(.int (1 : Int32)), (.ref b)])) (fun _ k => XS.iconst X77.here hx rfl (hb hby d2_94) k) ?_
  refine Goes.on (B := T77.setTop (mkF m 96 #[.val (.ref a), .val (.int (3 : Int32)), .val (.ref b), .val (.int (own_ea (own_ea (own_ea (2 : Int32) (x0 - (0 : Int32))) (x1 - x0)) (x2 - x1))), .val (.int x2), .val (.int (3 : Int32)), .val (.int (x2 - x1))] [(.int (own_ea (own_ea (own_ea (2 : Int32) (x0 - (0 : Int32))) (x1 - x0)) (x2 - x1))), (.int (1 : Int32)), (.ref b)])) (fun _ k => XS.iloadN X77.here hx rfl (hb hby d2_95) rfl  k) ?_
  refine Goes.on (B := T77.setTop (mkF m 97 #[.val (.ref a), .val (.int (3 : Int32)), .val (.ref b), .val (.int (own_ea (own_ea (own_ea (2 : Int32) (x0 - (0 : Int32))) (x1 - x0)) (x2 - x1))), .val (.int x2), .val (.int (3 : Int32)), .val (.int (x2 - x1))] [(.int ((own_ea (own_ea (own_ea (2 : Int32) (x0 - (0 : Int32))) (x1 - x0)) (x2 - x1)).toInt16.toInt32)), (.int (1 : Int32)), (.ref b)])) (fun _ k => XS.i2s X77.here hx rfl (hb hby d2_96) rfl k) ?_
  obtain ⟨cl81, Ar81, q81, S81, Nn81, H81, G81⟩ := id V77
  have hin81 : ¬ ((1 : Int32) < 0 ∨ cl81.slots.size ≤ ((1 : Int32)).toNatClampNeg) := inb_of S81 (own_hin (⟨by decide, by decide⟩ : own_in (1 : Int32) 10))
  obtain ⟨T82, h82, X82, e82, W82, st82⟩ := stS X77 hx hZ e77 Ar81 (j := (1 : Int32)) hin81 (g := (mkF m 97 #[.val (.ref a), .val (.int (3 : Int32)), .val (.ref b), .val (.int (own_ea (own_ea (own_ea (2 : Int32) (x0 - (0 : Int32))) (x1 - x0)) (x2 - x1))), .val (.int x2), .val (.int (3 : Int32)), .val (.int (x2 - x1))] [(.int ((own_ea (own_ea (own_ea (2 : Int32) (x0 - (0 : Int32))) (x1 - x0)) (x2 - x1)).toInt16.toInt32)), (.int (1 : Int32)), (.ref b)])) rfl rfl (hb hby d2_97)
  have V82 : Arv Z h82 b kB .short (11 : Int32) (((own_es (own_es (own_es vs (2 : Int32) (x0 - (0 : Int32))) (own_ea (2 : Int32) (x0 - (0 : Int32))) (x1 - x0)) (own_ea (own_ea (2 : Int32) (x0 - (0 : Int32))) (x1 - x0)) (x2 - x1)).set 0 (.int (nar .short ((((own_ea (own_ea (own_ea (2 : Int32) (x0 - (0 : Int32))) (x1 - x0)) (x2 - x1)).toUInt32 >>> ((16 : Int32) &&& 31).toUInt32).toInt32).toInt16.toInt32)))).set 1 (.int (nar .short ((own_ea (own_ea (own_ea (2 : Int32) (x0 - (0 : Int32))) (x1 - x0)) (x2 - x1)).toInt16.toInt32)))) (.int (0 : Int32)) := Arv.set Ar81 q81 S81 Nn81 H81 G81 (fits_nar_short _) W82 1 rfl (by simp only [List.length_set, (own_elen (own_elen (own_elen hl)))]; decide)
  have f83 := f78.other W82 nab
  have z84 : n0 ≤ h82.size := Nat.le_trans z79 (Keep.of_wr W82).1
  have K85 : Keep h0 h82 [b] := K80.wr W82 (Or.inl (List.mem_of_getElem? (i := 0) rfl))
  have N82 := Fr.snoc X82 N77 gb
  refine Goes.on (B := T82.setTop (mkF m 98 #[.val (.ref a), .val (.int (3 : Int32)), .val (.ref b), .val (.int (own_ea (own_ea (own_ea (2 : Int32) (x0 - (0 : Int32))) (x1 - x0)) (x2 - x1))), .val (.int x2), .val (.int (3 : Int32)), .val (.int (x2 - x1))] [])) (fun t k => st82 t k) ?_
  obtain ⟨fs, hr, hrun, hended, hW, hsame⟩ := X82.leave (v := none) (fun _ => rfl)
  exact Goes.leaf (X82.returnOut hx Bd.returns (hb hby d2_98) hr) hrun hended ⟨_, _, rfl, by show Qen3 Z a b kA kB x0 x1 x2 vs h0 n0 _ T82.heap _; rw [e82]; exact ⟨rfl, N82, K85, V82⟩, ⟨_, rfl⟩, hW, hsame.mono (by decide) (by decide)⟩
theorem own_lists3 (vs : List Value) (x0 x1 x2 : Int32) : (((own_es (own_es (own_es vs (2 : Int32) (x0 - (0 : Int32))) (own_ea (2 : Int32) (x0 - (0 : Int32))) (x1 - x0)) (own_ea (own_ea (2 : Int32) (x0 - (0 : Int32))) (x1 - x0)) (x2 - x1)).set 0 (.int (nar .short ((((own_ea (own_ea (own_ea (2 : Int32) (x0 - (0 : Int32))) (x1 - x0)) (x2 - x1)).toUInt32 >>> ((16 : Int32) &&& 31).toUInt32).toInt32).toInt16.toInt32)))).set 1 (.int (nar .short ((own_ea (own_ea (own_ea (2 : Int32) (x0 - (0 : Int32))) (x1 - x0)) (x2 - x1)).toInt16.toInt32)))) = (((own_put (own_put (own_put vs (2 : Int32) x0) (own_at (2 : Int32) x0) (x1 - x0)) (own_at (own_at (2 : Int32) x0) (x1 - x0)) (x2 - x1)).set 0 (.int (nar .short (0 : Int32)))).set 1 (.int (nar .short ((own_at (own_at (own_at (2 : Int32) x0) (x1 - x0)) (x2 - x1)).toInt16.toInt32)))) := by
  simp only [own_es_put, own_ea_at, Int32.sub_zero]
  rw [own_hz (own_up (b := 11) (own_ib (own_ib (own_ib own_i2 (by decide)) (by decide)) (by decide)) (by decide))]
theorem d4_0 : decode method_4_code 0 = .ok (.aload_n 0, 1) := by decide +kernel
theorem d4_1 : decode method_4_code 1 = .ok (.iconst 0, 1) := by decide +kernel
theorem d4_2 : decode method_4_code 2 = .ok (.saload, 1) := by decide +kernel
theorem d4_3 : decode method_4_code 3 = .ok (.aload_n 1, 1) := by decide +kernel
theorem d4_4 : decode method_4_code 4 = .ok (.iconst 0, 1) := by decide +kernel
theorem d4_5 : decode method_4_code 5 = .ok (.saload, 1) := by decide +kernel
theorem d4_6 : decode method_4_code 6 = .ok (.if_icmp .ne 107, 3) := by decide +kernel
theorem d4_9 : decode method_4_code 9 = .ok (.aload_n 0, 1) := by decide +kernel
theorem d4_10 : decode method_4_code 10 = .ok (.iconst 1, 1) := by decide +kernel
theorem d4_11 : decode method_4_code 11 = .ok (.saload, 1) := by decide +kernel
theorem d4_12 : decode method_4_code 12 = .ok (.aload_n 1, 1) := by decide +kernel
theorem d4_13 : decode method_4_code 13 = .ok (.iconst 1, 1) := by decide +kernel
theorem d4_14 : decode method_4_code 14 = .ok (.saload, 1) := by decide +kernel
theorem d4_15 : decode method_4_code 15 = .ok (.if_icmp .ne 98, 3) := by decide +kernel
theorem d4_18 : decode method_4_code 18 = .ok (.aload_n 0, 1) := by decide +kernel
theorem d4_19 : decode method_4_code 19 = .ok (.iconst 2, 1) := by decide +kernel
theorem d4_20 : decode method_4_code 20 = .ok (.saload, 1) := by decide +kernel
theorem d4_21 : decode method_4_code 21 = .ok (.aload_n 1, 1) := by decide +kernel
theorem d4_22 : decode method_4_code 22 = .ok (.iconst 2, 1) := by decide +kernel
theorem d4_23 : decode method_4_code 23 = .ok (.saload, 1) := by decide +kernel
theorem d4_24 : decode method_4_code 24 = .ok (.if_icmp .ne 89, 3) := by decide +kernel
theorem d4_27 : decode method_4_code 27 = .ok (.aload_n 0, 1) := by decide +kernel
theorem d4_28 : decode method_4_code 28 = .ok (.iconst 3, 1) := by decide +kernel
theorem d4_29 : decode method_4_code 29 = .ok (.saload, 1) := by decide +kernel
theorem d4_30 : decode method_4_code 30 = .ok (.aload_n 1, 1) := by decide +kernel
theorem d4_31 : decode method_4_code 31 = .ok (.iconst 3, 1) := by decide +kernel
theorem d4_32 : decode method_4_code 32 = .ok (.saload, 1) := by decide +kernel
theorem d4_33 : decode method_4_code 33 = .ok (.if_icmp .ne 80, 3) := by decide +kernel
theorem d4_36 : decode method_4_code 36 = .ok (.aload_n 0, 1) := by decide +kernel
theorem d4_37 : decode method_4_code 37 = .ok (.iconst 4, 1) := by decide +kernel
theorem d4_38 : decode method_4_code 38 = .ok (.saload, 1) := by decide +kernel
theorem d4_39 : decode method_4_code 39 = .ok (.aload_n 1, 1) := by decide +kernel
theorem d4_40 : decode method_4_code 40 = .ok (.iconst 4, 1) := by decide +kernel
theorem d4_41 : decode method_4_code 41 = .ok (.saload, 1) := by decide +kernel
theorem d4_42 : decode method_4_code 42 = .ok (.if_icmp .ne 71, 3) := by decide +kernel
theorem d4_45 : decode method_4_code 45 = .ok (.aload_n 0, 1) := by decide +kernel
theorem d4_46 : decode method_4_code 46 = .ok (.iconst 5, 1) := by decide +kernel
theorem d4_47 : decode method_4_code 47 = .ok (.saload, 1) := by decide +kernel
theorem d4_48 : decode method_4_code 48 = .ok (.aload_n 1, 1) := by decide +kernel
theorem d4_49 : decode method_4_code 49 = .ok (.iconst 5, 1) := by decide +kernel
theorem d4_50 : decode method_4_code 50 = .ok (.saload, 1) := by decide +kernel
theorem d4_51 : decode method_4_code 51 = .ok (.if_icmp .ne 62, 3) := by decide +kernel
theorem d4_54 : decode method_4_code 54 = .ok (.aload_n 0, 1) := by decide +kernel
theorem d4_55 : decode method_4_code 55 = .ok (.bipush 6, 2) := by decide +kernel
theorem d4_57 : decode method_4_code 57 = .ok (.saload, 1) := by decide +kernel
theorem d4_58 : decode method_4_code 58 = .ok (.aload_n 1, 1) := by decide +kernel
theorem d4_59 : decode method_4_code 59 = .ok (.bipush 6, 2) := by decide +kernel
theorem d4_61 : decode method_4_code 61 = .ok (.saload, 1) := by decide +kernel
theorem d4_62 : decode method_4_code 62 = .ok (.if_icmp .ne 51, 3) := by decide +kernel
theorem d4_65 : decode method_4_code 65 = .ok (.aload_n 0, 1) := by decide +kernel
theorem d4_66 : decode method_4_code 66 = .ok (.bipush 7, 2) := by decide +kernel
theorem d4_68 : decode method_4_code 68 = .ok (.saload, 1) := by decide +kernel
theorem d4_69 : decode method_4_code 69 = .ok (.aload_n 1, 1) := by decide +kernel
theorem d4_70 : decode method_4_code 70 = .ok (.bipush 7, 2) := by decide +kernel
theorem d4_72 : decode method_4_code 72 = .ok (.saload, 1) := by decide +kernel
theorem d4_73 : decode method_4_code 73 = .ok (.if_icmp .ne 40, 3) := by decide +kernel
theorem d4_76 : decode method_4_code 76 = .ok (.aload_n 0, 1) := by decide +kernel
theorem d4_77 : decode method_4_code 77 = .ok (.bipush 8, 2) := by decide +kernel
theorem d4_79 : decode method_4_code 79 = .ok (.saload, 1) := by decide +kernel
theorem d4_80 : decode method_4_code 80 = .ok (.aload_n 1, 1) := by decide +kernel
theorem d4_81 : decode method_4_code 81 = .ok (.bipush 8, 2) := by decide +kernel
theorem d4_83 : decode method_4_code 83 = .ok (.saload, 1) := by decide +kernel
theorem d4_84 : decode method_4_code 84 = .ok (.if_icmp .ne 29, 3) := by decide +kernel
theorem d4_87 : decode method_4_code 87 = .ok (.aload_n 0, 1) := by decide +kernel
theorem d4_88 : decode method_4_code 88 = .ok (.bipush 9, 2) := by decide +kernel
theorem d4_90 : decode method_4_code 90 = .ok (.saload, 1) := by decide +kernel
theorem d4_91 : decode method_4_code 91 = .ok (.aload_n 1, 1) := by decide +kernel
theorem d4_92 : decode method_4_code 92 = .ok (.bipush 9, 2) := by decide +kernel
theorem d4_94 : decode method_4_code 94 = .ok (.saload, 1) := by decide +kernel
theorem d4_95 : decode method_4_code 95 = .ok (.if_icmp .ne 18, 3) := by decide +kernel
theorem d4_98 : decode method_4_code 98 = .ok (.aload_n 0, 1) := by decide +kernel
theorem d4_99 : decode method_4_code 99 = .ok (.bipush 10, 2) := by decide +kernel
theorem d4_101 : decode method_4_code 101 = .ok (.saload, 1) := by decide +kernel
theorem d4_102 : decode method_4_code 102 = .ok (.aload_n 1, 1) := by decide +kernel
theorem d4_103 : decode method_4_code 103 = .ok (.bipush 10, 2) := by decide +kernel
theorem d4_105 : decode method_4_code 105 = .ok (.saload, 1) := by decide +kernel
theorem d4_106 : decode method_4_code 106 = .ok (.if_icmp .ne 7, 3) := by decide +kernel
theorem d4_109 : decode method_4_code 109 = .ok (.iconst 1, 1) := by decide +kernel
theorem d4_110 : decode method_4_code 110 = .ok (.goto 4, 3) := by decide +kernel
theorem d4_114 : decode method_4_code 114 = .ok (.ireturn, 1) := by decide +kernel
theorem pn_4 : plainName "com/example/roadeq/roadeq/assign/LinkCodeEncodePinLaw" = true := by first | (simp [plainName, overriddenIn]; done) | decide +kernel
theorem ef_sm (m : MethodId) (x0 : Addr) (x1 : Addr) : entryFrame m #[(.ref x0), (.ref x1)] 2 = mkF m 0 #[.val (.ref x0), .val (.ref x1)] [] := by first | (simp [entryFrame, mkF, argsToLocals, Value.category]; done) | rfl
def Qsm (Z : State) (a : Addr) (b : Addr) (kA kB : ClassId) (vs : List Value) (h0 : Heap) (n0 : Nat) (v : Option Value) (h : Heap) (L : List Loc) : Prop := v = some (.int 1) ∧ Fr n0 L ∧ h = h0
set_option maxRecDepth 65536 in
set_option maxHeartbeats 40000000 in
theorem rmsm (l : Launch) (Z : State) (a0 : Array Value) (hw : ∀ d ∈ tables_1, d.before a0 Z = true) (ws : List Jvm.Cond) (a : Addr) (b : Addr) (kA kB : ClassId) (vs : List Value) (h0 : Heap) (n0 : Nat) (Z0 : n0 ≤ h0.size) (VA : Arv Z h0 a kA .short (11 : Int32) vs (.int (0 : Int32))) (VB : Arv Z h0 b kB .short (11 : Int32) vs (.int (0 : Int32))) :
    MetFree l (⟨"com/example/roadeq/roadeq/assign/LinkCodeEncodePinLaw", "same", "([S[S)Z"⟩ : MethodName) (head1 (Jvm.Cond.code (⟨"com/example/roadeq/roadeq/assign/LinkCodeEncodePinLaw", "same", "([S[S)Z"⟩ : MethodName) method_4_code 2 (some .boolean) :: ws) ({ frames := 0, cells := 0, slots := 0, locals := 0 } : Room)) (fun aa U => aa = #[(.ref a), (.ref b)] ∧ Z.Warmed39 U.vm ∧ U.heap = h0) (fun _ _ _ _ _ => True) (fun _ U oo U' => ∃ vv LL, oo = .returned vv ∧ Qsm Z a b kA kB vs h0 n0 vv U'.heap LL ∧ FrameEnd U oo U' LL ({ frames := 0, cells := 0, slots := 0, locals := 0 } : Room).cells ({ frames := 0, cells := 0, slots := 0, locals := 0 } : Room).slots) := by
  refine MetFree.of_bodySF (plainFor_of_name pn_4) hisR ?_
  intro p e s m args below meth c s₁ Bd hml0 hP hK
  obtain ⟨rfl, hZ, hh⟩ := hP
  have hx := Bd.exec
  have hby := Bd.bytes
  have hml : c.maxLocals = 2 := hml0
  have hown : s.vm.findClass "com/example/roadeq/roadeq/assign/LinkCodeEncodePinLaw" = some m.cls := findClass_of_methodNamed Bd.named
  have hnm := (name_of_methodNamed Bd.named Bd.method).1
  have X0 : Stand p l e ({ frames := 0, cells := 0, slots := 0, locals := 0 } : Room) s m #[(.ref a), (.ref b)] below meth c s₁ [] 0 0 := Stand.of_body Bd
  have e0 : s₁.heap = h0 := by rw [← hh, Bd.state]; rfl
  have N0 := Fr.nil n0
  show Goes p e below _ (s₁.setTop (entryFrame m #[(.ref a), (.ref b)] 2))
  refine Goes.on (B := s₁.setTop (mkF m 0 #[.val (.ref a), .val (.ref b)] [])) (fun t k => castTop (ef_sm m a b) k) ?_
  obtain ⟨clx, Arx, qx, Sx, Nnx, Hx, Gx⟩ := id VA
  obtain ⟨w0, hw0⟩ := own_fi (Gx 0 (by rw [Sx]; decide))
  obtain ⟨w1, hw1⟩ := own_fi (Gx 1 (by rw [Sx]; decide))
  obtain ⟨w2, hw2⟩ := own_fi (Gx 2 (by rw [Sx]; decide))
  obtain ⟨w3, hw3⟩ := own_fi (Gx 3 (by rw [Sx]; decide))
  obtain ⟨w4, hw4⟩ := own_fi (Gx 4 (by rw [Sx]; decide))
  obtain ⟨w5, hw5⟩ := own_fi (Gx 5 (by rw [Sx]; decide))
  obtain ⟨w6, hw6⟩ := own_fi (Gx 6 (by rw [Sx]; decide))
  obtain ⟨w7, hw7⟩ := own_fi (Gx 7 (by rw [Sx]; decide))
  obtain ⟨w8, hw8⟩ := own_fi (Gx 8 (by rw [Sx]; decide))
  obtain ⟨w9, hw9⟩ := own_fi (Gx 9 (by rw [Sx]; decide))
  obtain ⟨w10, hw10⟩ := own_fi (Gx 10 (by rw [Sx]; decide))
  refine Goes.on (B := s₁.setTop (mkF m 1 #[.val (.ref a), .val (.ref b)] [(.ref a)])) (fun _ k => XS.aloadN X0.here hx rfl (hb hby d4_0) rfl rfl  k) ?_
  refine Goes.on (B := s₁.setTop (mkF m 2 #[.val (.ref a), .val (.ref b)] [(.int (0 : Int32)), (.ref a)])) (fun _ k => XS.iconst X0.here hx rfl (hb hby d4_1) k) ?_
  obtain ⟨cl1, Ar1, q1, S1, Nn1, H1, G1⟩ := id VA
  have hin1 : ¬ ((0 : Int32) < 0 ∨ cl1.slots.size ≤ ((0 : Int32)).toNatClampNeg) := inb_of S1 ⟨by decide, by decide⟩
  refine Goes.on (B := s₁.setTop (mkF m 3 #[.val (.ref a), .val (.ref b)] [(.int w0)])) (fun _ k => X0.saload hx (j := (0 : Int32)) (v := (.int w0)) (by rw [e0]; exact Ar1.1) (State.isArrayOf_alike hZ.alike Ar1.2.1) Ar1.2.2 hin1 (H1.at hin1 hw0) (g := (mkF m 2 #[.val (.ref a), .val (.ref b)] [(.int (0 : Int32)), (.ref a)])) rfl rfl (hb hby d4_2) _ k) ?_
  refine Goes.on (B := s₁.setTop (mkF m 4 #[.val (.ref a), .val (.ref b)] [(.ref b), (.int w0)])) (fun _ k => XS.aloadN X0.here hx rfl (hb hby d4_3) rfl rfl  k) ?_
  refine Goes.on (B := s₁.setTop (mkF m 5 #[.val (.ref a), .val (.ref b)] [(.int (0 : Int32)), (.ref b), (.int w0)])) (fun _ k => XS.iconst X0.here hx rfl (hb hby d4_4) k) ?_
  obtain ⟨cl2, Ar2, q2, S2, Nn2, H2, G2⟩ := id VB
  have hin2 : ¬ ((0 : Int32) < 0 ∨ cl2.slots.size ≤ ((0 : Int32)).toNatClampNeg) := inb_of S2 ⟨by decide, by decide⟩
  refine Goes.on (B := s₁.setTop (mkF m 6 #[.val (.ref a), .val (.ref b)] [(.int w0), (.int w0)])) (fun _ k => X0.saload hx (j := (0 : Int32)) (v := (.int w0)) (by rw [e0]; exact Ar2.1) (State.isArrayOf_alike hZ.alike Ar2.2.1) Ar2.2.2 hin2 (H2.at hin2 hw0) (g := (mkF m 5 #[.val (.ref a), .val (.ref b)] [(.int (0 : Int32)), (.ref b), (.int w0)])) rfl rfl (hb hby d4_5) _ k) ?_
  refine Goes.on (B := s₁.setTop (mkF m 9 #[.val (.ref a), .val (.ref b)] [])) (fun _ k => XS.icmpNo X0.here hx rfl (hb hby d4_6) rfl (teq (rfl : w0 = w0)).2 k) ?_
  refine Goes.on (B := s₁.setTop (mkF m 10 #[.val (.ref a), .val (.ref b)] [(.ref a)])) (fun _ k => XS.aloadN X0.here hx rfl (hb hby d4_9) rfl rfl  k) ?_
  refine Goes.on (B := s₁.setTop (mkF m 11 #[.val (.ref a), .val (.ref b)] [(.int (1 : Int32)), (.ref a)])) (fun _ k => XS.iconst X0.here hx rfl (hb hby d4_10) k) ?_
  obtain ⟨cl3, Ar3, q3, S3, Nn3, H3, G3⟩ := id VA
  have hin3 : ¬ ((1 : Int32) < 0 ∨ cl3.slots.size ≤ ((1 : Int32)).toNatClampNeg) := inb_of S3 ⟨by decide, by decide⟩
  refine Goes.on (B := s₁.setTop (mkF m 12 #[.val (.ref a), .val (.ref b)] [(.int w1)])) (fun _ k => X0.saload hx (j := (1 : Int32)) (v := (.int w1)) (by rw [e0]; exact Ar3.1) (State.isArrayOf_alike hZ.alike Ar3.2.1) Ar3.2.2 hin3 (H3.at hin3 hw1) (g := (mkF m 11 #[.val (.ref a), .val (.ref b)] [(.int (1 : Int32)), (.ref a)])) rfl rfl (hb hby d4_11) _ k) ?_
  refine Goes.on (B := s₁.setTop (mkF m 13 #[.val (.ref a), .val (.ref b)] [(.ref b), (.int w1)])) (fun _ k => XS.aloadN X0.here hx rfl (hb hby d4_12) rfl rfl  k) ?_
  refine Goes.on (B := s₁.setTop (mkF m 14 #[.val (.ref a), .val (.ref b)] [(.int (1 : Int32)), (.ref b), (.int w1)])) (fun _ k => XS.iconst X0.here hx rfl (hb hby d4_13) k) ?_
  obtain ⟨cl4, Ar4, q4, S4, Nn4, H4, G4⟩ := id VB
  have hin4 : ¬ ((1 : Int32) < 0 ∨ cl4.slots.size ≤ ((1 : Int32)).toNatClampNeg) := inb_of S4 ⟨by decide, by decide⟩
  refine Goes.on (B := s₁.setTop (mkF m 15 #[.val (.ref a), .val (.ref b)] [(.int w1), (.int w1)])) (fun _ k => X0.saload hx (j := (1 : Int32)) (v := (.int w1)) (by rw [e0]; exact Ar4.1) (State.isArrayOf_alike hZ.alike Ar4.2.1) Ar4.2.2 hin4 (H4.at hin4 hw1) (g := (mkF m 14 #[.val (.ref a), .val (.ref b)] [(.int (1 : Int32)), (.ref b), (.int w1)])) rfl rfl (hb hby d4_14) _ k) ?_
  refine Goes.on (B := s₁.setTop (mkF m 18 #[.val (.ref a), .val (.ref b)] [])) (fun _ k => XS.icmpNo X0.here hx rfl (hb hby d4_15) rfl (teq (rfl : w1 = w1)).2 k) ?_
  refine Goes.on (B := s₁.setTop (mkF m 19 #[.val (.ref a), .val (.ref b)] [(.ref a)])) (fun _ k => XS.aloadN X0.here hx rfl (hb hby d4_18) rfl rfl  k) ?_
  refine Goes.on (B := s₁.setTop (mkF m 20 #[.val (.ref a), .val (.ref b)] [(.int (2 : Int32)), (.ref a)])) (fun _ k => XS.iconst X0.here hx rfl (hb hby d4_19) k) ?_
  obtain ⟨cl5, Ar5, q5, S5, Nn5, H5, G5⟩ := id VA
  have hin5 : ¬ ((2 : Int32) < 0 ∨ cl5.slots.size ≤ ((2 : Int32)).toNatClampNeg) := inb_of S5 ⟨by decide, by decide⟩
  refine Goes.on (B := s₁.setTop (mkF m 21 #[.val (.ref a), .val (.ref b)] [(.int w2)])) (fun _ k => X0.saload hx (j := (2 : Int32)) (v := (.int w2)) (by rw [e0]; exact Ar5.1) (State.isArrayOf_alike hZ.alike Ar5.2.1) Ar5.2.2 hin5 (H5.at hin5 hw2) (g := (mkF m 20 #[.val (.ref a), .val (.ref b)] [(.int (2 : Int32)), (.ref a)])) rfl rfl (hb hby d4_20) _ k) ?_
  refine Goes.on (B := s₁.setTop (mkF m 22 #[.val (.ref a), .val (.ref b)] [(.ref b), (.int w2)])) (fun _ k => XS.aloadN X0.here hx rfl (hb hby d4_21) rfl rfl  k) ?_
  refine Goes.on (B := s₁.setTop (mkF m 23 #[.val (.ref a), .val (.ref b)] [(.int (2 : Int32)), (.ref b), (.int w2)])) (fun _ k => XS.iconst X0.here hx rfl (hb hby d4_22) k) ?_
  obtain ⟨cl6, Ar6, q6, S6, Nn6, H6, G6⟩ := id VB
  have hin6 : ¬ ((2 : Int32) < 0 ∨ cl6.slots.size ≤ ((2 : Int32)).toNatClampNeg) := inb_of S6 ⟨by decide, by decide⟩
  refine Goes.on (B := s₁.setTop (mkF m 24 #[.val (.ref a), .val (.ref b)] [(.int w2), (.int w2)])) (fun _ k => X0.saload hx (j := (2 : Int32)) (v := (.int w2)) (by rw [e0]; exact Ar6.1) (State.isArrayOf_alike hZ.alike Ar6.2.1) Ar6.2.2 hin6 (H6.at hin6 hw2) (g := (mkF m 23 #[.val (.ref a), .val (.ref b)] [(.int (2 : Int32)), (.ref b), (.int w2)])) rfl rfl (hb hby d4_23) _ k) ?_
  refine Goes.on (B := s₁.setTop (mkF m 27 #[.val (.ref a), .val (.ref b)] [])) (fun _ k => XS.icmpNo X0.here hx rfl (hb hby d4_24) rfl (teq (rfl : w2 = w2)).2 k) ?_
  refine Goes.on (B := s₁.setTop (mkF m 28 #[.val (.ref a), .val (.ref b)] [(.ref a)])) (fun _ k => XS.aloadN X0.here hx rfl (hb hby d4_27) rfl rfl  k) ?_
  refine Goes.on (B := s₁.setTop (mkF m 29 #[.val (.ref a), .val (.ref b)] [(.int (3 : Int32)), (.ref a)])) (fun _ k => XS.iconst X0.here hx rfl (hb hby d4_28) k) ?_
  obtain ⟨cl7, Ar7, q7, S7, Nn7, H7, G7⟩ := id VA
  have hin7 : ¬ ((3 : Int32) < 0 ∨ cl7.slots.size ≤ ((3 : Int32)).toNatClampNeg) := inb_of S7 ⟨by decide, by decide⟩
  refine Goes.on (B := s₁.setTop (mkF m 30 #[.val (.ref a), .val (.ref b)] [(.int w3)])) (fun _ k => X0.saload hx (j := (3 : Int32)) (v := (.int w3)) (by rw [e0]; exact Ar7.1) (State.isArrayOf_alike hZ.alike Ar7.2.1) Ar7.2.2 hin7 (H7.at hin7 hw3) (g := (mkF m 29 #[.val (.ref a), .val (.ref b)] [(.int (3 : Int32)), (.ref a)])) rfl rfl (hb hby d4_29) _ k) ?_
  refine Goes.on (B := s₁.setTop (mkF m 31 #[.val (.ref a), .val (.ref b)] [(.ref b), (.int w3)])) (fun _ k => XS.aloadN X0.here hx rfl (hb hby d4_30) rfl rfl  k) ?_
  refine Goes.on (B := s₁.setTop (mkF m 32 #[.val (.ref a), .val (.ref b)] [(.int (3 : Int32)), (.ref b), (.int w3)])) (fun _ k => XS.iconst X0.here hx rfl (hb hby d4_31) k) ?_
  obtain ⟨cl8, Ar8, q8, S8, Nn8, H8, G8⟩ := id VB
  have hin8 : ¬ ((3 : Int32) < 0 ∨ cl8.slots.size ≤ ((3 : Int32)).toNatClampNeg) := inb_of S8 ⟨by decide, by decide⟩
  refine Goes.on (B := s₁.setTop (mkF m 33 #[.val (.ref a), .val (.ref b)] [(.int w3), (.int w3)])) (fun _ k => X0.saload hx (j := (3 : Int32)) (v := (.int w3)) (by rw [e0]; exact Ar8.1) (State.isArrayOf_alike hZ.alike Ar8.2.1) Ar8.2.2 hin8 (H8.at hin8 hw3) (g := (mkF m 32 #[.val (.ref a), .val (.ref b)] [(.int (3 : Int32)), (.ref b), (.int w3)])) rfl rfl (hb hby d4_32) _ k) ?_
  refine Goes.on (B := s₁.setTop (mkF m 36 #[.val (.ref a), .val (.ref b)] [])) (fun _ k => XS.icmpNo X0.here hx rfl (hb hby d4_33) rfl (teq (rfl : w3 = w3)).2 k) ?_
  refine Goes.on (B := s₁.setTop (mkF m 37 #[.val (.ref a), .val (.ref b)] [(.ref a)])) (fun _ k => XS.aloadN X0.here hx rfl (hb hby d4_36) rfl rfl  k) ?_
  refine Goes.on (B := s₁.setTop (mkF m 38 #[.val (.ref a), .val (.ref b)] [(.int (4 : Int32)), (.ref a)])) (fun _ k => XS.iconst X0.here hx rfl (hb hby d4_37) k) ?_
  obtain ⟨cl9, Ar9, q9, S9, Nn9, H9, G9⟩ := id VA
  have hin9 : ¬ ((4 : Int32) < 0 ∨ cl9.slots.size ≤ ((4 : Int32)).toNatClampNeg) := inb_of S9 ⟨by decide, by decide⟩
  refine Goes.on (B := s₁.setTop (mkF m 39 #[.val (.ref a), .val (.ref b)] [(.int w4)])) (fun _ k => X0.saload hx (j := (4 : Int32)) (v := (.int w4)) (by rw [e0]; exact Ar9.1) (State.isArrayOf_alike hZ.alike Ar9.2.1) Ar9.2.2 hin9 (H9.at hin9 hw4) (g := (mkF m 38 #[.val (.ref a), .val (.ref b)] [(.int (4 : Int32)), (.ref a)])) rfl rfl (hb hby d4_38) _ k) ?_
  refine Goes.on (B := s₁.setTop (mkF m 40 #[.val (.ref a), .val (.ref b)] [(.ref b), (.int w4)])) (fun _ k => XS.aloadN X0.here hx rfl (hb hby d4_39) rfl rfl  k) ?_
  refine Goes.on (B := s₁.setTop (mkF m 41 #[.val (.ref a), .val (.ref b)] [(.int (4 : Int32)), (.ref b), (.int w4)])) (fun _ k => XS.iconst X0.here hx rfl (hb hby d4_40) k) ?_
  obtain ⟨cl10, Ar10, q10, S10, Nn10, H10, G10⟩ := id VB
  have hin10 : ¬ ((4 : Int32) < 0 ∨ cl10.slots.size ≤ ((4 : Int32)).toNatClampNeg) := inb_of S10 ⟨by decide, by decide⟩
  refine Goes.on (B := s₁.setTop (mkF m 42 #[.val (.ref a), .val (.ref b)] [(.int w4), (.int w4)])) (fun _ k => X0.saload hx (j := (4 : Int32)) (v := (.int w4)) (by rw [e0]; exact Ar10.1) (State.isArrayOf_alike hZ.alike Ar10.2.1) Ar10.2.2 hin10 (H10.at hin10 hw4) (g := (mkF m 41 #[.val (.ref a), .val (.ref b)] [(.int (4 : Int32)), (.ref b), (.int w4)])) rfl rfl (hb hby d4_41) _ k) ?_
  refine Goes.on (B := s₁.setTop (mkF m 45 #[.val (.ref a), .val (.ref b)] [])) (fun _ k => XS.icmpNo X0.here hx rfl (hb hby d4_42) rfl (teq (rfl : w4 = w4)).2 k) ?_
  refine Goes.on (B := s₁.setTop (mkF m 46 #[.val (.ref a), .val (.ref b)] [(.ref a)])) (fun _ k => XS.aloadN X0.here hx rfl (hb hby d4_45) rfl rfl  k) ?_
  refine Goes.on (B := s₁.setTop (mkF m 47 #[.val (.ref a), .val (.ref b)] [(.int (5 : Int32)), (.ref a)])) (fun _ k => XS.iconst X0.here hx rfl (hb hby d4_46) k) ?_
  obtain ⟨cl11, Ar11, q11, S11, Nn11, H11, G11⟩ := id VA
  have hin11 : ¬ ((5 : Int32) < 0 ∨ cl11.slots.size ≤ ((5 : Int32)).toNatClampNeg) := inb_of S11 ⟨by decide, by decide⟩
  refine Goes.on (B := s₁.setTop (mkF m 48 #[.val (.ref a), .val (.ref b)] [(.int w5)])) (fun _ k => X0.saload hx (j := (5 : Int32)) (v := (.int w5)) (by rw [e0]; exact Ar11.1) (State.isArrayOf_alike hZ.alike Ar11.2.1) Ar11.2.2 hin11 (H11.at hin11 hw5) (g := (mkF m 47 #[.val (.ref a), .val (.ref b)] [(.int (5 : Int32)), (.ref a)])) rfl rfl (hb hby d4_47) _ k) ?_
  refine Goes.on (B := s₁.setTop (mkF m 49 #[.val (.ref a), .val (.ref b)] [(.ref b), (.int w5)])) (fun _ k => XS.aloadN X0.here hx rfl (hb hby d4_48) rfl rfl  k) ?_
  refine Goes.on (B := s₁.setTop (mkF m 50 #[.val (.ref a), .val (.ref b)] [(.int (5 : Int32)), (.ref b), (.int w5)])) (fun _ k => XS.iconst X0.here hx rfl (hb hby d4_49) k) ?_
  obtain ⟨cl12, Ar12, q12, S12, Nn12, H12, G12⟩ := id VB
  have hin12 : ¬ ((5 : Int32) < 0 ∨ cl12.slots.size ≤ ((5 : Int32)).toNatClampNeg) := inb_of S12 ⟨by decide, by decide⟩
  refine Goes.on (B := s₁.setTop (mkF m 51 #[.val (.ref a), .val (.ref b)] [(.int w5), (.int w5)])) (fun _ k => X0.saload hx (j := (5 : Int32)) (v := (.int w5)) (by rw [e0]; exact Ar12.1) (State.isArrayOf_alike hZ.alike Ar12.2.1) Ar12.2.2 hin12 (H12.at hin12 hw5) (g := (mkF m 50 #[.val (.ref a), .val (.ref b)] [(.int (5 : Int32)), (.ref b), (.int w5)])) rfl rfl (hb hby d4_50) _ k) ?_
  refine Goes.on (B := s₁.setTop (mkF m 54 #[.val (.ref a), .val (.ref b)] [])) (fun _ k => XS.icmpNo X0.here hx rfl (hb hby d4_51) rfl (teq (rfl : w5 = w5)).2 k) ?_
  refine Goes.on (B := s₁.setTop (mkF m 55 #[.val (.ref a), .val (.ref b)] [(.ref a)])) (fun _ k => XS.aloadN X0.here hx rfl (hb hby d4_54) rfl rfl  k) ?_
  refine Goes.on (B := s₁.setTop (mkF m 57 #[.val (.ref a), .val (.ref b)] [(.int (6 : Int32)), (.ref a)])) (fun _ k => XS.bipush X0.here hx rfl (hb hby d4_55) k) ?_
  obtain ⟨cl13, Ar13, q13, S13, Nn13, H13, G13⟩ := id VA
  have hin13 : ¬ ((6 : Int32) < 0 ∨ cl13.slots.size ≤ ((6 : Int32)).toNatClampNeg) := inb_of S13 ⟨by decide, by decide⟩
  refine Goes.on (B := s₁.setTop (mkF m 58 #[.val (.ref a), .val (.ref b)] [(.int w6)])) (fun _ k => X0.saload hx (j := (6 : Int32)) (v := (.int w6)) (by rw [e0]; exact Ar13.1) (State.isArrayOf_alike hZ.alike Ar13.2.1) Ar13.2.2 hin13 (H13.at hin13 hw6) (g := (mkF m 57 #[.val (.ref a), .val (.ref b)] [(.int (6 : Int32)), (.ref a)])) rfl rfl (hb hby d4_57) _ k) ?_
  refine Goes.on (B := s₁.setTop (mkF m 59 #[.val (.ref a), .val (.ref b)] [(.ref b), (.int w6)])) (fun _ k => XS.aloadN X0.here hx rfl (hb hby d4_58) rfl rfl  k) ?_
  refine Goes.on (B := s₁.setTop (mkF m 61 #[.val (.ref a), .val (.ref b)] [(.int (6 : Int32)), (.ref b), (.int w6)])) (fun _ k => XS.bipush X0.here hx rfl (hb hby d4_59) k) ?_
  obtain ⟨cl14, Ar14, q14, S14, Nn14, H14, G14⟩ := id VB
  have hin14 : ¬ ((6 : Int32) < 0 ∨ cl14.slots.size ≤ ((6 : Int32)).toNatClampNeg) := inb_of S14 ⟨by decide, by decide⟩
  refine Goes.on (B := s₁.setTop (mkF m 62 #[.val (.ref a), .val (.ref b)] [(.int w6), (.int w6)])) (fun _ k => X0.saload hx (j := (6 : Int32)) (v := (.int w6)) (by rw [e0]; exact Ar14.1) (State.isArrayOf_alike hZ.alike Ar14.2.1) Ar14.2.2 hin14 (H14.at hin14 hw6) (g := (mkF m 61 #[.val (.ref a), .val (.ref b)] [(.int (6 : Int32)), (.ref b), (.int w6)])) rfl rfl (hb hby d4_61) _ k) ?_
  refine Goes.on (B := s₁.setTop (mkF m 65 #[.val (.ref a), .val (.ref b)] [])) (fun _ k => XS.icmpNo X0.here hx rfl (hb hby d4_62) rfl (teq (rfl : w6 = w6)).2 k) ?_
  refine Goes.on (B := s₁.setTop (mkF m 66 #[.val (.ref a), .val (.ref b)] [(.ref a)])) (fun _ k => XS.aloadN X0.here hx rfl (hb hby d4_65) rfl rfl  k) ?_
  refine Goes.on (B := s₁.setTop (mkF m 68 #[.val (.ref a), .val (.ref b)] [(.int (7 : Int32)), (.ref a)])) (fun _ k => XS.bipush X0.here hx rfl (hb hby d4_66) k) ?_
  obtain ⟨cl15, Ar15, q15, S15, Nn15, H15, G15⟩ := id VA
  have hin15 : ¬ ((7 : Int32) < 0 ∨ cl15.slots.size ≤ ((7 : Int32)).toNatClampNeg) := inb_of S15 ⟨by decide, by decide⟩
  refine Goes.on (B := s₁.setTop (mkF m 69 #[.val (.ref a), .val (.ref b)] [(.int w7)])) (fun _ k => X0.saload hx (j := (7 : Int32)) (v := (.int w7)) (by rw [e0]; exact Ar15.1) (State.isArrayOf_alike hZ.alike Ar15.2.1) Ar15.2.2 hin15 (H15.at hin15 hw7) (g := (mkF m 68 #[.val (.ref a), .val (.ref b)] [(.int (7 : Int32)), (.ref a)])) rfl rfl (hb hby d4_68) _ k) ?_
  refine Goes.on (B := s₁.setTop (mkF m 70 #[.val (.ref a), .val (.ref b)] [(.ref b), (.int w7)])) (fun _ k => XS.aloadN X0.here hx rfl (hb hby d4_69) rfl rfl  k) ?_
  refine Goes.on (B := s₁.setTop (mkF m 72 #[.val (.ref a), .val (.ref b)] [(.int (7 : Int32)), (.ref b), (.int w7)])) (fun _ k => XS.bipush X0.here hx rfl (hb hby d4_70) k) ?_
  obtain ⟨cl16, Ar16, q16, S16, Nn16, H16, G16⟩ := id VB
  have hin16 : ¬ ((7 : Int32) < 0 ∨ cl16.slots.size ≤ ((7 : Int32)).toNatClampNeg) := inb_of S16 ⟨by decide, by decide⟩
  refine Goes.on (B := s₁.setTop (mkF m 73 #[.val (.ref a), .val (.ref b)] [(.int w7), (.int w7)])) (fun _ k => X0.saload hx (j := (7 : Int32)) (v := (.int w7)) (by rw [e0]; exact Ar16.1) (State.isArrayOf_alike hZ.alike Ar16.2.1) Ar16.2.2 hin16 (H16.at hin16 hw7) (g := (mkF m 72 #[.val (.ref a), .val (.ref b)] [(.int (7 : Int32)), (.ref b), (.int w7)])) rfl rfl (hb hby d4_72) _ k) ?_
  refine Goes.on (B := s₁.setTop (mkF m 76 #[.val (.ref a), .val (.ref b)] [])) (fun _ k => XS.icmpNo X0.here hx rfl (hb hby d4_73) rfl (teq (rfl : w7 = w7)).2 k) ?_
  refine Goes.on (B := s₁.setTop (mkF m 77 #[.val (.ref a), .val (.ref b)] [(.ref a)])) (fun _ k => XS.aloadN X0.here hx rfl (hb hby d4_76) rfl rfl  k) ?_
  refine Goes.on (B := s₁.setTop (mkF m 79 #[.val (.ref a), .val (.ref b)] [(.int (8 : Int32)), (.ref a)])) (fun _ k => XS.bipush X0.here hx rfl (hb hby d4_77) k) ?_
  obtain ⟨cl17, Ar17, q17, S17, Nn17, H17, G17⟩ := id VA
  have hin17 : ¬ ((8 : Int32) < 0 ∨ cl17.slots.size ≤ ((8 : Int32)).toNatClampNeg) := inb_of S17 ⟨by decide, by decide⟩
  refine Goes.on (B := s₁.setTop (mkF m 80 #[.val (.ref a), .val (.ref b)] [(.int w8)])) (fun _ k => X0.saload hx (j := (8 : Int32)) (v := (.int w8)) (by rw [e0]; exact Ar17.1) (State.isArrayOf_alike hZ.alike Ar17.2.1) Ar17.2.2 hin17 (H17.at hin17 hw8) (g := (mkF m 79 #[.val (.ref a), .val (.ref b)] [(.int (8 : Int32)), (.ref a)])) rfl rfl (hb hby d4_79) _ k) ?_
  refine Goes.on (B := s₁.setTop (mkF m 81 #[.val (.ref a), .val (.ref b)] [(.ref b), (.int w8)])) (fun _ k => XS.aloadN X0.here hx rfl (hb hby d4_80) rfl rfl  k) ?_
  refine Goes.on (B := s₁.setTop (mkF m 83 #[.val (.ref a), .val (.ref b)] [(.int (8 : Int32)), (.ref b), (.int w8)])) (fun _ k => XS.bipush X0.here hx rfl (hb hby d4_81) k) ?_
  obtain ⟨cl18, Ar18, q18, S18, Nn18, H18, G18⟩ := id VB
  have hin18 : ¬ ((8 : Int32) < 0 ∨ cl18.slots.size ≤ ((8 : Int32)).toNatClampNeg) := inb_of S18 ⟨by decide, by decide⟩
  refine Goes.on (B := s₁.setTop (mkF m 84 #[.val (.ref a), .val (.ref b)] [(.int w8), (.int w8)])) (fun _ k => X0.saload hx (j := (8 : Int32)) (v := (.int w8)) (by rw [e0]; exact Ar18.1) (State.isArrayOf_alike hZ.alike Ar18.2.1) Ar18.2.2 hin18 (H18.at hin18 hw8) (g := (mkF m 83 #[.val (.ref a), .val (.ref b)] [(.int (8 : Int32)), (.ref b), (.int w8)])) rfl rfl (hb hby d4_83) _ k) ?_
  refine Goes.on (B := s₁.setTop (mkF m 87 #[.val (.ref a), .val (.ref b)] [])) (fun _ k => XS.icmpNo X0.here hx rfl (hb hby d4_84) rfl (teq (rfl : w8 = w8)).2 k) ?_
  refine Goes.on (B := s₁.setTop (mkF m 88 #[.val (.ref a), .val (.ref b)] [(.ref a)])) (fun _ k => XS.aloadN X0.here hx rfl (hb hby d4_87) rfl rfl  k) ?_
  refine Goes.on (B := s₁.setTop (mkF m 90 #[.val (.ref a), .val (.ref b)] [(.int (9 : Int32)), (.ref a)])) (fun _ k => XS.bipush X0.here hx rfl (hb hby d4_88) k) ?_
  obtain ⟨cl19, Ar19, q19, S19, Nn19, H19, G19⟩ := id VA
  have hin19 : ¬ ((9 : Int32) < 0 ∨ cl19.slots.size ≤ ((9 : Int32)).toNatClampNeg) := inb_of S19 ⟨by decide, by decide⟩
  refine Goes.on (B := s₁.setTop (mkF m 91 #[.val (.ref a), .val (.ref b)] [(.int w9)])) (fun _ k => X0.saload hx (j := (9 : Int32)) (v := (.int w9)) (by rw [e0]; exact Ar19.1) (State.isArrayOf_alike hZ.alike Ar19.2.1) Ar19.2.2 hin19 (H19.at hin19 hw9) (g := (mkF m 90 #[.val (.ref a), .val (.ref b)] [(.int (9 : Int32)), (.ref a)])) rfl rfl (hb hby d4_90) _ k) ?_
  refine Goes.on (B := s₁.setTop (mkF m 92 #[.val (.ref a), .val (.ref b)] [(.ref b), (.int w9)])) (fun _ k => XS.aloadN X0.here hx rfl (hb hby d4_91) rfl rfl  k) ?_
  refine Goes.on (B := s₁.setTop (mkF m 94 #[.val (.ref a), .val (.ref b)] [(.int (9 : Int32)), (.ref b), (.int w9)])) (fun _ k => XS.bipush X0.here hx rfl (hb hby d4_92) k) ?_
  obtain ⟨cl20, Ar20, q20, S20, Nn20, H20, G20⟩ := id VB
  have hin20 : ¬ ((9 : Int32) < 0 ∨ cl20.slots.size ≤ ((9 : Int32)).toNatClampNeg) := inb_of S20 ⟨by decide, by decide⟩
  refine Goes.on (B := s₁.setTop (mkF m 95 #[.val (.ref a), .val (.ref b)] [(.int w9), (.int w9)])) (fun _ k => X0.saload hx (j := (9 : Int32)) (v := (.int w9)) (by rw [e0]; exact Ar20.1) (State.isArrayOf_alike hZ.alike Ar20.2.1) Ar20.2.2 hin20 (H20.at hin20 hw9) (g := (mkF m 94 #[.val (.ref a), .val (.ref b)] [(.int (9 : Int32)), (.ref b), (.int w9)])) rfl rfl (hb hby d4_94) _ k) ?_
  refine Goes.on (B := s₁.setTop (mkF m 98 #[.val (.ref a), .val (.ref b)] [])) (fun _ k => XS.icmpNo X0.here hx rfl (hb hby d4_95) rfl (teq (rfl : w9 = w9)).2 k) ?_
  refine Goes.on (B := s₁.setTop (mkF m 99 #[.val (.ref a), .val (.ref b)] [(.ref a)])) (fun _ k => XS.aloadN X0.here hx rfl (hb hby d4_98) rfl rfl  k) ?_
  refine Goes.on (B := s₁.setTop (mkF m 101 #[.val (.ref a), .val (.ref b)] [(.int (10 : Int32)), (.ref a)])) (fun _ k => XS.bipush X0.here hx rfl (hb hby d4_99) k) ?_
  obtain ⟨cl21, Ar21, q21, S21, Nn21, H21, G21⟩ := id VA
  have hin21 : ¬ ((10 : Int32) < 0 ∨ cl21.slots.size ≤ ((10 : Int32)).toNatClampNeg) := inb_of S21 ⟨by decide, by decide⟩
  refine Goes.on (B := s₁.setTop (mkF m 102 #[.val (.ref a), .val (.ref b)] [(.int w10)])) (fun _ k => X0.saload hx (j := (10 : Int32)) (v := (.int w10)) (by rw [e0]; exact Ar21.1) (State.isArrayOf_alike hZ.alike Ar21.2.1) Ar21.2.2 hin21 (H21.at hin21 hw10) (g := (mkF m 101 #[.val (.ref a), .val (.ref b)] [(.int (10 : Int32)), (.ref a)])) rfl rfl (hb hby d4_101) _ k) ?_
  refine Goes.on (B := s₁.setTop (mkF m 103 #[.val (.ref a), .val (.ref b)] [(.ref b), (.int w10)])) (fun _ k => XS.aloadN X0.here hx rfl (hb hby d4_102) rfl rfl  k) ?_
  refine Goes.on (B := s₁.setTop (mkF m 105 #[.val (.ref a), .val (.ref b)] [(.int (10 : Int32)), (.ref b), (.int w10)])) (fun _ k => XS.bipush X0.here hx rfl (hb hby d4_103) k) ?_
  obtain ⟨cl22, Ar22, q22, S22, Nn22, H22, G22⟩ := id VB
  have hin22 : ¬ ((10 : Int32) < 0 ∨ cl22.slots.size ≤ ((10 : Int32)).toNatClampNeg) := inb_of S22 ⟨by decide, by decide⟩
  refine Goes.on (B := s₁.setTop (mkF m 106 #[.val (.ref a), .val (.ref b)] [(.int w10), (.int w10)])) (fun _ k => X0.saload hx (j := (10 : Int32)) (v := (.int w10)) (by rw [e0]; exact Ar22.1) (State.isArrayOf_alike hZ.alike Ar22.2.1) Ar22.2.2 hin22 (H22.at hin22 hw10) (g := (mkF m 105 #[.val (.ref a), .val (.ref b)] [(.int (10 : Int32)), (.ref b), (.int w10)])) rfl rfl (hb hby d4_105) _ k) ?_
  refine Goes.on (B := s₁.setTop (mkF m 109 #[.val (.ref a), .val (.ref b)] [])) (fun _ k => XS.icmpNo X0.here hx rfl (hb hby d4_106) rfl (teq (rfl : w10 = w10)).2 k) ?_
  refine Goes.on (B := s₁.setTop (mkF m 110 #[.val (.ref a), .val (.ref b)] [(.int (1 : Int32))])) (fun _ k => XS.iconst X0.here hx rfl (hb hby d4_109) k) ?_
  refine Goes.on (B := s₁.setTop (mkF m 114 #[.val (.ref a), .val (.ref b)] [(.int (1 : Int32))])) (fun _ k => XS.goto X0.here hx rfl (pc0 := 110) (pc' := 114) rfl (hb hby d4_110) (by decide) (by decide) k) ?_
  obtain ⟨fs, hr, hrun, hended, hW, hsame⟩ := X0.leave (v := some (.int (1 : Int32))) (fun h => by rw [Bd.returns] at h; cases h)
  exact Goes.leaf (retN X0 hx (t := .boolean) Bd.returns (by simp) (hb hby d4_114) hr) hrun hended ⟨_, _, rfl, by show Qsm Z a b kA kB vs h0 n0 _ s₁.heap _; rw [e0]; exact ⟨rfl, N0, rfl⟩, ⟨_, rfl⟩, hW, hsame.mono (by decide) (by decide)⟩
theorem own_c {q cn : Int32} (h : (q &&& (3 : Int32)) = cn) : cn = (0 : Int32) ∨ cn = (1 : Int32) ∨ cn = (2 : Int32) ∨ cn = (3 : Int32) := by
  have e1 : cn.toInt = q.toInt % 2 ^ 2 := by rw [← h]; exact Jvm.Kit.i32_mask q 3 (k := 2) (by decide) (by decide)
  simp only [← Int32.toInt_inj]
  have a0 : (0 : Int32).toInt = 0 := rfl
  have a1 : (1 : Int32).toInt = 1 := rfl
  have a2 : (2 : Int32).toInt = 2 := rfl
  have a3 : (3 : Int32).toInt = 3 := rfl
  omega
theorem pn_0 : plainName "com/example/roadeq/roadeq/assign/LinkCodeEncodePinLaw" = true := by first | (simp [plainName, overriddenIn]; done) | decide +kernel
theorem pd_0___II_S_V : parseMethodDescriptor "([II[S)V" = some ⟨[(.array .int), .int, (.array .short)], none⟩ := by decide +kernel
theorem pd_0___S_S_Z : parseMethodDescriptor "([S[S)Z" = some ⟨[(.array .short), (.array .short)], some .boolean⟩ := by decide +kernel
theorem pd_0___SII_I : parseMethodDescriptor "([SII)I" = some ⟨[(.array .short), .int, .int], some .int⟩ := by decide +kernel
theorem ef_0 (m : MethodId) (x0 : Int32) (x1 : Int32) (x2 : Int32) (x3 : Int32) (x4 : Int32) : entryFrame m #[(.int x0), (.int x1), (.int x2), (.int x3), (.int x4)] maxLocals = mkF m 0 #[.val (.int x0), .val (.int x1), .val (.int x2), .val (.int x3), .val (.int x4), .unset, .unset, .unset, .unset, .unset, .unset] [] := by first | (simp [entryFrame, mkF, argsToLocals, Value.category, maxLocals]; done) | rfl
def Q0 (Z : State) (p0 : Int32) (p1 : Int32) (p2 : Int32) (p3 : Int32) (p4 : Int32)  (h0 : Heap) (n0 : Nat) (v : Option Value) (h : Heap) (L : List Loc) : Prop := v = some (.int 1) ∧ Fr n0 L
set_option maxRecDepth 65536 in
set_option maxHeartbeats 40000000 in
theorem rm0 (l : Launch) (Z : State) (a0 : Array Value) (hw : ∀ d ∈ tables_1, d.before a0 Z = true) (ws : List Jvm.Cond) (p0 : Int32) (p1 : Int32) (p2 : Int32) (p3 : Int32) (p4 : Int32)  (h0 : Heap) (n0 : Nat) (Z0 : n0 ≤ h0.size)  :
    MetFree l x (head1 (Jvm.Cond.code x code maxLocals ret :: ws) room_1) (fun aa U => aa = #[(.int p0), (.int p1), (.int p2), (.int p3), (.int p4)] ∧ Z.Warmed39 U.vm ∧ U.heap = h0) (fun _ _ _ _ _ => True) (fun _ U oo U' => ∃ vv LL, oo = .returned vv ∧ Q0 Z p0 p1 p2 p3 p4 h0 n0 vv U'.heap LL ∧ FrameEnd U oo U' LL room_1.cells room_1.slots) := by
  refine MetFree.of_bodySF (plainFor_of_name pn_0) hisR ?_
  intro p e s m args below meth c s₁ Bd hml0 hP hK
  obtain ⟨rfl, hZ, hh⟩ := hP
  have hx := Bd.exec
  have hby := Bd.bytes
  have hml : c.maxLocals = 11 := hml0
  have hown : s.vm.findClass "com/example/roadeq/roadeq/assign/LinkCodeEncodePinLaw" = some m.cls := findClass_of_methodNamed Bd.named
  have hnm := (name_of_methodNamed Bd.named Bd.method).1
  have X0 : Stand p l e room_1 s m #[(.int p0), (.int p1), (.int p2), (.int p3), (.int p4)] below meth c s₁ [] 0 0 := Stand.of_body Bd
  have e0 : s₁.heap = h0 := by rw [← hh, Bd.state]; rfl
  have N0 := Fr.nil n0
  show Goes p e below _ (s₁.setTop (entryFrame m #[(.int p0), (.int p1), (.int p2), (.int p3), (.int p4)] maxLocals))
  refine Goes.on (B := s₁.setTop (mkF m 0 #[.val (.int p0), .val (.int p1), .val (.int p2), .val (.int p3), .val (.int p4), .unset, .unset, .unset, .unset, .unset, .unset] [])) (fun t k => castTop (ef_0 m p0 p1 p2 p3 p4) k) ?_
  refine Goes.on (B := s₁.setTop (mkF m 1 #[.val (.int p0), .val (.int p1), .val (.int p2), .val (.int p3), .val (.int p4), .unset, .unset, .unset, .unset, .unset, .unset] [(.int p3)])) (fun _ k => XS.iloadN X0.here hx rfl (hb hby at_0) rfl  k) ?_
  refine Goes.on (B := s₁.setTop (mkF m 2 #[.val (.int p0), .val (.int p1), .val (.int p2), .val (.int p3), .val (.int p4), .unset, .unset, .unset, .unset, .unset, .unset] [(.int (3 : Int32)), (.int p3)])) (fun _ k => XS.iconst X0.here hx rfl (hb hby at_1) k) ?_
  refine Goes.on (B := s₁.setTop (mkF m 3 #[.val (.int p0), .val (.int p1), .val (.int p2), .val (.int p3), .val (.int p4), .unset, .unset, .unset, .unset, .unset, .unset] [(.int (p3 &&& (3 : Int32)))])) (fun _ k => XS.iand X0.here hx rfl (hb hby at_2) rfl k) ?_
  generalize hcn : (p3 &&& (3 : Int32)) = cn
  refine Goes.on (B := s₁.setTop (mkF m 5 #[.val (.int p0), .val (.int p1), .val (.int p2), .val (.int p3), .val (.int p4), .val (.int cn), .unset, .unset, .unset, .unset, .unset] [])) (fun _ k => XS.istore X0.here hx rfl (hb hby at_3) rfl (l' := #[.val (.int p0), .val (.int p1), .val (.int p2), .val (.int p3), .val (.int p4), .val (.int cn), .unset, .unset, .unset, .unset, .unset]) rfl k) ?_
  refine Goes.on (B := s₁.setTop (mkF m 7 #[.val (.int p0), .val (.int p1), .val (.int p2), .val (.int p3), .val (.int p4), .val (.int cn), .unset, .unset, .unset, .unset, .unset] [(.int p4)])) (fun _ k => XS.iload X0.here hx rfl (hb hby at_5) rfl  k) ?_
  refine Goes.on (B := s₁.setTop (mkF m 8 #[.val (.int p0), .val (.int p1), .val (.int p2), .val (.int p3), .val (.int p4), .val (.int cn), .unset, .unset, .unset, .unset, .unset] [(.int (p4.toInt16.toInt32))])) (fun _ k => XS.i2s X0.here hx rfl (hb hby at_7) rfl k) ?_
  generalize hff : (p4.toInt16.toInt32) = ff
  refine Goes.on (B := s₁.setTop (mkF m 10 #[.val (.int p0), .val (.int p1), .val (.int p2), .val (.int p3), .val (.int p4), .val (.int cn), .val (.int ff), .unset, .unset, .unset, .unset] [])) (fun _ k => XS.istore X0.here hx rfl (hb hby at_8) rfl (l' := #[.val (.int p0), .val (.int p1), .val (.int p2), .val (.int p3), .val (.int p4), .val (.int cn), .val (.int ff), .unset, .unset, .unset, .unset]) rfl k) ?_
  refine Goes.on (B := s₁.setTop (mkF m 11 #[.val (.int p0), .val (.int p1), .val (.int p2), .val (.int p3), .val (.int p4), .val (.int cn), .val (.int ff), .unset, .unset, .unset, .unset] [(.int (3 : Int32))])) (fun _ k => XS.iconst X0.here hx rfl (hb hby at_10) k) ?_
  obtain ⟨T1, h1, k1, X1, e1, E1, A1, st1⟩ := newP X0 hx hZ (hw _ (List.mem_of_getElem? (i := 0) rfl)) e0 (g := (mkF m 11 #[.val (.int p0), .val (.int p1), .val (.int p2), .val (.int p3), .val (.int p4), .val (.int cn), .val (.int ff), .unset, .unset, .unset, .unset] [(.int (3 : Int32))])) rfl (hb hby at_11) rfl (by decide) (cap := 3) (by decide) (by decide) (by decide) (by decide)
  obtain ⟨b1, g1⟩ : ∃ z, z = h0.size := ⟨_, rfl⟩
  rw [← g1] at A1 st1
  have z2 : n0 ≤ h1.size := Nat.le_trans Z0 E1.1
  have g_b1 : n0 ≤ b1 := Nat.le_trans Z0 (Nat.le_of_eq g1.symm)
  have V1 : Arv Z h1 b1 k1 .int (3 : Int32) [(.int (0 : Int32)), (.int (0 : Int32)), (.int (0 : Int32))] (.int (0 : Int32)) := (Arv.new A1 (by decide)).pad (pad_rep [] (.int (0 : Int32)) 3)
  refine Goes.on (B := T1.setTop (mkF m 13 #[.val (.int p0), .val (.int p1), .val (.int p2), .val (.int p3), .val (.int p4), .val (.int cn), .val (.int ff), .unset, .unset, .unset, .unset] [(.ref b1)])) (fun t k => st1 t k) ?_
  refine Goes.on (B := T1.setTop (mkF m 14 #[.val (.int p0), .val (.int p1), .val (.int p2), .val (.int p3), .val (.int p4), .val (.int cn), .val (.int ff), .unset, .unset, .unset, .unset] [(.ref b1), (.ref b1)])) (fun _ k => XS.dup X1.here hx rfl (hb hby at_13) rfl rfl k) ?_
  refine Goes.on (B := T1.setTop (mkF m 15 #[.val (.int p0), .val (.int p1), .val (.int p2), .val (.int p3), .val (.int p4), .val (.int cn), .val (.int ff), .unset, .unset, .unset, .unset] [(.int (0 : Int32)), (.ref b1), (.ref b1)])) (fun _ k => XS.iconst X1.here hx rfl (hb hby at_14) k) ?_
  refine Goes.on (B := T1.setTop (mkF m 16 #[.val (.int p0), .val (.int p1), .val (.int p2), .val (.int p3), .val (.int p4), .val (.int cn), .val (.int ff), .unset, .unset, .unset, .unset] [(.int p0), (.int (0 : Int32)), (.ref b1), (.ref b1)])) (fun _ k => XS.iloadN X1.here hx rfl (hb hby at_15) rfl  k) ?_
  obtain ⟨cl3, Ar3, q3, S3, Nn3, H3, G3⟩ := id V1
  have hin3 : ¬ ((0 : Int32) < 0 ∨ cl3.slots.size ≤ ((0 : Int32)).toNatClampNeg) := inb_of S3 ⟨by decide, by decide⟩
  obtain ⟨T4, h4, X4, e4, W4, st4⟩ := stI X1 hx hZ e1 Ar3 (j := (0 : Int32)) hin3 (g := (mkF m 16 #[.val (.int p0), .val (.int p1), .val (.int p2), .val (.int p3), .val (.int p4), .val (.int cn), .val (.int ff), .unset, .unset, .unset, .unset] [(.int p0), (.int (0 : Int32)), (.ref b1), (.ref b1)])) rfl rfl (hb hby at_16)
  have V4 : Arv Z h4 b1 k1 .int (3 : Int32) [(.int p0), (.int (0 : Int32)), (.int (0 : Int32))] (.int (0 : Int32)) := Arv.set Ar3 q3 S3 Nn3 H3 G3 rfl W4 0 rfl (Nat.le_of_ble_eq_true rfl)
  have z5 : n0 ≤ h4.size := Nat.le_trans z2 (Keep.of_wr W4).1
  have N4 := Fr.snoc X4 N0 g_b1
  refine Goes.on (B := T4.setTop (mkF m 17 #[.val (.int p0), .val (.int p1), .val (.int p2), .val (.int p3), .val (.int p4), .val (.int cn), .val (.int ff), .unset, .unset, .unset, .unset] [(.ref b1)])) (fun t k => st4 t k) ?_
  refine Goes.on (B := T4.setTop (mkF m 18 #[.val (.int p0), .val (.int p1), .val (.int p2), .val (.int p3), .val (.int p4), .val (.int cn), .val (.int ff), .unset, .unset, .unset, .unset] [(.ref b1), (.ref b1)])) (fun _ k => XS.dup X4.here hx rfl (hb hby at_17) rfl rfl k) ?_
  refine Goes.on (B := T4.setTop (mkF m 19 #[.val (.int p0), .val (.int p1), .val (.int p2), .val (.int p3), .val (.int p4), .val (.int cn), .val (.int ff), .unset, .unset, .unset, .unset] [(.int (1 : Int32)), (.ref b1), (.ref b1)])) (fun _ k => XS.iconst X4.here hx rfl (hb hby at_18) k) ?_
  refine Goes.on (B := T4.setTop (mkF m 20 #[.val (.int p0), .val (.int p1), .val (.int p2), .val (.int p3), .val (.int p4), .val (.int cn), .val (.int ff), .unset, .unset, .unset, .unset] [(.int p1), (.int (1 : Int32)), (.ref b1), (.ref b1)])) (fun _ k => XS.iloadN X4.here hx rfl (hb hby at_19) rfl  k) ?_
  obtain ⟨cl6, Ar6, q6, S6, Nn6, H6, G6⟩ := id V4
  have hin6 : ¬ ((1 : Int32) < 0 ∨ cl6.slots.size ≤ ((1 : Int32)).toNatClampNeg) := inb_of S6 ⟨by decide, by decide⟩
  obtain ⟨T7, h7, X7, e7, W7, st7⟩ := stI X4 hx hZ e4 Ar6 (j := (1 : Int32)) hin6 (g := (mkF m 20 #[.val (.int p0), .val (.int p1), .val (.int p2), .val (.int p3), .val (.int p4), .val (.int cn), .val (.int ff), .unset, .unset, .unset, .unset] [(.int p1), (.int (1 : Int32)), (.ref b1), (.ref b1)])) rfl rfl (hb hby at_20)
  have V7 : Arv Z h7 b1 k1 .int (3 : Int32) [(.int p0), (.int p1), (.int (0 : Int32))] (.int (0 : Int32)) := Arv.set Ar6 q6 S6 Nn6 H6 G6 rfl W7 1 rfl (Nat.le_of_ble_eq_true rfl)
  have z8 : n0 ≤ h7.size := Nat.le_trans z5 (Keep.of_wr W7).1
  have N7 := Fr.snoc X7 N4 g_b1
  refine Goes.on (B := T7.setTop (mkF m 21 #[.val (.int p0), .val (.int p1), .val (.int p2), .val (.int p3), .val (.int p4), .val (.int cn), .val (.int ff), .unset, .unset, .unset, .unset] [(.ref b1)])) (fun t k => st7 t k) ?_
  refine Goes.on (B := T7.setTop (mkF m 22 #[.val (.int p0), .val (.int p1), .val (.int p2), .val (.int p3), .val (.int p4), .val (.int cn), .val (.int ff), .unset, .unset, .unset, .unset] [(.ref b1), (.ref b1)])) (fun _ k => XS.dup X7.here hx rfl (hb hby at_21) rfl rfl k) ?_
  refine Goes.on (B := T7.setTop (mkF m 23 #[.val (.int p0), .val (.int p1), .val (.int p2), .val (.int p3), .val (.int p4), .val (.int cn), .val (.int ff), .unset, .unset, .unset, .unset] [(.int (2 : Int32)), (.ref b1), (.ref b1)])) (fun _ k => XS.iconst X7.here hx rfl (hb hby at_22) k) ?_
  refine Goes.on (B := T7.setTop (mkF m 24 #[.val (.int p0), .val (.int p1), .val (.int p2), .val (.int p3), .val (.int p4), .val (.int cn), .val (.int ff), .unset, .unset, .unset, .unset] [(.int p2), (.int (2 : Int32)), (.ref b1), (.ref b1)])) (fun _ k => XS.iloadN X7.here hx rfl (hb hby at_23) rfl  k) ?_
  obtain ⟨cl9, Ar9, q9, S9, Nn9, H9, G9⟩ := id V7
  have hin9 : ¬ ((2 : Int32) < 0 ∨ cl9.slots.size ≤ ((2 : Int32)).toNatClampNeg) := inb_of S9 ⟨by decide, by decide⟩
  obtain ⟨T10, h10, X10, e10, W10, st10⟩ := stI X7 hx hZ e7 Ar9 (j := (2 : Int32)) hin9 (g := (mkF m 24 #[.val (.int p0), .val (.int p1), .val (.int p2), .val (.int p3), .val (.int p4), .val (.int cn), .val (.int ff), .unset, .unset, .unset, .unset] [(.int p2), (.int (2 : Int32)), (.ref b1), (.ref b1)])) rfl rfl (hb hby at_24)
  have V10 : Arv Z h10 b1 k1 .int (3 : Int32) [(.int p0), (.int p1), (.int p2)] (.int (0 : Int32)) := Arv.set Ar9 q9 S9 Nn9 H9 G9 rfl W10 2 rfl (Nat.le_of_ble_eq_true rfl)
  have z11 : n0 ≤ h10.size := Nat.le_trans z8 (Keep.of_wr W10).1
  have N10 := Fr.snoc X10 N7 g_b1
  refine Goes.on (B := T10.setTop (mkF m 25 #[.val (.int p0), .val (.int p1), .val (.int p2), .val (.int p3), .val (.int p4), .val (.int cn), .val (.int ff), .unset, .unset, .unset, .unset] [(.ref b1)])) (fun t k => st10 t k) ?_
  refine Goes.on (B := T10.setTop (mkF m 27 #[.val (.int p0), .val (.int p1), .val (.int p2), .val (.int p3), .val (.int p4), .val (.int cn), .val (.int ff), .val (.ref b1), .unset, .unset, .unset] [])) (fun _ k => XS.astore X10.here hx rfl (hb hby at_25) rfl rfl (l' := #[.val (.int p0), .val (.int p1), .val (.int p2), .val (.int p3), .val (.int p4), .val (.int cn), .val (.int ff), .val (.ref b1), .unset, .unset, .unset]) rfl k) ?_
  refine Goes.on (B := T10.setTop (mkF m 29 #[.val (.int p0), .val (.int p1), .val (.int p2), .val (.int p3), .val (.int p4), .val (.int cn), .val (.int ff), .val (.ref b1), .unset, .unset, .unset] [(.int (11 : Int32))])) (fun _ k => XS.bipush X10.here hx rfl (hb hby at_27) k) ?_
  obtain ⟨T12, h12, k12, X12, e12, E12, A12, st12⟩ := newP X10 hx hZ (hw _ (List.mem_of_getElem? (i := 1) rfl)) e10 (g := (mkF m 29 #[.val (.int p0), .val (.int p1), .val (.int p2), .val (.int p3), .val (.int p4), .val (.int cn), .val (.int ff), .val (.ref b1), .unset, .unset, .unset] [(.int (11 : Int32))])) rfl (hb hby at_29) rfl (by decide) (cap := 11) (by decide) (by decide) (by decide) (by decide)
  obtain ⟨b12, g12⟩ : ∃ z, z = h10.size := ⟨_, rfl⟩
  rw [← g12] at A12 st12
  have ne_b1_b12 : b1 ≠ b12 := Nat.ne_of_lt (Nat.lt_of_lt_of_le V10.lt (Nat.le_of_eq g12.symm))
  have f13 := V10.ext E12
  have z14 : n0 ≤ h12.size := Nat.le_trans z11 E12.1
  have g_b12 : n0 ≤ b12 := Nat.le_trans z11 (Nat.le_of_eq g12.symm)
  have V12 : Arv Z h12 b12 k12 .short (11 : Int32) [(.int (0 : Int32)), (.int (0 : Int32)), (.int (0 : Int32)), (.int (0 : Int32)), (.int (0 : Int32)), (.int (0 : Int32)), (.int (0 : Int32)), (.int (0 : Int32)), (.int (0 : Int32)), (.int (0 : Int32)), (.int (0 : Int32))] (.int (0 : Int32)) := (Arv.new A12 (by decide)).pad (pad_rep [] (.int (0 : Int32)) 11)
  refine Goes.on (B := T12.setTop (mkF m 31 #[.val (.int p0), .val (.int p1), .val (.int p2), .val (.int p3), .val (.int p4), .val (.int cn), .val (.int ff), .val (.ref b1), .unset, .unset, .unset] [(.ref b12)])) (fun t k => st12 t k) ?_
  refine Goes.on (B := T12.setTop (mkF m 32 #[.val (.int p0), .val (.int p1), .val (.int p2), .val (.int p3), .val (.int p4), .val (.int cn), .val (.int ff), .val (.ref b1), .unset, .unset, .unset] [(.ref b12), (.ref b12)])) (fun _ k => XS.dup X12.here hx rfl (hb hby at_31) rfl rfl k) ?_
  refine Goes.on (B := T12.setTop (mkF m 33 #[.val (.int p0), .val (.int p1), .val (.int p2), .val (.int p3), .val (.int p4), .val (.int cn), .val (.int ff), .val (.ref b1), .unset, .unset, .unset] [(.int (0 : Int32)), (.ref b12), (.ref b12)])) (fun _ k => XS.iconst X12.here hx rfl (hb hby at_32) k) ?_
  refine Goes.on (B := T12.setTop (mkF m 35 #[.val (.int p0), .val (.int p1), .val (.int p2), .val (.int p3), .val (.int p4), .val (.int cn), .val (.int ff), .val (.ref b1), .unset, .unset, .unset] [(.int ff), (.int (0 : Int32)), (.ref b12), (.ref b12)])) (fun _ k => XS.iload X12.here hx rfl (hb hby at_33) rfl  k) ?_
  obtain ⟨cl15, Ar15, q15, S15, Nn15, H15, G15⟩ := id V12
  have hin15 : ¬ ((0 : Int32) < 0 ∨ cl15.slots.size ≤ ((0 : Int32)).toNatClampNeg) := inb_of S15 ⟨by decide, by decide⟩
  obtain ⟨T16, h16, X16, e16, W16, st16⟩ := stS X12 hx hZ e12 Ar15 (j := (0 : Int32)) hin15 (g := (mkF m 35 #[.val (.int p0), .val (.int p1), .val (.int p2), .val (.int p3), .val (.int p4), .val (.int cn), .val (.int ff), .val (.ref b1), .unset, .unset, .unset] [(.int ff), (.int (0 : Int32)), (.ref b12), (.ref b12)])) rfl rfl (hb hby at_35)
  have V16 : Arv Z h16 b12 k12 .short (11 : Int32) [(.int (nar .short ff)), (.int (0 : Int32)), (.int (0 : Int32)), (.int (0 : Int32)), (.int (0 : Int32)), (.int (0 : Int32)), (.int (0 : Int32)), (.int (0 : Int32)), (.int (0 : Int32)), (.int (0 : Int32)), (.int (0 : Int32))] (.int (0 : Int32)) := Arv.set Ar15 q15 S15 Nn15 H15 G15 (fits_nar_short _) W16 0 rfl (Nat.le_of_ble_eq_true rfl)
  have f17 := f13.other W16 ne_b1_b12
  have z18 : n0 ≤ h16.size := Nat.le_trans z14 (Keep.of_wr W16).1
  have N16 := Fr.snoc X16 N10 g_b12
  refine Goes.on (B := T16.setTop (mkF m 36 #[.val (.int p0), .val (.int p1), .val (.int p2), .val (.int p3), .val (.int p4), .val (.int cn), .val (.int ff), .val (.ref b1), .unset, .unset, .unset] [(.ref b12)])) (fun t k => st16 t k) ?_
  refine Goes.on (B := T16.setTop (mkF m 37 #[.val (.int p0), .val (.int p1), .val (.int p2), .val (.int p3), .val (.int p4), .val (.int cn), .val (.int ff), .val (.ref b1), .unset, .unset, .unset] [(.ref b12), (.ref b12)])) (fun _ k => XS.dup X16.here hx rfl (hb hby at_36) rfl rfl k) ?_
  refine Goes.on (B := T16.setTop (mkF m 38 #[.val (.int p0), .val (.int p1), .val (.int p2), .val (.int p3), .val (.int p4), .val (.int cn), .val (.int ff), .val (.ref b1), .unset, .unset, .unset] [(.int (1 : Int32)), (.ref b12), (.ref b12)])) (fun _ k => XS.iconst X16.here hx rfl (hb hby at_37) k) ?_
  refine Goes.on (B := T16.setTop (mkF m 40 #[.val (.int p0), .val (.int p1), .val (.int p2), .val (.int p3), .val (.int p4), .val (.int cn), .val (.int ff), .val (.ref b1), .unset, .unset, .unset] [(.int ff), (.int (1 : Int32)), (.ref b12), (.ref b12)])) (fun _ k => XS.iload X16.here hx rfl (hb hby at_38) rfl  k) ?_
  obtain ⟨cl19, Ar19, q19, S19, Nn19, H19, G19⟩ := id V16
  have hin19 : ¬ ((1 : Int32) < 0 ∨ cl19.slots.size ≤ ((1 : Int32)).toNatClampNeg) := inb_of S19 ⟨by decide, by decide⟩
  obtain ⟨T20, h20, X20, e20, W20, st20⟩ := stS X16 hx hZ e16 Ar19 (j := (1 : Int32)) hin19 (g := (mkF m 40 #[.val (.int p0), .val (.int p1), .val (.int p2), .val (.int p3), .val (.int p4), .val (.int cn), .val (.int ff), .val (.ref b1), .unset, .unset, .unset] [(.int ff), (.int (1 : Int32)), (.ref b12), (.ref b12)])) rfl rfl (hb hby at_40)
  have V20 : Arv Z h20 b12 k12 .short (11 : Int32) [(.int (nar .short ff)), (.int (nar .short ff)), (.int (0 : Int32)), (.int (0 : Int32)), (.int (0 : Int32)), (.int (0 : Int32)), (.int (0 : Int32)), (.int (0 : Int32)), (.int (0 : Int32)), (.int (0 : Int32)), (.int (0 : Int32))] (.int (0 : Int32)) := Arv.set Ar19 q19 S19 Nn19 H19 G19 (fits_nar_short _) W20 1 rfl (Nat.le_of_ble_eq_true rfl)
  have f21 := f17.other W20 ne_b1_b12
  have z22 : n0 ≤ h20.size := Nat.le_trans z18 (Keep.of_wr W20).1
  have N20 := Fr.snoc X20 N16 g_b12
  refine Goes.on (B := T20.setTop (mkF m 41 #[.val (.int p0), .val (.int p1), .val (.int p2), .val (.int p3), .val (.int p4), .val (.int cn), .val (.int ff), .val (.ref b1), .unset, .unset, .unset] [(.ref b12)])) (fun t k => st20 t k) ?_
  refine Goes.on (B := T20.setTop (mkF m 42 #[.val (.int p0), .val (.int p1), .val (.int p2), .val (.int p3), .val (.int p4), .val (.int cn), .val (.int ff), .val (.ref b1), .unset, .unset, .unset] [(.ref b12), (.ref b12)])) (fun _ k => XS.dup X20.here hx rfl (hb hby at_41) rfl rfl k) ?_
  refine Goes.on (B := T20.setTop (mkF m 43 #[.val (.int p0), .val (.int p1), .val (.int p2), .val (.int p3), .val (.int p4), .val (.int cn), .val (.int ff), .val (.ref b1), .unset, .unset, .unset] [(.int (2 : Int32)), (.ref b12), (.ref b12)])) (fun _ k => XS.iconst X20.here hx rfl (hb hby at_42) k) ?_
  refine Goes.on (B := T20.setTop (mkF m 45 #[.val (.int p0), .val (.int p1), .val (.int p2), .val (.int p3), .val (.int p4), .val (.int cn), .val (.int ff), .val (.ref b1), .unset, .unset, .unset] [(.int ff), (.int (2 : Int32)), (.ref b12), (.ref b12)])) (fun _ k => XS.iload X20.here hx rfl (hb hby at_43) rfl  k) ?_
  obtain ⟨cl23, Ar23, q23, S23, Nn23, H23, G23⟩ := id V20
  have hin23 : ¬ ((2 : Int32) < 0 ∨ cl23.slots.size ≤ ((2 : Int32)).toNatClampNeg) := inb_of S23 ⟨by decide, by decide⟩
  obtain ⟨T24, h24, X24, e24, W24, st24⟩ := stS X20 hx hZ e20 Ar23 (j := (2 : Int32)) hin23 (g := (mkF m 45 #[.val (.int p0), .val (.int p1), .val (.int p2), .val (.int p3), .val (.int p4), .val (.int cn), .val (.int ff), .val (.ref b1), .unset, .unset, .unset] [(.int ff), (.int (2 : Int32)), (.ref b12), (.ref b12)])) rfl rfl (hb hby at_45)
  have V24 : Arv Z h24 b12 k12 .short (11 : Int32) [(.int (nar .short ff)), (.int (nar .short ff)), (.int (nar .short ff)), (.int (0 : Int32)), (.int (0 : Int32)), (.int (0 : Int32)), (.int (0 : Int32)), (.int (0 : Int32)), (.int (0 : Int32)), (.int (0 : Int32)), (.int (0 : Int32))] (.int (0 : Int32)) := Arv.set Ar23 q23 S23 Nn23 H23 G23 (fits_nar_short _) W24 2 rfl (Nat.le_of_ble_eq_true rfl)
  have f25 := f21.other W24 ne_b1_b12
  have z26 : n0 ≤ h24.size := Nat.le_trans z22 (Keep.of_wr W24).1
  have N24 := Fr.snoc X24 N20 g_b12
  refine Goes.on (B := T24.setTop (mkF m 46 #[.val (.int p0), .val (.int p1), .val (.int p2), .val (.int p3), .val (.int p4), .val (.int cn), .val (.int ff), .val (.ref b1), .unset, .unset, .unset] [(.ref b12)])) (fun t k => st24 t k) ?_
  refine Goes.on (B := T24.setTop (mkF m 47 #[.val (.int p0), .val (.int p1), .val (.int p2), .val (.int p3), .val (.int p4), .val (.int cn), .val (.int ff), .val (.ref b1), .unset, .unset, .unset] [(.ref b12), (.ref b12)])) (fun _ k => XS.dup X24.here hx rfl (hb hby at_46) rfl rfl k) ?_
  refine Goes.on (B := T24.setTop (mkF m 48 #[.val (.int p0), .val (.int p1), .val (.int p2), .val (.int p3), .val (.int p4), .val (.int cn), .val (.int ff), .val (.ref b1), .unset, .unset, .unset] [(.int (3 : Int32)), (.ref b12), (.ref b12)])) (fun _ k => XS.iconst X24.here hx rfl (hb hby at_47) k) ?_
  refine Goes.on (B := T24.setTop (mkF m 50 #[.val (.int p0), .val (.int p1), .val (.int p2), .val (.int p3), .val (.int p4), .val (.int cn), .val (.int ff), .val (.ref b1), .unset, .unset, .unset] [(.int ff), (.int (3 : Int32)), (.ref b12), (.ref b12)])) (fun _ k => XS.iload X24.here hx rfl (hb hby at_48) rfl  k) ?_
  obtain ⟨cl27, Ar27, q27, S27, Nn27, H27, G27⟩ := id V24
  have hin27 : ¬ ((3 : Int32) < 0 ∨ cl27.slots.size ≤ ((3 : Int32)).toNatClampNeg) := inb_of S27 ⟨by decide, by decide⟩
  obtain ⟨T28, h28, X28, e28, W28, st28⟩ := stS X24 hx hZ e24 Ar27 (j := (3 : Int32)) hin27 (g := (mkF m 50 #[.val (.int p0), .val (.int p1), .val (.int p2), .val (.int p3), .val (.int p4), .val (.int cn), .val (.int ff), .val (.ref b1), .unset, .unset, .unset] [(.int ff), (.int (3 : Int32)), (.ref b12), (.ref b12)])) rfl rfl (hb hby at_50)
  have V28 : Arv Z h28 b12 k12 .short (11 : Int32) [(.int (nar .short ff)), (.int (nar .short ff)), (.int (nar .short ff)), (.int (nar .short ff)), (.int (0 : Int32)), (.int (0 : Int32)), (.int (0 : Int32)), (.int (0 : Int32)), (.int (0 : Int32)), (.int (0 : Int32)), (.int (0 : Int32))] (.int (0 : Int32)) := Arv.set Ar27 q27 S27 Nn27 H27 G27 (fits_nar_short _) W28 3 rfl (Nat.le_of_ble_eq_true rfl)
  have f29 := f25.other W28 ne_b1_b12
  have z30 : n0 ≤ h28.size := Nat.le_trans z26 (Keep.of_wr W28).1
  have N28 := Fr.snoc X28 N24 g_b12
  refine Goes.on (B := T28.setTop (mkF m 51 #[.val (.int p0), .val (.int p1), .val (.int p2), .val (.int p3), .val (.int p4), .val (.int cn), .val (.int ff), .val (.ref b1), .unset, .unset, .unset] [(.ref b12)])) (fun t k => st28 t k) ?_
  refine Goes.on (B := T28.setTop (mkF m 52 #[.val (.int p0), .val (.int p1), .val (.int p2), .val (.int p3), .val (.int p4), .val (.int cn), .val (.int ff), .val (.ref b1), .unset, .unset, .unset] [(.ref b12), (.ref b12)])) (fun _ k => XS.dup X28.here hx rfl (hb hby at_51) rfl rfl k) ?_
  refine Goes.on (B := T28.setTop (mkF m 53 #[.val (.int p0), .val (.int p1), .val (.int p2), .val (.int p3), .val (.int p4), .val (.int cn), .val (.int ff), .val (.ref b1), .unset, .unset, .unset] [(.int (4 : Int32)), (.ref b12), (.ref b12)])) (fun _ k => XS.iconst X28.here hx rfl (hb hby at_52) k) ?_
  refine Goes.on (B := T28.setTop (mkF m 55 #[.val (.int p0), .val (.int p1), .val (.int p2), .val (.int p3), .val (.int p4), .val (.int cn), .val (.int ff), .val (.ref b1), .unset, .unset, .unset] [(.int ff), (.int (4 : Int32)), (.ref b12), (.ref b12)])) (fun _ k => XS.iload X28.here hx rfl (hb hby at_53) rfl  k) ?_
  obtain ⟨cl31, Ar31, q31, S31, Nn31, H31, G31⟩ := id V28
  have hin31 : ¬ ((4 : Int32) < 0 ∨ cl31.slots.size ≤ ((4 : Int32)).toNatClampNeg) := inb_of S31 ⟨by decide, by decide⟩
  obtain ⟨T32, h32, X32, e32, W32, st32⟩ := stS X28 hx hZ e28 Ar31 (j := (4 : Int32)) hin31 (g := (mkF m 55 #[.val (.int p0), .val (.int p1), .val (.int p2), .val (.int p3), .val (.int p4), .val (.int cn), .val (.int ff), .val (.ref b1), .unset, .unset, .unset] [(.int ff), (.int (4 : Int32)), (.ref b12), (.ref b12)])) rfl rfl (hb hby at_55)
  have V32 : Arv Z h32 b12 k12 .short (11 : Int32) [(.int (nar .short ff)), (.int (nar .short ff)), (.int (nar .short ff)), (.int (nar .short ff)), (.int (nar .short ff)), (.int (0 : Int32)), (.int (0 : Int32)), (.int (0 : Int32)), (.int (0 : Int32)), (.int (0 : Int32)), (.int (0 : Int32))] (.int (0 : Int32)) := Arv.set Ar31 q31 S31 Nn31 H31 G31 (fits_nar_short _) W32 4 rfl (Nat.le_of_ble_eq_true rfl)
  have f33 := f29.other W32 ne_b1_b12
  have z34 : n0 ≤ h32.size := Nat.le_trans z30 (Keep.of_wr W32).1
  have N32 := Fr.snoc X32 N28 g_b12
  refine Goes.on (B := T32.setTop (mkF m 56 #[.val (.int p0), .val (.int p1), .val (.int p2), .val (.int p3), .val (.int p4), .val (.int cn), .val (.int ff), .val (.ref b1), .unset, .unset, .unset] [(.ref b12)])) (fun t k => st32 t k) ?_
  refine Goes.on (B := T32.setTop (mkF m 57 #[.val (.int p0), .val (.int p1), .val (.int p2), .val (.int p3), .val (.int p4), .val (.int cn), .val (.int ff), .val (.ref b1), .unset, .unset, .unset] [(.ref b12), (.ref b12)])) (fun _ k => XS.dup X32.here hx rfl (hb hby at_56) rfl rfl k) ?_
  refine Goes.on (B := T32.setTop (mkF m 58 #[.val (.int p0), .val (.int p1), .val (.int p2), .val (.int p3), .val (.int p4), .val (.int cn), .val (.int ff), .val (.ref b1), .unset, .unset, .unset] [(.int (5 : Int32)), (.ref b12), (.ref b12)])) (fun _ k => XS.iconst X32.here hx rfl (hb hby at_57) k) ?_
  refine Goes.on (B := T32.setTop (mkF m 60 #[.val (.int p0), .val (.int p1), .val (.int p2), .val (.int p3), .val (.int p4), .val (.int cn), .val (.int ff), .val (.ref b1), .unset, .unset, .unset] [(.int ff), (.int (5 : Int32)), (.ref b12), (.ref b12)])) (fun _ k => XS.iload X32.here hx rfl (hb hby at_58) rfl  k) ?_
  obtain ⟨cl35, Ar35, q35, S35, Nn35, H35, G35⟩ := id V32
  have hin35 : ¬ ((5 : Int32) < 0 ∨ cl35.slots.size ≤ ((5 : Int32)).toNatClampNeg) := inb_of S35 ⟨by decide, by decide⟩
  obtain ⟨T36, h36, X36, e36, W36, st36⟩ := stS X32 hx hZ e32 Ar35 (j := (5 : Int32)) hin35 (g := (mkF m 60 #[.val (.int p0), .val (.int p1), .val (.int p2), .val (.int p3), .val (.int p4), .val (.int cn), .val (.int ff), .val (.ref b1), .unset, .unset, .unset] [(.int ff), (.int (5 : Int32)), (.ref b12), (.ref b12)])) rfl rfl (hb hby at_60)
  have V36 : Arv Z h36 b12 k12 .short (11 : Int32) [(.int (nar .short ff)), (.int (nar .short ff)), (.int (nar .short ff)), (.int (nar .short ff)), (.int (nar .short ff)), (.int (nar .short ff)), (.int (0 : Int32)), (.int (0 : Int32)), (.int (0 : Int32)), (.int (0 : Int32)), (.int (0 : Int32))] (.int (0 : Int32)) := Arv.set Ar35 q35 S35 Nn35 H35 G35 (fits_nar_short _) W36 5 rfl (Nat.le_of_ble_eq_true rfl)
  have f37 := f33.other W36 ne_b1_b12
  have z38 : n0 ≤ h36.size := Nat.le_trans z34 (Keep.of_wr W36).1
  have N36 := Fr.snoc X36 N32 g_b12
  refine Goes.on (B := T36.setTop (mkF m 61 #[.val (.int p0), .val (.int p1), .val (.int p2), .val (.int p3), .val (.int p4), .val (.int cn), .val (.int ff), .val (.ref b1), .unset, .unset, .unset] [(.ref b12)])) (fun t k => st36 t k) ?_
  refine Goes.on (B := T36.setTop (mkF m 62 #[.val (.int p0), .val (.int p1), .val (.int p2), .val (.int p3), .val (.int p4), .val (.int cn), .val (.int ff), .val (.ref b1), .unset, .unset, .unset] [(.ref b12), (.ref b12)])) (fun _ k => XS.dup X36.here hx rfl (hb hby at_61) rfl rfl k) ?_
  refine Goes.on (B := T36.setTop (mkF m 64 #[.val (.int p0), .val (.int p1), .val (.int p2), .val (.int p3), .val (.int p4), .val (.int cn), .val (.int ff), .val (.ref b1), .unset, .unset, .unset] [(.int (6 : Int32)), (.ref b12), (.ref b12)])) (fun _ k => XS.bipush X36.here hx rfl (hb hby at_62) k) ?_
  refine Goes.on (B := T36.setTop (mkF m 66 #[.val (.int p0), .val (.int p1), .val (.int p2), .val (.int p3), .val (.int p4), .val (.int cn), .val (.int ff), .val (.ref b1), .unset, .unset, .unset] [(.int ff), (.int (6 : Int32)), (.ref b12), (.ref b12)])) (fun _ k => XS.iload X36.here hx rfl (hb hby at_64) rfl  k) ?_
  obtain ⟨cl39, Ar39, q39, S39, Nn39, H39, G39⟩ := id V36
  have hin39 : ¬ ((6 : Int32) < 0 ∨ cl39.slots.size ≤ ((6 : Int32)).toNatClampNeg) := inb_of S39 ⟨by decide, by decide⟩
  obtain ⟨T40, h40, X40, e40, W40, st40⟩ := stS X36 hx hZ e36 Ar39 (j := (6 : Int32)) hin39 (g := (mkF m 66 #[.val (.int p0), .val (.int p1), .val (.int p2), .val (.int p3), .val (.int p4), .val (.int cn), .val (.int ff), .val (.ref b1), .unset, .unset, .unset] [(.int ff), (.int (6 : Int32)), (.ref b12), (.ref b12)])) rfl rfl (hb hby at_66)
  have V40 : Arv Z h40 b12 k12 .short (11 : Int32) [(.int (nar .short ff)), (.int (nar .short ff)), (.int (nar .short ff)), (.int (nar .short ff)), (.int (nar .short ff)), (.int (nar .short ff)), (.int (nar .short ff)), (.int (0 : Int32)), (.int (0 : Int32)), (.int (0 : Int32)), (.int (0 : Int32))] (.int (0 : Int32)) := Arv.set Ar39 q39 S39 Nn39 H39 G39 (fits_nar_short _) W40 6 rfl (Nat.le_of_ble_eq_true rfl)
  have f41 := f37.other W40 ne_b1_b12
  have z42 : n0 ≤ h40.size := Nat.le_trans z38 (Keep.of_wr W40).1
  have N40 := Fr.snoc X40 N36 g_b12
  refine Goes.on (B := T40.setTop (mkF m 67 #[.val (.int p0), .val (.int p1), .val (.int p2), .val (.int p3), .val (.int p4), .val (.int cn), .val (.int ff), .val (.ref b1), .unset, .unset, .unset] [(.ref b12)])) (fun t k => st40 t k) ?_
  refine Goes.on (B := T40.setTop (mkF m 68 #[.val (.int p0), .val (.int p1), .val (.int p2), .val (.int p3), .val (.int p4), .val (.int cn), .val (.int ff), .val (.ref b1), .unset, .unset, .unset] [(.ref b12), (.ref b12)])) (fun _ k => XS.dup X40.here hx rfl (hb hby at_67) rfl rfl k) ?_
  refine Goes.on (B := T40.setTop (mkF m 70 #[.val (.int p0), .val (.int p1), .val (.int p2), .val (.int p3), .val (.int p4), .val (.int cn), .val (.int ff), .val (.ref b1), .unset, .unset, .unset] [(.int (7 : Int32)), (.ref b12), (.ref b12)])) (fun _ k => XS.bipush X40.here hx rfl (hb hby at_68) k) ?_
  refine Goes.on (B := T40.setTop (mkF m 72 #[.val (.int p0), .val (.int p1), .val (.int p2), .val (.int p3), .val (.int p4), .val (.int cn), .val (.int ff), .val (.ref b1), .unset, .unset, .unset] [(.int ff), (.int (7 : Int32)), (.ref b12), (.ref b12)])) (fun _ k => XS.iload X40.here hx rfl (hb hby at_70) rfl  k) ?_
  obtain ⟨cl43, Ar43, q43, S43, Nn43, H43, G43⟩ := id V40
  have hin43 : ¬ ((7 : Int32) < 0 ∨ cl43.slots.size ≤ ((7 : Int32)).toNatClampNeg) := inb_of S43 ⟨by decide, by decide⟩
  obtain ⟨T44, h44, X44, e44, W44, st44⟩ := stS X40 hx hZ e40 Ar43 (j := (7 : Int32)) hin43 (g := (mkF m 72 #[.val (.int p0), .val (.int p1), .val (.int p2), .val (.int p3), .val (.int p4), .val (.int cn), .val (.int ff), .val (.ref b1), .unset, .unset, .unset] [(.int ff), (.int (7 : Int32)), (.ref b12), (.ref b12)])) rfl rfl (hb hby at_72)
  have V44 : Arv Z h44 b12 k12 .short (11 : Int32) [(.int (nar .short ff)), (.int (nar .short ff)), (.int (nar .short ff)), (.int (nar .short ff)), (.int (nar .short ff)), (.int (nar .short ff)), (.int (nar .short ff)), (.int (nar .short ff)), (.int (0 : Int32)), (.int (0 : Int32)), (.int (0 : Int32))] (.int (0 : Int32)) := Arv.set Ar43 q43 S43 Nn43 H43 G43 (fits_nar_short _) W44 7 rfl (Nat.le_of_ble_eq_true rfl)
  have f45 := f41.other W44 ne_b1_b12
  have z46 : n0 ≤ h44.size := Nat.le_trans z42 (Keep.of_wr W44).1
  have N44 := Fr.snoc X44 N40 g_b12
  refine Goes.on (B := T44.setTop (mkF m 73 #[.val (.int p0), .val (.int p1), .val (.int p2), .val (.int p3), .val (.int p4), .val (.int cn), .val (.int ff), .val (.ref b1), .unset, .unset, .unset] [(.ref b12)])) (fun t k => st44 t k) ?_
  refine Goes.on (B := T44.setTop (mkF m 74 #[.val (.int p0), .val (.int p1), .val (.int p2), .val (.int p3), .val (.int p4), .val (.int cn), .val (.int ff), .val (.ref b1), .unset, .unset, .unset] [(.ref b12), (.ref b12)])) (fun _ k => XS.dup X44.here hx rfl (hb hby at_73) rfl rfl k) ?_
  refine Goes.on (B := T44.setTop (mkF m 76 #[.val (.int p0), .val (.int p1), .val (.int p2), .val (.int p3), .val (.int p4), .val (.int cn), .val (.int ff), .val (.ref b1), .unset, .unset, .unset] [(.int (8 : Int32)), (.ref b12), (.ref b12)])) (fun _ k => XS.bipush X44.here hx rfl (hb hby at_74) k) ?_
  refine Goes.on (B := T44.setTop (mkF m 78 #[.val (.int p0), .val (.int p1), .val (.int p2), .val (.int p3), .val (.int p4), .val (.int cn), .val (.int ff), .val (.ref b1), .unset, .unset, .unset] [(.int ff), (.int (8 : Int32)), (.ref b12), (.ref b12)])) (fun _ k => XS.iload X44.here hx rfl (hb hby at_76) rfl  k) ?_
  obtain ⟨cl47, Ar47, q47, S47, Nn47, H47, G47⟩ := id V44
  have hin47 : ¬ ((8 : Int32) < 0 ∨ cl47.slots.size ≤ ((8 : Int32)).toNatClampNeg) := inb_of S47 ⟨by decide, by decide⟩
  obtain ⟨T48, h48, X48, e48, W48, st48⟩ := stS X44 hx hZ e44 Ar47 (j := (8 : Int32)) hin47 (g := (mkF m 78 #[.val (.int p0), .val (.int p1), .val (.int p2), .val (.int p3), .val (.int p4), .val (.int cn), .val (.int ff), .val (.ref b1), .unset, .unset, .unset] [(.int ff), (.int (8 : Int32)), (.ref b12), (.ref b12)])) rfl rfl (hb hby at_78)
  have V48 : Arv Z h48 b12 k12 .short (11 : Int32) [(.int (nar .short ff)), (.int (nar .short ff)), (.int (nar .short ff)), (.int (nar .short ff)), (.int (nar .short ff)), (.int (nar .short ff)), (.int (nar .short ff)), (.int (nar .short ff)), (.int (nar .short ff)), (.int (0 : Int32)), (.int (0 : Int32))] (.int (0 : Int32)) := Arv.set Ar47 q47 S47 Nn47 H47 G47 (fits_nar_short _) W48 8 rfl (Nat.le_of_ble_eq_true rfl)
  have f49 := f45.other W48 ne_b1_b12
  have z50 : n0 ≤ h48.size := Nat.le_trans z46 (Keep.of_wr W48).1
  have N48 := Fr.snoc X48 N44 g_b12
  refine Goes.on (B := T48.setTop (mkF m 79 #[.val (.int p0), .val (.int p1), .val (.int p2), .val (.int p3), .val (.int p4), .val (.int cn), .val (.int ff), .val (.ref b1), .unset, .unset, .unset] [(.ref b12)])) (fun t k => st48 t k) ?_
  refine Goes.on (B := T48.setTop (mkF m 80 #[.val (.int p0), .val (.int p1), .val (.int p2), .val (.int p3), .val (.int p4), .val (.int cn), .val (.int ff), .val (.ref b1), .unset, .unset, .unset] [(.ref b12), (.ref b12)])) (fun _ k => XS.dup X48.here hx rfl (hb hby at_79) rfl rfl k) ?_
  refine Goes.on (B := T48.setTop (mkF m 82 #[.val (.int p0), .val (.int p1), .val (.int p2), .val (.int p3), .val (.int p4), .val (.int cn), .val (.int ff), .val (.ref b1), .unset, .unset, .unset] [(.int (9 : Int32)), (.ref b12), (.ref b12)])) (fun _ k => XS.bipush X48.here hx rfl (hb hby at_80) k) ?_
  refine Goes.on (B := T48.setTop (mkF m 84 #[.val (.int p0), .val (.int p1), .val (.int p2), .val (.int p3), .val (.int p4), .val (.int cn), .val (.int ff), .val (.ref b1), .unset, .unset, .unset] [(.int ff), (.int (9 : Int32)), (.ref b12), (.ref b12)])) (fun _ k => XS.iload X48.here hx rfl (hb hby at_82) rfl  k) ?_
  obtain ⟨cl51, Ar51, q51, S51, Nn51, H51, G51⟩ := id V48
  have hin51 : ¬ ((9 : Int32) < 0 ∨ cl51.slots.size ≤ ((9 : Int32)).toNatClampNeg) := inb_of S51 ⟨by decide, by decide⟩
  obtain ⟨T52, h52, X52, e52, W52, st52⟩ := stS X48 hx hZ e48 Ar51 (j := (9 : Int32)) hin51 (g := (mkF m 84 #[.val (.int p0), .val (.int p1), .val (.int p2), .val (.int p3), .val (.int p4), .val (.int cn), .val (.int ff), .val (.ref b1), .unset, .unset, .unset] [(.int ff), (.int (9 : Int32)), (.ref b12), (.ref b12)])) rfl rfl (hb hby at_84)
  have V52 : Arv Z h52 b12 k12 .short (11 : Int32) [(.int (nar .short ff)), (.int (nar .short ff)), (.int (nar .short ff)), (.int (nar .short ff)), (.int (nar .short ff)), (.int (nar .short ff)), (.int (nar .short ff)), (.int (nar .short ff)), (.int (nar .short ff)), (.int (nar .short ff)), (.int (0 : Int32))] (.int (0 : Int32)) := Arv.set Ar51 q51 S51 Nn51 H51 G51 (fits_nar_short _) W52 9 rfl (Nat.le_of_ble_eq_true rfl)
  have f53 := f49.other W52 ne_b1_b12
  have z54 : n0 ≤ h52.size := Nat.le_trans z50 (Keep.of_wr W52).1
  have N52 := Fr.snoc X52 N48 g_b12
  refine Goes.on (B := T52.setTop (mkF m 85 #[.val (.int p0), .val (.int p1), .val (.int p2), .val (.int p3), .val (.int p4), .val (.int cn), .val (.int ff), .val (.ref b1), .unset, .unset, .unset] [(.ref b12)])) (fun t k => st52 t k) ?_
  refine Goes.on (B := T52.setTop (mkF m 86 #[.val (.int p0), .val (.int p1), .val (.int p2), .val (.int p3), .val (.int p4), .val (.int cn), .val (.int ff), .val (.ref b1), .unset, .unset, .unset] [(.ref b12), (.ref b12)])) (fun _ k => XS.dup X52.here hx rfl (hb hby at_85) rfl rfl k) ?_
  refine Goes.on (B := T52.setTop (mkF m 88 #[.val (.int p0), .val (.int p1), .val (.int p2), .val (.int p3), .val (.int p4), .val (.int cn), .val (.int ff), .val (.ref b1), .unset, .unset, .unset] [(.int (10 : Int32)), (.ref b12), (.ref b12)])) (fun _ k => XS.bipush X52.here hx rfl (hb hby at_86) k) ?_
  refine Goes.on (B := T52.setTop (mkF m 90 #[.val (.int p0), .val (.int p1), .val (.int p2), .val (.int p3), .val (.int p4), .val (.int cn), .val (.int ff), .val (.ref b1), .unset, .unset, .unset] [(.int ff), (.int (10 : Int32)), (.ref b12), (.ref b12)])) (fun _ k => XS.iload X52.here hx rfl (hb hby at_88) rfl  k) ?_
  obtain ⟨cl55, Ar55, q55, S55, Nn55, H55, G55⟩ := id V52
  have hin55 : ¬ ((10 : Int32) < 0 ∨ cl55.slots.size ≤ ((10 : Int32)).toNatClampNeg) := inb_of S55 ⟨by decide, by decide⟩
  obtain ⟨T56, h56, X56, e56, W56, st56⟩ := stS X52 hx hZ e52 Ar55 (j := (10 : Int32)) hin55 (g := (mkF m 90 #[.val (.int p0), .val (.int p1), .val (.int p2), .val (.int p3), .val (.int p4), .val (.int cn), .val (.int ff), .val (.ref b1), .unset, .unset, .unset] [(.int ff), (.int (10 : Int32)), (.ref b12), (.ref b12)])) rfl rfl (hb hby at_90)
  have V56 : Arv Z h56 b12 k12 .short (11 : Int32) [(.int (nar .short ff)), (.int (nar .short ff)), (.int (nar .short ff)), (.int (nar .short ff)), (.int (nar .short ff)), (.int (nar .short ff)), (.int (nar .short ff)), (.int (nar .short ff)), (.int (nar .short ff)), (.int (nar .short ff)), (.int (nar .short ff))] (.int (0 : Int32)) := Arv.set Ar55 q55 S55 Nn55 H55 G55 (fits_nar_short _) W56 10 rfl (Nat.le_of_ble_eq_true rfl)
  have f57 := f53.other W56 ne_b1_b12
  have z58 : n0 ≤ h56.size := Nat.le_trans z54 (Keep.of_wr W56).1
  have N56 := Fr.snoc X56 N52 g_b12
  refine Goes.on (B := T56.setTop (mkF m 91 #[.val (.int p0), .val (.int p1), .val (.int p2), .val (.int p3), .val (.int p4), .val (.int cn), .val (.int ff), .val (.ref b1), .unset, .unset, .unset] [(.ref b12)])) (fun t k => st56 t k) ?_
  refine Goes.on (B := T56.setTop (mkF m 93 #[.val (.int p0), .val (.int p1), .val (.int p2), .val (.int p3), .val (.int p4), .val (.int cn), .val (.int ff), .val (.ref b1), .val (.ref b12), .unset, .unset] [])) (fun _ k => XS.astore X56.here hx rfl (hb hby at_91) rfl rfl (l' := #[.val (.int p0), .val (.int p1), .val (.int p2), .val (.int p3), .val (.int p4), .val (.int cn), .val (.int ff), .val (.ref b1), .val (.ref b12), .unset, .unset]) rfl k) ?_
  refine Goes.on (B := T56.setTop (mkF m 95 #[.val (.int p0), .val (.int p1), .val (.int p2), .val (.int p3), .val (.int p4), .val (.int cn), .val (.int ff), .val (.ref b1), .val (.ref b12), .unset, .unset] [(.int (11 : Int32))])) (fun _ k => XS.bipush X56.here hx rfl (hb hby at_93) k) ?_
  obtain ⟨T59, h59, k59, X59, e59, E59, A59, st59⟩ := newP X56 hx hZ (hw _ (List.mem_of_getElem? (i := 1) rfl)) e56 (g := (mkF m 95 #[.val (.int p0), .val (.int p1), .val (.int p2), .val (.int p3), .val (.int p4), .val (.int cn), .val (.int ff), .val (.ref b1), .val (.ref b12), .unset, .unset] [(.int (11 : Int32))])) rfl (hb hby at_95) rfl (by decide) (cap := 11) (by decide) (by decide) (by decide) (by decide)
  obtain ⟨b59, g59⟩ : ∃ z, z = h56.size := ⟨_, rfl⟩
  rw [← g59] at A59 st59
  have ne_b1_b59 : b1 ≠ b59 := Nat.ne_of_lt (Nat.lt_of_lt_of_le f57.lt (Nat.le_of_eq g59.symm))
  have ne_b12_b59 : b12 ≠ b59 := Nat.ne_of_lt (Nat.lt_of_lt_of_le V56.lt (Nat.le_of_eq g59.symm))
  have f60 := f57.ext E59
  have f61 := V56.ext E59
  have z62 : n0 ≤ h59.size := Nat.le_trans z58 E59.1
  have g_b59 : n0 ≤ b59 := Nat.le_trans z58 (Nat.le_of_eq g59.symm)
  have V59 : Arv Z h59 b59 k59 .short (11 : Int32) [(.int (0 : Int32)), (.int (0 : Int32)), (.int (0 : Int32)), (.int (0 : Int32)), (.int (0 : Int32)), (.int (0 : Int32)), (.int (0 : Int32)), (.int (0 : Int32)), (.int (0 : Int32)), (.int (0 : Int32)), (.int (0 : Int32))] (.int (0 : Int32)) := (Arv.new A59 (by decide)).pad (pad_rep [] (.int (0 : Int32)) 11)
  refine Goes.on (B := T59.setTop (mkF m 97 #[.val (.int p0), .val (.int p1), .val (.int p2), .val (.int p3), .val (.int p4), .val (.int cn), .val (.int ff), .val (.ref b1), .val (.ref b12), .unset, .unset] [(.ref b59)])) (fun t k => st59 t k) ?_
  refine Goes.on (B := T59.setTop (mkF m 98 #[.val (.int p0), .val (.int p1), .val (.int p2), .val (.int p3), .val (.int p4), .val (.int cn), .val (.int ff), .val (.ref b1), .val (.ref b12), .unset, .unset] [(.ref b59), (.ref b59)])) (fun _ k => XS.dup X59.here hx rfl (hb hby at_97) rfl rfl k) ?_
  refine Goes.on (B := T59.setTop (mkF m 99 #[.val (.int p0), .val (.int p1), .val (.int p2), .val (.int p3), .val (.int p4), .val (.int cn), .val (.int ff), .val (.ref b1), .val (.ref b12), .unset, .unset] [(.int (0 : Int32)), (.ref b59), (.ref b59)])) (fun _ k => XS.iconst X59.here hx rfl (hb hby at_98) k) ?_
  refine Goes.on (B := T59.setTop (mkF m 101 #[.val (.int p0), .val (.int p1), .val (.int p2), .val (.int p3), .val (.int p4), .val (.int cn), .val (.int ff), .val (.ref b1), .val (.ref b12), .unset, .unset] [(.int ff), (.int (0 : Int32)), (.ref b59), (.ref b59)])) (fun _ k => XS.iload X59.here hx rfl (hb hby at_99) rfl  k) ?_
  obtain ⟨cl63, Ar63, q63, S63, Nn63, H63, G63⟩ := id V59
  have hin63 : ¬ ((0 : Int32) < 0 ∨ cl63.slots.size ≤ ((0 : Int32)).toNatClampNeg) := inb_of S63 ⟨by decide, by decide⟩
  obtain ⟨T64, h64, X64, e64, W64, st64⟩ := stS X59 hx hZ e59 Ar63 (j := (0 : Int32)) hin63 (g := (mkF m 101 #[.val (.int p0), .val (.int p1), .val (.int p2), .val (.int p3), .val (.int p4), .val (.int cn), .val (.int ff), .val (.ref b1), .val (.ref b12), .unset, .unset] [(.int ff), (.int (0 : Int32)), (.ref b59), (.ref b59)])) rfl rfl (hb hby at_101)
  have V64 : Arv Z h64 b59 k59 .short (11 : Int32) [(.int (nar .short ff)), (.int (0 : Int32)), (.int (0 : Int32)), (.int (0 : Int32)), (.int (0 : Int32)), (.int (0 : Int32)), (.int (0 : Int32)), (.int (0 : Int32)), (.int (0 : Int32)), (.int (0 : Int32)), (.int (0 : Int32))] (.int (0 : Int32)) := Arv.set Ar63 q63 S63 Nn63 H63 G63 (fits_nar_short _) W64 0 rfl (Nat.le_of_ble_eq_true rfl)
  have f65 := f60.other W64 ne_b1_b59
  have f66 := f61.other W64 ne_b12_b59
  have z67 : n0 ≤ h64.size := Nat.le_trans z62 (Keep.of_wr W64).1
  have N64 := Fr.snoc X64 N56 g_b59
  refine Goes.on (B := T64.setTop (mkF m 102 #[.val (.int p0), .val (.int p1), .val (.int p2), .val (.int p3), .val (.int p4), .val (.int cn), .val (.int ff), .val (.ref b1), .val (.ref b12), .unset, .unset] [(.ref b59)])) (fun t k => st64 t k) ?_
  refine Goes.on (B := T64.setTop (mkF m 103 #[.val (.int p0), .val (.int p1), .val (.int p2), .val (.int p3), .val (.int p4), .val (.int cn), .val (.int ff), .val (.ref b1), .val (.ref b12), .unset, .unset] [(.ref b59), (.ref b59)])) (fun _ k => XS.dup X64.here hx rfl (hb hby at_102) rfl rfl k) ?_
  refine Goes.on (B := T64.setTop (mkF m 104 #[.val (.int p0), .val (.int p1), .val (.int p2), .val (.int p3), .val (.int p4), .val (.int cn), .val (.int ff), .val (.ref b1), .val (.ref b12), .unset, .unset] [(.int (1 : Int32)), (.ref b59), (.ref b59)])) (fun _ k => XS.iconst X64.here hx rfl (hb hby at_103) k) ?_
  refine Goes.on (B := T64.setTop (mkF m 106 #[.val (.int p0), .val (.int p1), .val (.int p2), .val (.int p3), .val (.int p4), .val (.int cn), .val (.int ff), .val (.ref b1), .val (.ref b12), .unset, .unset] [(.int ff), (.int (1 : Int32)), (.ref b59), (.ref b59)])) (fun _ k => XS.iload X64.here hx rfl (hb hby at_104) rfl  k) ?_
  obtain ⟨cl68, Ar68, q68, S68, Nn68, H68, G68⟩ := id V64
  have hin68 : ¬ ((1 : Int32) < 0 ∨ cl68.slots.size ≤ ((1 : Int32)).toNatClampNeg) := inb_of S68 ⟨by decide, by decide⟩
  obtain ⟨T69, h69, X69, e69, W69, st69⟩ := stS X64 hx hZ e64 Ar68 (j := (1 : Int32)) hin68 (g := (mkF m 106 #[.val (.int p0), .val (.int p1), .val (.int p2), .val (.int p3), .val (.int p4), .val (.int cn), .val (.int ff), .val (.ref b1), .val (.ref b12), .unset, .unset] [(.int ff), (.int (1 : Int32)), (.ref b59), (.ref b59)])) rfl rfl (hb hby at_106)
  have V69 : Arv Z h69 b59 k59 .short (11 : Int32) [(.int (nar .short ff)), (.int (nar .short ff)), (.int (0 : Int32)), (.int (0 : Int32)), (.int (0 : Int32)), (.int (0 : Int32)), (.int (0 : Int32)), (.int (0 : Int32)), (.int (0 : Int32)), (.int (0 : Int32)), (.int (0 : Int32))] (.int (0 : Int32)) := Arv.set Ar68 q68 S68 Nn68 H68 G68 (fits_nar_short _) W69 1 rfl (Nat.le_of_ble_eq_true rfl)
  have f70 := f65.other W69 ne_b1_b59
  have f71 := f66.other W69 ne_b12_b59
  have z72 : n0 ≤ h69.size := Nat.le_trans z67 (Keep.of_wr W69).1
  have N69 := Fr.snoc X69 N64 g_b59
  refine Goes.on (B := T69.setTop (mkF m 107 #[.val (.int p0), .val (.int p1), .val (.int p2), .val (.int p3), .val (.int p4), .val (.int cn), .val (.int ff), .val (.ref b1), .val (.ref b12), .unset, .unset] [(.ref b59)])) (fun t k => st69 t k) ?_
  refine Goes.on (B := T69.setTop (mkF m 108 #[.val (.int p0), .val (.int p1), .val (.int p2), .val (.int p3), .val (.int p4), .val (.int cn), .val (.int ff), .val (.ref b1), .val (.ref b12), .unset, .unset] [(.ref b59), (.ref b59)])) (fun _ k => XS.dup X69.here hx rfl (hb hby at_107) rfl rfl k) ?_
  refine Goes.on (B := T69.setTop (mkF m 109 #[.val (.int p0), .val (.int p1), .val (.int p2), .val (.int p3), .val (.int p4), .val (.int cn), .val (.int ff), .val (.ref b1), .val (.ref b12), .unset, .unset] [(.int (2 : Int32)), (.ref b59), (.ref b59)])) (fun _ k => XS.iconst X69.here hx rfl (hb hby at_108) k) ?_
  refine Goes.on (B := T69.setTop (mkF m 111 #[.val (.int p0), .val (.int p1), .val (.int p2), .val (.int p3), .val (.int p4), .val (.int cn), .val (.int ff), .val (.ref b1), .val (.ref b12), .unset, .unset] [(.int ff), (.int (2 : Int32)), (.ref b59), (.ref b59)])) (fun _ k => XS.iload X69.here hx rfl (hb hby at_109) rfl  k) ?_
  obtain ⟨cl73, Ar73, q73, S73, Nn73, H73, G73⟩ := id V69
  have hin73 : ¬ ((2 : Int32) < 0 ∨ cl73.slots.size ≤ ((2 : Int32)).toNatClampNeg) := inb_of S73 ⟨by decide, by decide⟩
  obtain ⟨T74, h74, X74, e74, W74, st74⟩ := stS X69 hx hZ e69 Ar73 (j := (2 : Int32)) hin73 (g := (mkF m 111 #[.val (.int p0), .val (.int p1), .val (.int p2), .val (.int p3), .val (.int p4), .val (.int cn), .val (.int ff), .val (.ref b1), .val (.ref b12), .unset, .unset] [(.int ff), (.int (2 : Int32)), (.ref b59), (.ref b59)])) rfl rfl (hb hby at_111)
  have V74 : Arv Z h74 b59 k59 .short (11 : Int32) [(.int (nar .short ff)), (.int (nar .short ff)), (.int (nar .short ff)), (.int (0 : Int32)), (.int (0 : Int32)), (.int (0 : Int32)), (.int (0 : Int32)), (.int (0 : Int32)), (.int (0 : Int32)), (.int (0 : Int32)), (.int (0 : Int32))] (.int (0 : Int32)) := Arv.set Ar73 q73 S73 Nn73 H73 G73 (fits_nar_short _) W74 2 rfl (Nat.le_of_ble_eq_true rfl)
  have f75 := f70.other W74 ne_b1_b59
  have f76 := f71.other W74 ne_b12_b59
  have z77 : n0 ≤ h74.size := Nat.le_trans z72 (Keep.of_wr W74).1
  have N74 := Fr.snoc X74 N69 g_b59
  refine Goes.on (B := T74.setTop (mkF m 112 #[.val (.int p0), .val (.int p1), .val (.int p2), .val (.int p3), .val (.int p4), .val (.int cn), .val (.int ff), .val (.ref b1), .val (.ref b12), .unset, .unset] [(.ref b59)])) (fun t k => st74 t k) ?_
  refine Goes.on (B := T74.setTop (mkF m 113 #[.val (.int p0), .val (.int p1), .val (.int p2), .val (.int p3), .val (.int p4), .val (.int cn), .val (.int ff), .val (.ref b1), .val (.ref b12), .unset, .unset] [(.ref b59), (.ref b59)])) (fun _ k => XS.dup X74.here hx rfl (hb hby at_112) rfl rfl k) ?_
  refine Goes.on (B := T74.setTop (mkF m 114 #[.val (.int p0), .val (.int p1), .val (.int p2), .val (.int p3), .val (.int p4), .val (.int cn), .val (.int ff), .val (.ref b1), .val (.ref b12), .unset, .unset] [(.int (3 : Int32)), (.ref b59), (.ref b59)])) (fun _ k => XS.iconst X74.here hx rfl (hb hby at_113) k) ?_
  refine Goes.on (B := T74.setTop (mkF m 116 #[.val (.int p0), .val (.int p1), .val (.int p2), .val (.int p3), .val (.int p4), .val (.int cn), .val (.int ff), .val (.ref b1), .val (.ref b12), .unset, .unset] [(.int ff), (.int (3 : Int32)), (.ref b59), (.ref b59)])) (fun _ k => XS.iload X74.here hx rfl (hb hby at_114) rfl  k) ?_
  obtain ⟨cl78, Ar78, q78, S78, Nn78, H78, G78⟩ := id V74
  have hin78 : ¬ ((3 : Int32) < 0 ∨ cl78.slots.size ≤ ((3 : Int32)).toNatClampNeg) := inb_of S78 ⟨by decide, by decide⟩
  obtain ⟨T79, h79, X79, e79, W79, st79⟩ := stS X74 hx hZ e74 Ar78 (j := (3 : Int32)) hin78 (g := (mkF m 116 #[.val (.int p0), .val (.int p1), .val (.int p2), .val (.int p3), .val (.int p4), .val (.int cn), .val (.int ff), .val (.ref b1), .val (.ref b12), .unset, .unset] [(.int ff), (.int (3 : Int32)), (.ref b59), (.ref b59)])) rfl rfl (hb hby at_116)
  have V79 : Arv Z h79 b59 k59 .short (11 : Int32) [(.int (nar .short ff)), (.int (nar .short ff)), (.int (nar .short ff)), (.int (nar .short ff)), (.int (0 : Int32)), (.int (0 : Int32)), (.int (0 : Int32)), (.int (0 : Int32)), (.int (0 : Int32)), (.int (0 : Int32)), (.int (0 : Int32))] (.int (0 : Int32)) := Arv.set Ar78 q78 S78 Nn78 H78 G78 (fits_nar_short _) W79 3 rfl (Nat.le_of_ble_eq_true rfl)
  have f80 := f75.other W79 ne_b1_b59
  have f81 := f76.other W79 ne_b12_b59
  have z82 : n0 ≤ h79.size := Nat.le_trans z77 (Keep.of_wr W79).1
  have N79 := Fr.snoc X79 N74 g_b59
  refine Goes.on (B := T79.setTop (mkF m 117 #[.val (.int p0), .val (.int p1), .val (.int p2), .val (.int p3), .val (.int p4), .val (.int cn), .val (.int ff), .val (.ref b1), .val (.ref b12), .unset, .unset] [(.ref b59)])) (fun t k => st79 t k) ?_
  refine Goes.on (B := T79.setTop (mkF m 118 #[.val (.int p0), .val (.int p1), .val (.int p2), .val (.int p3), .val (.int p4), .val (.int cn), .val (.int ff), .val (.ref b1), .val (.ref b12), .unset, .unset] [(.ref b59), (.ref b59)])) (fun _ k => XS.dup X79.here hx rfl (hb hby at_117) rfl rfl k) ?_
  refine Goes.on (B := T79.setTop (mkF m 119 #[.val (.int p0), .val (.int p1), .val (.int p2), .val (.int p3), .val (.int p4), .val (.int cn), .val (.int ff), .val (.ref b1), .val (.ref b12), .unset, .unset] [(.int (4 : Int32)), (.ref b59), (.ref b59)])) (fun _ k => XS.iconst X79.here hx rfl (hb hby at_118) k) ?_
  refine Goes.on (B := T79.setTop (mkF m 121 #[.val (.int p0), .val (.int p1), .val (.int p2), .val (.int p3), .val (.int p4), .val (.int cn), .val (.int ff), .val (.ref b1), .val (.ref b12), .unset, .unset] [(.int ff), (.int (4 : Int32)), (.ref b59), (.ref b59)])) (fun _ k => XS.iload X79.here hx rfl (hb hby at_119) rfl  k) ?_
  obtain ⟨cl83, Ar83, q83, S83, Nn83, H83, G83⟩ := id V79
  have hin83 : ¬ ((4 : Int32) < 0 ∨ cl83.slots.size ≤ ((4 : Int32)).toNatClampNeg) := inb_of S83 ⟨by decide, by decide⟩
  obtain ⟨T84, h84, X84, e84, W84, st84⟩ := stS X79 hx hZ e79 Ar83 (j := (4 : Int32)) hin83 (g := (mkF m 121 #[.val (.int p0), .val (.int p1), .val (.int p2), .val (.int p3), .val (.int p4), .val (.int cn), .val (.int ff), .val (.ref b1), .val (.ref b12), .unset, .unset] [(.int ff), (.int (4 : Int32)), (.ref b59), (.ref b59)])) rfl rfl (hb hby at_121)
  have V84 : Arv Z h84 b59 k59 .short (11 : Int32) [(.int (nar .short ff)), (.int (nar .short ff)), (.int (nar .short ff)), (.int (nar .short ff)), (.int (nar .short ff)), (.int (0 : Int32)), (.int (0 : Int32)), (.int (0 : Int32)), (.int (0 : Int32)), (.int (0 : Int32)), (.int (0 : Int32))] (.int (0 : Int32)) := Arv.set Ar83 q83 S83 Nn83 H83 G83 (fits_nar_short _) W84 4 rfl (Nat.le_of_ble_eq_true rfl)
  have f85 := f80.other W84 ne_b1_b59
  have f86 := f81.other W84 ne_b12_b59
  have z87 : n0 ≤ h84.size := Nat.le_trans z82 (Keep.of_wr W84).1
  have N84 := Fr.snoc X84 N79 g_b59
  refine Goes.on (B := T84.setTop (mkF m 122 #[.val (.int p0), .val (.int p1), .val (.int p2), .val (.int p3), .val (.int p4), .val (.int cn), .val (.int ff), .val (.ref b1), .val (.ref b12), .unset, .unset] [(.ref b59)])) (fun t k => st84 t k) ?_
  refine Goes.on (B := T84.setTop (mkF m 123 #[.val (.int p0), .val (.int p1), .val (.int p2), .val (.int p3), .val (.int p4), .val (.int cn), .val (.int ff), .val (.ref b1), .val (.ref b12), .unset, .unset] [(.ref b59), (.ref b59)])) (fun _ k => XS.dup X84.here hx rfl (hb hby at_122) rfl rfl k) ?_
  refine Goes.on (B := T84.setTop (mkF m 124 #[.val (.int p0), .val (.int p1), .val (.int p2), .val (.int p3), .val (.int p4), .val (.int cn), .val (.int ff), .val (.ref b1), .val (.ref b12), .unset, .unset] [(.int (5 : Int32)), (.ref b59), (.ref b59)])) (fun _ k => XS.iconst X84.here hx rfl (hb hby at_123) k) ?_
  refine Goes.on (B := T84.setTop (mkF m 126 #[.val (.int p0), .val (.int p1), .val (.int p2), .val (.int p3), .val (.int p4), .val (.int cn), .val (.int ff), .val (.ref b1), .val (.ref b12), .unset, .unset] [(.int ff), (.int (5 : Int32)), (.ref b59), (.ref b59)])) (fun _ k => XS.iload X84.here hx rfl (hb hby at_124) rfl  k) ?_
  obtain ⟨cl88, Ar88, q88, S88, Nn88, H88, G88⟩ := id V84
  have hin88 : ¬ ((5 : Int32) < 0 ∨ cl88.slots.size ≤ ((5 : Int32)).toNatClampNeg) := inb_of S88 ⟨by decide, by decide⟩
  obtain ⟨T89, h89, X89, e89, W89, st89⟩ := stS X84 hx hZ e84 Ar88 (j := (5 : Int32)) hin88 (g := (mkF m 126 #[.val (.int p0), .val (.int p1), .val (.int p2), .val (.int p3), .val (.int p4), .val (.int cn), .val (.int ff), .val (.ref b1), .val (.ref b12), .unset, .unset] [(.int ff), (.int (5 : Int32)), (.ref b59), (.ref b59)])) rfl rfl (hb hby at_126)
  have V89 : Arv Z h89 b59 k59 .short (11 : Int32) [(.int (nar .short ff)), (.int (nar .short ff)), (.int (nar .short ff)), (.int (nar .short ff)), (.int (nar .short ff)), (.int (nar .short ff)), (.int (0 : Int32)), (.int (0 : Int32)), (.int (0 : Int32)), (.int (0 : Int32)), (.int (0 : Int32))] (.int (0 : Int32)) := Arv.set Ar88 q88 S88 Nn88 H88 G88 (fits_nar_short _) W89 5 rfl (Nat.le_of_ble_eq_true rfl)
  have f90 := f85.other W89 ne_b1_b59
  have f91 := f86.other W89 ne_b12_b59
  have z92 : n0 ≤ h89.size := Nat.le_trans z87 (Keep.of_wr W89).1
  have N89 := Fr.snoc X89 N84 g_b59
  refine Goes.on (B := T89.setTop (mkF m 127 #[.val (.int p0), .val (.int p1), .val (.int p2), .val (.int p3), .val (.int p4), .val (.int cn), .val (.int ff), .val (.ref b1), .val (.ref b12), .unset, .unset] [(.ref b59)])) (fun t k => st89 t k) ?_
  refine Goes.on (B := T89.setTop (mkF m 128 #[.val (.int p0), .val (.int p1), .val (.int p2), .val (.int p3), .val (.int p4), .val (.int cn), .val (.int ff), .val (.ref b1), .val (.ref b12), .unset, .unset] [(.ref b59), (.ref b59)])) (fun _ k => XS.dup X89.here hx rfl (hb hby at_127) rfl rfl k) ?_
  refine Goes.on (B := T89.setTop (mkF m 130 #[.val (.int p0), .val (.int p1), .val (.int p2), .val (.int p3), .val (.int p4), .val (.int cn), .val (.int ff), .val (.ref b1), .val (.ref b12), .unset, .unset] [(.int (6 : Int32)), (.ref b59), (.ref b59)])) (fun _ k => XS.bipush X89.here hx rfl (hb hby at_128) k) ?_
  refine Goes.on (B := T89.setTop (mkF m 132 #[.val (.int p0), .val (.int p1), .val (.int p2), .val (.int p3), .val (.int p4), .val (.int cn), .val (.int ff), .val (.ref b1), .val (.ref b12), .unset, .unset] [(.int ff), (.int (6 : Int32)), (.ref b59), (.ref b59)])) (fun _ k => XS.iload X89.here hx rfl (hb hby at_130) rfl  k) ?_
  obtain ⟨cl93, Ar93, q93, S93, Nn93, H93, G93⟩ := id V89
  have hin93 : ¬ ((6 : Int32) < 0 ∨ cl93.slots.size ≤ ((6 : Int32)).toNatClampNeg) := inb_of S93 ⟨by decide, by decide⟩
  obtain ⟨T94, h94, X94, e94, W94, st94⟩ := stS X89 hx hZ e89 Ar93 (j := (6 : Int32)) hin93 (g := (mkF m 132 #[.val (.int p0), .val (.int p1), .val (.int p2), .val (.int p3), .val (.int p4), .val (.int cn), .val (.int ff), .val (.ref b1), .val (.ref b12), .unset, .unset] [(.int ff), (.int (6 : Int32)), (.ref b59), (.ref b59)])) rfl rfl (hb hby at_132)
  have V94 : Arv Z h94 b59 k59 .short (11 : Int32) [(.int (nar .short ff)), (.int (nar .short ff)), (.int (nar .short ff)), (.int (nar .short ff)), (.int (nar .short ff)), (.int (nar .short ff)), (.int (nar .short ff)), (.int (0 : Int32)), (.int (0 : Int32)), (.int (0 : Int32)), (.int (0 : Int32))] (.int (0 : Int32)) := Arv.set Ar93 q93 S93 Nn93 H93 G93 (fits_nar_short _) W94 6 rfl (Nat.le_of_ble_eq_true rfl)
  have f95 := f90.other W94 ne_b1_b59
  have f96 := f91.other W94 ne_b12_b59
  have z97 : n0 ≤ h94.size := Nat.le_trans z92 (Keep.of_wr W94).1
  have N94 := Fr.snoc X94 N89 g_b59
  refine Goes.on (B := T94.setTop (mkF m 133 #[.val (.int p0), .val (.int p1), .val (.int p2), .val (.int p3), .val (.int p4), .val (.int cn), .val (.int ff), .val (.ref b1), .val (.ref b12), .unset, .unset] [(.ref b59)])) (fun t k => st94 t k) ?_
  refine Goes.on (B := T94.setTop (mkF m 134 #[.val (.int p0), .val (.int p1), .val (.int p2), .val (.int p3), .val (.int p4), .val (.int cn), .val (.int ff), .val (.ref b1), .val (.ref b12), .unset, .unset] [(.ref b59), (.ref b59)])) (fun _ k => XS.dup X94.here hx rfl (hb hby at_133) rfl rfl k) ?_
  refine Goes.on (B := T94.setTop (mkF m 136 #[.val (.int p0), .val (.int p1), .val (.int p2), .val (.int p3), .val (.int p4), .val (.int cn), .val (.int ff), .val (.ref b1), .val (.ref b12), .unset, .unset] [(.int (7 : Int32)), (.ref b59), (.ref b59)])) (fun _ k => XS.bipush X94.here hx rfl (hb hby at_134) k) ?_
  refine Goes.on (B := T94.setTop (mkF m 138 #[.val (.int p0), .val (.int p1), .val (.int p2), .val (.int p3), .val (.int p4), .val (.int cn), .val (.int ff), .val (.ref b1), .val (.ref b12), .unset, .unset] [(.int ff), (.int (7 : Int32)), (.ref b59), (.ref b59)])) (fun _ k => XS.iload X94.here hx rfl (hb hby at_136) rfl  k) ?_
  obtain ⟨cl98, Ar98, q98, S98, Nn98, H98, G98⟩ := id V94
  have hin98 : ¬ ((7 : Int32) < 0 ∨ cl98.slots.size ≤ ((7 : Int32)).toNatClampNeg) := inb_of S98 ⟨by decide, by decide⟩
  obtain ⟨T99, h99, X99, e99, W99, st99⟩ := stS X94 hx hZ e94 Ar98 (j := (7 : Int32)) hin98 (g := (mkF m 138 #[.val (.int p0), .val (.int p1), .val (.int p2), .val (.int p3), .val (.int p4), .val (.int cn), .val (.int ff), .val (.ref b1), .val (.ref b12), .unset, .unset] [(.int ff), (.int (7 : Int32)), (.ref b59), (.ref b59)])) rfl rfl (hb hby at_138)
  have V99 : Arv Z h99 b59 k59 .short (11 : Int32) [(.int (nar .short ff)), (.int (nar .short ff)), (.int (nar .short ff)), (.int (nar .short ff)), (.int (nar .short ff)), (.int (nar .short ff)), (.int (nar .short ff)), (.int (nar .short ff)), (.int (0 : Int32)), (.int (0 : Int32)), (.int (0 : Int32))] (.int (0 : Int32)) := Arv.set Ar98 q98 S98 Nn98 H98 G98 (fits_nar_short _) W99 7 rfl (Nat.le_of_ble_eq_true rfl)
  have f100 := f95.other W99 ne_b1_b59
  have f101 := f96.other W99 ne_b12_b59
  have z102 : n0 ≤ h99.size := Nat.le_trans z97 (Keep.of_wr W99).1
  have N99 := Fr.snoc X99 N94 g_b59
  refine Goes.on (B := T99.setTop (mkF m 139 #[.val (.int p0), .val (.int p1), .val (.int p2), .val (.int p3), .val (.int p4), .val (.int cn), .val (.int ff), .val (.ref b1), .val (.ref b12), .unset, .unset] [(.ref b59)])) (fun t k => st99 t k) ?_
  refine Goes.on (B := T99.setTop (mkF m 140 #[.val (.int p0), .val (.int p1), .val (.int p2), .val (.int p3), .val (.int p4), .val (.int cn), .val (.int ff), .val (.ref b1), .val (.ref b12), .unset, .unset] [(.ref b59), (.ref b59)])) (fun _ k => XS.dup X99.here hx rfl (hb hby at_139) rfl rfl k) ?_
  refine Goes.on (B := T99.setTop (mkF m 142 #[.val (.int p0), .val (.int p1), .val (.int p2), .val (.int p3), .val (.int p4), .val (.int cn), .val (.int ff), .val (.ref b1), .val (.ref b12), .unset, .unset] [(.int (8 : Int32)), (.ref b59), (.ref b59)])) (fun _ k => XS.bipush X99.here hx rfl (hb hby at_140) k) ?_
  refine Goes.on (B := T99.setTop (mkF m 144 #[.val (.int p0), .val (.int p1), .val (.int p2), .val (.int p3), .val (.int p4), .val (.int cn), .val (.int ff), .val (.ref b1), .val (.ref b12), .unset, .unset] [(.int ff), (.int (8 : Int32)), (.ref b59), (.ref b59)])) (fun _ k => XS.iload X99.here hx rfl (hb hby at_142) rfl  k) ?_
  obtain ⟨cl103, Ar103, q103, S103, Nn103, H103, G103⟩ := id V99
  have hin103 : ¬ ((8 : Int32) < 0 ∨ cl103.slots.size ≤ ((8 : Int32)).toNatClampNeg) := inb_of S103 ⟨by decide, by decide⟩
  obtain ⟨T104, h104, X104, e104, W104, st104⟩ := stS X99 hx hZ e99 Ar103 (j := (8 : Int32)) hin103 (g := (mkF m 144 #[.val (.int p0), .val (.int p1), .val (.int p2), .val (.int p3), .val (.int p4), .val (.int cn), .val (.int ff), .val (.ref b1), .val (.ref b12), .unset, .unset] [(.int ff), (.int (8 : Int32)), (.ref b59), (.ref b59)])) rfl rfl (hb hby at_144)
  have V104 : Arv Z h104 b59 k59 .short (11 : Int32) [(.int (nar .short ff)), (.int (nar .short ff)), (.int (nar .short ff)), (.int (nar .short ff)), (.int (nar .short ff)), (.int (nar .short ff)), (.int (nar .short ff)), (.int (nar .short ff)), (.int (nar .short ff)), (.int (0 : Int32)), (.int (0 : Int32))] (.int (0 : Int32)) := Arv.set Ar103 q103 S103 Nn103 H103 G103 (fits_nar_short _) W104 8 rfl (Nat.le_of_ble_eq_true rfl)
  have f105 := f100.other W104 ne_b1_b59
  have f106 := f101.other W104 ne_b12_b59
  have z107 : n0 ≤ h104.size := Nat.le_trans z102 (Keep.of_wr W104).1
  have N104 := Fr.snoc X104 N99 g_b59
  refine Goes.on (B := T104.setTop (mkF m 145 #[.val (.int p0), .val (.int p1), .val (.int p2), .val (.int p3), .val (.int p4), .val (.int cn), .val (.int ff), .val (.ref b1), .val (.ref b12), .unset, .unset] [(.ref b59)])) (fun t k => st104 t k) ?_
  refine Goes.on (B := T104.setTop (mkF m 146 #[.val (.int p0), .val (.int p1), .val (.int p2), .val (.int p3), .val (.int p4), .val (.int cn), .val (.int ff), .val (.ref b1), .val (.ref b12), .unset, .unset] [(.ref b59), (.ref b59)])) (fun _ k => XS.dup X104.here hx rfl (hb hby at_145) rfl rfl k) ?_
  refine Goes.on (B := T104.setTop (mkF m 148 #[.val (.int p0), .val (.int p1), .val (.int p2), .val (.int p3), .val (.int p4), .val (.int cn), .val (.int ff), .val (.ref b1), .val (.ref b12), .unset, .unset] [(.int (9 : Int32)), (.ref b59), (.ref b59)])) (fun _ k => XS.bipush X104.here hx rfl (hb hby at_146) k) ?_
  refine Goes.on (B := T104.setTop (mkF m 150 #[.val (.int p0), .val (.int p1), .val (.int p2), .val (.int p3), .val (.int p4), .val (.int cn), .val (.int ff), .val (.ref b1), .val (.ref b12), .unset, .unset] [(.int ff), (.int (9 : Int32)), (.ref b59), (.ref b59)])) (fun _ k => XS.iload X104.here hx rfl (hb hby at_148) rfl  k) ?_
  obtain ⟨cl108, Ar108, q108, S108, Nn108, H108, G108⟩ := id V104
  have hin108 : ¬ ((9 : Int32) < 0 ∨ cl108.slots.size ≤ ((9 : Int32)).toNatClampNeg) := inb_of S108 ⟨by decide, by decide⟩
  obtain ⟨T109, h109, X109, e109, W109, st109⟩ := stS X104 hx hZ e104 Ar108 (j := (9 : Int32)) hin108 (g := (mkF m 150 #[.val (.int p0), .val (.int p1), .val (.int p2), .val (.int p3), .val (.int p4), .val (.int cn), .val (.int ff), .val (.ref b1), .val (.ref b12), .unset, .unset] [(.int ff), (.int (9 : Int32)), (.ref b59), (.ref b59)])) rfl rfl (hb hby at_150)
  have V109 : Arv Z h109 b59 k59 .short (11 : Int32) [(.int (nar .short ff)), (.int (nar .short ff)), (.int (nar .short ff)), (.int (nar .short ff)), (.int (nar .short ff)), (.int (nar .short ff)), (.int (nar .short ff)), (.int (nar .short ff)), (.int (nar .short ff)), (.int (nar .short ff)), (.int (0 : Int32))] (.int (0 : Int32)) := Arv.set Ar108 q108 S108 Nn108 H108 G108 (fits_nar_short _) W109 9 rfl (Nat.le_of_ble_eq_true rfl)
  have f110 := f105.other W109 ne_b1_b59
  have f111 := f106.other W109 ne_b12_b59
  have z112 : n0 ≤ h109.size := Nat.le_trans z107 (Keep.of_wr W109).1
  have N109 := Fr.snoc X109 N104 g_b59
  refine Goes.on (B := T109.setTop (mkF m 151 #[.val (.int p0), .val (.int p1), .val (.int p2), .val (.int p3), .val (.int p4), .val (.int cn), .val (.int ff), .val (.ref b1), .val (.ref b12), .unset, .unset] [(.ref b59)])) (fun t k => st109 t k) ?_
  refine Goes.on (B := T109.setTop (mkF m 152 #[.val (.int p0), .val (.int p1), .val (.int p2), .val (.int p3), .val (.int p4), .val (.int cn), .val (.int ff), .val (.ref b1), .val (.ref b12), .unset, .unset] [(.ref b59), (.ref b59)])) (fun _ k => XS.dup X109.here hx rfl (hb hby at_151) rfl rfl k) ?_
  refine Goes.on (B := T109.setTop (mkF m 154 #[.val (.int p0), .val (.int p1), .val (.int p2), .val (.int p3), .val (.int p4), .val (.int cn), .val (.int ff), .val (.ref b1), .val (.ref b12), .unset, .unset] [(.int (10 : Int32)), (.ref b59), (.ref b59)])) (fun _ k => XS.bipush X109.here hx rfl (hb hby at_152) k) ?_
  refine Goes.on (B := T109.setTop (mkF m 156 #[.val (.int p0), .val (.int p1), .val (.int p2), .val (.int p3), .val (.int p4), .val (.int cn), .val (.int ff), .val (.ref b1), .val (.ref b12), .unset, .unset] [(.int ff), (.int (10 : Int32)), (.ref b59), (.ref b59)])) (fun _ k => XS.iload X109.here hx rfl (hb hby at_154) rfl  k) ?_
  obtain ⟨cl113, Ar113, q113, S113, Nn113, H113, G113⟩ := id V109
  have hin113 : ¬ ((10 : Int32) < 0 ∨ cl113.slots.size ≤ ((10 : Int32)).toNatClampNeg) := inb_of S113 ⟨by decide, by decide⟩
  obtain ⟨T114, h114, X114, e114, W114, st114⟩ := stS X109 hx hZ e109 Ar113 (j := (10 : Int32)) hin113 (g := (mkF m 156 #[.val (.int p0), .val (.int p1), .val (.int p2), .val (.int p3), .val (.int p4), .val (.int cn), .val (.int ff), .val (.ref b1), .val (.ref b12), .unset, .unset] [(.int ff), (.int (10 : Int32)), (.ref b59), (.ref b59)])) rfl rfl (hb hby at_156)
  have V114 : Arv Z h114 b59 k59 .short (11 : Int32) [(.int (nar .short ff)), (.int (nar .short ff)), (.int (nar .short ff)), (.int (nar .short ff)), (.int (nar .short ff)), (.int (nar .short ff)), (.int (nar .short ff)), (.int (nar .short ff)), (.int (nar .short ff)), (.int (nar .short ff)), (.int (nar .short ff))] (.int (0 : Int32)) := Arv.set Ar113 q113 S113 Nn113 H113 G113 (fits_nar_short _) W114 10 rfl (Nat.le_of_ble_eq_true rfl)
  have f115 := f110.other W114 ne_b1_b59
  have f116 := f111.other W114 ne_b12_b59
  have z117 : n0 ≤ h114.size := Nat.le_trans z112 (Keep.of_wr W114).1
  have N114 := Fr.snoc X114 N109 g_b59
  refine Goes.on (B := T114.setTop (mkF m 157 #[.val (.int p0), .val (.int p1), .val (.int p2), .val (.int p3), .val (.int p4), .val (.int cn), .val (.int ff), .val (.ref b1), .val (.ref b12), .unset, .unset] [(.ref b59)])) (fun t k => st114 t k) ?_
  refine Goes.on (B := T114.setTop (mkF m 159 #[.val (.int p0), .val (.int p1), .val (.int p2), .val (.int p3), .val (.int p4), .val (.int cn), .val (.int ff), .val (.ref b1), .val (.ref b12), .val (.ref b59), .unset] [])) (fun _ k => XS.astore X114.here hx rfl (hb hby at_157) rfl rfl (l' := #[.val (.int p0), .val (.int p1), .val (.int p2), .val (.int p3), .val (.int p4), .val (.int cn), .val (.int ff), .val (.ref b1), .val (.ref b12), .val (.ref b59), .unset]) rfl k) ?_
  refine Goes.on (B := T114.setTop (mkF m 160 #[.val (.int p0), .val (.int p1), .val (.int p2), .val (.int p3), .val (.int p4), .val (.int cn), .val (.int ff), .val (.ref b1), .val (.ref b12), .val (.ref b59), .unset] [(.int (2 : Int32))])) (fun _ k => XS.iconst X114.here hx rfl (hb hby at_159) k) ?_
  refine Goes.on (B := T114.setTop (mkF m 162 #[.val (.int p0), .val (.int p1), .val (.int p2), .val (.int p3), .val (.int p4), .val (.int cn), .val (.int ff), .val (.ref b1), .val (.ref b12), .val (.ref b59), .val (.int (2 : Int32))] [])) (fun _ k => XS.istore X114.here hx rfl (hb hby at_160) rfl (l' := #[.val (.int p0), .val (.int p1), .val (.int p2), .val (.int p3), .val (.int p4), .val (.int cn), .val (.int ff), .val (.ref b1), .val (.ref b12), .val (.ref b59), .val (.int (2 : Int32))]) rfl k) ?_
  rcases own_c hcn with rfl | rfl | rfl | rfl
  · refine Goes.on (B := T114.setTop (mkF m 164 #[.val (.int p0), .val (.int p1), .val (.int p2), .val (.int p3), .val (.int p4), .val (.int (0 : Int32)), .val (.int ff), .val (.ref b1), .val (.ref b12), .val (.ref b59), .val (.int (2 : Int32))] [(.int (0 : Int32))])) (fun _ k => XS.iload X114.here hx rfl (hb hby at_162) rfl  k) ?_
    refine Goes.on (B := T114.setTop (mkF m 165 #[.val (.int p0), .val (.int p1), .val (.int p2), .val (.int p3), .val (.int p4), .val (.int (0 : Int32)), .val (.int ff), .val (.ref b1), .val (.ref b12), .val (.ref b59), .val (.int (2 : Int32))] [(.int (1 : Int32)), (.int (0 : Int32))])) (fun _ k => XS.iconst X114.here hx rfl (hb hby at_164) k) ?_
    refine Goes.on (B := T114.setTop (mkF m 178 #[.val (.int p0), .val (.int p1), .val (.int p2), .val (.int p3), .val (.int p4), .val (.int (0 : Int32)), .val (.int ff), .val (.ref b1), .val (.ref b12), .val (.ref b59), .val (.int (2 : Int32))] [])) (fun _ k => XS.icmpYes X114.here hx rfl (pc0 := 165) (pc' := 178) rfl (hb hby at_165) rfl (tlt (by decide)).1 (by decide) (by decide) k) ?_
    refine Goes.on (B := T114.setTop (mkF m 180 #[.val (.int p0), .val (.int p1), .val (.int p2), .val (.int p3), .val (.int p4), .val (.int (0 : Int32)), .val (.int ff), .val (.ref b1), .val (.ref b12), .val (.ref b59), .val (.int (2 : Int32))] [(.int (0 : Int32))])) (fun _ k => XS.iload X114.here hx rfl (hb hby at_178) rfl  k) ?_
    refine Goes.on (B := T114.setTop (mkF m 181 #[.val (.int p0), .val (.int p1), .val (.int p2), .val (.int p3), .val (.int p4), .val (.int (0 : Int32)), .val (.int ff), .val (.ref b1), .val (.ref b12), .val (.ref b59), .val (.int (2 : Int32))] [(.int (2 : Int32)), (.int (0 : Int32))])) (fun _ k => XS.iconst X114.here hx rfl (hb hby at_180) k) ?_
    refine Goes.on (B := T114.setTop (mkF m 196 #[.val (.int p0), .val (.int p1), .val (.int p2), .val (.int p3), .val (.int p4), .val (.int (0 : Int32)), .val (.int ff), .val (.ref b1), .val (.ref b12), .val (.ref b59), .val (.int (2 : Int32))] [])) (fun _ k => XS.icmpYes X114.here hx rfl (pc0 := 181) (pc' := 196) rfl (hb hby at_181) rfl (tlt (by decide)).1 (by decide) (by decide) k) ?_
    refine Goes.on (B := T114.setTop (mkF m 198 #[.val (.int p0), .val (.int p1), .val (.int p2), .val (.int p3), .val (.int p4), .val (.int (0 : Int32)), .val (.int ff), .val (.ref b1), .val (.ref b12), .val (.ref b59), .val (.int (2 : Int32))] [(.int (0 : Int32))])) (fun _ k => XS.iload X114.here hx rfl (hb hby at_196) rfl  k) ?_
    refine Goes.on (B := T114.setTop (mkF m 199 #[.val (.int p0), .val (.int p1), .val (.int p2), .val (.int p3), .val (.int p4), .val (.int (0 : Int32)), .val (.int ff), .val (.ref b1), .val (.ref b12), .val (.ref b59), .val (.int (2 : Int32))] [(.int (3 : Int32)), (.int (0 : Int32))])) (fun _ k => XS.iconst X114.here hx rfl (hb hby at_198) k) ?_
    refine Goes.on (B := T114.setTop (mkF m 214 #[.val (.int p0), .val (.int p1), .val (.int p2), .val (.int p3), .val (.int p4), .val (.int (0 : Int32)), .val (.int ff), .val (.ref b1), .val (.ref b12), .val (.ref b59), .val (.int (2 : Int32))] [])) (fun _ k => XS.icmpYes X114.here hx rfl (pc0 := 199) (pc' := 214) rfl (hb hby at_199) rfl (tlt (by decide)).1 (by decide) (by decide) k) ?_
    refine Goes.on (B := T114.setTop (mkF m 216 #[.val (.int p0), .val (.int p1), .val (.int p2), .val (.int p3), .val (.int p4), .val (.int (0 : Int32)), .val (.int ff), .val (.ref b1), .val (.ref b12), .val (.ref b59), .val (.int (2 : Int32))] [(.ref b59)])) (fun _ k => XS.aload X114.here hx rfl (hb hby at_214) rfl rfl  k) ?_
    refine Goes.on (B := T114.setTop (mkF m 217 #[.val (.int p0), .val (.int p1), .val (.int p2), .val (.int p3), .val (.int p4), .val (.int (0 : Int32)), .val (.int ff), .val (.ref b1), .val (.ref b12), .val (.ref b59), .val (.int (2 : Int32))] [(.int (0 : Int32)), (.ref b59)])) (fun _ k => XS.iconst X114.here hx rfl (hb hby at_216) k) ?_
    refine Goes.on (B := T114.setTop (mkF m 218 #[.val (.int p0), .val (.int p1), .val (.int p2), .val (.int p3), .val (.int p4), .val (.int (0 : Int32)), .val (.int ff), .val (.ref b1), .val (.ref b12), .val (.ref b59), .val (.int (2 : Int32))] [(.int (0 : Int32)), (.int (0 : Int32)), (.ref b59)])) (fun _ k => XS.iconst X114.here hx rfl (hb hby at_217) k) ?_
    obtain ⟨cl118, Ar118, q118, S118, Nn118, H118, G118⟩ := id V114
    have hin118 : ¬ ((0 : Int32) < 0 ∨ cl118.slots.size ≤ ((0 : Int32)).toNatClampNeg) := inb_of S118 (own_hin (⟨by decide, by decide⟩ : own_in (0 : Int32) 10))
    obtain ⟨T119, h119, X119, e119, W119, st119⟩ := stS X114 hx hZ e114 Ar118 (j := (0 : Int32)) hin118 (g := (mkF m 218 #[.val (.int p0), .val (.int p1), .val (.int p2), .val (.int p3), .val (.int p4), .val (.int (0 : Int32)), .val (.int ff), .val (.ref b1), .val (.ref b12), .val (.ref b59), .val (.int (2 : Int32))] [(.int (0 : Int32)), (.int (0 : Int32)), (.ref b59)])) rfl rfl (hb hby at_218)
    have V119 : Arv Z h119 b59 k59 .short (11 : Int32) ([(.int (nar .short ff)), (.int (nar .short ff)), (.int (nar .short ff)), (.int (nar .short ff)), (.int (nar .short ff)), (.int (nar .short ff)), (.int (nar .short ff)), (.int (nar .short ff)), (.int (nar .short ff)), (.int (nar .short ff)), (.int (nar .short ff))].set 0 (.int (nar .short (0 : Int32)))) (.int (0 : Int32)) := Arv.set Ar118 q118 S118 Nn118 H118 G118 (fits_nar_short _) W119 0 rfl (by exact Nat.le_of_ble_eq_true rfl)
    have f120 := f115.other W119 ne_b1_b59
    have f121 := f116.other W119 ne_b12_b59
    have z122 : n0 ≤ h119.size := Nat.le_trans z117 (Keep.of_wr W119).1
    have N119 := Fr.snoc X119 N114 g_b59
    refine Goes.on (B := T119.setTop (mkF m 219 #[.val (.int p0), .val (.int p1), .val (.int p2), .val (.int p3), .val (.int p4), .val (.int (0 : Int32)), .val (.int ff), .val (.ref b1), .val (.ref b12), .val (.ref b59), .val (.int (2 : Int32))] [])) (fun t k => st119 t k) ?_
    refine Goes.on (B := T119.setTop (mkF m 221 #[.val (.int p0), .val (.int p1), .val (.int p2), .val (.int p3), .val (.int p4), .val (.int (0 : Int32)), .val (.int ff), .val (.ref b1), .val (.ref b12), .val (.ref b59), .val (.int (2 : Int32))] [(.ref b59)])) (fun _ k => XS.aload X119.here hx rfl (hb hby at_219) rfl rfl  k) ?_
    refine Goes.on (B := T119.setTop (mkF m 222 #[.val (.int p0), .val (.int p1), .val (.int p2), .val (.int p3), .val (.int p4), .val (.int (0 : Int32)), .val (.int ff), .val (.ref b1), .val (.ref b12), .val (.ref b59), .val (.int (2 : Int32))] [(.int (1 : Int32)), (.ref b59)])) (fun _ k => XS.iconst X119.here hx rfl (hb hby at_221) k) ?_
    refine Goes.on (B := T119.setTop (mkF m 224 #[.val (.int p0), .val (.int p1), .val (.int p2), .val (.int p3), .val (.int p4), .val (.int (0 : Int32)), .val (.int ff), .val (.ref b1), .val (.ref b12), .val (.ref b59), .val (.int (2 : Int32))] [(.int (2 : Int32)), (.int (1 : Int32)), (.ref b59)])) (fun _ k => XS.iload X119.here hx rfl (hb hby at_222) rfl  k) ?_
    refine Goes.on (B := T119.setTop (mkF m 225 #[.val (.int p0), .val (.int p1), .val (.int p2), .val (.int p3), .val (.int p4), .val (.int (0 : Int32)), .val (.int ff), .val (.ref b1), .val (.ref b12), .val (.ref b59), .val (.int (2 : Int32))] [(.int ((2 : Int32).toInt16.toInt32)), (.int (1 : Int32)), (.ref b59)])) (fun _ k => XS.i2s X119.here hx rfl (hb hby at_224) rfl k) ?_
    obtain ⟨cl123, Ar123, q123, S123, Nn123, H123, G123⟩ := id V119
    have hin123 : ¬ ((1 : Int32) < 0 ∨ cl123.slots.size ≤ ((1 : Int32)).toNatClampNeg) := inb_of S123 (own_hin (⟨by decide, by decide⟩ : own_in (1 : Int32) 10))
    obtain ⟨T124, h124, X124, e124, W124, st124⟩ := stS X119 hx hZ e119 Ar123 (j := (1 : Int32)) hin123 (g := (mkF m 225 #[.val (.int p0), .val (.int p1), .val (.int p2), .val (.int p3), .val (.int p4), .val (.int (0 : Int32)), .val (.int ff), .val (.ref b1), .val (.ref b12), .val (.ref b59), .val (.int (2 : Int32))] [(.int ((2 : Int32).toInt16.toInt32)), (.int (1 : Int32)), (.ref b59)])) rfl rfl (hb hby at_225)
    have V124 : Arv Z h124 b59 k59 .short (11 : Int32) (([(.int (nar .short ff)), (.int (nar .short ff)), (.int (nar .short ff)), (.int (nar .short ff)), (.int (nar .short ff)), (.int (nar .short ff)), (.int (nar .short ff)), (.int (nar .short ff)), (.int (nar .short ff)), (.int (nar .short ff)), (.int (nar .short ff))].set 0 (.int (nar .short (0 : Int32)))).set 1 (.int (nar .short ((2 : Int32).toInt16.toInt32)))) (.int (0 : Int32)) := Arv.set Ar123 q123 S123 Nn123 H123 G123 (fits_nar_short _) W124 1 rfl (by rw [List.length_set]; first | exact Nat.le_of_ble_eq_true rfl | (rw [rfl]; decide))
    have f125 := f120.other W124 ne_b1_b59
    have f126 := f121.other W124 ne_b12_b59
    have z127 : n0 ≤ h124.size := Nat.le_trans z122 (Keep.of_wr W124).1
    have N124 := Fr.snoc X124 N119 g_b59
    refine Goes.on (B := T124.setTop (mkF m 226 #[.val (.int p0), .val (.int p1), .val (.int p2), .val (.int p3), .val (.int p4), .val (.int (0 : Int32)), .val (.int ff), .val (.ref b1), .val (.ref b12), .val (.ref b59), .val (.int (2 : Int32))] [])) (fun t k => st124 t k) ?_
    refine Goes.on (B := T124.setTop (mkF m 228 #[.val (.int p0), .val (.int p1), .val (.int p2), .val (.int p3), .val (.int p4), .val (.int (0 : Int32)), .val (.int ff), .val (.ref b1), .val (.ref b12), .val (.ref b59), .val (.int (2 : Int32))] [(.ref b1)])) (fun _ k => XS.aload X124.here hx rfl (hb hby at_226) rfl rfl  k) ?_
    refine Goes.on (B := T124.setTop (mkF m 230 #[.val (.int p0), .val (.int p1), .val (.int p2), .val (.int p3), .val (.int p4), .val (.int (0 : Int32)), .val (.int ff), .val (.ref b1), .val (.ref b12), .val (.ref b59), .val (.int (2 : Int32))] [(.int (0 : Int32)), (.ref b1)])) (fun _ k => XS.iload X124.here hx rfl (hb hby at_228) rfl  k) ?_
    refine Goes.on (B := T124.setTop (mkF m 232 #[.val (.int p0), .val (.int p1), .val (.int p2), .val (.int p3), .val (.int p4), .val (.int (0 : Int32)), .val (.int ff), .val (.ref b1), .val (.ref b12), .val (.ref b59), .val (.int (2 : Int32))] [(.ref b12), (.int (0 : Int32)), (.ref b1)])) (fun _ k => XS.aload X124.here hx rfl (hb hby at_230) rfl rfl  k) ?_
    obtain ⟨LO128, XO128, NO128⟩ := own_opq X124 N124
    obtain ⟨_, _, ⟨T129, L129, k129, n129⟩, -, X129, ⟨Lc129, hQ129, l129, y129, z129⟩, st129⟩ := Jvm.LawKit.callS XO128 hx (y := (⟨"com/example/roadeq/roadeq/assign/LinkCode", "encode", "([II[S)V"⟩ : MethodName)) hown (mvT hZ (hw _ (List.mem_of_getElem? (i := 6) rfl))) (mvT hZ (hw _ (List.mem_of_getElem? (i := 7) rfl))) (mvT hZ (hw _ (List.mem_of_getElem? (i := 8) rfl))) (mvT hZ (hw _ (List.mem_of_getElem? (i := 9) rfl))) (by decide) (backOf (W := 0) (rmen0 l Z a0 hw [] b1 b12 k1 k12 p0 p1 p2 [(.int (nar .short ff)), (.int (nar .short ff)), (.int (nar .short ff)), (.int (nar .short ff)), (.int (nar .short ff)), (.int (nar .short ff)), (.int (nar .short ff)), (.int (nar .short ff)), (.int (nar .short ff)), (.int (nar .short ff)), (.int (nar .short ff))] h124 n0 z127 f125 f126 g_b12 rfl ne_b1_b12) hZ (hw _ (List.mem_of_getElem? (i := 9) rfl)) (hw _ (List.mem_of_getElem? (i := 8) rfl)) (by decide) (by decide)) (g := (mkF m 232 #[.val (.int p0), .val (.int p1), .val (.int p2), .val (.int p3), .val (.int p4), .val (.int (0 : Int32)), .val (.int ff), .val (.ref b1), .val (.ref b12), .val (.ref b59), .val (.int (2 : Int32))] [(.ref b12), (.int (0 : Int32)), (.ref b1)])) rfl (by rw [hml]; rfl) (argsL := [(.ref b1), (.int (0 : Int32)), (.ref b12)]) (rest := []) (lenOf pd_0___II_S_V rfl) rfl (by show 2 * 0 + _ ≤ _; exact Nat.le_of_eq rfl) (hb hby at_232) (fun _ _ => ⟨rfl, e124, (by decide : 3 + 0 ≤ _), (by decide : 25 + 0 ≤ _)⟩)
    dsimp only [Pt.U, Pt.locs, Pt.cells, Pt.slots] at X129 l129 y129 z129 st129 hQ129
    subst l129 y129 z129
    obtain ⟨rfl, Nq129, Kq129, Vq129⟩ := hQ129
    obtain ⟨h129, eh129⟩ : ∃ h, T129.heap = h := ⟨_, rfl⟩
    rw [eh129] at Kq129 Vq129
    have f130 := f125.keep Kq129 (ninS ne_b1_b12 nin0)
    have f131 := V124.keep Kq129 (ninS (Ne.symm ne_b12_b59) nin0)
    have z132 : n0 ≤ h129.size := Nat.le_trans z127 Kq129.1
    rw [own_lists0] at Vq129
    have N129 := Fr.app NO128 Nq129
    refine Goes.on (B := T129.setTop (mkF m 235 #[.val (.int p0), .val (.int p1), .val (.int p2), .val (.int p3), .val (.int p4), .val (.int (0 : Int32)), .val (.int ff), .val (.ref b1), .val (.ref b12), .val (.ref b59), .val (.int (2 : Int32))] [])) (fun t k => st129 t k) ?_
    refine Goes.on (B := T129.setTop (mkF m 237 #[.val (.int p0), .val (.int p1), .val (.int p2), .val (.int p3), .val (.int p4), .val (.int (0 : Int32)), .val (.int ff), .val (.ref b1), .val (.ref b12), .val (.ref b59), .val (.int (2 : Int32))] [(.ref b12)])) (fun _ k => XS.aload X129.here hx rfl (hb hby at_235) rfl rfl  k) ?_
    refine Goes.on (B := T129.setTop (mkF m 239 #[.val (.int p0), .val (.int p1), .val (.int p2), .val (.int p3), .val (.int p4), .val (.int (0 : Int32)), .val (.int ff), .val (.ref b1), .val (.ref b12), .val (.ref b59), .val (.int (2 : Int32))] [(.ref b59), (.ref b12)])) (fun _ k => XS.aload X129.here hx rfl (hb hby at_237) rfl rfl  k) ?_
    obtain ⟨LO133, XO133, NO133⟩ := own_opq X129 N129
    obtain ⟨_, _, ⟨T134, L134, k134, n134⟩, -, X134, ⟨Lc134, hQ134, l134, y134, z134⟩, st134⟩ := Jvm.LawKit.callS XO133 hx (y := (⟨"com/example/roadeq/roadeq/assign/LinkCodeEncodePinLaw", "same", "([S[S)Z"⟩ : MethodName)) hown (mvT hZ (hw _ (List.mem_of_getElem? (i := 13) rfl))) (mvT hZ (hw _ (List.mem_of_getElem? (i := 14) rfl))) (mvT hZ (hw _ (List.mem_of_getElem? (i := 4) rfl))) (mvT hZ (hw _ (List.mem_of_getElem? (i := 15) rfl))) (by decide) (backOf (W := 0) (rmsm l Z a0 hw [] b12 b59 k12 k59 (([(.int (nar .short ff)), (.int (nar .short ff)), (.int (nar .short ff)), (.int (nar .short ff)), (.int (nar .short ff)), (.int (nar .short ff)), (.int (nar .short ff)), (.int (nar .short ff)), (.int (nar .short ff)), (.int (nar .short ff)), (.int (nar .short ff))].set 0 (.int (nar .short (0 : Int32)))).set 1 (.int (nar .short ((2 : Int32).toInt16.toInt32)))) h129 n0 z132 Vq129 f131) hZ (hw _ (List.mem_of_getElem? (i := 15) rfl)) (hw _ (List.mem_of_getElem? (i := 4) rfl)) (by decide) (by decide)) (g := (mkF m 239 #[.val (.int p0), .val (.int p1), .val (.int p2), .val (.int p3), .val (.int p4), .val (.int (0 : Int32)), .val (.int ff), .val (.ref b1), .val (.ref b12), .val (.ref b59), .val (.int (2 : Int32))] [(.ref b59), (.ref b12)])) rfl (by rw [hml]; rfl) (argsL := [(.ref b12), (.ref b59)]) (rest := []) (lenOf pd_0___S_S_Z rfl) rfl (by show 2 * 0 + _ ≤ _; exact Nat.le_of_eq rfl) (hb hby at_239) (fun _ _ => ⟨rfl, eh129, (by decide : 3 + 0 ≤ _), (by decide : 25 + 0 ≤ _)⟩)
    dsimp only [Pt.U, Pt.locs, Pt.cells, Pt.slots] at X134 l134 y134 z134 st134 hQ134
    subst l134 y134 z134
    obtain ⟨rfl, Nq134, eh134⟩ := hQ134
    have N134 := Fr.app NO133 Nq134
    refine Goes.on (B := T134.setTop (mkF m 242 #[.val (.int p0), .val (.int p1), .val (.int p2), .val (.int p3), .val (.int p4), .val (.int (0 : Int32)), .val (.int ff), .val (.ref b1), .val (.ref b12), .val (.ref b59), .val (.int (2 : Int32))] [(.int (1 : Int32))])) (fun t k => st134 t k) ?_
    obtain ⟨fs, hr, hrun, hended, hW, hsame⟩ := X134.leave (v := some (.int (1 : Int32))) (fun h => by rw [Bd.returns] at h; cases h)
    exact Goes.leaf (retN X134 hx (t := .boolean) Bd.returns (by simp) (hb hby at_242) hr) hrun hended ⟨_, _, rfl, by show Q0 Z p0 p1 p2 p3 p4 h0 n0 _ T134.heap _; exact ⟨rfl, N134⟩, ⟨_, rfl⟩, hW, hsame.mono (by decide) (by decide)⟩
  · refine Goes.on (B := T114.setTop (mkF m 164 #[.val (.int p0), .val (.int p1), .val (.int p2), .val (.int p3), .val (.int p4), .val (.int (1 : Int32)), .val (.int ff), .val (.ref b1), .val (.ref b12), .val (.ref b59), .val (.int (2 : Int32))] [(.int (1 : Int32))])) (fun _ k => XS.iload X114.here hx rfl (hb hby at_162) rfl  k) ?_
    refine Goes.on (B := T114.setTop (mkF m 165 #[.val (.int p0), .val (.int p1), .val (.int p2), .val (.int p3), .val (.int p4), .val (.int (1 : Int32)), .val (.int ff), .val (.ref b1), .val (.ref b12), .val (.ref b59), .val (.int (2 : Int32))] [(.int (1 : Int32)), (.int (1 : Int32))])) (fun _ k => XS.iconst X114.here hx rfl (hb hby at_164) k) ?_
    refine Goes.on (B := T114.setTop (mkF m 168 #[.val (.int p0), .val (.int p1), .val (.int p2), .val (.int p3), .val (.int p4), .val (.int (1 : Int32)), .val (.int ff), .val (.ref b1), .val (.ref b12), .val (.ref b59), .val (.int (2 : Int32))] [])) (fun _ k => XS.icmpNo X114.here hx rfl (hb hby at_165) rfl (flt (by decide)).1 k) ?_
    refine Goes.on (B := T114.setTop (mkF m 170 #[.val (.int p0), .val (.int p1), .val (.int p2), .val (.int p3), .val (.int p4), .val (.int (1 : Int32)), .val (.int ff), .val (.ref b1), .val (.ref b12), .val (.ref b59), .val (.int (2 : Int32))] [(.ref b59)])) (fun _ k => XS.aload X114.here hx rfl (hb hby at_168) rfl rfl  k) ?_
    refine Goes.on (B := T114.setTop (mkF m 172 #[.val (.int p0), .val (.int p1), .val (.int p2), .val (.int p3), .val (.int p4), .val (.int (1 : Int32)), .val (.int ff), .val (.ref b1), .val (.ref b12), .val (.ref b59), .val (.int (2 : Int32))] [(.int (2 : Int32)), (.ref b59)])) (fun _ k => XS.iload X114.here hx rfl (hb hby at_170) rfl  k) ?_
    refine Goes.on (B := T114.setTop (mkF m 173 #[.val (.int p0), .val (.int p1), .val (.int p2), .val (.int p3), .val (.int p4), .val (.int (1 : Int32)), .val (.int ff), .val (.ref b1), .val (.ref b12), .val (.ref b59), .val (.int (2 : Int32))] [(.int p0), (.int (2 : Int32)), (.ref b59)])) (fun _ k => XS.iloadN X114.here hx rfl (hb hby at_172) rfl  k) ?_
    obtain ⟨LO135, XO135, NO135⟩ := own_opq X114 N114
    obtain ⟨_, _, ⟨T136, L136, k136, n136⟩, -, X136, ⟨Lc136, hQ136, l136, y136, z136⟩, st136⟩ := Jvm.LawKit.callS XO135 hx (y := (⟨"com/example/roadeq/roadeq/assign/LinkCodeEncodePinLaw", "put", "([SII)I"⟩ : MethodName)) hown (mvT hZ (hw _ (List.mem_of_getElem? (i := 2) rfl))) (mvT hZ (hw _ (List.mem_of_getElem? (i := 3) rfl))) (mvT hZ (hw _ (List.mem_of_getElem? (i := 4) rfl))) (mvT hZ (hw _ (List.mem_of_getElem? (i := 5) rfl))) (by decide) (backOf (W := 0) (rmu l Z a0 hw [] b59 (2 : Int32) p0 k59 [(.int (nar .short ff)), (.int (nar .short ff)), (.int (nar .short ff)), (.int (nar .short ff)), (.int (nar .short ff)), (.int (nar .short ff)), (.int (nar .short ff)), (.int (nar .short ff)), (.int (nar .short ff)), (.int (nar .short ff)), (.int (nar .short ff))] h114 n0 z117 V114 g_b59 rfl (own_up (own_i2 : own_in (2 : Int32) 2) (by decide))) hZ (hw _ (List.mem_of_getElem? (i := 5) rfl)) (hw _ (List.mem_of_getElem? (i := 4) rfl)) (by decide) (by decide)) (g := (mkF m 173 #[.val (.int p0), .val (.int p1), .val (.int p2), .val (.int p3), .val (.int p4), .val (.int (1 : Int32)), .val (.int ff), .val (.ref b1), .val (.ref b12), .val (.ref b59), .val (.int (2 : Int32))] [(.int p0), (.int (2 : Int32)), (.ref b59)])) rfl (by rw [hml]; rfl) (argsL := [(.ref b59), (.int (2 : Int32)), (.int p0)]) (rest := []) (lenOf pd_0___SII_I rfl) rfl (by show 2 * 0 + _ ≤ _; exact Nat.le_of_eq rfl) (hb hby at_173) (fun _ _ => ⟨rfl, e114, (by decide : 3 + 0 ≤ _), (by decide : 25 + 0 ≤ _)⟩)
    dsimp only [Pt.U, Pt.locs, Pt.cells, Pt.slots] at X136 l136 y136 z136 st136 hQ136
    subst l136 y136 z136
    obtain ⟨rfl, Nq136, Kq136, Vq136⟩ := hQ136
    obtain ⟨h136, eh136⟩ : ∃ h, T136.heap = h := ⟨_, rfl⟩
    rw [eh136] at Kq136 Vq136
    have f137 := f115.keep Kq136 (ninS ne_b1_b59 nin0)
    have f138 := f116.keep Kq136 (ninS ne_b12_b59 nin0)
    have z139 : n0 ≤ h136.size := Nat.le_trans z117 Kq136.1
    have N136 := Fr.app NO135 Nq136
    refine Goes.on (B := T136.setTop (mkF m 176 #[.val (.int p0), .val (.int p1), .val (.int p2), .val (.int p3), .val (.int p4), .val (.int (1 : Int32)), .val (.int ff), .val (.ref b1), .val (.ref b12), .val (.ref b59), .val (.int (2 : Int32))] [(.int (own_at (2 : Int32) p0))])) (fun t k => st136 t k) ?_
    refine Goes.on (B := T136.setTop (mkF m 178 #[.val (.int p0), .val (.int p1), .val (.int p2), .val (.int p3), .val (.int p4), .val (.int (1 : Int32)), .val (.int ff), .val (.ref b1), .val (.ref b12), .val (.ref b59), .val (.int (own_at (2 : Int32) p0))] [])) (fun _ k => XS.istore X136.here hx rfl (hb hby at_176) rfl (l' := #[.val (.int p0), .val (.int p1), .val (.int p2), .val (.int p3), .val (.int p4), .val (.int (1 : Int32)), .val (.int ff), .val (.ref b1), .val (.ref b12), .val (.ref b59), .val (.int (own_at (2 : Int32) p0))]) rfl k) ?_
    refine Goes.on (B := T136.setTop (mkF m 180 #[.val (.int p0), .val (.int p1), .val (.int p2), .val (.int p3), .val (.int p4), .val (.int (1 : Int32)), .val (.int ff), .val (.ref b1), .val (.ref b12), .val (.ref b59), .val (.int (own_at (2 : Int32) p0))] [(.int (1 : Int32))])) (fun _ k => XS.iload X136.here hx rfl (hb hby at_178) rfl  k) ?_
    refine Goes.on (B := T136.setTop (mkF m 181 #[.val (.int p0), .val (.int p1), .val (.int p2), .val (.int p3), .val (.int p4), .val (.int (1 : Int32)), .val (.int ff), .val (.ref b1), .val (.ref b12), .val (.ref b59), .val (.int (own_at (2 : Int32) p0))] [(.int (2 : Int32)), (.int (1 : Int32))])) (fun _ k => XS.iconst X136.here hx rfl (hb hby at_180) k) ?_
    refine Goes.on (B := T136.setTop (mkF m 196 #[.val (.int p0), .val (.int p1), .val (.int p2), .val (.int p3), .val (.int p4), .val (.int (1 : Int32)), .val (.int ff), .val (.ref b1), .val (.ref b12), .val (.ref b59), .val (.int (own_at (2 : Int32) p0))] [])) (fun _ k => XS.icmpYes X136.here hx rfl (pc0 := 181) (pc' := 196) rfl (hb hby at_181) rfl (tlt (by decide)).1 (by decide) (by decide) k) ?_
    refine Goes.on (B := T136.setTop (mkF m 198 #[.val (.int p0), .val (.int p1), .val (.int p2), .val (.int p3), .val (.int p4), .val (.int (1 : Int32)), .val (.int ff), .val (.ref b1), .val (.ref b12), .val (.ref b59), .val (.int (own_at (2 : Int32) p0))] [(.int (1 : Int32))])) (fun _ k => XS.iload X136.here hx rfl (hb hby at_196) rfl  k) ?_
    refine Goes.on (B := T136.setTop (mkF m 199 #[.val (.int p0), .val (.int p1), .val (.int p2), .val (.int p3), .val (.int p4), .val (.int (1 : Int32)), .val (.int ff), .val (.ref b1), .val (.ref b12), .val (.ref b59), .val (.int (own_at (2 : Int32) p0))] [(.int (3 : Int32)), (.int (1 : Int32))])) (fun _ k => XS.iconst X136.here hx rfl (hb hby at_198) k) ?_
    refine Goes.on (B := T136.setTop (mkF m 214 #[.val (.int p0), .val (.int p1), .val (.int p2), .val (.int p3), .val (.int p4), .val (.int (1 : Int32)), .val (.int ff), .val (.ref b1), .val (.ref b12), .val (.ref b59), .val (.int (own_at (2 : Int32) p0))] [])) (fun _ k => XS.icmpYes X136.here hx rfl (pc0 := 199) (pc' := 214) rfl (hb hby at_199) rfl (tlt (by decide)).1 (by decide) (by decide) k) ?_
    refine Goes.on (B := T136.setTop (mkF m 216 #[.val (.int p0), .val (.int p1), .val (.int p2), .val (.int p3), .val (.int p4), .val (.int (1 : Int32)), .val (.int ff), .val (.ref b1), .val (.ref b12), .val (.ref b59), .val (.int (own_at (2 : Int32) p0))] [(.ref b59)])) (fun _ k => XS.aload X136.here hx rfl (hb hby at_214) rfl rfl  k) ?_
    refine Goes.on (B := T136.setTop (mkF m 217 #[.val (.int p0), .val (.int p1), .val (.int p2), .val (.int p3), .val (.int p4), .val (.int (1 : Int32)), .val (.int ff), .val (.ref b1), .val (.ref b12), .val (.ref b59), .val (.int (own_at (2 : Int32) p0))] [(.int (0 : Int32)), (.ref b59)])) (fun _ k => XS.iconst X136.here hx rfl (hb hby at_216) k) ?_
    refine Goes.on (B := T136.setTop (mkF m 218 #[.val (.int p0), .val (.int p1), .val (.int p2), .val (.int p3), .val (.int p4), .val (.int (1 : Int32)), .val (.int ff), .val (.ref b1), .val (.ref b12), .val (.ref b59), .val (.int (own_at (2 : Int32) p0))] [(.int (0 : Int32)), (.int (0 : Int32)), (.ref b59)])) (fun _ k => XS.iconst X136.here hx rfl (hb hby at_217) k) ?_
    obtain ⟨cl140, Ar140, q140, S140, Nn140, H140, G140⟩ := id Vq136
    have hin140 : ¬ ((0 : Int32) < 0 ∨ cl140.slots.size ≤ ((0 : Int32)).toNatClampNeg) := inb_of S140 (own_hin (⟨by decide, by decide⟩ : own_in (0 : Int32) 10))
    obtain ⟨T141, h141, X141, e141, W141, st141⟩ := stS X136 hx hZ eh136 Ar140 (j := (0 : Int32)) hin140 (g := (mkF m 218 #[.val (.int p0), .val (.int p1), .val (.int p2), .val (.int p3), .val (.int p4), .val (.int (1 : Int32)), .val (.int ff), .val (.ref b1), .val (.ref b12), .val (.ref b59), .val (.int (own_at (2 : Int32) p0))] [(.int (0 : Int32)), (.int (0 : Int32)), (.ref b59)])) rfl rfl (hb hby at_218)
    have V141 : Arv Z h141 b59 k59 .short (11 : Int32) ((own_put [(.int (nar .short ff)), (.int (nar .short ff)), (.int (nar .short ff)), (.int (nar .short ff)), (.int (nar .short ff)), (.int (nar .short ff)), (.int (nar .short ff)), (.int (nar .short ff)), (.int (nar .short ff)), (.int (nar .short ff)), (.int (nar .short ff))] (2 : Int32) p0).set 0 (.int (nar .short (0 : Int32)))) (.int (0 : Int32)) := Arv.set Ar140 q140 S140 Nn140 H140 G140 (fits_nar_short _) W141 0 rfl (by rw [(own_len rfl)]; decide)
    have f142 := f137.other W141 ne_b1_b59
    have f143 := f138.other W141 ne_b12_b59
    have z144 : n0 ≤ h141.size := Nat.le_trans z139 (Keep.of_wr W141).1
    have N141 := Fr.snoc X141 N136 g_b59
    refine Goes.on (B := T141.setTop (mkF m 219 #[.val (.int p0), .val (.int p1), .val (.int p2), .val (.int p3), .val (.int p4), .val (.int (1 : Int32)), .val (.int ff), .val (.ref b1), .val (.ref b12), .val (.ref b59), .val (.int (own_at (2 : Int32) p0))] [])) (fun t k => st141 t k) ?_
    refine Goes.on (B := T141.setTop (mkF m 221 #[.val (.int p0), .val (.int p1), .val (.int p2), .val (.int p3), .val (.int p4), .val (.int (1 : Int32)), .val (.int ff), .val (.ref b1), .val (.ref b12), .val (.ref b59), .val (.int (own_at (2 : Int32) p0))] [(.ref b59)])) (fun _ k => XS.aload X141.here hx rfl (hb hby at_219) rfl rfl  k) ?_
    refine Goes.on (B := T141.setTop (mkF m 222 #[.val (.int p0), .val (.int p1), .val (.int p2), .val (.int p3), .val (.int p4), .val (.int (1 : Int32)), .val (.int ff), .val (.ref b1), .val (.ref b12), .val (.ref b59), .val (.int (own_at (2 : Int32) p0))] [(.int (1 : Int32)), (.ref b59)])) (fun _ k => XS.iconst X141.here hx rfl (hb hby at_221) k) ?_
    refine Goes.on (B := T141.setTop (mkF m 224 #[.val (.int p0), .val (.int p1), .val (.int p2), .val (.int p3), .val (.int p4), .val (.int (1 : Int32)), .val (.int ff), .val (.ref b1), .val (.ref b12), .val (.ref b59), .val (.int (own_at (2 : Int32) p0))] [(.int (own_at (2 : Int32) p0)), (.int (1 : Int32)), (.ref b59)])) (fun _ k => XS.iload X141.here hx rfl (hb hby at_222) rfl  k) ?_
    refine Goes.on (B := T141.setTop (mkF m 225 #[.val (.int p0), .val (.int p1), .val (.int p2), .val (.int p3), .val (.int p4), .val (.int (1 : Int32)), .val (.int ff), .val (.ref b1), .val (.ref b12), .val (.ref b59), .val (.int (own_at (2 : Int32) p0))] [(.int ((own_at (2 : Int32) p0).toInt16.toInt32)), (.int (1 : Int32)), (.ref b59)])) (fun _ k => XS.i2s X141.here hx rfl (hb hby at_224) rfl k) ?_
    obtain ⟨cl145, Ar145, q145, S145, Nn145, H145, G145⟩ := id V141
    have hin145 : ¬ ((1 : Int32) < 0 ∨ cl145.slots.size ≤ ((1 : Int32)).toNatClampNeg) := inb_of S145 (own_hin (⟨by decide, by decide⟩ : own_in (1 : Int32) 10))
    obtain ⟨T146, h146, X146, e146, W146, st146⟩ := stS X141 hx hZ e141 Ar145 (j := (1 : Int32)) hin145 (g := (mkF m 225 #[.val (.int p0), .val (.int p1), .val (.int p2), .val (.int p3), .val (.int p4), .val (.int (1 : Int32)), .val (.int ff), .val (.ref b1), .val (.ref b12), .val (.ref b59), .val (.int (own_at (2 : Int32) p0))] [(.int ((own_at (2 : Int32) p0).toInt16.toInt32)), (.int (1 : Int32)), (.ref b59)])) rfl rfl (hb hby at_225)
    have V146 : Arv Z h146 b59 k59 .short (11 : Int32) (((own_put [(.int (nar .short ff)), (.int (nar .short ff)), (.int (nar .short ff)), (.int (nar .short ff)), (.int (nar .short ff)), (.int (nar .short ff)), (.int (nar .short ff)), (.int (nar .short ff)), (.int (nar .short ff)), (.int (nar .short ff)), (.int (nar .short ff))] (2 : Int32) p0).set 0 (.int (nar .short (0 : Int32)))).set 1 (.int (nar .short ((own_at (2 : Int32) p0).toInt16.toInt32)))) (.int (0 : Int32)) := Arv.set Ar145 q145 S145 Nn145 H145 G145 (fits_nar_short _) W146 1 rfl (by rw [List.length_set]; first | exact Nat.le_of_ble_eq_true rfl | (rw [(own_len rfl)]; decide))
    have f147 := f142.other W146 ne_b1_b59
    have f148 := f143.other W146 ne_b12_b59
    have z149 : n0 ≤ h146.size := Nat.le_trans z144 (Keep.of_wr W146).1
    have N146 := Fr.snoc X146 N141 g_b59
    refine Goes.on (B := T146.setTop (mkF m 226 #[.val (.int p0), .val (.int p1), .val (.int p2), .val (.int p3), .val (.int p4), .val (.int (1 : Int32)), .val (.int ff), .val (.ref b1), .val (.ref b12), .val (.ref b59), .val (.int (own_at (2 : Int32) p0))] [])) (fun t k => st146 t k) ?_
    refine Goes.on (B := T146.setTop (mkF m 228 #[.val (.int p0), .val (.int p1), .val (.int p2), .val (.int p3), .val (.int p4), .val (.int (1 : Int32)), .val (.int ff), .val (.ref b1), .val (.ref b12), .val (.ref b59), .val (.int (own_at (2 : Int32) p0))] [(.ref b1)])) (fun _ k => XS.aload X146.here hx rfl (hb hby at_226) rfl rfl  k) ?_
    refine Goes.on (B := T146.setTop (mkF m 230 #[.val (.int p0), .val (.int p1), .val (.int p2), .val (.int p3), .val (.int p4), .val (.int (1 : Int32)), .val (.int ff), .val (.ref b1), .val (.ref b12), .val (.ref b59), .val (.int (own_at (2 : Int32) p0))] [(.int (1 : Int32)), (.ref b1)])) (fun _ k => XS.iload X146.here hx rfl (hb hby at_228) rfl  k) ?_
    refine Goes.on (B := T146.setTop (mkF m 232 #[.val (.int p0), .val (.int p1), .val (.int p2), .val (.int p3), .val (.int p4), .val (.int (1 : Int32)), .val (.int ff), .val (.ref b1), .val (.ref b12), .val (.ref b59), .val (.int (own_at (2 : Int32) p0))] [(.ref b12), (.int (1 : Int32)), (.ref b1)])) (fun _ k => XS.aload X146.here hx rfl (hb hby at_230) rfl rfl  k) ?_
    obtain ⟨LO150, XO150, NO150⟩ := own_opq X146 N146
    obtain ⟨_, _, ⟨T151, L151, k151, n151⟩, -, X151, ⟨Lc151, hQ151, l151, y151, z151⟩, st151⟩ := Jvm.LawKit.callS XO150 hx (y := (⟨"com/example/roadeq/roadeq/assign/LinkCode", "encode", "([II[S)V"⟩ : MethodName)) hown (mvT hZ (hw _ (List.mem_of_getElem? (i := 6) rfl))) (mvT hZ (hw _ (List.mem_of_getElem? (i := 7) rfl))) (mvT hZ (hw _ (List.mem_of_getElem? (i := 8) rfl))) (mvT hZ (hw _ (List.mem_of_getElem? (i := 9) rfl))) (by decide) (backOf (W := 0) (rmen1 l Z a0 hw [] b1 b12 k1 k12 p0 p1 p2 [(.int (nar .short ff)), (.int (nar .short ff)), (.int (nar .short ff)), (.int (nar .short ff)), (.int (nar .short ff)), (.int (nar .short ff)), (.int (nar .short ff)), (.int (nar .short ff)), (.int (nar .short ff)), (.int (nar .short ff)), (.int (nar .short ff))] h146 n0 z149 f147 f148 g_b12 rfl ne_b1_b12) hZ (hw _ (List.mem_of_getElem? (i := 9) rfl)) (hw _ (List.mem_of_getElem? (i := 8) rfl)) (by decide) (by decide)) (g := (mkF m 232 #[.val (.int p0), .val (.int p1), .val (.int p2), .val (.int p3), .val (.int p4), .val (.int (1 : Int32)), .val (.int ff), .val (.ref b1), .val (.ref b12), .val (.ref b59), .val (.int (own_at (2 : Int32) p0))] [(.ref b12), (.int (1 : Int32)), (.ref b1)])) rfl (by rw [hml]; rfl) (argsL := [(.ref b1), (.int (1 : Int32)), (.ref b12)]) (rest := []) (lenOf pd_0___II_S_V rfl) rfl (by show 2 * 0 + _ ≤ _; exact Nat.le_of_eq rfl) (hb hby at_232) (fun _ _ => ⟨rfl, e146, (by decide : 3 + 0 ≤ _), (by decide : 25 + 0 ≤ _)⟩)
    dsimp only [Pt.U, Pt.locs, Pt.cells, Pt.slots] at X151 l151 y151 z151 st151 hQ151
    subst l151 y151 z151
    obtain ⟨rfl, Nq151, Kq151, Vq151⟩ := hQ151
    obtain ⟨h151, eh151⟩ : ∃ h, T151.heap = h := ⟨_, rfl⟩
    rw [eh151] at Kq151 Vq151
    have f152 := f147.keep Kq151 (ninS ne_b1_b12 nin0)
    have f153 := V146.keep Kq151 (ninS (Ne.symm ne_b12_b59) nin0)
    have z154 : n0 ≤ h151.size := Nat.le_trans z149 Kq151.1
    rw [own_lists1 _ p0 p1 p2] at Vq151
    have N151 := Fr.app NO150 Nq151
    refine Goes.on (B := T151.setTop (mkF m 235 #[.val (.int p0), .val (.int p1), .val (.int p2), .val (.int p3), .val (.int p4), .val (.int (1 : Int32)), .val (.int ff), .val (.ref b1), .val (.ref b12), .val (.ref b59), .val (.int (own_at (2 : Int32) p0))] [])) (fun t k => st151 t k) ?_
    refine Goes.on (B := T151.setTop (mkF m 237 #[.val (.int p0), .val (.int p1), .val (.int p2), .val (.int p3), .val (.int p4), .val (.int (1 : Int32)), .val (.int ff), .val (.ref b1), .val (.ref b12), .val (.ref b59), .val (.int (own_at (2 : Int32) p0))] [(.ref b12)])) (fun _ k => XS.aload X151.here hx rfl (hb hby at_235) rfl rfl  k) ?_
    refine Goes.on (B := T151.setTop (mkF m 239 #[.val (.int p0), .val (.int p1), .val (.int p2), .val (.int p3), .val (.int p4), .val (.int (1 : Int32)), .val (.int ff), .val (.ref b1), .val (.ref b12), .val (.ref b59), .val (.int (own_at (2 : Int32) p0))] [(.ref b59), (.ref b12)])) (fun _ k => XS.aload X151.here hx rfl (hb hby at_237) rfl rfl  k) ?_
    obtain ⟨LO155, XO155, NO155⟩ := own_opq X151 N151
    obtain ⟨_, _, ⟨T156, L156, k156, n156⟩, -, X156, ⟨Lc156, hQ156, l156, y156, z156⟩, st156⟩ := Jvm.LawKit.callS XO155 hx (y := (⟨"com/example/roadeq/roadeq/assign/LinkCodeEncodePinLaw", "same", "([S[S)Z"⟩ : MethodName)) hown (mvT hZ (hw _ (List.mem_of_getElem? (i := 13) rfl))) (mvT hZ (hw _ (List.mem_of_getElem? (i := 14) rfl))) (mvT hZ (hw _ (List.mem_of_getElem? (i := 4) rfl))) (mvT hZ (hw _ (List.mem_of_getElem? (i := 15) rfl))) (by decide) (backOf (W := 0) (rmsm l Z a0 hw [] b12 b59 k12 k59 (((own_put [(.int (nar .short ff)), (.int (nar .short ff)), (.int (nar .short ff)), (.int (nar .short ff)), (.int (nar .short ff)), (.int (nar .short ff)), (.int (nar .short ff)), (.int (nar .short ff)), (.int (nar .short ff)), (.int (nar .short ff)), (.int (nar .short ff))] (2 : Int32) p0).set 0 (.int (nar .short (0 : Int32)))).set 1 (.int (nar .short ((own_at (2 : Int32) p0).toInt16.toInt32)))) h151 n0 z154 Vq151 f153) hZ (hw _ (List.mem_of_getElem? (i := 15) rfl)) (hw _ (List.mem_of_getElem? (i := 4) rfl)) (by decide) (by decide)) (g := (mkF m 239 #[.val (.int p0), .val (.int p1), .val (.int p2), .val (.int p3), .val (.int p4), .val (.int (1 : Int32)), .val (.int ff), .val (.ref b1), .val (.ref b12), .val (.ref b59), .val (.int (own_at (2 : Int32) p0))] [(.ref b59), (.ref b12)])) rfl (by rw [hml]; rfl) (argsL := [(.ref b12), (.ref b59)]) (rest := []) (lenOf pd_0___S_S_Z rfl) rfl (by show 2 * 0 + _ ≤ _; exact Nat.le_of_eq rfl) (hb hby at_239) (fun _ _ => ⟨rfl, eh151, (by decide : 3 + 0 ≤ _), (by decide : 25 + 0 ≤ _)⟩)
    dsimp only [Pt.U, Pt.locs, Pt.cells, Pt.slots] at X156 l156 y156 z156 st156 hQ156
    subst l156 y156 z156
    obtain ⟨rfl, Nq156, eh156⟩ := hQ156
    have N156 := Fr.app NO155 Nq156
    refine Goes.on (B := T156.setTop (mkF m 242 #[.val (.int p0), .val (.int p1), .val (.int p2), .val (.int p3), .val (.int p4), .val (.int (1 : Int32)), .val (.int ff), .val (.ref b1), .val (.ref b12), .val (.ref b59), .val (.int (own_at (2 : Int32) p0))] [(.int (1 : Int32))])) (fun t k => st156 t k) ?_
    obtain ⟨fs, hr, hrun, hended, hW, hsame⟩ := X156.leave (v := some (.int (1 : Int32))) (fun h => by rw [Bd.returns] at h; cases h)
    exact Goes.leaf (retN X156 hx (t := .boolean) Bd.returns (by simp) (hb hby at_242) hr) hrun hended ⟨_, _, rfl, by show Q0 Z p0 p1 p2 p3 p4 h0 n0 _ T156.heap _; exact ⟨rfl, N156⟩, ⟨_, rfl⟩, hW, hsame.mono (by decide) (by decide)⟩
  · refine Goes.on (B := T114.setTop (mkF m 164 #[.val (.int p0), .val (.int p1), .val (.int p2), .val (.int p3), .val (.int p4), .val (.int (2 : Int32)), .val (.int ff), .val (.ref b1), .val (.ref b12), .val (.ref b59), .val (.int (2 : Int32))] [(.int (2 : Int32))])) (fun _ k => XS.iload X114.here hx rfl (hb hby at_162) rfl  k) ?_
    refine Goes.on (B := T114.setTop (mkF m 165 #[.val (.int p0), .val (.int p1), .val (.int p2), .val (.int p3), .val (.int p4), .val (.int (2 : Int32)), .val (.int ff), .val (.ref b1), .val (.ref b12), .val (.ref b59), .val (.int (2 : Int32))] [(.int (1 : Int32)), (.int (2 : Int32))])) (fun _ k => XS.iconst X114.here hx rfl (hb hby at_164) k) ?_
    refine Goes.on (B := T114.setTop (mkF m 168 #[.val (.int p0), .val (.int p1), .val (.int p2), .val (.int p3), .val (.int p4), .val (.int (2 : Int32)), .val (.int ff), .val (.ref b1), .val (.ref b12), .val (.ref b59), .val (.int (2 : Int32))] [])) (fun _ k => XS.icmpNo X114.here hx rfl (hb hby at_165) rfl (flt (by decide)).1 k) ?_
    refine Goes.on (B := T114.setTop (mkF m 170 #[.val (.int p0), .val (.int p1), .val (.int p2), .val (.int p3), .val (.int p4), .val (.int (2 : Int32)), .val (.int ff), .val (.ref b1), .val (.ref b12), .val (.ref b59), .val (.int (2 : Int32))] [(.ref b59)])) (fun _ k => XS.aload X114.here hx rfl (hb hby at_168) rfl rfl  k) ?_
    refine Goes.on (B := T114.setTop (mkF m 172 #[.val (.int p0), .val (.int p1), .val (.int p2), .val (.int p3), .val (.int p4), .val (.int (2 : Int32)), .val (.int ff), .val (.ref b1), .val (.ref b12), .val (.ref b59), .val (.int (2 : Int32))] [(.int (2 : Int32)), (.ref b59)])) (fun _ k => XS.iload X114.here hx rfl (hb hby at_170) rfl  k) ?_
    refine Goes.on (B := T114.setTop (mkF m 173 #[.val (.int p0), .val (.int p1), .val (.int p2), .val (.int p3), .val (.int p4), .val (.int (2 : Int32)), .val (.int ff), .val (.ref b1), .val (.ref b12), .val (.ref b59), .val (.int (2 : Int32))] [(.int p0), (.int (2 : Int32)), (.ref b59)])) (fun _ k => XS.iloadN X114.here hx rfl (hb hby at_172) rfl  k) ?_
    obtain ⟨LO157, XO157, NO157⟩ := own_opq X114 N114
    obtain ⟨_, _, ⟨T158, L158, k158, n158⟩, -, X158, ⟨Lc158, hQ158, l158, y158, z158⟩, st158⟩ := Jvm.LawKit.callS XO157 hx (y := (⟨"com/example/roadeq/roadeq/assign/LinkCodeEncodePinLaw", "put", "([SII)I"⟩ : MethodName)) hown (mvT hZ (hw _ (List.mem_of_getElem? (i := 2) rfl))) (mvT hZ (hw _ (List.mem_of_getElem? (i := 3) rfl))) (mvT hZ (hw _ (List.mem_of_getElem? (i := 4) rfl))) (mvT hZ (hw _ (List.mem_of_getElem? (i := 5) rfl))) (by decide) (backOf (W := 0) (rmu l Z a0 hw [] b59 (2 : Int32) p0 k59 [(.int (nar .short ff)), (.int (nar .short ff)), (.int (nar .short ff)), (.int (nar .short ff)), (.int (nar .short ff)), (.int (nar .short ff)), (.int (nar .short ff)), (.int (nar .short ff)), (.int (nar .short ff)), (.int (nar .short ff)), (.int (nar .short ff))] h114 n0 z117 V114 g_b59 rfl (own_up (own_i2 : own_in (2 : Int32) 2) (by decide))) hZ (hw _ (List.mem_of_getElem? (i := 5) rfl)) (hw _ (List.mem_of_getElem? (i := 4) rfl)) (by decide) (by decide)) (g := (mkF m 173 #[.val (.int p0), .val (.int p1), .val (.int p2), .val (.int p3), .val (.int p4), .val (.int (2 : Int32)), .val (.int ff), .val (.ref b1), .val (.ref b12), .val (.ref b59), .val (.int (2 : Int32))] [(.int p0), (.int (2 : Int32)), (.ref b59)])) rfl (by rw [hml]; rfl) (argsL := [(.ref b59), (.int (2 : Int32)), (.int p0)]) (rest := []) (lenOf pd_0___SII_I rfl) rfl (by show 2 * 0 + _ ≤ _; exact Nat.le_of_eq rfl) (hb hby at_173) (fun _ _ => ⟨rfl, e114, (by decide : 3 + 0 ≤ _), (by decide : 25 + 0 ≤ _)⟩)
    dsimp only [Pt.U, Pt.locs, Pt.cells, Pt.slots] at X158 l158 y158 z158 st158 hQ158
    subst l158 y158 z158
    obtain ⟨rfl, Nq158, Kq158, Vq158⟩ := hQ158
    obtain ⟨h158, eh158⟩ : ∃ h, T158.heap = h := ⟨_, rfl⟩
    rw [eh158] at Kq158 Vq158
    have f159 := f115.keep Kq158 (ninS ne_b1_b59 nin0)
    have f160 := f116.keep Kq158 (ninS ne_b12_b59 nin0)
    have z161 : n0 ≤ h158.size := Nat.le_trans z117 Kq158.1
    have N158 := Fr.app NO157 Nq158
    refine Goes.on (B := T158.setTop (mkF m 176 #[.val (.int p0), .val (.int p1), .val (.int p2), .val (.int p3), .val (.int p4), .val (.int (2 : Int32)), .val (.int ff), .val (.ref b1), .val (.ref b12), .val (.ref b59), .val (.int (2 : Int32))] [(.int (own_at (2 : Int32) p0))])) (fun t k => st158 t k) ?_
    refine Goes.on (B := T158.setTop (mkF m 178 #[.val (.int p0), .val (.int p1), .val (.int p2), .val (.int p3), .val (.int p4), .val (.int (2 : Int32)), .val (.int ff), .val (.ref b1), .val (.ref b12), .val (.ref b59), .val (.int (own_at (2 : Int32) p0))] [])) (fun _ k => XS.istore X158.here hx rfl (hb hby at_176) rfl (l' := #[.val (.int p0), .val (.int p1), .val (.int p2), .val (.int p3), .val (.int p4), .val (.int (2 : Int32)), .val (.int ff), .val (.ref b1), .val (.ref b12), .val (.ref b59), .val (.int (own_at (2 : Int32) p0))]) rfl k) ?_
    refine Goes.on (B := T158.setTop (mkF m 180 #[.val (.int p0), .val (.int p1), .val (.int p2), .val (.int p3), .val (.int p4), .val (.int (2 : Int32)), .val (.int ff), .val (.ref b1), .val (.ref b12), .val (.ref b59), .val (.int (own_at (2 : Int32) p0))] [(.int (2 : Int32))])) (fun _ k => XS.iload X158.here hx rfl (hb hby at_178) rfl  k) ?_
    refine Goes.on (B := T158.setTop (mkF m 181 #[.val (.int p0), .val (.int p1), .val (.int p2), .val (.int p3), .val (.int p4), .val (.int (2 : Int32)), .val (.int ff), .val (.ref b1), .val (.ref b12), .val (.ref b59), .val (.int (own_at (2 : Int32) p0))] [(.int (2 : Int32)), (.int (2 : Int32))])) (fun _ k => XS.iconst X158.here hx rfl (hb hby at_180) k) ?_
    refine Goes.on (B := T158.setTop (mkF m 184 #[.val (.int p0), .val (.int p1), .val (.int p2), .val (.int p3), .val (.int p4), .val (.int (2 : Int32)), .val (.int ff), .val (.ref b1), .val (.ref b12), .val (.ref b59), .val (.int (own_at (2 : Int32) p0))] [])) (fun _ k => XS.icmpNo X158.here hx rfl (hb hby at_181) rfl (flt (by decide)).1 k) ?_
    refine Goes.on (B := T158.setTop (mkF m 186 #[.val (.int p0), .val (.int p1), .val (.int p2), .val (.int p3), .val (.int p4), .val (.int (2 : Int32)), .val (.int ff), .val (.ref b1), .val (.ref b12), .val (.ref b59), .val (.int (own_at (2 : Int32) p0))] [(.ref b59)])) (fun _ k => XS.aload X158.here hx rfl (hb hby at_184) rfl rfl  k) ?_
    refine Goes.on (B := T158.setTop (mkF m 188 #[.val (.int p0), .val (.int p1), .val (.int p2), .val (.int p3), .val (.int p4), .val (.int (2 : Int32)), .val (.int ff), .val (.ref b1), .val (.ref b12), .val (.ref b59), .val (.int (own_at (2 : Int32) p0))] [(.int (own_at (2 : Int32) p0)), (.ref b59)])) (fun _ k => XS.iload X158.here hx rfl (hb hby at_186) rfl  k) ?_
    refine Goes.on (B := T158.setTop (mkF m 189 #[.val (.int p0), .val (.int p1), .val (.int p2), .val (.int p3), .val (.int p4), .val (.int (2 : Int32)), .val (.int ff), .val (.ref b1), .val (.ref b12), .val (.ref b59), .val (.int (own_at (2 : Int32) p0))] [(.int p1), (.int (own_at (2 : Int32) p0)), (.ref b59)])) (fun _ k => XS.iloadN X158.here hx rfl (hb hby at_188) rfl  k) ?_
    refine Goes.on (B := T158.setTop (mkF m 190 #[.val (.int p0), .val (.int p1), .val (.int p2), .val (.int p3), .val (.int p4), .val (.int (2 : Int32)), .val (.int ff), .val (.ref b1), .val (.ref b12), .val (.ref b59), .val (.int (own_at (2 : Int32) p0))] [(.int p0), (.int p1), (.int (own_at (2 : Int32) p0)), (.ref b59)])) (fun _ k => XS.iloadN X158.here hx rfl (hb hby at_189) rfl  k) ?_
    refine Goes.on (B := T158.setTop (mkF m 191 #[.val (.int p0), .val (.int p1), .val (.int p2), .val (.int p3), .val (.int p4), .val (.int (2 : Int32)), .val (.int ff), .val (.ref b1), .val (.ref b12), .val (.ref b59), .val (.int (own_at (2 : Int32) p0))] [(.int (p1 - p0)), (.int (own_at (2 : Int32) p0)), (.ref b59)])) (fun _ k => XS.isub X158.here hx rfl (hb hby at_190) rfl k) ?_
    obtain ⟨LO162, XO162, NO162⟩ := own_opq X158 N158
    obtain ⟨_, _, ⟨T163, L163, k163, n163⟩, -, X163, ⟨Lc163, hQ163, l163, y163, z163⟩, st163⟩ := Jvm.LawKit.callS XO162 hx (y := (⟨"com/example/roadeq/roadeq/assign/LinkCodeEncodePinLaw", "put", "([SII)I"⟩ : MethodName)) hown (mvT hZ (hw _ (List.mem_of_getElem? (i := 2) rfl))) (mvT hZ (hw _ (List.mem_of_getElem? (i := 3) rfl))) (mvT hZ (hw _ (List.mem_of_getElem? (i := 4) rfl))) (mvT hZ (hw _ (List.mem_of_getElem? (i := 5) rfl))) (by decide) (backOf (W := 0) (rmu l Z a0 hw [] b59 (own_at (2 : Int32) p0) (p1 - p0) k59 (own_put [(.int (nar .short ff)), (.int (nar .short ff)), (.int (nar .short ff)), (.int (nar .short ff)), (.int (nar .short ff)), (.int (nar .short ff)), (.int (nar .short ff)), (.int (nar .short ff)), (.int (nar .short ff)), (.int (nar .short ff)), (.int (nar .short ff))] (2 : Int32) p0) h158 n0 z161 Vq158 g_b59 (own_len rfl) (own_up (own_ib (own_i2 : own_in (2 : Int32) 2) (by decide)) (by decide))) hZ (hw _ (List.mem_of_getElem? (i := 5) rfl)) (hw _ (List.mem_of_getElem? (i := 4) rfl)) (by decide) (by decide)) (g := (mkF m 191 #[.val (.int p0), .val (.int p1), .val (.int p2), .val (.int p3), .val (.int p4), .val (.int (2 : Int32)), .val (.int ff), .val (.ref b1), .val (.ref b12), .val (.ref b59), .val (.int (own_at (2 : Int32) p0))] [(.int (p1 - p0)), (.int (own_at (2 : Int32) p0)), (.ref b59)])) rfl (by rw [hml]; rfl) (argsL := [(.ref b59), (.int (own_at (2 : Int32) p0)), (.int (p1 - p0))]) (rest := []) (lenOf pd_0___SII_I rfl) rfl (by show 2 * 0 + _ ≤ _; exact Nat.le_of_eq rfl) (hb hby at_191) (fun _ _ => ⟨rfl, eh158, (by decide : 3 + 0 ≤ _), (by decide : 25 + 0 ≤ _)⟩)
    dsimp only [Pt.U, Pt.locs, Pt.cells, Pt.slots] at X163 l163 y163 z163 st163 hQ163
    subst l163 y163 z163
    obtain ⟨rfl, Nq163, Kq163, Vq163⟩ := hQ163
    obtain ⟨h163, eh163⟩ : ∃ h, T163.heap = h := ⟨_, rfl⟩
    rw [eh163] at Kq163 Vq163
    have f164 := f159.keep Kq163 (ninS ne_b1_b59 nin0)
    have f165 := f160.keep Kq163 (ninS ne_b12_b59 nin0)
    have z166 : n0 ≤ h163.size := Nat.le_trans z161 Kq163.1
    have N163 := Fr.app NO162 Nq163
    refine Goes.on (B := T163.setTop (mkF m 194 #[.val (.int p0), .val (.int p1), .val (.int p2), .val (.int p3), .val (.int p4), .val (.int (2 : Int32)), .val (.int ff), .val (.ref b1), .val (.ref b12), .val (.ref b59), .val (.int (own_at (2 : Int32) p0))] [(.int (own_at (own_at (2 : Int32) p0) (p1 - p0)))])) (fun t k => st163 t k) ?_
    refine Goes.on (B := T163.setTop (mkF m 196 #[.val (.int p0), .val (.int p1), .val (.int p2), .val (.int p3), .val (.int p4), .val (.int (2 : Int32)), .val (.int ff), .val (.ref b1), .val (.ref b12), .val (.ref b59), .val (.int (own_at (own_at (2 : Int32) p0) (p1 - p0)))] [])) (fun _ k => XS.istore X163.here hx rfl (hb hby at_194) rfl (l' := #[.val (.int p0), .val (.int p1), .val (.int p2), .val (.int p3), .val (.int p4), .val (.int (2 : Int32)), .val (.int ff), .val (.ref b1), .val (.ref b12), .val (.ref b59), .val (.int (own_at (own_at (2 : Int32) p0) (p1 - p0)))]) rfl k) ?_
    refine Goes.on (B := T163.setTop (mkF m 198 #[.val (.int p0), .val (.int p1), .val (.int p2), .val (.int p3), .val (.int p4), .val (.int (2 : Int32)), .val (.int ff), .val (.ref b1), .val (.ref b12), .val (.ref b59), .val (.int (own_at (own_at (2 : Int32) p0) (p1 - p0)))] [(.int (2 : Int32))])) (fun _ k => XS.iload X163.here hx rfl (hb hby at_196) rfl  k) ?_
    refine Goes.on (B := T163.setTop (mkF m 199 #[.val (.int p0), .val (.int p1), .val (.int p2), .val (.int p3), .val (.int p4), .val (.int (2 : Int32)), .val (.int ff), .val (.ref b1), .val (.ref b12), .val (.ref b59), .val (.int (own_at (own_at (2 : Int32) p0) (p1 - p0)))] [(.int (3 : Int32)), (.int (2 : Int32))])) (fun _ k => XS.iconst X163.here hx rfl (hb hby at_198) k) ?_
    refine Goes.on (B := T163.setTop (mkF m 214 #[.val (.int p0), .val (.int p1), .val (.int p2), .val (.int p3), .val (.int p4), .val (.int (2 : Int32)), .val (.int ff), .val (.ref b1), .val (.ref b12), .val (.ref b59), .val (.int (own_at (own_at (2 : Int32) p0) (p1 - p0)))] [])) (fun _ k => XS.icmpYes X163.here hx rfl (pc0 := 199) (pc' := 214) rfl (hb hby at_199) rfl (tlt (by decide)).1 (by decide) (by decide) k) ?_
    refine Goes.on (B := T163.setTop (mkF m 216 #[.val (.int p0), .val (.int p1), .val (.int p2), .val (.int p3), .val (.int p4), .val (.int (2 : Int32)), .val (.int ff), .val (.ref b1), .val (.ref b12), .val (.ref b59), .val (.int (own_at (own_at (2 : Int32) p0) (p1 - p0)))] [(.ref b59)])) (fun _ k => XS.aload X163.here hx rfl (hb hby at_214) rfl rfl  k) ?_
    refine Goes.on (B := T163.setTop (mkF m 217 #[.val (.int p0), .val (.int p1), .val (.int p2), .val (.int p3), .val (.int p4), .val (.int (2 : Int32)), .val (.int ff), .val (.ref b1), .val (.ref b12), .val (.ref b59), .val (.int (own_at (own_at (2 : Int32) p0) (p1 - p0)))] [(.int (0 : Int32)), (.ref b59)])) (fun _ k => XS.iconst X163.here hx rfl (hb hby at_216) k) ?_
    refine Goes.on (B := T163.setTop (mkF m 218 #[.val (.int p0), .val (.int p1), .val (.int p2), .val (.int p3), .val (.int p4), .val (.int (2 : Int32)), .val (.int ff), .val (.ref b1), .val (.ref b12), .val (.ref b59), .val (.int (own_at (own_at (2 : Int32) p0) (p1 - p0)))] [(.int (0 : Int32)), (.int (0 : Int32)), (.ref b59)])) (fun _ k => XS.iconst X163.here hx rfl (hb hby at_217) k) ?_
    obtain ⟨cl167, Ar167, q167, S167, Nn167, H167, G167⟩ := id Vq163
    have hin167 : ¬ ((0 : Int32) < 0 ∨ cl167.slots.size ≤ ((0 : Int32)).toNatClampNeg) := inb_of S167 (own_hin (⟨by decide, by decide⟩ : own_in (0 : Int32) 10))
    obtain ⟨T168, h168, X168, e168, W168, st168⟩ := stS X163 hx hZ eh163 Ar167 (j := (0 : Int32)) hin167 (g := (mkF m 218 #[.val (.int p0), .val (.int p1), .val (.int p2), .val (.int p3), .val (.int p4), .val (.int (2 : Int32)), .val (.int ff), .val (.ref b1), .val (.ref b12), .val (.ref b59), .val (.int (own_at (own_at (2 : Int32) p0) (p1 - p0)))] [(.int (0 : Int32)), (.int (0 : Int32)), (.ref b59)])) rfl rfl (hb hby at_218)
    have V168 : Arv Z h168 b59 k59 .short (11 : Int32) ((own_put (own_put [(.int (nar .short ff)), (.int (nar .short ff)), (.int (nar .short ff)), (.int (nar .short ff)), (.int (nar .short ff)), (.int (nar .short ff)), (.int (nar .short ff)), (.int (nar .short ff)), (.int (nar .short ff)), (.int (nar .short ff)), (.int (nar .short ff))] (2 : Int32) p0) (own_at (2 : Int32) p0) (p1 - p0)).set 0 (.int (nar .short (0 : Int32)))) (.int (0 : Int32)) := Arv.set Ar167 q167 S167 Nn167 H167 G167 (fits_nar_short _) W168 0 rfl (by rw [(own_len (own_len rfl))]; decide)
    have f169 := f164.other W168 ne_b1_b59
    have f170 := f165.other W168 ne_b12_b59
    have z171 : n0 ≤ h168.size := Nat.le_trans z166 (Keep.of_wr W168).1
    have N168 := Fr.snoc X168 N163 g_b59
    refine Goes.on (B := T168.setTop (mkF m 219 #[.val (.int p0), .val (.int p1), .val (.int p2), .val (.int p3), .val (.int p4), .val (.int (2 : Int32)), .val (.int ff), .val (.ref b1), .val (.ref b12), .val (.ref b59), .val (.int (own_at (own_at (2 : Int32) p0) (p1 - p0)))] [])) (fun t k => st168 t k) ?_
    refine Goes.on (B := T168.setTop (mkF m 221 #[.val (.int p0), .val (.int p1), .val (.int p2), .val (.int p3), .val (.int p4), .val (.int (2 : Int32)), .val (.int ff), .val (.ref b1), .val (.ref b12), .val (.ref b59), .val (.int (own_at (own_at (2 : Int32) p0) (p1 - p0)))] [(.ref b59)])) (fun _ k => XS.aload X168.here hx rfl (hb hby at_219) rfl rfl  k) ?_
    refine Goes.on (B := T168.setTop (mkF m 222 #[.val (.int p0), .val (.int p1), .val (.int p2), .val (.int p3), .val (.int p4), .val (.int (2 : Int32)), .val (.int ff), .val (.ref b1), .val (.ref b12), .val (.ref b59), .val (.int (own_at (own_at (2 : Int32) p0) (p1 - p0)))] [(.int (1 : Int32)), (.ref b59)])) (fun _ k => XS.iconst X168.here hx rfl (hb hby at_221) k) ?_
    refine Goes.on (B := T168.setTop (mkF m 224 #[.val (.int p0), .val (.int p1), .val (.int p2), .val (.int p3), .val (.int p4), .val (.int (2 : Int32)), .val (.int ff), .val (.ref b1), .val (.ref b12), .val (.ref b59), .val (.int (own_at (own_at (2 : Int32) p0) (p1 - p0)))] [(.int (own_at (own_at (2 : Int32) p0) (p1 - p0))), (.int (1 : Int32)), (.ref b59)])) (fun _ k => XS.iload X168.here hx rfl (hb hby at_222) rfl  k) ?_
    refine Goes.on (B := T168.setTop (mkF m 225 #[.val (.int p0), .val (.int p1), .val (.int p2), .val (.int p3), .val (.int p4), .val (.int (2 : Int32)), .val (.int ff), .val (.ref b1), .val (.ref b12), .val (.ref b59), .val (.int (own_at (own_at (2 : Int32) p0) (p1 - p0)))] [(.int ((own_at (own_at (2 : Int32) p0) (p1 - p0)).toInt16.toInt32)), (.int (1 : Int32)), (.ref b59)])) (fun _ k => XS.i2s X168.here hx rfl (hb hby at_224) rfl k) ?_
    obtain ⟨cl172, Ar172, q172, S172, Nn172, H172, G172⟩ := id V168
    have hin172 : ¬ ((1 : Int32) < 0 ∨ cl172.slots.size ≤ ((1 : Int32)).toNatClampNeg) := inb_of S172 (own_hin (⟨by decide, by decide⟩ : own_in (1 : Int32) 10))
    obtain ⟨T173, h173, X173, e173, W173, st173⟩ := stS X168 hx hZ e168 Ar172 (j := (1 : Int32)) hin172 (g := (mkF m 225 #[.val (.int p0), .val (.int p1), .val (.int p2), .val (.int p3), .val (.int p4), .val (.int (2 : Int32)), .val (.int ff), .val (.ref b1), .val (.ref b12), .val (.ref b59), .val (.int (own_at (own_at (2 : Int32) p0) (p1 - p0)))] [(.int ((own_at (own_at (2 : Int32) p0) (p1 - p0)).toInt16.toInt32)), (.int (1 : Int32)), (.ref b59)])) rfl rfl (hb hby at_225)
    have V173 : Arv Z h173 b59 k59 .short (11 : Int32) (((own_put (own_put [(.int (nar .short ff)), (.int (nar .short ff)), (.int (nar .short ff)), (.int (nar .short ff)), (.int (nar .short ff)), (.int (nar .short ff)), (.int (nar .short ff)), (.int (nar .short ff)), (.int (nar .short ff)), (.int (nar .short ff)), (.int (nar .short ff))] (2 : Int32) p0) (own_at (2 : Int32) p0) (p1 - p0)).set 0 (.int (nar .short (0 : Int32)))).set 1 (.int (nar .short ((own_at (own_at (2 : Int32) p0) (p1 - p0)).toInt16.toInt32)))) (.int (0 : Int32)) := Arv.set Ar172 q172 S172 Nn172 H172 G172 (fits_nar_short _) W173 1 rfl (by rw [List.length_set]; first | exact Nat.le_of_ble_eq_true rfl | (rw [(own_len (own_len rfl))]; decide))
    have f174 := f169.other W173 ne_b1_b59
    have f175 := f170.other W173 ne_b12_b59
    have z176 : n0 ≤ h173.size := Nat.le_trans z171 (Keep.of_wr W173).1
    have N173 := Fr.snoc X173 N168 g_b59
    refine Goes.on (B := T173.setTop (mkF m 226 #[.val (.int p0), .val (.int p1), .val (.int p2), .val (.int p3), .val (.int p4), .val (.int (2 : Int32)), .val (.int ff), .val (.ref b1), .val (.ref b12), .val (.ref b59), .val (.int (own_at (own_at (2 : Int32) p0) (p1 - p0)))] [])) (fun t k => st173 t k) ?_
    refine Goes.on (B := T173.setTop (mkF m 228 #[.val (.int p0), .val (.int p1), .val (.int p2), .val (.int p3), .val (.int p4), .val (.int (2 : Int32)), .val (.int ff), .val (.ref b1), .val (.ref b12), .val (.ref b59), .val (.int (own_at (own_at (2 : Int32) p0) (p1 - p0)))] [(.ref b1)])) (fun _ k => XS.aload X173.here hx rfl (hb hby at_226) rfl rfl  k) ?_
    refine Goes.on (B := T173.setTop (mkF m 230 #[.val (.int p0), .val (.int p1), .val (.int p2), .val (.int p3), .val (.int p4), .val (.int (2 : Int32)), .val (.int ff), .val (.ref b1), .val (.ref b12), .val (.ref b59), .val (.int (own_at (own_at (2 : Int32) p0) (p1 - p0)))] [(.int (2 : Int32)), (.ref b1)])) (fun _ k => XS.iload X173.here hx rfl (hb hby at_228) rfl  k) ?_
    refine Goes.on (B := T173.setTop (mkF m 232 #[.val (.int p0), .val (.int p1), .val (.int p2), .val (.int p3), .val (.int p4), .val (.int (2 : Int32)), .val (.int ff), .val (.ref b1), .val (.ref b12), .val (.ref b59), .val (.int (own_at (own_at (2 : Int32) p0) (p1 - p0)))] [(.ref b12), (.int (2 : Int32)), (.ref b1)])) (fun _ k => XS.aload X173.here hx rfl (hb hby at_230) rfl rfl  k) ?_
    obtain ⟨LO177, XO177, NO177⟩ := own_opq X173 N173
    obtain ⟨_, _, ⟨T178, L178, k178, n178⟩, -, X178, ⟨Lc178, hQ178, l178, y178, z178⟩, st178⟩ := Jvm.LawKit.callS XO177 hx (y := (⟨"com/example/roadeq/roadeq/assign/LinkCode", "encode", "([II[S)V"⟩ : MethodName)) hown (mvT hZ (hw _ (List.mem_of_getElem? (i := 6) rfl))) (mvT hZ (hw _ (List.mem_of_getElem? (i := 7) rfl))) (mvT hZ (hw _ (List.mem_of_getElem? (i := 8) rfl))) (mvT hZ (hw _ (List.mem_of_getElem? (i := 9) rfl))) (by decide) (backOf (W := 0) (rmen2 l Z a0 hw [] b1 b12 k1 k12 p0 p1 p2 [(.int (nar .short ff)), (.int (nar .short ff)), (.int (nar .short ff)), (.int (nar .short ff)), (.int (nar .short ff)), (.int (nar .short ff)), (.int (nar .short ff)), (.int (nar .short ff)), (.int (nar .short ff)), (.int (nar .short ff)), (.int (nar .short ff))] h173 n0 z176 f174 f175 g_b12 rfl ne_b1_b12) hZ (hw _ (List.mem_of_getElem? (i := 9) rfl)) (hw _ (List.mem_of_getElem? (i := 8) rfl)) (by decide) (by decide)) (g := (mkF m 232 #[.val (.int p0), .val (.int p1), .val (.int p2), .val (.int p3), .val (.int p4), .val (.int (2 : Int32)), .val (.int ff), .val (.ref b1), .val (.ref b12), .val (.ref b59), .val (.int (own_at (own_at (2 : Int32) p0) (p1 - p0)))] [(.ref b12), (.int (2 : Int32)), (.ref b1)])) rfl (by rw [hml]; rfl) (argsL := [(.ref b1), (.int (2 : Int32)), (.ref b12)]) (rest := []) (lenOf pd_0___II_S_V rfl) rfl (by show 2 * 0 + _ ≤ _; exact Nat.le_of_eq rfl) (hb hby at_232) (fun _ _ => ⟨rfl, e173, (by decide : 3 + 0 ≤ _), (by decide : 25 + 0 ≤ _)⟩)
    dsimp only [Pt.U, Pt.locs, Pt.cells, Pt.slots] at X178 l178 y178 z178 st178 hQ178
    subst l178 y178 z178
    obtain ⟨rfl, Nq178, Kq178, Vq178⟩ := hQ178
    obtain ⟨h178, eh178⟩ : ∃ h, T178.heap = h := ⟨_, rfl⟩
    rw [eh178] at Kq178 Vq178
    have f179 := f174.keep Kq178 (ninS ne_b1_b12 nin0)
    have f180 := V173.keep Kq178 (ninS (Ne.symm ne_b12_b59) nin0)
    have z181 : n0 ≤ h178.size := Nat.le_trans z176 Kq178.1
    rw [own_lists2 _ p0 p1 p2] at Vq178
    have N178 := Fr.app NO177 Nq178
    refine Goes.on (B := T178.setTop (mkF m 235 #[.val (.int p0), .val (.int p1), .val (.int p2), .val (.int p3), .val (.int p4), .val (.int (2 : Int32)), .val (.int ff), .val (.ref b1), .val (.ref b12), .val (.ref b59), .val (.int (own_at (own_at (2 : Int32) p0) (p1 - p0)))] [])) (fun t k => st178 t k) ?_
    refine Goes.on (B := T178.setTop (mkF m 237 #[.val (.int p0), .val (.int p1), .val (.int p2), .val (.int p3), .val (.int p4), .val (.int (2 : Int32)), .val (.int ff), .val (.ref b1), .val (.ref b12), .val (.ref b59), .val (.int (own_at (own_at (2 : Int32) p0) (p1 - p0)))] [(.ref b12)])) (fun _ k => XS.aload X178.here hx rfl (hb hby at_235) rfl rfl  k) ?_
    refine Goes.on (B := T178.setTop (mkF m 239 #[.val (.int p0), .val (.int p1), .val (.int p2), .val (.int p3), .val (.int p4), .val (.int (2 : Int32)), .val (.int ff), .val (.ref b1), .val (.ref b12), .val (.ref b59), .val (.int (own_at (own_at (2 : Int32) p0) (p1 - p0)))] [(.ref b59), (.ref b12)])) (fun _ k => XS.aload X178.here hx rfl (hb hby at_237) rfl rfl  k) ?_
    obtain ⟨LO182, XO182, NO182⟩ := own_opq X178 N178
    obtain ⟨_, _, ⟨T183, L183, k183, n183⟩, -, X183, ⟨Lc183, hQ183, l183, y183, z183⟩, st183⟩ := Jvm.LawKit.callS XO182 hx (y := (⟨"com/example/roadeq/roadeq/assign/LinkCodeEncodePinLaw", "same", "([S[S)Z"⟩ : MethodName)) hown (mvT hZ (hw _ (List.mem_of_getElem? (i := 13) rfl))) (mvT hZ (hw _ (List.mem_of_getElem? (i := 14) rfl))) (mvT hZ (hw _ (List.mem_of_getElem? (i := 4) rfl))) (mvT hZ (hw _ (List.mem_of_getElem? (i := 15) rfl))) (by decide) (backOf (W := 0) (rmsm l Z a0 hw [] b12 b59 k12 k59 (((own_put (own_put [(.int (nar .short ff)), (.int (nar .short ff)), (.int (nar .short ff)), (.int (nar .short ff)), (.int (nar .short ff)), (.int (nar .short ff)), (.int (nar .short ff)), (.int (nar .short ff)), (.int (nar .short ff)), (.int (nar .short ff)), (.int (nar .short ff))] (2 : Int32) p0) (own_at (2 : Int32) p0) (p1 - p0)).set 0 (.int (nar .short (0 : Int32)))).set 1 (.int (nar .short ((own_at (own_at (2 : Int32) p0) (p1 - p0)).toInt16.toInt32)))) h178 n0 z181 Vq178 f180) hZ (hw _ (List.mem_of_getElem? (i := 15) rfl)) (hw _ (List.mem_of_getElem? (i := 4) rfl)) (by decide) (by decide)) (g := (mkF m 239 #[.val (.int p0), .val (.int p1), .val (.int p2), .val (.int p3), .val (.int p4), .val (.int (2 : Int32)), .val (.int ff), .val (.ref b1), .val (.ref b12), .val (.ref b59), .val (.int (own_at (own_at (2 : Int32) p0) (p1 - p0)))] [(.ref b59), (.ref b12)])) rfl (by rw [hml]; rfl) (argsL := [(.ref b12), (.ref b59)]) (rest := []) (lenOf pd_0___S_S_Z rfl) rfl (by show 2 * 0 + _ ≤ _; exact Nat.le_of_eq rfl) (hb hby at_239) (fun _ _ => ⟨rfl, eh178, (by decide : 3 + 0 ≤ _), (by decide : 25 + 0 ≤ _)⟩)
    dsimp only [Pt.U, Pt.locs, Pt.cells, Pt.slots] at X183 l183 y183 z183 st183 hQ183
    subst l183 y183 z183
    obtain ⟨rfl, Nq183, eh183⟩ := hQ183
    have N183 := Fr.app NO182 Nq183
    refine Goes.on (B := T183.setTop (mkF m 242 #[.val (.int p0), .val (.int p1), .val (.int p2), .val (.int p3), .val (.int p4), .val (.int (2 : Int32)), .val (.int ff), .val (.ref b1), .val (.ref b12), .val (.ref b59), .val (.int (own_at (own_at (2 : Int32) p0) (p1 - p0)))] [(.int (1 : Int32))])) (fun t k => st183 t k) ?_
    obtain ⟨fs, hr, hrun, hended, hW, hsame⟩ := X183.leave (v := some (.int (1 : Int32))) (fun h => by rw [Bd.returns] at h; cases h)
    exact Goes.leaf (retN X183 hx (t := .boolean) Bd.returns (by simp) (hb hby at_242) hr) hrun hended ⟨_, _, rfl, by show Q0 Z p0 p1 p2 p3 p4 h0 n0 _ T183.heap _; exact ⟨rfl, N183⟩, ⟨_, rfl⟩, hW, hsame.mono (by decide) (by decide)⟩
  · refine Goes.on (B := T114.setTop (mkF m 164 #[.val (.int p0), .val (.int p1), .val (.int p2), .val (.int p3), .val (.int p4), .val (.int (3 : Int32)), .val (.int ff), .val (.ref b1), .val (.ref b12), .val (.ref b59), .val (.int (2 : Int32))] [(.int (3 : Int32))])) (fun _ k => XS.iload X114.here hx rfl (hb hby at_162) rfl  k) ?_
    refine Goes.on (B := T114.setTop (mkF m 165 #[.val (.int p0), .val (.int p1), .val (.int p2), .val (.int p3), .val (.int p4), .val (.int (3 : Int32)), .val (.int ff), .val (.ref b1), .val (.ref b12), .val (.ref b59), .val (.int (2 : Int32))] [(.int (1 : Int32)), (.int (3 : Int32))])) (fun _ k => XS.iconst X114.here hx rfl (hb hby at_164) k) ?_
    refine Goes.on (B := T114.setTop (mkF m 168 #[.val (.int p0), .val (.int p1), .val (.int p2), .val (.int p3), .val (.int p4), .val (.int (3 : Int32)), .val (.int ff), .val (.ref b1), .val (.ref b12), .val (.ref b59), .val (.int (2 : Int32))] [])) (fun _ k => XS.icmpNo X114.here hx rfl (hb hby at_165) rfl (flt (by decide)).1 k) ?_
    refine Goes.on (B := T114.setTop (mkF m 170 #[.val (.int p0), .val (.int p1), .val (.int p2), .val (.int p3), .val (.int p4), .val (.int (3 : Int32)), .val (.int ff), .val (.ref b1), .val (.ref b12), .val (.ref b59), .val (.int (2 : Int32))] [(.ref b59)])) (fun _ k => XS.aload X114.here hx rfl (hb hby at_168) rfl rfl  k) ?_
    refine Goes.on (B := T114.setTop (mkF m 172 #[.val (.int p0), .val (.int p1), .val (.int p2), .val (.int p3), .val (.int p4), .val (.int (3 : Int32)), .val (.int ff), .val (.ref b1), .val (.ref b12), .val (.ref b59), .val (.int (2 : Int32))] [(.int (2 : Int32)), (.ref b59)])) (fun _ k => XS.iload X114.here hx rfl (hb hby at_170) rfl  k) ?_
    refine Goes.on (B := T114.setTop (mkF m 173 #[.val (.int p0), .val (.int p1), .val (.int p2), .val (.int p3), .val (.int p4), .val (.int (3 : Int32)), .val (.int ff), .val (.ref b1), .val (.ref b12), .val (.ref b59), .val (.int (2 : Int32))] [(.int p0), (.int (2 : Int32)), (.ref b59)])) (fun _ k => XS.iloadN X114.here hx rfl (hb hby at_172) rfl  k) ?_
    obtain ⟨LO184, XO184, NO184⟩ := own_opq X114 N114
    obtain ⟨_, _, ⟨T185, L185, k185, n185⟩, -, X185, ⟨Lc185, hQ185, l185, y185, z185⟩, st185⟩ := Jvm.LawKit.callS XO184 hx (y := (⟨"com/example/roadeq/roadeq/assign/LinkCodeEncodePinLaw", "put", "([SII)I"⟩ : MethodName)) hown (mvT hZ (hw _ (List.mem_of_getElem? (i := 2) rfl))) (mvT hZ (hw _ (List.mem_of_getElem? (i := 3) rfl))) (mvT hZ (hw _ (List.mem_of_getElem? (i := 4) rfl))) (mvT hZ (hw _ (List.mem_of_getElem? (i := 5) rfl))) (by decide) (backOf (W := 0) (rmu l Z a0 hw [] b59 (2 : Int32) p0 k59 [(.int (nar .short ff)), (.int (nar .short ff)), (.int (nar .short ff)), (.int (nar .short ff)), (.int (nar .short ff)), (.int (nar .short ff)), (.int (nar .short ff)), (.int (nar .short ff)), (.int (nar .short ff)), (.int (nar .short ff)), (.int (nar .short ff))] h114 n0 z117 V114 g_b59 rfl (own_up (own_i2 : own_in (2 : Int32) 2) (by decide))) hZ (hw _ (List.mem_of_getElem? (i := 5) rfl)) (hw _ (List.mem_of_getElem? (i := 4) rfl)) (by decide) (by decide)) (g := (mkF m 173 #[.val (.int p0), .val (.int p1), .val (.int p2), .val (.int p3), .val (.int p4), .val (.int (3 : Int32)), .val (.int ff), .val (.ref b1), .val (.ref b12), .val (.ref b59), .val (.int (2 : Int32))] [(.int p0), (.int (2 : Int32)), (.ref b59)])) rfl (by rw [hml]; rfl) (argsL := [(.ref b59), (.int (2 : Int32)), (.int p0)]) (rest := []) (lenOf pd_0___SII_I rfl) rfl (by show 2 * 0 + _ ≤ _; exact Nat.le_of_eq rfl) (hb hby at_173) (fun _ _ => ⟨rfl, e114, (by decide : 3 + 0 ≤ _), (by decide : 25 + 0 ≤ _)⟩)
    dsimp only [Pt.U, Pt.locs, Pt.cells, Pt.slots] at X185 l185 y185 z185 st185 hQ185
    subst l185 y185 z185
    obtain ⟨rfl, Nq185, Kq185, Vq185⟩ := hQ185
    obtain ⟨h185, eh185⟩ : ∃ h, T185.heap = h := ⟨_, rfl⟩
    rw [eh185] at Kq185 Vq185
    have f186 := f115.keep Kq185 (ninS ne_b1_b59 nin0)
    have f187 := f116.keep Kq185 (ninS ne_b12_b59 nin0)
    have z188 : n0 ≤ h185.size := Nat.le_trans z117 Kq185.1
    have N185 := Fr.app NO184 Nq185
    refine Goes.on (B := T185.setTop (mkF m 176 #[.val (.int p0), .val (.int p1), .val (.int p2), .val (.int p3), .val (.int p4), .val (.int (3 : Int32)), .val (.int ff), .val (.ref b1), .val (.ref b12), .val (.ref b59), .val (.int (2 : Int32))] [(.int (own_at (2 : Int32) p0))])) (fun t k => st185 t k) ?_
    refine Goes.on (B := T185.setTop (mkF m 178 #[.val (.int p0), .val (.int p1), .val (.int p2), .val (.int p3), .val (.int p4), .val (.int (3 : Int32)), .val (.int ff), .val (.ref b1), .val (.ref b12), .val (.ref b59), .val (.int (own_at (2 : Int32) p0))] [])) (fun _ k => XS.istore X185.here hx rfl (hb hby at_176) rfl (l' := #[.val (.int p0), .val (.int p1), .val (.int p2), .val (.int p3), .val (.int p4), .val (.int (3 : Int32)), .val (.int ff), .val (.ref b1), .val (.ref b12), .val (.ref b59), .val (.int (own_at (2 : Int32) p0))]) rfl k) ?_
    refine Goes.on (B := T185.setTop (mkF m 180 #[.val (.int p0), .val (.int p1), .val (.int p2), .val (.int p3), .val (.int p4), .val (.int (3 : Int32)), .val (.int ff), .val (.ref b1), .val (.ref b12), .val (.ref b59), .val (.int (own_at (2 : Int32) p0))] [(.int (3 : Int32))])) (fun _ k => XS.iload X185.here hx rfl (hb hby at_178) rfl  k) ?_
    refine Goes.on (B := T185.setTop (mkF m 181 #[.val (.int p0), .val (.int p1), .val (.int p2), .val (.int p3), .val (.int p4), .val (.int (3 : Int32)), .val (.int ff), .val (.ref b1), .val (.ref b12), .val (.ref b59), .val (.int (own_at (2 : Int32) p0))] [(.int (2 : Int32)), (.int (3 : Int32))])) (fun _ k => XS.iconst X185.here hx rfl (hb hby at_180) k) ?_
    refine Goes.on (B := T185.setTop (mkF m 184 #[.val (.int p0), .val (.int p1), .val (.int p2), .val (.int p3), .val (.int p4), .val (.int (3 : Int32)), .val (.int ff), .val (.ref b1), .val (.ref b12), .val (.ref b59), .val (.int (own_at (2 : Int32) p0))] [])) (fun _ k => XS.icmpNo X185.here hx rfl (hb hby at_181) rfl (flt (by decide)).1 k) ?_
    refine Goes.on (B := T185.setTop (mkF m 186 #[.val (.int p0), .val (.int p1), .val (.int p2), .val (.int p3), .val (.int p4), .val (.int (3 : Int32)), .val (.int ff), .val (.ref b1), .val (.ref b12), .val (.ref b59), .val (.int (own_at (2 : Int32) p0))] [(.ref b59)])) (fun _ k => XS.aload X185.here hx rfl (hb hby at_184) rfl rfl  k) ?_
    refine Goes.on (B := T185.setTop (mkF m 188 #[.val (.int p0), .val (.int p1), .val (.int p2), .val (.int p3), .val (.int p4), .val (.int (3 : Int32)), .val (.int ff), .val (.ref b1), .val (.ref b12), .val (.ref b59), .val (.int (own_at (2 : Int32) p0))] [(.int (own_at (2 : Int32) p0)), (.ref b59)])) (fun _ k => XS.iload X185.here hx rfl (hb hby at_186) rfl  k) ?_
    refine Goes.on (B := T185.setTop (mkF m 189 #[.val (.int p0), .val (.int p1), .val (.int p2), .val (.int p3), .val (.int p4), .val (.int (3 : Int32)), .val (.int ff), .val (.ref b1), .val (.ref b12), .val (.ref b59), .val (.int (own_at (2 : Int32) p0))] [(.int p1), (.int (own_at (2 : Int32) p0)), (.ref b59)])) (fun _ k => XS.iloadN X185.here hx rfl (hb hby at_188) rfl  k) ?_
    refine Goes.on (B := T185.setTop (mkF m 190 #[.val (.int p0), .val (.int p1), .val (.int p2), .val (.int p3), .val (.int p4), .val (.int (3 : Int32)), .val (.int ff), .val (.ref b1), .val (.ref b12), .val (.ref b59), .val (.int (own_at (2 : Int32) p0))] [(.int p0), (.int p1), (.int (own_at (2 : Int32) p0)), (.ref b59)])) (fun _ k => XS.iloadN X185.here hx rfl (hb hby at_189) rfl  k) ?_
    refine Goes.on (B := T185.setTop (mkF m 191 #[.val (.int p0), .val (.int p1), .val (.int p2), .val (.int p3), .val (.int p4), .val (.int (3 : Int32)), .val (.int ff), .val (.ref b1), .val (.ref b12), .val (.ref b59), .val (.int (own_at (2 : Int32) p0))] [(.int (p1 - p0)), (.int (own_at (2 : Int32) p0)), (.ref b59)])) (fun _ k => XS.isub X185.here hx rfl (hb hby at_190) rfl k) ?_
    obtain ⟨LO189, XO189, NO189⟩ := own_opq X185 N185
    obtain ⟨_, _, ⟨T190, L190, k190, n190⟩, -, X190, ⟨Lc190, hQ190, l190, y190, z190⟩, st190⟩ := Jvm.LawKit.callS XO189 hx (y := (⟨"com/example/roadeq/roadeq/assign/LinkCodeEncodePinLaw", "put", "([SII)I"⟩ : MethodName)) hown (mvT hZ (hw _ (List.mem_of_getElem? (i := 2) rfl))) (mvT hZ (hw _ (List.mem_of_getElem? (i := 3) rfl))) (mvT hZ (hw _ (List.mem_of_getElem? (i := 4) rfl))) (mvT hZ (hw _ (List.mem_of_getElem? (i := 5) rfl))) (by decide) (backOf (W := 0) (rmu l Z a0 hw [] b59 (own_at (2 : Int32) p0) (p1 - p0) k59 (own_put [(.int (nar .short ff)), (.int (nar .short ff)), (.int (nar .short ff)), (.int (nar .short ff)), (.int (nar .short ff)), (.int (nar .short ff)), (.int (nar .short ff)), (.int (nar .short ff)), (.int (nar .short ff)), (.int (nar .short ff)), (.int (nar .short ff))] (2 : Int32) p0) h185 n0 z188 Vq185 g_b59 (own_len rfl) (own_up (own_ib (own_i2 : own_in (2 : Int32) 2) (by decide)) (by decide))) hZ (hw _ (List.mem_of_getElem? (i := 5) rfl)) (hw _ (List.mem_of_getElem? (i := 4) rfl)) (by decide) (by decide)) (g := (mkF m 191 #[.val (.int p0), .val (.int p1), .val (.int p2), .val (.int p3), .val (.int p4), .val (.int (3 : Int32)), .val (.int ff), .val (.ref b1), .val (.ref b12), .val (.ref b59), .val (.int (own_at (2 : Int32) p0))] [(.int (p1 - p0)), (.int (own_at (2 : Int32) p0)), (.ref b59)])) rfl (by rw [hml]; rfl) (argsL := [(.ref b59), (.int (own_at (2 : Int32) p0)), (.int (p1 - p0))]) (rest := []) (lenOf pd_0___SII_I rfl) rfl (by show 2 * 0 + _ ≤ _; exact Nat.le_of_eq rfl) (hb hby at_191) (fun _ _ => ⟨rfl, eh185, (by decide : 3 + 0 ≤ _), (by decide : 25 + 0 ≤ _)⟩)
    dsimp only [Pt.U, Pt.locs, Pt.cells, Pt.slots] at X190 l190 y190 z190 st190 hQ190
    subst l190 y190 z190
    obtain ⟨rfl, Nq190, Kq190, Vq190⟩ := hQ190
    obtain ⟨h190, eh190⟩ : ∃ h, T190.heap = h := ⟨_, rfl⟩
    rw [eh190] at Kq190 Vq190
    have f191 := f186.keep Kq190 (ninS ne_b1_b59 nin0)
    have f192 := f187.keep Kq190 (ninS ne_b12_b59 nin0)
    have z193 : n0 ≤ h190.size := Nat.le_trans z188 Kq190.1
    have N190 := Fr.app NO189 Nq190
    refine Goes.on (B := T190.setTop (mkF m 194 #[.val (.int p0), .val (.int p1), .val (.int p2), .val (.int p3), .val (.int p4), .val (.int (3 : Int32)), .val (.int ff), .val (.ref b1), .val (.ref b12), .val (.ref b59), .val (.int (own_at (2 : Int32) p0))] [(.int (own_at (own_at (2 : Int32) p0) (p1 - p0)))])) (fun t k => st190 t k) ?_
    refine Goes.on (B := T190.setTop (mkF m 196 #[.val (.int p0), .val (.int p1), .val (.int p2), .val (.int p3), .val (.int p4), .val (.int (3 : Int32)), .val (.int ff), .val (.ref b1), .val (.ref b12), .val (.ref b59), .val (.int (own_at (own_at (2 : Int32) p0) (p1 - p0)))] [])) (fun _ k => XS.istore X190.here hx rfl (hb hby at_194) rfl (l' := #[.val (.int p0), .val (.int p1), .val (.int p2), .val (.int p3), .val (.int p4), .val (.int (3 : Int32)), .val (.int ff), .val (.ref b1), .val (.ref b12), .val (.ref b59), .val (.int (own_at (own_at (2 : Int32) p0) (p1 - p0)))]) rfl k) ?_
    refine Goes.on (B := T190.setTop (mkF m 198 #[.val (.int p0), .val (.int p1), .val (.int p2), .val (.int p3), .val (.int p4), .val (.int (3 : Int32)), .val (.int ff), .val (.ref b1), .val (.ref b12), .val (.ref b59), .val (.int (own_at (own_at (2 : Int32) p0) (p1 - p0)))] [(.int (3 : Int32))])) (fun _ k => XS.iload X190.here hx rfl (hb hby at_196) rfl  k) ?_
    refine Goes.on (B := T190.setTop (mkF m 199 #[.val (.int p0), .val (.int p1), .val (.int p2), .val (.int p3), .val (.int p4), .val (.int (3 : Int32)), .val (.int ff), .val (.ref b1), .val (.ref b12), .val (.ref b59), .val (.int (own_at (own_at (2 : Int32) p0) (p1 - p0)))] [(.int (3 : Int32)), (.int (3 : Int32))])) (fun _ k => XS.iconst X190.here hx rfl (hb hby at_198) k) ?_
    refine Goes.on (B := T190.setTop (mkF m 202 #[.val (.int p0), .val (.int p1), .val (.int p2), .val (.int p3), .val (.int p4), .val (.int (3 : Int32)), .val (.int ff), .val (.ref b1), .val (.ref b12), .val (.ref b59), .val (.int (own_at (own_at (2 : Int32) p0) (p1 - p0)))] [])) (fun _ k => XS.icmpNo X190.here hx rfl (hb hby at_199) rfl (flt (by decide)).1 k) ?_
    refine Goes.on (B := T190.setTop (mkF m 204 #[.val (.int p0), .val (.int p1), .val (.int p2), .val (.int p3), .val (.int p4), .val (.int (3 : Int32)), .val (.int ff), .val (.ref b1), .val (.ref b12), .val (.ref b59), .val (.int (own_at (own_at (2 : Int32) p0) (p1 - p0)))] [(.ref b59)])) (fun _ k => XS.aload X190.here hx rfl (hb hby at_202) rfl rfl  k) ?_
    refine Goes.on (B := T190.setTop (mkF m 206 #[.val (.int p0), .val (.int p1), .val (.int p2), .val (.int p3), .val (.int p4), .val (.int (3 : Int32)), .val (.int ff), .val (.ref b1), .val (.ref b12), .val (.ref b59), .val (.int (own_at (own_at (2 : Int32) p0) (p1 - p0)))] [(.int (own_at (own_at (2 : Int32) p0) (p1 - p0))), (.ref b59)])) (fun _ k => XS.iload X190.here hx rfl (hb hby at_204) rfl  k) ?_
    refine Goes.on (B := T190.setTop (mkF m 207 #[.val (.int p0), .val (.int p1), .val (.int p2), .val (.int p3), .val (.int p4), .val (.int (3 : Int32)), .val (.int ff), .val (.ref b1), .val (.ref b12), .val (.ref b59), .val (.int (own_at (own_at (2 : Int32) p0) (p1 - p0)))] [(.int p2), (.int (own_at (own_at (2 : Int32) p0) (p1 - p0))), (.ref b59)])) (fun _ k => XS.iloadN X190.here hx rfl (hb hby at_206) rfl  k) ?_
    refine Goes.on (B := T190.setTop (mkF m 208 #[.val (.int p0), .val (.int p1), .val (.int p2), .val (.int p3), .val (.int p4), .val (.int (3 : Int32)), .val (.int ff), .val (.ref b1), .val (.ref b12), .val (.ref b59), .val (.int (own_at (own_at (2 : Int32) p0) (p1 - p0)))] [(.int p1), (.int p2), (.int (own_at (own_at (2 : Int32) p0) (p1 - p0))), (.ref b59)])) (fun _ k => XS.iloadN X190.here hx rfl (hb hby at_207) rfl  k) ?_
    refine Goes.on (B := T190.setTop (mkF m 209 #[.val (.int p0), .val (.int p1), .val (.int p2), .val (.int p3), .val (.int p4), .val (.int (3 : Int32)), .val (.int ff), .val (.ref b1), .val (.ref b12), .val (.ref b59), .val (.int (own_at (own_at (2 : Int32) p0) (p1 - p0)))] [(.int (p2 - p1)), (.int (own_at (own_at (2 : Int32) p0) (p1 - p0))), (.ref b59)])) (fun _ k => XS.isub X190.here hx rfl (hb hby at_208) rfl k) ?_
    obtain ⟨LO194, XO194, NO194⟩ := own_opq X190 N190
    obtain ⟨_, _, ⟨T195, L195, k195, n195⟩, -, X195, ⟨Lc195, hQ195, l195, y195, z195⟩, st195⟩ := Jvm.LawKit.callS XO194 hx (y := (⟨"com/example/roadeq/roadeq/assign/LinkCodeEncodePinLaw", "put", "([SII)I"⟩ : MethodName)) hown (mvT hZ (hw _ (List.mem_of_getElem? (i := 2) rfl))) (mvT hZ (hw _ (List.mem_of_getElem? (i := 3) rfl))) (mvT hZ (hw _ (List.mem_of_getElem? (i := 4) rfl))) (mvT hZ (hw _ (List.mem_of_getElem? (i := 5) rfl))) (by decide) (backOf (W := 0) (rmu l Z a0 hw [] b59 (own_at (own_at (2 : Int32) p0) (p1 - p0)) (p2 - p1) k59 (own_put (own_put [(.int (nar .short ff)), (.int (nar .short ff)), (.int (nar .short ff)), (.int (nar .short ff)), (.int (nar .short ff)), (.int (nar .short ff)), (.int (nar .short ff)), (.int (nar .short ff)), (.int (nar .short ff)), (.int (nar .short ff)), (.int (nar .short ff))] (2 : Int32) p0) (own_at (2 : Int32) p0) (p1 - p0)) h190 n0 z193 Vq190 g_b59 (own_len (own_len rfl)) (own_up (own_ib (own_ib (own_i2 : own_in (2 : Int32) 2) (by decide)) (by decide)) (by decide))) hZ (hw _ (List.mem_of_getElem? (i := 5) rfl)) (hw _ (List.mem_of_getElem? (i := 4) rfl)) (by decide) (by decide)) (g := (mkF m 209 #[.val (.int p0), .val (.int p1), .val (.int p2), .val (.int p3), .val (.int p4), .val (.int (3 : Int32)), .val (.int ff), .val (.ref b1), .val (.ref b12), .val (.ref b59), .val (.int (own_at (own_at (2 : Int32) p0) (p1 - p0)))] [(.int (p2 - p1)), (.int (own_at (own_at (2 : Int32) p0) (p1 - p0))), (.ref b59)])) rfl (by rw [hml]; rfl) (argsL := [(.ref b59), (.int (own_at (own_at (2 : Int32) p0) (p1 - p0))), (.int (p2 - p1))]) (rest := []) (lenOf pd_0___SII_I rfl) rfl (by show 2 * 0 + _ ≤ _; exact Nat.le_of_eq rfl) (hb hby at_209) (fun _ _ => ⟨rfl, eh190, (by decide : 3 + 0 ≤ _), (by decide : 25 + 0 ≤ _)⟩)
    dsimp only [Pt.U, Pt.locs, Pt.cells, Pt.slots] at X195 l195 y195 z195 st195 hQ195
    subst l195 y195 z195
    obtain ⟨rfl, Nq195, Kq195, Vq195⟩ := hQ195
    obtain ⟨h195, eh195⟩ : ∃ h, T195.heap = h := ⟨_, rfl⟩
    rw [eh195] at Kq195 Vq195
    have f196 := f191.keep Kq195 (ninS ne_b1_b59 nin0)
    have f197 := f192.keep Kq195 (ninS ne_b12_b59 nin0)
    have z198 : n0 ≤ h195.size := Nat.le_trans z193 Kq195.1
    have N195 := Fr.app NO194 Nq195
    refine Goes.on (B := T195.setTop (mkF m 212 #[.val (.int p0), .val (.int p1), .val (.int p2), .val (.int p3), .val (.int p4), .val (.int (3 : Int32)), .val (.int ff), .val (.ref b1), .val (.ref b12), .val (.ref b59), .val (.int (own_at (own_at (2 : Int32) p0) (p1 - p0)))] [(.int (own_at (own_at (own_at (2 : Int32) p0) (p1 - p0)) (p2 - p1)))])) (fun t k => st195 t k) ?_
    refine Goes.on (B := T195.setTop (mkF m 214 #[.val (.int p0), .val (.int p1), .val (.int p2), .val (.int p3), .val (.int p4), .val (.int (3 : Int32)), .val (.int ff), .val (.ref b1), .val (.ref b12), .val (.ref b59), .val (.int (own_at (own_at (own_at (2 : Int32) p0) (p1 - p0)) (p2 - p1)))] [])) (fun _ k => XS.istore X195.here hx rfl (hb hby at_212) rfl (l' := #[.val (.int p0), .val (.int p1), .val (.int p2), .val (.int p3), .val (.int p4), .val (.int (3 : Int32)), .val (.int ff), .val (.ref b1), .val (.ref b12), .val (.ref b59), .val (.int (own_at (own_at (own_at (2 : Int32) p0) (p1 - p0)) (p2 - p1)))]) rfl k) ?_
    refine Goes.on (B := T195.setTop (mkF m 216 #[.val (.int p0), .val (.int p1), .val (.int p2), .val (.int p3), .val (.int p4), .val (.int (3 : Int32)), .val (.int ff), .val (.ref b1), .val (.ref b12), .val (.ref b59), .val (.int (own_at (own_at (own_at (2 : Int32) p0) (p1 - p0)) (p2 - p1)))] [(.ref b59)])) (fun _ k => XS.aload X195.here hx rfl (hb hby at_214) rfl rfl  k) ?_
    refine Goes.on (B := T195.setTop (mkF m 217 #[.val (.int p0), .val (.int p1), .val (.int p2), .val (.int p3), .val (.int p4), .val (.int (3 : Int32)), .val (.int ff), .val (.ref b1), .val (.ref b12), .val (.ref b59), .val (.int (own_at (own_at (own_at (2 : Int32) p0) (p1 - p0)) (p2 - p1)))] [(.int (0 : Int32)), (.ref b59)])) (fun _ k => XS.iconst X195.here hx rfl (hb hby at_216) k) ?_
    refine Goes.on (B := T195.setTop (mkF m 218 #[.val (.int p0), .val (.int p1), .val (.int p2), .val (.int p3), .val (.int p4), .val (.int (3 : Int32)), .val (.int ff), .val (.ref b1), .val (.ref b12), .val (.ref b59), .val (.int (own_at (own_at (own_at (2 : Int32) p0) (p1 - p0)) (p2 - p1)))] [(.int (0 : Int32)), (.int (0 : Int32)), (.ref b59)])) (fun _ k => XS.iconst X195.here hx rfl (hb hby at_217) k) ?_
    obtain ⟨cl199, Ar199, q199, S199, Nn199, H199, G199⟩ := id Vq195
    have hin199 : ¬ ((0 : Int32) < 0 ∨ cl199.slots.size ≤ ((0 : Int32)).toNatClampNeg) := inb_of S199 (own_hin (⟨by decide, by decide⟩ : own_in (0 : Int32) 10))
    obtain ⟨T200, h200, X200, e200, W200, st200⟩ := stS X195 hx hZ eh195 Ar199 (j := (0 : Int32)) hin199 (g := (mkF m 218 #[.val (.int p0), .val (.int p1), .val (.int p2), .val (.int p3), .val (.int p4), .val (.int (3 : Int32)), .val (.int ff), .val (.ref b1), .val (.ref b12), .val (.ref b59), .val (.int (own_at (own_at (own_at (2 : Int32) p0) (p1 - p0)) (p2 - p1)))] [(.int (0 : Int32)), (.int (0 : Int32)), (.ref b59)])) rfl rfl (hb hby at_218)
    have V200 : Arv Z h200 b59 k59 .short (11 : Int32) ((own_put (own_put (own_put [(.int (nar .short ff)), (.int (nar .short ff)), (.int (nar .short ff)), (.int (nar .short ff)), (.int (nar .short ff)), (.int (nar .short ff)), (.int (nar .short ff)), (.int (nar .short ff)), (.int (nar .short ff)), (.int (nar .short ff)), (.int (nar .short ff))] (2 : Int32) p0) (own_at (2 : Int32) p0) (p1 - p0)) (own_at (own_at (2 : Int32) p0) (p1 - p0)) (p2 - p1)).set 0 (.int (nar .short (0 : Int32)))) (.int (0 : Int32)) := Arv.set Ar199 q199 S199 Nn199 H199 G199 (fits_nar_short _) W200 0 rfl (by rw [(own_len (own_len (own_len rfl)))]; decide)
    have f201 := f196.other W200 ne_b1_b59
    have f202 := f197.other W200 ne_b12_b59
    have z203 : n0 ≤ h200.size := Nat.le_trans z198 (Keep.of_wr W200).1
    have N200 := Fr.snoc X200 N195 g_b59
    refine Goes.on (B := T200.setTop (mkF m 219 #[.val (.int p0), .val (.int p1), .val (.int p2), .val (.int p3), .val (.int p4), .val (.int (3 : Int32)), .val (.int ff), .val (.ref b1), .val (.ref b12), .val (.ref b59), .val (.int (own_at (own_at (own_at (2 : Int32) p0) (p1 - p0)) (p2 - p1)))] [])) (fun t k => st200 t k) ?_
    refine Goes.on (B := T200.setTop (mkF m 221 #[.val (.int p0), .val (.int p1), .val (.int p2), .val (.int p3), .val (.int p4), .val (.int (3 : Int32)), .val (.int ff), .val (.ref b1), .val (.ref b12), .val (.ref b59), .val (.int (own_at (own_at (own_at (2 : Int32) p0) (p1 - p0)) (p2 - p1)))] [(.ref b59)])) (fun _ k => XS.aload X200.here hx rfl (hb hby at_219) rfl rfl  k) ?_
    refine Goes.on (B := T200.setTop (mkF m 222 #[.val (.int p0), .val (.int p1), .val (.int p2), .val (.int p3), .val (.int p4), .val (.int (3 : Int32)), .val (.int ff), .val (.ref b1), .val (.ref b12), .val (.ref b59), .val (.int (own_at (own_at (own_at (2 : Int32) p0) (p1 - p0)) (p2 - p1)))] [(.int (1 : Int32)), (.ref b59)])) (fun _ k => XS.iconst X200.here hx rfl (hb hby at_221) k) ?_
    refine Goes.on (B := T200.setTop (mkF m 224 #[.val (.int p0), .val (.int p1), .val (.int p2), .val (.int p3), .val (.int p4), .val (.int (3 : Int32)), .val (.int ff), .val (.ref b1), .val (.ref b12), .val (.ref b59), .val (.int (own_at (own_at (own_at (2 : Int32) p0) (p1 - p0)) (p2 - p1)))] [(.int (own_at (own_at (own_at (2 : Int32) p0) (p1 - p0)) (p2 - p1))), (.int (1 : Int32)), (.ref b59)])) (fun _ k => XS.iload X200.here hx rfl (hb hby at_222) rfl  k) ?_
    refine Goes.on (B := T200.setTop (mkF m 225 #[.val (.int p0), .val (.int p1), .val (.int p2), .val (.int p3), .val (.int p4), .val (.int (3 : Int32)), .val (.int ff), .val (.ref b1), .val (.ref b12), .val (.ref b59), .val (.int (own_at (own_at (own_at (2 : Int32) p0) (p1 - p0)) (p2 - p1)))] [(.int ((own_at (own_at (own_at (2 : Int32) p0) (p1 - p0)) (p2 - p1)).toInt16.toInt32)), (.int (1 : Int32)), (.ref b59)])) (fun _ k => XS.i2s X200.here hx rfl (hb hby at_224) rfl k) ?_
    obtain ⟨cl204, Ar204, q204, S204, Nn204, H204, G204⟩ := id V200
    have hin204 : ¬ ((1 : Int32) < 0 ∨ cl204.slots.size ≤ ((1 : Int32)).toNatClampNeg) := inb_of S204 (own_hin (⟨by decide, by decide⟩ : own_in (1 : Int32) 10))
    obtain ⟨T205, h205, X205, e205, W205, st205⟩ := stS X200 hx hZ e200 Ar204 (j := (1 : Int32)) hin204 (g := (mkF m 225 #[.val (.int p0), .val (.int p1), .val (.int p2), .val (.int p3), .val (.int p4), .val (.int (3 : Int32)), .val (.int ff), .val (.ref b1), .val (.ref b12), .val (.ref b59), .val (.int (own_at (own_at (own_at (2 : Int32) p0) (p1 - p0)) (p2 - p1)))] [(.int ((own_at (own_at (own_at (2 : Int32) p0) (p1 - p0)) (p2 - p1)).toInt16.toInt32)), (.int (1 : Int32)), (.ref b59)])) rfl rfl (hb hby at_225)
    have V205 : Arv Z h205 b59 k59 .short (11 : Int32) (((own_put (own_put (own_put [(.int (nar .short ff)), (.int (nar .short ff)), (.int (nar .short ff)), (.int (nar .short ff)), (.int (nar .short ff)), (.int (nar .short ff)), (.int (nar .short ff)), (.int (nar .short ff)), (.int (nar .short ff)), (.int (nar .short ff)), (.int (nar .short ff))] (2 : Int32) p0) (own_at (2 : Int32) p0) (p1 - p0)) (own_at (own_at (2 : Int32) p0) (p1 - p0)) (p2 - p1)).set 0 (.int (nar .short (0 : Int32)))).set 1 (.int (nar .short ((own_at (own_at (own_at (2 : Int32) p0) (p1 - p0)) (p2 - p1)).toInt16.toInt32)))) (.int (0 : Int32)) := Arv.set Ar204 q204 S204 Nn204 H204 G204 (fits_nar_short _) W205 1 rfl (by rw [List.length_set]; first | exact Nat.le_of_ble_eq_true rfl | (rw [(own_len (own_len (own_len rfl)))]; decide))
    have f206 := f201.other W205 ne_b1_b59
    have f207 := f202.other W205 ne_b12_b59
    have z208 : n0 ≤ h205.size := Nat.le_trans z203 (Keep.of_wr W205).1
    have N205 := Fr.snoc X205 N200 g_b59
    refine Goes.on (B := T205.setTop (mkF m 226 #[.val (.int p0), .val (.int p1), .val (.int p2), .val (.int p3), .val (.int p4), .val (.int (3 : Int32)), .val (.int ff), .val (.ref b1), .val (.ref b12), .val (.ref b59), .val (.int (own_at (own_at (own_at (2 : Int32) p0) (p1 - p0)) (p2 - p1)))] [])) (fun t k => st205 t k) ?_
    refine Goes.on (B := T205.setTop (mkF m 228 #[.val (.int p0), .val (.int p1), .val (.int p2), .val (.int p3), .val (.int p4), .val (.int (3 : Int32)), .val (.int ff), .val (.ref b1), .val (.ref b12), .val (.ref b59), .val (.int (own_at (own_at (own_at (2 : Int32) p0) (p1 - p0)) (p2 - p1)))] [(.ref b1)])) (fun _ k => XS.aload X205.here hx rfl (hb hby at_226) rfl rfl  k) ?_
    refine Goes.on (B := T205.setTop (mkF m 230 #[.val (.int p0), .val (.int p1), .val (.int p2), .val (.int p3), .val (.int p4), .val (.int (3 : Int32)), .val (.int ff), .val (.ref b1), .val (.ref b12), .val (.ref b59), .val (.int (own_at (own_at (own_at (2 : Int32) p0) (p1 - p0)) (p2 - p1)))] [(.int (3 : Int32)), (.ref b1)])) (fun _ k => XS.iload X205.here hx rfl (hb hby at_228) rfl  k) ?_
    refine Goes.on (B := T205.setTop (mkF m 232 #[.val (.int p0), .val (.int p1), .val (.int p2), .val (.int p3), .val (.int p4), .val (.int (3 : Int32)), .val (.int ff), .val (.ref b1), .val (.ref b12), .val (.ref b59), .val (.int (own_at (own_at (own_at (2 : Int32) p0) (p1 - p0)) (p2 - p1)))] [(.ref b12), (.int (3 : Int32)), (.ref b1)])) (fun _ k => XS.aload X205.here hx rfl (hb hby at_230) rfl rfl  k) ?_
    obtain ⟨LO209, XO209, NO209⟩ := own_opq X205 N205
    obtain ⟨_, _, ⟨T210, L210, k210, n210⟩, -, X210, ⟨Lc210, hQ210, l210, y210, z210⟩, st210⟩ := Jvm.LawKit.callS XO209 hx (y := (⟨"com/example/roadeq/roadeq/assign/LinkCode", "encode", "([II[S)V"⟩ : MethodName)) hown (mvT hZ (hw _ (List.mem_of_getElem? (i := 6) rfl))) (mvT hZ (hw _ (List.mem_of_getElem? (i := 7) rfl))) (mvT hZ (hw _ (List.mem_of_getElem? (i := 8) rfl))) (mvT hZ (hw _ (List.mem_of_getElem? (i := 9) rfl))) (by decide) (backOf (W := 0) (rmen3 l Z a0 hw [] b1 b12 k1 k12 p0 p1 p2 [(.int (nar .short ff)), (.int (nar .short ff)), (.int (nar .short ff)), (.int (nar .short ff)), (.int (nar .short ff)), (.int (nar .short ff)), (.int (nar .short ff)), (.int (nar .short ff)), (.int (nar .short ff)), (.int (nar .short ff)), (.int (nar .short ff))] h205 n0 z208 f206 f207 g_b12 rfl ne_b1_b12) hZ (hw _ (List.mem_of_getElem? (i := 9) rfl)) (hw _ (List.mem_of_getElem? (i := 8) rfl)) (by decide) (by decide)) (g := (mkF m 232 #[.val (.int p0), .val (.int p1), .val (.int p2), .val (.int p3), .val (.int p4), .val (.int (3 : Int32)), .val (.int ff), .val (.ref b1), .val (.ref b12), .val (.ref b59), .val (.int (own_at (own_at (own_at (2 : Int32) p0) (p1 - p0)) (p2 - p1)))] [(.ref b12), (.int (3 : Int32)), (.ref b1)])) rfl (by rw [hml]; rfl) (argsL := [(.ref b1), (.int (3 : Int32)), (.ref b12)]) (rest := []) (lenOf pd_0___II_S_V rfl) rfl (by show 2 * 0 + _ ≤ _; exact Nat.le_of_eq rfl) (hb hby at_232) (fun _ _ => ⟨rfl, e205, (by decide : 3 + 0 ≤ _), (by decide : 25 + 0 ≤ _)⟩)
    dsimp only [Pt.U, Pt.locs, Pt.cells, Pt.slots] at X210 l210 y210 z210 st210 hQ210
    subst l210 y210 z210
    obtain ⟨rfl, Nq210, Kq210, Vq210⟩ := hQ210
    obtain ⟨h210, eh210⟩ : ∃ h, T210.heap = h := ⟨_, rfl⟩
    rw [eh210] at Kq210 Vq210
    have f211 := f206.keep Kq210 (ninS ne_b1_b12 nin0)
    have f212 := V205.keep Kq210 (ninS (Ne.symm ne_b12_b59) nin0)
    have z213 : n0 ≤ h210.size := Nat.le_trans z208 Kq210.1
    rw [own_lists3 _ p0 p1 p2] at Vq210
    have N210 := Fr.app NO209 Nq210
    refine Goes.on (B := T210.setTop (mkF m 235 #[.val (.int p0), .val (.int p1), .val (.int p2), .val (.int p3), .val (.int p4), .val (.int (3 : Int32)), .val (.int ff), .val (.ref b1), .val (.ref b12), .val (.ref b59), .val (.int (own_at (own_at (own_at (2 : Int32) p0) (p1 - p0)) (p2 - p1)))] [])) (fun t k => st210 t k) ?_
    refine Goes.on (B := T210.setTop (mkF m 237 #[.val (.int p0), .val (.int p1), .val (.int p2), .val (.int p3), .val (.int p4), .val (.int (3 : Int32)), .val (.int ff), .val (.ref b1), .val (.ref b12), .val (.ref b59), .val (.int (own_at (own_at (own_at (2 : Int32) p0) (p1 - p0)) (p2 - p1)))] [(.ref b12)])) (fun _ k => XS.aload X210.here hx rfl (hb hby at_235) rfl rfl  k) ?_
    refine Goes.on (B := T210.setTop (mkF m 239 #[.val (.int p0), .val (.int p1), .val (.int p2), .val (.int p3), .val (.int p4), .val (.int (3 : Int32)), .val (.int ff), .val (.ref b1), .val (.ref b12), .val (.ref b59), .val (.int (own_at (own_at (own_at (2 : Int32) p0) (p1 - p0)) (p2 - p1)))] [(.ref b59), (.ref b12)])) (fun _ k => XS.aload X210.here hx rfl (hb hby at_237) rfl rfl  k) ?_
    obtain ⟨LO214, XO214, NO214⟩ := own_opq X210 N210
    obtain ⟨_, _, ⟨T215, L215, k215, n215⟩, -, X215, ⟨Lc215, hQ215, l215, y215, z215⟩, st215⟩ := Jvm.LawKit.callS XO214 hx (y := (⟨"com/example/roadeq/roadeq/assign/LinkCodeEncodePinLaw", "same", "([S[S)Z"⟩ : MethodName)) hown (mvT hZ (hw _ (List.mem_of_getElem? (i := 13) rfl))) (mvT hZ (hw _ (List.mem_of_getElem? (i := 14) rfl))) (mvT hZ (hw _ (List.mem_of_getElem? (i := 4) rfl))) (mvT hZ (hw _ (List.mem_of_getElem? (i := 15) rfl))) (by decide) (backOf (W := 0) (rmsm l Z a0 hw [] b12 b59 k12 k59 (((own_put (own_put (own_put [(.int (nar .short ff)), (.int (nar .short ff)), (.int (nar .short ff)), (.int (nar .short ff)), (.int (nar .short ff)), (.int (nar .short ff)), (.int (nar .short ff)), (.int (nar .short ff)), (.int (nar .short ff)), (.int (nar .short ff)), (.int (nar .short ff))] (2 : Int32) p0) (own_at (2 : Int32) p0) (p1 - p0)) (own_at (own_at (2 : Int32) p0) (p1 - p0)) (p2 - p1)).set 0 (.int (nar .short (0 : Int32)))).set 1 (.int (nar .short ((own_at (own_at (own_at (2 : Int32) p0) (p1 - p0)) (p2 - p1)).toInt16.toInt32)))) h210 n0 z213 Vq210 f212) hZ (hw _ (List.mem_of_getElem? (i := 15) rfl)) (hw _ (List.mem_of_getElem? (i := 4) rfl)) (by decide) (by decide)) (g := (mkF m 239 #[.val (.int p0), .val (.int p1), .val (.int p2), .val (.int p3), .val (.int p4), .val (.int (3 : Int32)), .val (.int ff), .val (.ref b1), .val (.ref b12), .val (.ref b59), .val (.int (own_at (own_at (own_at (2 : Int32) p0) (p1 - p0)) (p2 - p1)))] [(.ref b59), (.ref b12)])) rfl (by rw [hml]; rfl) (argsL := [(.ref b12), (.ref b59)]) (rest := []) (lenOf pd_0___S_S_Z rfl) rfl (by show 2 * 0 + _ ≤ _; exact Nat.le_of_eq rfl) (hb hby at_239) (fun _ _ => ⟨rfl, eh210, (by decide : 3 + 0 ≤ _), (by decide : 25 + 0 ≤ _)⟩)
    dsimp only [Pt.U, Pt.locs, Pt.cells, Pt.slots] at X215 l215 y215 z215 st215 hQ215
    subst l215 y215 z215
    obtain ⟨rfl, Nq215, eh215⟩ := hQ215
    have N215 := Fr.app NO214 Nq215
    refine Goes.on (B := T215.setTop (mkF m 242 #[.val (.int p0), .val (.int p1), .val (.int p2), .val (.int p3), .val (.int p4), .val (.int (3 : Int32)), .val (.int ff), .val (.ref b1), .val (.ref b12), .val (.ref b59), .val (.int (own_at (own_at (own_at (2 : Int32) p0) (p1 - p0)) (p2 - p1)))] [(.int (1 : Int32))])) (fun t k => st215 t k) ?_
    obtain ⟨fs, hr, hrun, hended, hW, hsame⟩ := X215.leave (v := some (.int (1 : Int32))) (fun h => by rw [Bd.returns] at h; cases h)
    exact Goes.leaf (retN X215 hx (t := .boolean) Bd.returns (by simp) (hb hby at_242) hr) hrun hended ⟨_, _, rfl, by show Q0 Z p0 p1 p2 p3 p4 h0 n0 _ T215.heap _; exact ⟨rfl, N215⟩, ⟨_, rfl⟩, hW, hsame.mono (by decide) (by decide)⟩
set_option maxRecDepth 65536 in
set_option maxHeartbeats 40000000 in
theorem comes_1 {Post : Tables → Env → Array Value → State → Outcome → State → Prop} (hpost : ∀ tb e args s v u, (limb_1_1.after args s (.returned v) u = true ∧ limb_1_2.after args s (.returned v) u = true ∧ True) → FrameEnd s (.returned v) u (Jvm.fieldLocs frame_1_writes args s ++ Jvm.arrayLocs frame_1_arrays args s ++ Jvm.staticLocs frame_1_statics s) 16 128 → Post tb e args s (.returned v) u) :
    ArmFor flags0 classFile x code maxLocals ret World_1 tables_1 room_1 Calls_1 rest_1 Pre_1 Post := by
  intro l hfl _ _ p e ha hc hk s m args below hf hA hF happ hP
  obtain ⟨hcalls, hrest, hpre⟩ := hP
  obtain ⟨-, -, -, hnamed, -, -, -, hat⟩ := (Spec.applies_iff hf).mp happ
  obtain ⟨hg, hn⟩ := and_e (Cond.before_iff.mp (show (Jvm.Cond.and given_1 narrow_1).before args s = true from hpre))
  obtain ⟨hg0, hg0r⟩ := and_e hg
  obtain ⟨hg1, hg1r⟩ := and_e hg0r
  obtain ⟨hg2, hg2r⟩ := and_e hg1r
  obtain ⟨hg3, hg3r⟩ := and_e hg2r
  obtain ⟨hg4, hg4r⟩ := and_e hg3r
  obtain ⟨w0, w1, w2, w3, w4, rfl⟩ : ∃ w0 w1 w2 w3 w4 : Value, args = #[w0, w1, w2, w3, w4] := by
    have hs : args.size = 5 := by simpa [Cond.value, given_1] using hg0
    obtain ⟨L⟩ := args
    match L, hs with
    | [w0, w1, w2, w3, w4], _ => exact ⟨w0, w1, w2, w3, w4, rfl⟩
  have hw := fun d (hd : d ∈ tables_1) => atoms_spec (ws := Jvm.Cond.code x code maxLocals ret :: tables_1) hat d (List.mem_cons_of_mem _ hd)
  have hfit : Fit s := fun {y c} hc i hi => by
    obtain ⟨ha, rfl⟩ := Array.getElem?_eq_some_iff.mp hc
    have q := List.all_eq_true.mp ((Array.all_eq_true_iff_forall_mem.mp hF) _ (Array.getElem_mem ha)) i (List.mem_range.mpr hi)
    simpa [Array.getElem?_eq_getElem hi] using q
  obtain ⟨i0, ei0⟩ := is_v hg1
  obtain rfl : w0 = (.int i0) := Option.some.inj ei0
  obtain ⟨i1, ei1⟩ := is_v hg2
  obtain rfl : w1 = (.int i1) := Option.some.inj ei1
  obtain ⟨i2, ei2⟩ := is_v hg3
  obtain rfl : w2 = (.int i2) := Option.some.inj ei2
  obtain ⟨i3, ei3⟩ := is_v hg4
  obtain rfl : w3 = (.int i3) := Option.some.inj ei3
  obtain ⟨i4, ei4⟩ := is_v hg4r
  obtain rfl : w4 = (.int i4) := Option.some.inj ei4
  obtain ⟨n, o, h1, h2, h3, _, L, rfl, ⟨rfl, N⟩, hq⟩ := rm0 l s _ hw tables_1 i0 i1 i2 i3 i4  s.heap s.heap.size (Nat.le_refl _)  p e ha hc hk s m _ below hf ((Spec.applies_iff_loose hf).mp happ).1 ⟨rfl, State.Warmed39.refl s, rfl⟩ trivial
  refine ⟨n, _, h1, h2, h3, hpost _ _ _ _ _ _ ⟨Cond.after_iff.mpr rfl, Cond.after_iff.mpr (eq_i res_at (Term.int_eval (1)) rfl), trivial⟩ ⟨hq.1, hq.2.1, (hq.2.2.sift fun y hy => Or.inr (N y hy)).mono (by decide) (by decide)⟩⟩
theorem main_1_1 : Claimed_1_1 := comes_1 fun _ _ _ _ _ _ h hF => ⟨h.1, hF⟩
theorem main_1_2 : Claimed_1_2 := comes_1 fun _ _ _ _ _ _ h hF => ⟨h.2.1, hF⟩
end Jvm.Pilot.@@N@@
namespace Jvm.Pilot.@@N@@
open Jvm Jvm.ClassFile Sem Op Lib Jvm.Free Jvm.Stand Jvm.Pilot.@@N@@.Jvm.D
/-! MADE BY PROGRAM (witnessworld.py) out of the Statement's table words and the real class files: 11 classes; the members and pool entries that the words name. The judged class is class 1, her method 1. -/
namespace start1
open Jvm.ClassFile
def u (s : String) : CpInfo := .utf8 (stringToUtf16 s)
/-- a pool by its gaps: so many unusable entries, then the entry; so many at the end -/
def gap : Nat → List CpInfo → List CpInfo
  | 0, r => r
  | n + 1, r => .unusable :: gap n r
def poolList (es : List (Nat × CpInfo)) (last : Nat) : List CpInfo := es.foldr (fun e r => gap e.1 (e.2 :: r)) (gap last [])
def pool (es : List (Nat × CpInfo)) (last : Nat) : Array CpInfo := ⟨poolList es last⟩
def fileOf (pool : Array CpInfo) (this : Nat) (attrs : Array Attribute := #[]) (ms : Array MethodInfo := #[]) (fl : Nat := 33) (sup : Nat := 0) (ifs : Array Nat := #[]) (fds : Array FieldInfo := #[]) : ClassFile where
  minorVersion := 0
  majorVersion := 65
  constantPool := pool
  accessFlags := fl
  thisClass := this
  superClass := sup
  interfaces := ifs
  fields := fds
  methods := ms
  attributes := attrs
def plain (name : String) (sup : Option ClassId) : Class where
  name := name
  kind := .ordinary
  loader := none
  accessFlags := 33
  super := sup
  interfaces := #[]
  cf := none
  fields := #[]
  methods := #[]
  instanceTypes := #[]
  staticTypes := #[]
  resolved := #[]
  callSites := []
  init := .initialized
  statics := none
  mirror := none

def pool0 : Array CpInfo := pool [(5, u "<init>"), (0, u "()V"), (1, .class_ 10), (1, u "java/lang/Object")] 113

def k0m0 : Method := { name := "<init>", desc := "()V", sig := { parameters := [], returnType := none }, accessFlags := 1, code := none }
/-- java/lang/Object -/
def k0 : Class := { plain "java/lang/Object" none with
  accessFlags := 33
  interfaces := #[]
  cf := some (fileOf pool0 8 #[] #[{ accessFlags := 1, nameIndex := 5, descriptorIndex := 6, attributes := #[] }] 33 0 #[] #[])
  fields := #[]
  methods := #[k0m0]
  instanceTypes := #[]
  staticTypes := #[]
  resolved := Array.replicate 124 none
  statics := none }

def pool1 : Array CpInfo := pool [(2, .class_ 4), (1, u "java/lang/Object"), (0, u "<init>"), (0, u "()V"), (0, .methodref 8 9), (0, .class_ 10), (0, .nameAndType 11 12), (0, u "com/example/roadeq/roadeq/assign/LinkCodeEncodePinLaw"), (0, u "put"), (0, u "([SII)I"), (0, .methodref 14 15), (0, .class_ 16), (0, .nameAndType 17 18), (0, u "com/example/roadeq/roadeq/assign/LinkCode"), (0, u "encode"), (0, u "([II[S)V"), (0, .methodref 8 20), (0, .nameAndType 21 22), (0, u "same"), (0, u "([S[S)Z"), (0, .integer 65535), (2, u "law"), (0, u "(IIIII)Z")] 7

def k1m0 : Method := { name := "<init>", desc := "()V", sig := { parameters := [], returnType := none }, accessFlags := 2, code := none }
def k1c1 : Code := { maxStack := 4, maxLocals := 11, code := code, exceptionTable := #[], attributes := #[] }
def k1m1 : Method := { name := "law", desc := "(IIIII)Z", sig := { parameters := [.int, .int, .int, .int, .int], returnType := some .boolean }, accessFlags := 9, code := some k1c1 }
def k1c2 : Code := { maxStack := 4, maxLocals := 3, code := method_3_code, exceptionTable := #[], attributes := #[] }
def k1m2 : Method := { name := "put", desc := "([SII)I", sig := { parameters := [(.array .short), .int, .int], returnType := some .int }, accessFlags := 10, code := some k1c2 }
def k1c3 : Code := { maxStack := 3, maxLocals := 2, code := method_4_code, exceptionTable := #[], attributes := #[] }
def k1m3 : Method := { name := "same", desc := "([S[S)Z", sig := { parameters := [(.array .short), (.array .short)], returnType := some .boolean }, accessFlags := 10, code := some k1c3 }
/-- com/example/roadeq/roadeq/assign/LinkCodeEncodePinLaw -/
def k1 : Class := { plain "com/example/roadeq/roadeq/assign/LinkCodeEncodePinLaw" (some 0) with
  accessFlags := 49
  interfaces := #[]
  cf := some (fileOf pool1 8 #[] #[{ accessFlags := 2, nameIndex := 5, descriptorIndex := 6, attributes := #[] }, { accessFlags := 9, nameIndex := 26, descriptorIndex := 27, attributes := #[] }, { accessFlags := 10, nameIndex := 11, descriptorIndex := 12, attributes := #[] }, { accessFlags := 10, nameIndex := 21, descriptorIndex := 22, attributes := #[] }] 49 2 #[] #[])
  fields := #[]
  methods := #[k1m0, k1m1, k1m2, k1m3]
  instanceTypes := #[]
  staticTypes := #[]
  resolved := Array.replicate 35 none
  statics := none }

def pool2 : Array CpInfo := pool [(4, .class_ 6), (1, u "java/lang/Object"), (0, u "<init>"), (0, u "()V"), (0, .class_ 10), (0, u "com/example/roadeq/roadeq/assign/LinkCode"), (0, .methodref 9 12), (0, .nameAndType 13 14), (0, u "narrow"), (0, u "(I)Z"), (5, u "WIDE"), (0, u "S"), (2, u "HEAD"), (0, u "I"), (6, u "encode"), (0, u "([II[S)V")] 8

def k2m0 : Method := { name := "<init>", desc := "()V", sig := { parameters := [], returnType := none }, accessFlags := 2, code := none }
def k2c1 : Code := { maxStack := 4, maxLocals := 7, code := prog_31_method_3_code, exceptionTable := #[], attributes := #[] }
def k2m1 : Method := { name := "encode", desc := "([II[S)V", sig := { parameters := [(.array .int), .int, (.array .short)], returnType := none }, accessFlags := 8, code := some k2c1 }
def k2c2 : Code := { maxStack := 2, maxLocals := 1, code := prog_31_method_5_code, exceptionTable := #[], attributes := #[] }
def k2m2 : Method := { name := "narrow", desc := "(I)Z", sig := { parameters := [.int], returnType := some .boolean }, accessFlags := 10, code := some k2c2 }
/-- com/example/roadeq/roadeq/assign/LinkCode -/
def k2 : Class := { plain "com/example/roadeq/roadeq/assign/LinkCode" (some 0) with
  accessFlags := 48
  interfaces := #[]
  cf := some (fileOf pool2 9 #[] #[{ accessFlags := 2, nameIndex := 7, descriptorIndex := 8, attributes := #[] }, { accessFlags := 8, nameIndex := 32, descriptorIndex := 33, attributes := #[] }, { accessFlags := 10, nameIndex := 13, descriptorIndex := 14, attributes := #[] }] 48 4 #[] #[{ accessFlags := 24, nameIndex := 20, descriptorIndex := 21, attributes := #[] }, { accessFlags := 26, nameIndex := 24, descriptorIndex := 25, attributes := #[] }])
  fields := #[{ name := "WIDE", type := .short, accessFlags := 24, slot := 0, constantValue := 0 }, { name := "HEAD", type := .int, accessFlags := 26, slot := 1, constantValue := 0 }]
  methods := #[k2m0, k2m1, k2m2]
  instanceTypes := #[]
  staticTypes := #[.short, .int]
  resolved := Array.replicate 42 none
  statics := none }

def pool3 : Array CpInfo := pool [(1, u "java/lang/Cloneable"), (0, .class_ 1), (0, u "java/lang/Object"), (0, .class_ 3)] 3

/-- java/lang/Cloneable -/
def k3 : Class := { plain "java/lang/Cloneable" (some 0) with
  accessFlags := 1537
  interfaces := #[]
  cf := some (fileOf pool3 2 #[] #[] 1537 4 #[] #[])
  fields := #[]
  methods := #[]
  instanceTypes := #[]
  staticTypes := #[]
  resolved := Array.replicate 8 none
  statics := none }

def pool4 : Array CpInfo := pool [(1, u "java/io/Serializable"), (0, .class_ 1), (0, u "java/lang/Object"), (0, .class_ 3)] 3

/-- java/io/Serializable -/
def k4 : Class := { plain "java/io/Serializable" (some 0) with
  accessFlags := 1537
  interfaces := #[]
  cf := some (fileOf pool4 2 #[] #[] 1537 4 #[] #[])
  fields := #[]
  methods := #[]
  instanceTypes := #[]
  staticTypes := #[]
  resolved := Array.replicate 8 none
  statics := none }

/-- the primitive byte -/
def k5 : Class := { plain "byte" none with kind := .primitive 'B', accessFlags := 0x411 }
/-- [B -/
def k6 : Class := { plain "[B" (some 0) with kind := .array 5 .byte, interfaces := #[3, 4], accessFlags := 1041 }

/-- the primitive int -/
def k7 : Class := { plain "int" none with kind := .primitive 'I', accessFlags := 0x411 }
/-- [I -/
def k8 : Class := { plain "[I" (some 0) with kind := .array 7 .int, interfaces := #[3, 4], accessFlags := 1041 }

/-- the primitive short -/
def k9 : Class := { plain "short" none with kind := .primitive 'S', accessFlags := 0x411 }
/-- [S -/
def k10 : Class := { plain "[S" (some 0) with kind := .array 9 .short, interfaces := #[3, 4], accessFlags := 1041 }

def heap : Heap := #[]
def classes : Array Class := #[k0, k1, k2, k3, k4, k5, k6, k7, k8, k9, k10]
def interned : List (Array UInt16 × Addr) := []
def slotsUsed : Nat := 0
def theMethod : MethodId := ⟨1, 1⟩
def args0 : Array Value := #[.int 5, .int 7, .int 9, .int 3, .int 13]
def aboutOver (below : List Frame) : State where
  vm := { classes := classes, interned := interned.toArray }
  heap := heap
  slotsUsed := slotsUsed
  threads := #[{ frames := .invoking theMethod args0 :: below }]
def below0 : List Frame := [.native { method := ⟨0, 0⟩, args := #[] }]
def about1 : State := aboutOver below0
def p0 : Program := .bare "" "" ""
def e0 : Env := launch0.env 0 0 0
theorem w_frames : about1.frames = Frame.invoking theMethod args0 :: below0 := rfl
set_option maxRecDepth 65536 in
theorem w_args : argsFit about1.vm theMethod args0 = true := by decide +kernel
set_option maxRecDepth 65536 in
theorem w_heap : heapFits about1 = true := by decide +kernel
set_option maxRecDepth 65536 in
theorem w_runnable : about1.curStatus? = some .runnable := by decide +kernel
set_option maxRecDepth 65536 in
theorem w_alone : about1.alone = true := by decide +kernel
set_option maxRecDepth 65536 in
theorem w_named : about1.methodNamed? x = some theMethod := by decide +kernel
set_option maxRecDepth 65536 in
theorem w_hears : about1.hears theMethod below0 = true := by decide +kernel
set_option maxRecDepth 65536 in
theorem w_ripe : about1.ripe theMethod args0 below0 = true := by decide +kernel
theorem w_running : about1.status = .running := rfl
set_option maxRecDepth 65536 in
theorem w_room : about1.hasRoom e0.platform room_1 = true :=
  launch0.hasRoom_least _ room_1 (by decide +kernel) (by decide +kernel) (by decide +kernel) (by decide +kernel) (by decide +kernel) (by decide +kernel)
theorem allAtoms_all (ts : List Jvm.Cond) (a : Array Jvm.Value) (st : Jvm.State) : (allAtoms ts).before a st = ts.all (fun c => c.before a st) := by
  induction ts with
  | nil => rfl
  | cons c t ih =>
    show (Jvm.Cond.and c (allAtoms t)).before a st = _
    rw [Jvm.Cond.before_and, ih, List.all_cons]
def words1 : List Jvm.Cond := Jvm.Cond.code x code maxLocals ret :: tables_1
/-- a 'code' word, met by the world's own term for the bytes: nothing is compared byte by byte -/
theorem code_word {y : MethodName} {bytes : ByteArray} {mx : Nat} {rt : Option FieldType} {a : Array Value} {s : State} {m : MethodId} {meth : Method} {c : Code} (h1 : s.methodNamed? y = some m) (h2 : s.vm.method? m = some meth) (h3 : meth.code = some c) (h4 : c.code = bytes)
    (h5 : (c.maxLocals == mx && c.exceptionTable.isEmpty && decide (c.maxStack ≤ mostOperands) && decide (meth.sig.returnType = rt) && !meth.locks && decide (parseMethodDescriptor y.desc = some meth.sig)) = true) : (Jvm.Cond.code y bytes mx rt).before a s = true := by
  simp only [Bool.and_eq_true, beq_iff_eq, Bool.not_eq_true', decide_eq_true_eq] at h5
  obtain ⟨⟨⟨⟨⟨g1, g2⟩, g3⟩, g4⟩, g5⟩, g6⟩ := h5
  simp [Cond.before, Cond.holds, Cond.value, h1, h2, h3, h4, g1, g2, g3, g4, g5, g6]
def isCode : Jvm.Cond → Bool
  | .code _ _ _ _ => true
  | _ => false
theorem all_split {L : List Jvm.Cond} {P : Jvm.Cond → Bool} (h1 : L.all (fun c => isCode c || P c) = true) (h2 : ∀ c ∈ L.filter isCode, P c = true) : L.all P = true := by
  refine List.all_eq_true.mpr fun c hc => ?_
  have h := List.all_eq_true.mp h1 c hc
  rcases Bool.eq_false_or_eq_true (isCode c) with hi | hi
  · exact h2 c (List.mem_filter.mpr ⟨hc, hi⟩)
  · simpa [hi] using h
set_option maxRecDepth 65536 in
theorem w_c0 : (Jvm.Cond.code x code maxLocals ret).before args0 about1 = true := code_word (m := ⟨1, 1⟩) (meth := k1m1) (c := k1c1) (by decide +kernel) rfl rfl rfl (by decide +kernel)
set_option maxRecDepth 65536 in
theorem w_c1 : (Jvm.Cond.code ({ cls := "com/example/roadeq/roadeq/assign/LinkCodeEncodePinLaw", name := "put", desc := "([SII)I" } : Jvm.MethodName) method_3_code (3 : Nat) (Option.some Jvm.ClassFile.FieldType.int)).before args0 about1 = true := code_word (m := ⟨1, 2⟩) (meth := k1m2) (c := k1c2) (by decide +kernel) rfl rfl rfl (by decide +kernel)
set_option maxRecDepth 65536 in
theorem w_c2 : (Jvm.Cond.code ({ cls := "com/example/roadeq/roadeq/assign/LinkCode", name := "encode", desc := "([II[S)V" } : Jvm.MethodName) prog_31_method_3_code (7 : Nat) (Option.none : Option Jvm.ClassFile.FieldType)).before args0 about1 = true := code_word (m := ⟨2, 1⟩) (meth := k2m1) (c := k2c1) (by decide +kernel) rfl rfl rfl (by decide +kernel)
set_option maxRecDepth 65536 in
theorem w_c3 : (Jvm.Cond.code ({ cls := "com/example/roadeq/roadeq/assign/LinkCode", name := "narrow", desc := "(I)Z" } : Jvm.MethodName) prog_31_method_5_code (1 : Nat) (Option.some Jvm.ClassFile.FieldType.boolean)).before args0 about1 = true := code_word (m := ⟨2, 2⟩) (meth := k2m2) (c := k2c2) (by decide +kernel) rfl rfl rfl (by decide +kernel)
set_option maxRecDepth 65536 in
theorem w_c4 : (Jvm.Cond.code ({ cls := "com/example/roadeq/roadeq/assign/LinkCodeEncodePinLaw", name := "same", desc := "([S[S)Z" } : Jvm.MethodName) method_4_code (2 : Nat) (Option.some Jvm.ClassFile.FieldType.boolean)).before args0 about1 = true := code_word (m := ⟨1, 3⟩) (meth := k1m3) (c := k1c3) (by decide +kernel) rfl rfl rfl (by decide +kernel)
def codes1 : List Jvm.Cond := [Jvm.Cond.code x code maxLocals ret, Jvm.Cond.code ({ cls := "com/example/roadeq/roadeq/assign/LinkCodeEncodePinLaw", name := "put", desc := "([SII)I" } : Jvm.MethodName) method_3_code (3 : Nat) (Option.some Jvm.ClassFile.FieldType.int), Jvm.Cond.code ({ cls := "com/example/roadeq/roadeq/assign/LinkCode", name := "encode", desc := "([II[S)V" } : Jvm.MethodName) prog_31_method_3_code (7 : Nat) (Option.none : Option Jvm.ClassFile.FieldType), Jvm.Cond.code ({ cls := "com/example/roadeq/roadeq/assign/LinkCode", name := "narrow", desc := "(I)Z" } : Jvm.MethodName) prog_31_method_5_code (1 : Nat) (Option.some Jvm.ClassFile.FieldType.boolean), Jvm.Cond.code ({ cls := "com/example/roadeq/roadeq/assign/LinkCodeEncodePinLaw", name := "same", desc := "([S[S)Z" } : Jvm.MethodName) method_4_code (2 : Nat) (Option.some Jvm.ClassFile.FieldType.boolean)]
set_option maxRecDepth 65536 in
theorem codes_eq : words1.filter isCode = codes1 := rfl
theorem w_codes : ∀ c ∈ words1.filter isCode, c.before args0 about1 = true := by
  rw [codes_eq]
  intro c hc
  simp only [codes1, List.mem_cons, List.not_mem_nil, or_false] at hc
  rcases hc with rfl | rfl | rfl | rfl | rfl
  · exact w_c0
  · exact w_c1
  · exact w_c2
  · exact w_c3
  · exact w_c4
set_option maxRecDepth 65536 in
theorem w_t1 : words1.all (fun c => isCode c || c.before args0 about1) = true := by decide +kernel
theorem w_tables : (allAtoms (Jvm.Cond.code x code maxLocals ret :: tables_1)).before args0 about1 = true := by
  rw [allAtoms_all]
  show words1.all (fun c => c.before args0 about1) = true
  refine all_split ?_ w_codes
  rw [w_t1]
set_option maxRecDepth 65536 in
theorem w_case : (Jvm.Cond.and given_1 narrow_1).before args0 about1 = true := by decide +kernel
theorem w_applies : (headSpec (Jvm.Cond.code x code maxLocals ret :: tables_1) room_1).applies x e0.platform about1 = true :=
  (Spec.applies_iff w_frames).mpr ⟨w_running, w_runnable, w_alone, w_named, w_hears, w_ripe, w_room, w_tables⟩
theorem atStart : AtStart classFile x code maxLocals ret World_1 tables_1 room_1 Calls_1 rest_1 Pre_1 launch0 p0 e0 about1 theMethod args0 below0 :=
  ⟨lists_1, trivial, launch0.admits_env _ _ _, launch0.least_env, fairChoices_fair.cas, fairChoices_fair.clock, w_frames, w_args, w_heap, w_applies, trivial, trivial, w_case⟩
end start1
theorem witness_1 : WitnessClaimed_1 := ⟨start1.p0, start1.e0, start1.about1, start1.theMethod, start1.args0, start1.below0, start1.atStart⟩
end Jvm.Pilot.@@N@@
