import JvmDerived
import JvmDerived.Pilot.@@N@@Statement
import JvmDerived.Pilot.@@N@@Code
set_option linter.unusedVariables false
set_option linter.unusedSimpArgs false
namespace Jvm.RoadKit
open Sem ClassFile Op Lib Jvm.Stand Jvm.Free Jvm.LawKit
section New
variable {p : Program} {l : Launch} {e : Env} {R : Room} {s : State} {m : MethodId} {args : Array Value} {below : List Frame} {meth : Method} {c : Code} {T : State} {locs : List Loc} {cells slots : Nat}
theorem retI (X : Stand p l e R s m args below meth c T locs cells slots) (hx : p.tables.exec = Jvm.exec) {pc : Nat} {Ls : Array Slot} {z : Int32} {rest : List Value} (hret : meth.sig.returnType = some .int) (hd : decode c.code pc = .ok (.ireturn, 1)) {fs : List Frame}
    (hl : ∀ (f : JFrame) (acts : List Action), f.method = m → f.locked = none → f.entered = [] → (doReturn e (T.setTop f) acts (some (.int z))).1 = T.setFrames fs) : Steps p.tables e below (T.setTop (mkF m pc Ls (.int z :: rest))) (T.setFrames fs) := by
  have hm' : T.vm.method? m = some meth := X.method'
  have hn : narrow .int (.int z) = .int z := rfl
  show Steps p.tables e below (T.setTop { method := m, pc := pc, locals := Ls, stack := _ :: rest, locked := none }) _
  jvm_step X.here [X.here.top, hx, hd, hm', hret, hn]
  first | (intro acts; rw [hl _ acts rfl rfl rfl]) | rw [hl _ _ rfl rfl rfl]
  exact Steps.refl _
end New
end Jvm.RoadKit
namespace Jvm.Pilot.@@N@@
open Jvm Jvm.ClassFile Sem Op Lib Jvm.Free Jvm.Stand Jvm.LawKit Jvm.RoadKit Bundle Jvm.Pilot.@@N@@.Jvm.D
/-! the goal of a walk, gone through forwards: from the state A the run comes to an end that answers R -/
def own_G (tb : Tables) (e : Env) (below : List Frame) (R : State → Outcome → Prop) (A : State) : Prop := ∃ t o, Steps tb e below A t ∧ t.status = .running ∧ Ended t below o ∧ R t o
theorem own_in {tb : Tables} {e : Env} {below : List Frame} {R : State → Outcome → Prop} {A : State} (h : own_G tb e below R A) : ∃ t o, Steps tb e below A t ∧ t.status = .running ∧ Ended t below o ∧ R t o := h
theorem own_pre {tb : Tables} {e : Env} {below : List Frame} {R : State → Outcome → Prop} {A B : State} (k : ∀ t, Steps tb e below B t → Steps tb e below A t) (h : own_G tb e below R B) : own_G tb e below R A := by
  obtain ⟨t, o, h1, h2⟩ := h
  exact ⟨t, o, k t h1, h2⟩
/-! a part of a walk: from A the run comes to some state that answers P -/
def own_J (tb : Tables) (e : Env) (below : List Frame) (P : State → Prop) (A : State) : Prop := ∃ B, P B ∧ ∀ t, Steps tb e below B t → Steps tb e below A t
theorem own_preJ {tb : Tables} {e : Env} {below : List Frame} {P : State → Prop} {A B : State} (k : ∀ t, Steps tb e below B t → Steps tb e below A t) (h : own_J tb e below P B) : own_J tb e below P A := by
  obtain ⟨C, h1, h2⟩ := h
  exact ⟨C, h1, fun t q => k t (h2 t q)⟩
theorem own_more {p : Program} {l : Launch} {e : Env} {R : Room} {s : State} {m : MethodId} {args : Array Value} {below : List Frame} {meth : Method} {c : Code} {T : State} {locs : List Loc} {cells slots cells' slots' : Nat} (X : Stand p l e R s m args below meth c T locs cells slots) (h : cells ≤ cells') (h' : slots ≤ slots') : Stand p l e R s m args below meth c T locs cells' slots' :=
  { X with same := X.same.mono h h' }
theorem ow {d : Jvm.Cond} (i : Nat) (h : tables_1[i]? = some d) : d ∈ tables_1 := List.mem_of_getElem? h
theorem d1_0 : decode method_2_code 0 = .ok (.iload_n 0, 1) := by decide +kernel
theorem d1_1 : decode method_2_code 1 = .ok (.iconst 1, 1) := by decide +kernel
theorem d1_2 : decode method_2_code 2 = .ok (.iand, 1) := by decide +kernel
theorem d1_3 : decode method_2_code 3 = .ok (.ifCond .eq 8, 3) := by decide +kernel
theorem d1_6 : decode method_2_code 6 = .ok (.bipush 46, 2) := by decide +kernel
theorem d1_8 : decode method_2_code 8 = .ok (.goto 7, 3) := by decide +kernel
theorem d1_11 : decode method_2_code 11 = .ok (.iload_n 0, 1) := by decide +kernel
theorem d1_12 : decode method_2_code 12 = .ok (.iconst 1, 1) := by decide +kernel
theorem d1_13 : decode method_2_code 13 = .ok (.iushr, 1) := by decide +kernel
theorem d1_14 : decode method_2_code 14 = .ok (.i2c, 1) := by decide +kernel
theorem d1_15 : decode method_2_code 15 = .ok (.ireturn, 1) := by decide +kernel
theorem pn_1 : plainName "com/example/anableps/anableps/name/NamesLabelEndPinLaw" = true := by first | (simp [plainName, overriddenIn]; done) | decide +kernel
theorem ef_1 (m : MethodId) (x0 : Int32) : entryFrame m #[(.int x0)] 1 = mkF m 0 #[.val (.int x0)] [] := by first | (simp [entryFrame, mkF, argsToLocals, Value.category]; done) | rfl
def own_f1 (p1 : Int32) : Int32 := (if (p1 &&& (1 : Int32)) = (0 : Int32) then (nar .char (((p1.toUInt32 >>> ((1 : Int32) &&& 31).toUInt32).toInt32).toUInt32.toUInt16.toUInt32.toInt32)) else (nar .char (46 : Int32)))
def Q1 (Z : State) (p1 : Int32) (h0 : Heap) (n0 : Nat) (v : Option Value) (h : Heap) (L : List Loc) : Prop := v = some (.int (own_f1 p1)) ∧ Fr n0 L ∧ h = h0
set_option maxRecDepth 65536 in
set_option maxHeartbeats 40000000 in
theorem rm1 (l : Launch) (Z : State) (a0 : Array Value) (hw : ∀ d ∈ tables_1, d.before a0 Z = true) (ws : List Jvm.Cond) (p1 : Int32) (h0 : Heap) (n0 : Nat) (Z0 : n0 ≤ h0.size) :
    MetFree l (⟨"com/example/anableps/anableps/name/NamesLabelEndPinLaw", "unit", "(I)C"⟩ : MethodName) (head1 (Jvm.Cond.code (⟨"com/example/anableps/anableps/name/NamesLabelEndPinLaw", "unit", "(I)C"⟩ : MethodName) method_2_code 1 (some .char) :: ws) ({ frames := 0, cells := 0, slots := 0, locals := 0 } : Room)) (fun a U => a = #[(.int p1)] ∧ Z.Warmed39 U.vm ∧ U.heap = h0) (fun _ _ _ _ _ => True) (fun _ U o U' => ∃ v L, o = .returned v ∧ Q1 Z p1 h0 n0 v U'.heap L ∧ FrameEnd U o U' L ({ frames := 0, cells := 0, slots := 0, locals := 0 } : Room).cells ({ frames := 0, cells := 0, slots := 0, locals := 0 } : Room).slots) := by
  refine MetFree.of_bodySF (plainFor_of_name pn_1) hisR ?_
  intro p e s m args below meth c s₁ Bd hml0 hP hK
  obtain ⟨rfl, hZ, hh⟩ := hP
  have hx := Bd.exec
  have hby := Bd.bytes
  have hml : c.maxLocals = 1 := hml0
  have hown : s.vm.findClass "com/example/anableps/anableps/name/NamesLabelEndPinLaw" = some m.cls := findClass_of_methodNamed Bd.named
  have hnm := (name_of_methodNamed Bd.named Bd.method).1
  have X0 : Stand p l e ({ frames := 0, cells := 0, slots := 0, locals := 0 } : Room) s m #[(.int p1)] below meth c s₁ [] 0 0 := Stand.of_body Bd
  have e0 : s₁.heap = h0 := by rw [← hh, Bd.state]; rfl
  have N0 := Fr.nil n0
  apply own_in
  refine own_pre (B := s₁.setTop (mkF m 0 #[.val (.int p1)] [])) (fun t k => castTop (ef_1 m p1) k) ?_
  refine own_pre (B := s₁.setTop (mkF m 1 #[.val (.int p1)] [(.int p1)])) (fun t k => XS.iloadN X0.here hx rfl (hb hby d1_0) rfl k) ?_
  refine own_pre (B := s₁.setTop (mkF m 2 #[.val (.int p1)] [(.int (1 : Int32)), (.int p1)])) (fun t k => XS.iconst X0.here hx rfl (hb hby d1_1) k) ?_
  refine own_pre (B := s₁.setTop (mkF m 3 #[.val (.int p1)] [(.int (p1 &&& (1 : Int32)))])) (fun t k => XS.iand X0.here hx rfl (hb hby d1_2) rfl k) ?_
  by_cases hc3_2 : (p1 &&& (1 : Int32)) = (0 : Int32)
  · refine own_pre (B := s₁.setTop (mkF m 11 #[.val (.int p1)] [])) (fun t k => XS.ifYes X0.here hx rfl (pc0 := 3) (pc' := 11) rfl (hb hby d1_3) rfl ((if0 _ _).trans (teq hc3_2).1) (by decide) (by decide) k) ?_
    refine own_pre (B := s₁.setTop (mkF m 12 #[.val (.int p1)] [(.int p1)])) (fun t k => XS.iloadN X0.here hx rfl (hb hby d1_11) rfl k) ?_
    refine own_pre (B := s₁.setTop (mkF m 13 #[.val (.int p1)] [(.int (1 : Int32)), (.int p1)])) (fun t k => XS.iconst X0.here hx rfl (hb hby d1_12) k) ?_
    refine own_pre (B := s₁.setTop (mkF m 14 #[.val (.int p1)] [(.int ((p1.toUInt32 >>> ((1 : Int32) &&& 31).toUInt32).toInt32))])) (fun t k => XS.iushr X0.here hx rfl (hb hby d1_13) rfl k) ?_
    refine own_pre (B := s₁.setTop (mkF m 15 #[.val (.int p1)] [(.int (((p1.toUInt32 >>> ((1 : Int32) &&& 31).toUInt32).toInt32).toUInt32.toUInt16.toUInt32.toInt32))])) (fun t k => XS.i2c X0.here hx rfl (hb hby d1_14) rfl k) ?_
    obtain ⟨fsr3, hrr3, hrunr3, hendedr3, hWr3, hsamer3⟩ := X0.leave (v := some (.int (nar .char (((p1.toUInt32 >>> ((1 : Int32) &&& 31).toUInt32).toInt32).toUInt32.toUInt16.toUInt32.toInt32)))) (fun h => by rw [Bd.returns] at h; cases h)
    refine ⟨_, _, (retN X0 hx (t := .char) Bd.returns (by simp) (hb hby d1_15) hrr3), hrunr3, hendedr3, _, _, rfl, ?_, ⟨_, rfl⟩, hWr3, hsamer3.mono (by decide) (by decide)⟩
    show Q1 Z p1 h0 n0 _ s₁.heap _
    rw [e0]
    exact ⟨(by unfold own_f1; rw [if_pos hc3_2]), N0, rfl⟩
  · refine own_pre (B := s₁.setTop (mkF m 6 #[.val (.int p1)] [])) (fun t k => XS.ifNo X0.here hx rfl (hb hby d1_3) rfl ((if0 _ _).trans (feq hc3_2).1) k) ?_
    refine own_pre (B := s₁.setTop (mkF m 8 #[.val (.int p1)] [(.int (46 : Int32))])) (fun t k => XS.bipush X0.here hx rfl (hb hby d1_6) k) ?_
    refine own_pre (B := s₁.setTop (mkF m 15 #[.val (.int p1)] [(.int (46 : Int32))])) (fun t k => XS.goto X0.here hx rfl (pc0 := 8) (pc' := 15) rfl (hb hby d1_8) (by decide) (by decide) k) ?_
    obtain ⟨fsr4, hrr4, hrunr4, hendedr4, hWr4, hsamer4⟩ := X0.leave (v := some (.int (nar .char (46 : Int32)))) (fun h => by rw [Bd.returns] at h; cases h)
    refine ⟨_, _, (retN X0 hx (t := .char) Bd.returns (by simp) (hb hby d1_15) hrr4), hrunr4, hendedr4, _, _, rfl, ?_, ⟨_, rfl⟩, hWr4, hsamer4.mono (by decide) (by decide)⟩
    show Q1 Z p1 h0 n0 _ s₁.heap _
    rw [e0]
    exact ⟨(by unfold own_f1; rw [if_neg hc3_2]), N0, rfl⟩
theorem d2_0 : decode jdk_29_method_69_code 0 = .ok (.iload_n 0, 1) := by decide +kernel
theorem d2_1 : decode jdk_29_method_69_code 1 = .ok (.iload_n 1, 1) := by decide +kernel
theorem d2_2 : decode jdk_29_method_69_code 2 = .ok (.if_icmp .gt 7, 3) := by decide +kernel
theorem d2_5 : decode jdk_29_method_69_code 5 = .ok (.iload_n 0, 1) := by decide +kernel
theorem d2_6 : decode jdk_29_method_69_code 6 = .ok (.goto 4, 3) := by decide +kernel
theorem d2_9 : decode jdk_29_method_69_code 9 = .ok (.iload_n 1, 1) := by decide +kernel
theorem d2_10 : decode jdk_29_method_69_code 10 = .ok (.ireturn, 1) := by decide +kernel
theorem ef_2 (m : MethodId) (x0 : Int32) (x1 : Int32) : entryFrame m #[(.int x0), (.int x1)] 2 = mkF m 0 #[.val (.int x0), .val (.int x1)] [] := by first | (simp [entryFrame, mkF, argsToLocals, Value.category]; done) | rfl
def own_f2 (p1 : Int32) (p2 : Int32) : Int32 := (if p2 < p1 then p2 else p1)
def Q2 (Z : State) (p1 : Int32) (p2 : Int32) (h0 : Heap) (n0 : Nat) (v : Option Value) (h : Heap) (L : List Loc) : Prop := v = some (.int (own_f2 p1 p2)) ∧ Fr n0 L ∧ h = h0
set_option maxRecDepth 65536 in
set_option maxHeartbeats 40000000 in
theorem rm2 (l : Launch) (Z : State) (a0 : Array Value) (hw : ∀ d ∈ tables_1, d.before a0 Z = true) (ws : List Jvm.Cond) (p1 : Int32) (p2 : Int32) (h0 : Heap) (n0 : Nat) (Z0 : n0 ≤ h0.size) :
    MetFree l (⟨"java/lang/Math", "min", "(II)I"⟩ : MethodName) (head1 (Jvm.Cond.code (⟨"java/lang/Math", "min", "(II)I"⟩ : MethodName) jdk_29_method_69_code 2 (some .int) :: ws) ({ frames := 0, cells := 0, slots := 0, locals := 0 } : Room)) (fun a U => a = #[(.int p1), (.int p2)] ∧ Z.Warmed39 U.vm ∧ U.heap = h0) (fun _ _ _ _ _ => True) (fun _ U o U' => ∃ v L, o = .returned v ∧ Q2 Z p1 p2 h0 n0 v U'.heap L ∧ FrameEnd U o U' L ({ frames := 0, cells := 0, slots := 0, locals := 0 } : Room).cells ({ frames := 0, cells := 0, slots := 0, locals := 0 } : Room).slots) := by
  refine MetFree.of_bodySF (Jvm.Free.JP.mathPlain rfl (by decide +kernel)) hisR ?_
  intro p e s m args below meth c s₁ Bd hml0 hP hK
  obtain ⟨rfl, hZ, hh⟩ := hP
  have hx := Bd.exec
  have hby := Bd.bytes
  have hml : c.maxLocals = 2 := hml0
  have hown : s.vm.findClass "java/lang/Math" = some m.cls := findClass_of_methodNamed Bd.named
  have hnm := (name_of_methodNamed Bd.named Bd.method).1
  have X0 : Stand p l e ({ frames := 0, cells := 0, slots := 0, locals := 0 } : Room) s m #[(.int p1), (.int p2)] below meth c s₁ [] 0 0 := Stand.of_body Bd
  have e0 : s₁.heap = h0 := by rw [← hh, Bd.state]; rfl
  have N0 := Fr.nil n0
  apply own_in
  refine own_pre (B := s₁.setTop (mkF m 0 #[.val (.int p1), .val (.int p2)] [])) (fun t k => castTop (ef_2 m p1 p2) k) ?_
  refine own_pre (B := s₁.setTop (mkF m 1 #[.val (.int p1), .val (.int p2)] [(.int p1)])) (fun t k => XS.iloadN X0.here hx rfl (hb hby d2_0) rfl k) ?_
  refine own_pre (B := s₁.setTop (mkF m 2 #[.val (.int p1), .val (.int p2)] [(.int p2), (.int p1)])) (fun t k => XS.iloadN X0.here hx rfl (hb hby d2_1) rfl k) ?_
  by_cases hc2_3 : p2 < p1
  · refine own_pre (B := s₁.setTop (mkF m 9 #[.val (.int p1), .val (.int p2)] [])) (fun t k => XS.icmpYes X0.here hx rfl (pc0 := 2) (pc' := 9) rfl (hb hby d2_2) rfl (tlt hc2_3).2.2.1 (by decide) (by decide) k) ?_
    refine own_pre (B := s₁.setTop (mkF m 10 #[.val (.int p1), .val (.int p2)] [(.int p2)])) (fun t k => XS.iloadN X0.here hx rfl (hb hby d2_9) rfl k) ?_
    obtain ⟨fsr4, hrr4, hrunr4, hendedr4, hWr4, hsamer4⟩ := X0.leave (v := some (.int p2)) (fun h => by rw [Bd.returns] at h; cases h)
    refine ⟨_, _, (retI X0 hx Bd.returns (hb hby d2_10) hrr4), hrunr4, hendedr4, _, _, rfl, ?_, ⟨_, rfl⟩, hWr4, hsamer4.mono (by decide) (by decide)⟩
    show Q2 Z p1 p2 h0 n0 _ s₁.heap _
    rw [e0]
    exact ⟨(by unfold own_f2; rw [if_pos hc2_3]), N0, rfl⟩
  · refine own_pre (B := s₁.setTop (mkF m 5 #[.val (.int p1), .val (.int p2)] [])) (fun t k => XS.icmpNo X0.here hx rfl (hb hby d2_2) rfl (flt hc2_3).2.2.1 k) ?_
    refine own_pre (B := s₁.setTop (mkF m 6 #[.val (.int p1), .val (.int p2)] [(.int p1)])) (fun t k => XS.iloadN X0.here hx rfl (hb hby d2_5) rfl k) ?_
    refine own_pre (B := s₁.setTop (mkF m 10 #[.val (.int p1), .val (.int p2)] [(.int p1)])) (fun t k => XS.goto X0.here hx rfl (pc0 := 6) (pc' := 10) rfl (hb hby d2_6) (by decide) (by decide) k) ?_
    obtain ⟨fsr5, hrr5, hrunr5, hendedr5, hWr5, hsamer5⟩ := X0.leave (v := some (.int p1)) (fun h => by rw [Bd.returns] at h; cases h)
    refine ⟨_, _, (retI X0 hx Bd.returns (hb hby d2_10) hrr5), hrunr5, hendedr5, _, _, rfl, ?_, ⟨_, rfl⟩, hWr5, hsamer5.mono (by decide) (by decide)⟩
    show Q2 Z p1 p2 h0 n0 _ s₁.heap _
    rw [e0]
    exact ⟨(by unfold own_f2; rw [if_neg hc2_3]), N0, rfl⟩
theorem d3_0 : decode jdk_29_method_65_code 0 = .ok (.iload_n 0, 1) := by decide +kernel
theorem d3_1 : decode jdk_29_method_65_code 1 = .ok (.iload_n 1, 1) := by decide +kernel
theorem d3_2 : decode jdk_29_method_65_code 2 = .ok (.if_icmp .lt 7, 3) := by decide +kernel
theorem d3_5 : decode jdk_29_method_65_code 5 = .ok (.iload_n 0, 1) := by decide +kernel
theorem d3_6 : decode jdk_29_method_65_code 6 = .ok (.goto 4, 3) := by decide +kernel
theorem d3_9 : decode jdk_29_method_65_code 9 = .ok (.iload_n 1, 1) := by decide +kernel
theorem d3_10 : decode jdk_29_method_65_code 10 = .ok (.ireturn, 1) := by decide +kernel
theorem ef_3 (m : MethodId) (x0 : Int32) (x1 : Int32) : entryFrame m #[(.int x0), (.int x1)] 2 = mkF m 0 #[.val (.int x0), .val (.int x1)] [] := by first | (simp [entryFrame, mkF, argsToLocals, Value.category]; done) | rfl
def own_f3 (p1 : Int32) (p2 : Int32) : Int32 := (if p1 < p2 then p2 else p1)
def Q3 (Z : State) (p1 : Int32) (p2 : Int32) (h0 : Heap) (n0 : Nat) (v : Option Value) (h : Heap) (L : List Loc) : Prop := v = some (.int (own_f3 p1 p2)) ∧ Fr n0 L ∧ h = h0
set_option maxRecDepth 65536 in
set_option maxHeartbeats 40000000 in
theorem rm3 (l : Launch) (Z : State) (a0 : Array Value) (hw : ∀ d ∈ tables_1, d.before a0 Z = true) (ws : List Jvm.Cond) (p1 : Int32) (p2 : Int32) (h0 : Heap) (n0 : Nat) (Z0 : n0 ≤ h0.size) :
    MetFree l (⟨"java/lang/Math", "max", "(II)I"⟩ : MethodName) (head1 (Jvm.Cond.code (⟨"java/lang/Math", "max", "(II)I"⟩ : MethodName) jdk_29_method_65_code 2 (some .int) :: ws) ({ frames := 0, cells := 0, slots := 0, locals := 0 } : Room)) (fun a U => a = #[(.int p1), (.int p2)] ∧ Z.Warmed39 U.vm ∧ U.heap = h0) (fun _ _ _ _ _ => True) (fun _ U o U' => ∃ v L, o = .returned v ∧ Q3 Z p1 p2 h0 n0 v U'.heap L ∧ FrameEnd U o U' L ({ frames := 0, cells := 0, slots := 0, locals := 0 } : Room).cells ({ frames := 0, cells := 0, slots := 0, locals := 0 } : Room).slots) := by
  refine MetFree.of_bodySF (Jvm.Free.JP.mathPlain rfl (by decide +kernel)) hisR ?_
  intro p e s m args below meth c s₁ Bd hml0 hP hK
  obtain ⟨rfl, hZ, hh⟩ := hP
  have hx := Bd.exec
  have hby := Bd.bytes
  have hml : c.maxLocals = 2 := hml0
  have hown : s.vm.findClass "java/lang/Math" = some m.cls := findClass_of_methodNamed Bd.named
  have hnm := (name_of_methodNamed Bd.named Bd.method).1
  have X0 : Stand p l e ({ frames := 0, cells := 0, slots := 0, locals := 0 } : Room) s m #[(.int p1), (.int p2)] below meth c s₁ [] 0 0 := Stand.of_body Bd
  have e0 : s₁.heap = h0 := by rw [← hh, Bd.state]; rfl
  have N0 := Fr.nil n0
  apply own_in
  refine own_pre (B := s₁.setTop (mkF m 0 #[.val (.int p1), .val (.int p2)] [])) (fun t k => castTop (ef_3 m p1 p2) k) ?_
  refine own_pre (B := s₁.setTop (mkF m 1 #[.val (.int p1), .val (.int p2)] [(.int p1)])) (fun t k => XS.iloadN X0.here hx rfl (hb hby d3_0) rfl k) ?_
  refine own_pre (B := s₁.setTop (mkF m 2 #[.val (.int p1), .val (.int p2)] [(.int p2), (.int p1)])) (fun t k => XS.iloadN X0.here hx rfl (hb hby d3_1) rfl k) ?_
  by_cases hc2_3 : p1 < p2
  · refine own_pre (B := s₁.setTop (mkF m 9 #[.val (.int p1), .val (.int p2)] [])) (fun t k => XS.icmpYes X0.here hx rfl (pc0 := 2) (pc' := 9) rfl (hb hby d3_2) rfl (tlt hc2_3).1 (by decide) (by decide) k) ?_
    refine own_pre (B := s₁.setTop (mkF m 10 #[.val (.int p1), .val (.int p2)] [(.int p2)])) (fun t k => XS.iloadN X0.here hx rfl (hb hby d3_9) rfl k) ?_
    obtain ⟨fsr4, hrr4, hrunr4, hendedr4, hWr4, hsamer4⟩ := X0.leave (v := some (.int p2)) (fun h => by rw [Bd.returns] at h; cases h)
    refine ⟨_, _, (retI X0 hx Bd.returns (hb hby d3_10) hrr4), hrunr4, hendedr4, _, _, rfl, ?_, ⟨_, rfl⟩, hWr4, hsamer4.mono (by decide) (by decide)⟩
    show Q3 Z p1 p2 h0 n0 _ s₁.heap _
    rw [e0]
    exact ⟨(by unfold own_f3; rw [if_pos hc2_3]), N0, rfl⟩
  · refine own_pre (B := s₁.setTop (mkF m 5 #[.val (.int p1), .val (.int p2)] [])) (fun t k => XS.icmpNo X0.here hx rfl (hb hby d3_2) rfl (flt hc2_3).1 k) ?_
    refine own_pre (B := s₁.setTop (mkF m 6 #[.val (.int p1), .val (.int p2)] [(.int p1)])) (fun t k => XS.iloadN X0.here hx rfl (hb hby d3_5) rfl k) ?_
    refine own_pre (B := s₁.setTop (mkF m 10 #[.val (.int p1), .val (.int p2)] [(.int p1)])) (fun t k => XS.goto X0.here hx rfl (pc0 := 6) (pc' := 10) rfl (hb hby d3_6) (by decide) (by decide) k) ?_
    obtain ⟨fsr5, hrr5, hrunr5, hendedr5, hWr5, hsamer5⟩ := X0.leave (v := some (.int p1)) (fun h => by rw [Bd.returns] at h; cases h)
    refine ⟨_, _, (retI X0 hx Bd.returns (hb hby d3_10) hrr5), hrunr5, hendedr5, _, _, rfl, ?_, ⟨_, rfl⟩, hWr5, hsamer5.mono (by decide) (by decide)⟩
    show Q3 Z p1 p2 h0 n0 _ s₁.heap _
    rw [e0]
    exact ⟨(by unfold own_f3; rw [if_neg hc2_3]), N0, rfl⟩
theorem d4_0 : decode prog_24_method_3_code 0 = .ok (.iload_n 1, 1) := by decide +kernel
theorem d4_1 : decode prog_24_method_3_code 1 = .ok (.istore_n 3, 1) := by decide +kernel
theorem d4_2 : decode prog_24_method_3_code 2 = .ok (.iload_n 3, 1) := by decide +kernel
theorem d4_3 : decode prog_24_method_3_code 3 = .ok (.iload_n 2, 1) := by decide +kernel
theorem d4_4 : decode prog_24_method_3_code 4 = .ok (.if_icmp .ge 17, 3) := by decide +kernel
theorem d4_7 : decode prog_24_method_3_code 7 = .ok (.aload_n 0, 1) := by decide +kernel
theorem d4_8 : decode prog_24_method_3_code 8 = .ok (.iload_n 3, 1) := by decide +kernel
theorem d4_9 : decode prog_24_method_3_code 9 = .ok (.caload, 1) := by decide +kernel
theorem d4_10 : decode prog_24_method_3_code 10 = .ok (.bipush 46, 2) := by decide +kernel
theorem d4_12 : decode prog_24_method_3_code 12 = .ok (.if_icmp .eq 9, 3) := by decide +kernel
theorem d4_15 : decode prog_24_method_3_code 15 = .ok (.iinc 3 1, 3) := by decide +kernel
theorem d4_18 : decode prog_24_method_3_code 18 = .ok (.goto (-16), 3) := by decide +kernel
theorem d4_21 : decode prog_24_method_3_code 21 = .ok (.iload_n 3, 1) := by decide +kernel
theorem d4_22 : decode prog_24_method_3_code 22 = .ok (.ireturn, 1) := by decide +kernel
theorem pn_4 : plainName "com/example/anableps/anableps/name/Names" = true := by first | (simp [plainName, overriddenIn]; done) | decide +kernel
theorem ef_4_0 (m : MethodId) (x0 : Addr) (x2 : Int32) : entryFrame m #[(.ref x0), (.int (0 : Int32)), (.int x2)] 4 = mkF m 0 #[.val (.ref x0), .val (.int (0 : Int32)), .val (.int x2), .unset] [] := by first | (simp [entryFrame, mkF, argsToLocals, Value.category]; done) | rfl
def own_f4_0 (p2 : Int32) (x0 : Int32) (x1 : Int32) (x2 : Int32) (x3 : Int32) : Int32 := (if (0 : Int32) < p2 then (if x0 = (46 : Int32) then (0 : Int32) else (if (1 : Int32) < p2 then (if x1 = (46 : Int32) then (1 : Int32) else (if (2 : Int32) < p2 then (if x2 = (46 : Int32) then (2 : Int32) else (if (3 : Int32) < p2 then (if x3 = (46 : Int32) then (3 : Int32) else (4 : Int32)) else (3 : Int32))) else (2 : Int32))) else (1 : Int32))) else (0 : Int32))
def Q4_0 (Z : State) (a1 : Addr) (p2 : Int32) (k_a1 : ClassId) (x0 : Int32) (x1 : Int32) (x2 : Int32) (x3 : Int32) (h0 : Heap) (n0 : Nat) (v : Option Value) (h : Heap) (L : List Loc) : Prop := v = some (.int (own_f4_0 p2 x0 x1 x2 x3)) ∧ Fr n0 L ∧ h = h0
set_option maxRecDepth 65536 in
set_option maxHeartbeats 40000000 in
theorem rm4_0 (l : Launch) (Z : State) (a0 : Array Value) (hw : ∀ d ∈ tables_1, d.before a0 Z = true) (ws : List Jvm.Cond) (a1 : Addr) (p2 : Int32) (k_a1 : ClassId) (x0 : Int32) (x1 : Int32) (x2 : Int32) (x3 : Int32) (h0 : Heap) (n0 : Nat) (Z0 : n0 ≤ h0.size) (V_a1 : Arv Z h0 a1 k_a1 .char (4 : Int32) [(.int x0), (.int x1), (.int x2), (.int x3)] (.int (0 : Int32))) (he4 : ¬ (4 : Int32) < p2) :
    MetFree l (⟨"com/example/anableps/anableps/name/Names", "labelEnd", "([CII)I"⟩ : MethodName) (head1 (Jvm.Cond.code (⟨"com/example/anableps/anableps/name/Names", "labelEnd", "([CII)I"⟩ : MethodName) prog_24_method_3_code 4 (some .int) :: ws) ({ frames := 0, cells := 0, slots := 0, locals := 0 } : Room)) (fun a U => a = #[(.ref a1), (.int (0 : Int32)), (.int p2)] ∧ Z.Warmed39 U.vm ∧ U.heap = h0) (fun _ _ _ _ _ => True) (fun _ U o U' => ∃ v L, o = .returned v ∧ Q4_0 Z a1 p2 k_a1 x0 x1 x2 x3 h0 n0 v U'.heap L ∧ FrameEnd U o U' L ({ frames := 0, cells := 0, slots := 0, locals := 0 } : Room).cells ({ frames := 0, cells := 0, slots := 0, locals := 0 } : Room).slots) := by
  refine MetFree.of_bodySF (plainFor_of_name pn_4) hisR ?_
  intro p e s m args below meth c s₁ Bd hml0 hP hK
  obtain ⟨rfl, hZ, hh⟩ := hP
  have hx := Bd.exec
  have hby := Bd.bytes
  have hml : c.maxLocals = 4 := hml0
  have hown : s.vm.findClass "com/example/anableps/anableps/name/Names" = some m.cls := findClass_of_methodNamed Bd.named
  have hnm := (name_of_methodNamed Bd.named Bd.method).1
  have X0 : Stand p l e ({ frames := 0, cells := 0, slots := 0, locals := 0 } : Room) s m #[(.ref a1), (.int (0 : Int32)), (.int p2)] below meth c s₁ [] 0 0 := Stand.of_body Bd
  have e0 : s₁.heap = h0 := by rw [← hh, Bd.state]; rfl
  have N0 := Fr.nil n0
  apply own_in
  refine own_pre (B := s₁.setTop (mkF m 0 #[.val (.ref a1), .val (.int (0 : Int32)), .val (.int p2), .unset] [])) (fun t k => castTop (ef_4_0 m a1 p2) k) ?_
  refine own_pre (B := s₁.setTop (mkF m 1 #[.val (.ref a1), .val (.int (0 : Int32)), .val (.int p2), .unset] [(.int (0 : Int32))])) (fun t k => XS.iloadN X0.here hx rfl (hb hby d4_0) rfl k) ?_
  refine own_pre (B := s₁.setTop (mkF m 2 #[.val (.ref a1), .val (.int (0 : Int32)), .val (.int p2), .val (.int (0 : Int32))] [])) (fun t k => XS.istoreN X0.here hx rfl (hb hby d4_1) rfl (l' := #[.val (.ref a1), .val (.int (0 : Int32)), .val (.int p2), .val (.int (0 : Int32))]) rfl k) ?_
  refine own_pre (B := s₁.setTop (mkF m 3 #[.val (.ref a1), .val (.int (0 : Int32)), .val (.int p2), .val (.int (0 : Int32))] [(.int (0 : Int32))])) (fun t k => XS.iloadN X0.here hx rfl (hb hby d4_2) rfl k) ?_
  refine own_pre (B := s₁.setTop (mkF m 4 #[.val (.ref a1), .val (.int (0 : Int32)), .val (.int p2), .val (.int (0 : Int32))] [(.int p2), (.int (0 : Int32))])) (fun t k => XS.iloadN X0.here hx rfl (hb hby d4_3) rfl k) ?_
  by_cases hc4_3 : (0 : Int32) < p2
  · refine own_pre (B := s₁.setTop (mkF m 7 #[.val (.ref a1), .val (.int (0 : Int32)), .val (.int p2), .val (.int (0 : Int32))] [])) (fun t k => XS.icmpNo X0.here hx rfl (hb hby d4_4) rfl (tlt hc4_3).2.1 k) ?_
    refine own_pre (B := s₁.setTop (mkF m 8 #[.val (.ref a1), .val (.int (0 : Int32)), .val (.int p2), .val (.int (0 : Int32))] [(.ref a1)])) (fun t k => XS.aloadN X0.here hx rfl (hb hby d4_7) rfl rfl k) ?_
    refine own_pre (B := s₁.setTop (mkF m 9 #[.val (.ref a1), .val (.int (0 : Int32)), .val (.int p2), .val (.int (0 : Int32))] [(.int (0 : Int32)), (.ref a1)])) (fun t k => XS.iloadN X0.here hx rfl (hb hby d4_8) rfl k) ?_
    obtain ⟨cl4, Ar4, q4, S4, N4v, H4v, G4v⟩ := V_a1
    have V_a1 : Arv Z h0 a1 k_a1 .char (4 : Int32) [(.int x0), (.int x1), (.int x2), (.int x3)] (.int (0 : Int32)) := ⟨cl4, Ar4, q4, S4, N4v, H4v, G4v⟩
    have hin4 : ¬ ((0 : Int32) < 0 ∨ cl4.slots.size ≤ ((0 : Int32)).toNatClampNeg) := inb_of S4 ⟨by decide, by decide⟩
    have hat4 : cl4.slots[((0 : Int32)).toNatClampNeg]? = some (.int x0) := H4v.at hin4 rfl
    refine own_pre (B := s₁.setTop (mkF m 10 #[.val (.ref a1), .val (.int (0 : Int32)), .val (.int p2), .val (.int (0 : Int32))] [(.int x0)])) (fun t k => X0.caload hx (j := (0 : Int32)) (v := (.int x0)) (by rw [e0]; exact Ar4.1) (State.isArrayOf_alike hZ.alike Ar4.2.1) Ar4.2.2 hin4 hat4 (g := (mkF m 9 #[.val (.ref a1), .val (.int (0 : Int32)), .val (.int p2), .val (.int (0 : Int32))] [(.int (0 : Int32)), (.ref a1)])) rfl rfl (hb hby d4_9) t k) ?_
    refine own_pre (B := s₁.setTop (mkF m 12 #[.val (.ref a1), .val (.int (0 : Int32)), .val (.int p2), .val (.int (0 : Int32))] [(.int (46 : Int32)), (.int x0)])) (fun t k => XS.bipush X0.here hx rfl (hb hby d4_10) k) ?_
    by_cases hc12_5 : x0 = (46 : Int32)
    · refine own_pre (B := s₁.setTop (mkF m 21 #[.val (.ref a1), .val (.int (0 : Int32)), .val (.int p2), .val (.int (0 : Int32))] [])) (fun t k => XS.icmpYes X0.here hx rfl (pc0 := 12) (pc' := 21) rfl (hb hby d4_12) rfl (teq hc12_5).1 (by decide) (by decide) k) ?_
      refine own_pre (B := s₁.setTop (mkF m 22 #[.val (.ref a1), .val (.int (0 : Int32)), .val (.int p2), .val (.int (0 : Int32))] [(.int (0 : Int32))])) (fun t k => XS.iloadN X0.here hx rfl (hb hby d4_21) rfl k) ?_
      obtain ⟨fsr6, hrr6, hrunr6, hendedr6, hWr6, hsamer6⟩ := X0.leave (v := some (.int (0 : Int32))) (fun h => by rw [Bd.returns] at h; cases h)
      refine ⟨_, _, (retI X0 hx Bd.returns (hb hby d4_22) hrr6), hrunr6, hendedr6, _, _, rfl, ?_, ⟨_, rfl⟩, hWr6, hsamer6.mono (by decide) (by decide)⟩
      show Q4_0 Z a1 p2 k_a1 x0 x1 x2 x3 h0 n0 _ s₁.heap _
      rw [e0]
      exact ⟨(by unfold own_f4_0; rw [if_pos hc4_3, if_pos hc12_5]), N0, rfl⟩
    · refine own_pre (B := s₁.setTop (mkF m 15 #[.val (.ref a1), .val (.int (0 : Int32)), .val (.int p2), .val (.int (0 : Int32))] [])) (fun t k => XS.icmpNo X0.here hx rfl (hb hby d4_12) rfl (feq hc12_5).1 k) ?_
      refine own_pre (B := s₁.setTop (mkF m 18 #[.val (.ref a1), .val (.int (0 : Int32)), .val (.int p2), .val (.int (1 : Int32))] [])) (fun t k => XS.iinc X0.here hx rfl (hb hby d4_15) rfl (l' := #[.val (.ref a1), .val (.int (0 : Int32)), .val (.int p2), .val (.int (1 : Int32))]) rfl k) ?_
      refine own_pre (B := s₁.setTop (mkF m 2 #[.val (.ref a1), .val (.int (0 : Int32)), .val (.int p2), .val (.int (1 : Int32))] [])) (fun t k => XS.goto X0.here hx rfl (pc0 := 18) (pc' := 2) rfl (hb hby d4_18) (by decide) (by decide) k) ?_
      refine own_pre (B := s₁.setTop (mkF m 3 #[.val (.ref a1), .val (.int (0 : Int32)), .val (.int p2), .val (.int (1 : Int32))] [(.int (1 : Int32))])) (fun t k => XS.iloadN X0.here hx rfl (hb hby d4_2) rfl k) ?_
      refine own_pre (B := s₁.setTop (mkF m 4 #[.val (.ref a1), .val (.int (0 : Int32)), .val (.int p2), .val (.int (1 : Int32))] [(.int p2), (.int (1 : Int32))])) (fun t k => XS.iloadN X0.here hx rfl (hb hby d4_3) rfl k) ?_
      by_cases hc4_7 : (1 : Int32) < p2
      · refine own_pre (B := s₁.setTop (mkF m 7 #[.val (.ref a1), .val (.int (0 : Int32)), .val (.int p2), .val (.int (1 : Int32))] [])) (fun t k => XS.icmpNo X0.here hx rfl (hb hby d4_4) rfl (tlt hc4_7).2.1 k) ?_
        refine own_pre (B := s₁.setTop (mkF m 8 #[.val (.ref a1), .val (.int (0 : Int32)), .val (.int p2), .val (.int (1 : Int32))] [(.ref a1)])) (fun t k => XS.aloadN X0.here hx rfl (hb hby d4_7) rfl rfl k) ?_
        refine own_pre (B := s₁.setTop (mkF m 9 #[.val (.ref a1), .val (.int (0 : Int32)), .val (.int p2), .val (.int (1 : Int32))] [(.int (1 : Int32)), (.ref a1)])) (fun t k => XS.iloadN X0.here hx rfl (hb hby d4_8) rfl k) ?_
        obtain ⟨cl8, Ar8, q8, S8, N8v, H8v, G8v⟩ := V_a1
        have V_a1 : Arv Z h0 a1 k_a1 .char (4 : Int32) [(.int x0), (.int x1), (.int x2), (.int x3)] (.int (0 : Int32)) := ⟨cl8, Ar8, q8, S8, N8v, H8v, G8v⟩
        have hin8 : ¬ ((1 : Int32) < 0 ∨ cl8.slots.size ≤ ((1 : Int32)).toNatClampNeg) := inb_of S8 ⟨by decide, by decide⟩
        have hat8 : cl8.slots[((1 : Int32)).toNatClampNeg]? = some (.int x1) := H8v.at hin8 rfl
        refine own_pre (B := s₁.setTop (mkF m 10 #[.val (.ref a1), .val (.int (0 : Int32)), .val (.int p2), .val (.int (1 : Int32))] [(.int x1)])) (fun t k => X0.caload hx (j := (1 : Int32)) (v := (.int x1)) (by rw [e0]; exact Ar8.1) (State.isArrayOf_alike hZ.alike Ar8.2.1) Ar8.2.2 hin8 hat8 (g := (mkF m 9 #[.val (.ref a1), .val (.int (0 : Int32)), .val (.int p2), .val (.int (1 : Int32))] [(.int (1 : Int32)), (.ref a1)])) rfl rfl (hb hby d4_9) t k) ?_
        refine own_pre (B := s₁.setTop (mkF m 12 #[.val (.ref a1), .val (.int (0 : Int32)), .val (.int p2), .val (.int (1 : Int32))] [(.int (46 : Int32)), (.int x1)])) (fun t k => XS.bipush X0.here hx rfl (hb hby d4_10) k) ?_
        by_cases hc12_9 : x1 = (46 : Int32)
        · refine own_pre (B := s₁.setTop (mkF m 21 #[.val (.ref a1), .val (.int (0 : Int32)), .val (.int p2), .val (.int (1 : Int32))] [])) (fun t k => XS.icmpYes X0.here hx rfl (pc0 := 12) (pc' := 21) rfl (hb hby d4_12) rfl (teq hc12_9).1 (by decide) (by decide) k) ?_
          refine own_pre (B := s₁.setTop (mkF m 22 #[.val (.ref a1), .val (.int (0 : Int32)), .val (.int p2), .val (.int (1 : Int32))] [(.int (1 : Int32))])) (fun t k => XS.iloadN X0.here hx rfl (hb hby d4_21) rfl k) ?_
          obtain ⟨fsr10, hrr10, hrunr10, hendedr10, hWr10, hsamer10⟩ := X0.leave (v := some (.int (1 : Int32))) (fun h => by rw [Bd.returns] at h; cases h)
          refine ⟨_, _, (retI X0 hx Bd.returns (hb hby d4_22) hrr10), hrunr10, hendedr10, _, _, rfl, ?_, ⟨_, rfl⟩, hWr10, hsamer10.mono (by decide) (by decide)⟩
          show Q4_0 Z a1 p2 k_a1 x0 x1 x2 x3 h0 n0 _ s₁.heap _
          rw [e0]
          exact ⟨(by unfold own_f4_0; rw [if_pos hc4_3, if_neg hc12_5, if_pos hc4_7, if_pos hc12_9]), N0, rfl⟩
        · refine own_pre (B := s₁.setTop (mkF m 15 #[.val (.ref a1), .val (.int (0 : Int32)), .val (.int p2), .val (.int (1 : Int32))] [])) (fun t k => XS.icmpNo X0.here hx rfl (hb hby d4_12) rfl (feq hc12_9).1 k) ?_
          refine own_pre (B := s₁.setTop (mkF m 18 #[.val (.ref a1), .val (.int (0 : Int32)), .val (.int p2), .val (.int (2 : Int32))] [])) (fun t k => XS.iinc X0.here hx rfl (hb hby d4_15) rfl (l' := #[.val (.ref a1), .val (.int (0 : Int32)), .val (.int p2), .val (.int (2 : Int32))]) rfl k) ?_
          refine own_pre (B := s₁.setTop (mkF m 2 #[.val (.ref a1), .val (.int (0 : Int32)), .val (.int p2), .val (.int (2 : Int32))] [])) (fun t k => XS.goto X0.here hx rfl (pc0 := 18) (pc' := 2) rfl (hb hby d4_18) (by decide) (by decide) k) ?_
          refine own_pre (B := s₁.setTop (mkF m 3 #[.val (.ref a1), .val (.int (0 : Int32)), .val (.int p2), .val (.int (2 : Int32))] [(.int (2 : Int32))])) (fun t k => XS.iloadN X0.here hx rfl (hb hby d4_2) rfl k) ?_
          refine own_pre (B := s₁.setTop (mkF m 4 #[.val (.ref a1), .val (.int (0 : Int32)), .val (.int p2), .val (.int (2 : Int32))] [(.int p2), (.int (2 : Int32))])) (fun t k => XS.iloadN X0.here hx rfl (hb hby d4_3) rfl k) ?_
          by_cases hc4_11 : (2 : Int32) < p2
          · refine own_pre (B := s₁.setTop (mkF m 7 #[.val (.ref a1), .val (.int (0 : Int32)), .val (.int p2), .val (.int (2 : Int32))] [])) (fun t k => XS.icmpNo X0.here hx rfl (hb hby d4_4) rfl (tlt hc4_11).2.1 k) ?_
            refine own_pre (B := s₁.setTop (mkF m 8 #[.val (.ref a1), .val (.int (0 : Int32)), .val (.int p2), .val (.int (2 : Int32))] [(.ref a1)])) (fun t k => XS.aloadN X0.here hx rfl (hb hby d4_7) rfl rfl k) ?_
            refine own_pre (B := s₁.setTop (mkF m 9 #[.val (.ref a1), .val (.int (0 : Int32)), .val (.int p2), .val (.int (2 : Int32))] [(.int (2 : Int32)), (.ref a1)])) (fun t k => XS.iloadN X0.here hx rfl (hb hby d4_8) rfl k) ?_
            obtain ⟨cl12, Ar12, q12, S12, N12v, H12v, G12v⟩ := V_a1
            have V_a1 : Arv Z h0 a1 k_a1 .char (4 : Int32) [(.int x0), (.int x1), (.int x2), (.int x3)] (.int (0 : Int32)) := ⟨cl12, Ar12, q12, S12, N12v, H12v, G12v⟩
            have hin12 : ¬ ((2 : Int32) < 0 ∨ cl12.slots.size ≤ ((2 : Int32)).toNatClampNeg) := inb_of S12 ⟨by decide, by decide⟩
            have hat12 : cl12.slots[((2 : Int32)).toNatClampNeg]? = some (.int x2) := H12v.at hin12 rfl
            refine own_pre (B := s₁.setTop (mkF m 10 #[.val (.ref a1), .val (.int (0 : Int32)), .val (.int p2), .val (.int (2 : Int32))] [(.int x2)])) (fun t k => X0.caload hx (j := (2 : Int32)) (v := (.int x2)) (by rw [e0]; exact Ar12.1) (State.isArrayOf_alike hZ.alike Ar12.2.1) Ar12.2.2 hin12 hat12 (g := (mkF m 9 #[.val (.ref a1), .val (.int (0 : Int32)), .val (.int p2), .val (.int (2 : Int32))] [(.int (2 : Int32)), (.ref a1)])) rfl rfl (hb hby d4_9) t k) ?_
            refine own_pre (B := s₁.setTop (mkF m 12 #[.val (.ref a1), .val (.int (0 : Int32)), .val (.int p2), .val (.int (2 : Int32))] [(.int (46 : Int32)), (.int x2)])) (fun t k => XS.bipush X0.here hx rfl (hb hby d4_10) k) ?_
            by_cases hc12_13 : x2 = (46 : Int32)
            · refine own_pre (B := s₁.setTop (mkF m 21 #[.val (.ref a1), .val (.int (0 : Int32)), .val (.int p2), .val (.int (2 : Int32))] [])) (fun t k => XS.icmpYes X0.here hx rfl (pc0 := 12) (pc' := 21) rfl (hb hby d4_12) rfl (teq hc12_13).1 (by decide) (by decide) k) ?_
              refine own_pre (B := s₁.setTop (mkF m 22 #[.val (.ref a1), .val (.int (0 : Int32)), .val (.int p2), .val (.int (2 : Int32))] [(.int (2 : Int32))])) (fun t k => XS.iloadN X0.here hx rfl (hb hby d4_21) rfl k) ?_
              obtain ⟨fsr14, hrr14, hrunr14, hendedr14, hWr14, hsamer14⟩ := X0.leave (v := some (.int (2 : Int32))) (fun h => by rw [Bd.returns] at h; cases h)
              refine ⟨_, _, (retI X0 hx Bd.returns (hb hby d4_22) hrr14), hrunr14, hendedr14, _, _, rfl, ?_, ⟨_, rfl⟩, hWr14, hsamer14.mono (by decide) (by decide)⟩
              show Q4_0 Z a1 p2 k_a1 x0 x1 x2 x3 h0 n0 _ s₁.heap _
              rw [e0]
              exact ⟨(by unfold own_f4_0; rw [if_pos hc4_3, if_neg hc12_5, if_pos hc4_7, if_neg hc12_9, if_pos hc4_11, if_pos hc12_13]), N0, rfl⟩
            · refine own_pre (B := s₁.setTop (mkF m 15 #[.val (.ref a1), .val (.int (0 : Int32)), .val (.int p2), .val (.int (2 : Int32))] [])) (fun t k => XS.icmpNo X0.here hx rfl (hb hby d4_12) rfl (feq hc12_13).1 k) ?_
              refine own_pre (B := s₁.setTop (mkF m 18 #[.val (.ref a1), .val (.int (0 : Int32)), .val (.int p2), .val (.int (3 : Int32))] [])) (fun t k => XS.iinc X0.here hx rfl (hb hby d4_15) rfl (l' := #[.val (.ref a1), .val (.int (0 : Int32)), .val (.int p2), .val (.int (3 : Int32))]) rfl k) ?_
              refine own_pre (B := s₁.setTop (mkF m 2 #[.val (.ref a1), .val (.int (0 : Int32)), .val (.int p2), .val (.int (3 : Int32))] [])) (fun t k => XS.goto X0.here hx rfl (pc0 := 18) (pc' := 2) rfl (hb hby d4_18) (by decide) (by decide) k) ?_
              refine own_pre (B := s₁.setTop (mkF m 3 #[.val (.ref a1), .val (.int (0 : Int32)), .val (.int p2), .val (.int (3 : Int32))] [(.int (3 : Int32))])) (fun t k => XS.iloadN X0.here hx rfl (hb hby d4_2) rfl k) ?_
              refine own_pre (B := s₁.setTop (mkF m 4 #[.val (.ref a1), .val (.int (0 : Int32)), .val (.int p2), .val (.int (3 : Int32))] [(.int p2), (.int (3 : Int32))])) (fun t k => XS.iloadN X0.here hx rfl (hb hby d4_3) rfl k) ?_
              by_cases hc4_15 : (3 : Int32) < p2
              · refine own_pre (B := s₁.setTop (mkF m 7 #[.val (.ref a1), .val (.int (0 : Int32)), .val (.int p2), .val (.int (3 : Int32))] [])) (fun t k => XS.icmpNo X0.here hx rfl (hb hby d4_4) rfl (tlt hc4_15).2.1 k) ?_
                refine own_pre (B := s₁.setTop (mkF m 8 #[.val (.ref a1), .val (.int (0 : Int32)), .val (.int p2), .val (.int (3 : Int32))] [(.ref a1)])) (fun t k => XS.aloadN X0.here hx rfl (hb hby d4_7) rfl rfl k) ?_
                refine own_pre (B := s₁.setTop (mkF m 9 #[.val (.ref a1), .val (.int (0 : Int32)), .val (.int p2), .val (.int (3 : Int32))] [(.int (3 : Int32)), (.ref a1)])) (fun t k => XS.iloadN X0.here hx rfl (hb hby d4_8) rfl k) ?_
                obtain ⟨cl16, Ar16, q16, S16, N16v, H16v, G16v⟩ := V_a1
                have V_a1 : Arv Z h0 a1 k_a1 .char (4 : Int32) [(.int x0), (.int x1), (.int x2), (.int x3)] (.int (0 : Int32)) := ⟨cl16, Ar16, q16, S16, N16v, H16v, G16v⟩
                have hin16 : ¬ ((3 : Int32) < 0 ∨ cl16.slots.size ≤ ((3 : Int32)).toNatClampNeg) := inb_of S16 ⟨by decide, by decide⟩
                have hat16 : cl16.slots[((3 : Int32)).toNatClampNeg]? = some (.int x3) := H16v.at hin16 rfl
                refine own_pre (B := s₁.setTop (mkF m 10 #[.val (.ref a1), .val (.int (0 : Int32)), .val (.int p2), .val (.int (3 : Int32))] [(.int x3)])) (fun t k => X0.caload hx (j := (3 : Int32)) (v := (.int x3)) (by rw [e0]; exact Ar16.1) (State.isArrayOf_alike hZ.alike Ar16.2.1) Ar16.2.2 hin16 hat16 (g := (mkF m 9 #[.val (.ref a1), .val (.int (0 : Int32)), .val (.int p2), .val (.int (3 : Int32))] [(.int (3 : Int32)), (.ref a1)])) rfl rfl (hb hby d4_9) t k) ?_
                refine own_pre (B := s₁.setTop (mkF m 12 #[.val (.ref a1), .val (.int (0 : Int32)), .val (.int p2), .val (.int (3 : Int32))] [(.int (46 : Int32)), (.int x3)])) (fun t k => XS.bipush X0.here hx rfl (hb hby d4_10) k) ?_
                by_cases hc12_17 : x3 = (46 : Int32)
                · refine own_pre (B := s₁.setTop (mkF m 21 #[.val (.ref a1), .val (.int (0 : Int32)), .val (.int p2), .val (.int (3 : Int32))] [])) (fun t k => XS.icmpYes X0.here hx rfl (pc0 := 12) (pc' := 21) rfl (hb hby d4_12) rfl (teq hc12_17).1 (by decide) (by decide) k) ?_
                  refine own_pre (B := s₁.setTop (mkF m 22 #[.val (.ref a1), .val (.int (0 : Int32)), .val (.int p2), .val (.int (3 : Int32))] [(.int (3 : Int32))])) (fun t k => XS.iloadN X0.here hx rfl (hb hby d4_21) rfl k) ?_
                  obtain ⟨fsr18, hrr18, hrunr18, hendedr18, hWr18, hsamer18⟩ := X0.leave (v := some (.int (3 : Int32))) (fun h => by rw [Bd.returns] at h; cases h)
                  refine ⟨_, _, (retI X0 hx Bd.returns (hb hby d4_22) hrr18), hrunr18, hendedr18, _, _, rfl, ?_, ⟨_, rfl⟩, hWr18, hsamer18.mono (by decide) (by decide)⟩
                  show Q4_0 Z a1 p2 k_a1 x0 x1 x2 x3 h0 n0 _ s₁.heap _
                  rw [e0]
                  exact ⟨(by unfold own_f4_0; rw [if_pos hc4_3, if_neg hc12_5, if_pos hc4_7, if_neg hc12_9, if_pos hc4_11, if_neg hc12_13, if_pos hc4_15, if_pos hc12_17]), N0, rfl⟩
                · refine own_pre (B := s₁.setTop (mkF m 15 #[.val (.ref a1), .val (.int (0 : Int32)), .val (.int p2), .val (.int (3 : Int32))] [])) (fun t k => XS.icmpNo X0.here hx rfl (hb hby d4_12) rfl (feq hc12_17).1 k) ?_
                  refine own_pre (B := s₁.setTop (mkF m 18 #[.val (.ref a1), .val (.int (0 : Int32)), .val (.int p2), .val (.int (4 : Int32))] [])) (fun t k => XS.iinc X0.here hx rfl (hb hby d4_15) rfl (l' := #[.val (.ref a1), .val (.int (0 : Int32)), .val (.int p2), .val (.int (4 : Int32))]) rfl k) ?_
                  refine own_pre (B := s₁.setTop (mkF m 2 #[.val (.ref a1), .val (.int (0 : Int32)), .val (.int p2), .val (.int (4 : Int32))] [])) (fun t k => XS.goto X0.here hx rfl (pc0 := 18) (pc' := 2) rfl (hb hby d4_18) (by decide) (by decide) k) ?_
                  refine own_pre (B := s₁.setTop (mkF m 3 #[.val (.ref a1), .val (.int (0 : Int32)), .val (.int p2), .val (.int (4 : Int32))] [(.int (4 : Int32))])) (fun t k => XS.iloadN X0.here hx rfl (hb hby d4_2) rfl k) ?_
                  refine own_pre (B := s₁.setTop (mkF m 4 #[.val (.ref a1), .val (.int (0 : Int32)), .val (.int p2), .val (.int (4 : Int32))] [(.int p2), (.int (4 : Int32))])) (fun t k => XS.iloadN X0.here hx rfl (hb hby d4_3) rfl k) ?_
                  refine own_pre (B := s₁.setTop (mkF m 21 #[.val (.ref a1), .val (.int (0 : Int32)), .val (.int p2), .val (.int (4 : Int32))] [])) (fun t k => XS.icmpYes X0.here hx rfl (pc0 := 4) (pc' := 21) rfl (hb hby d4_4) rfl (flt he4).2.1 (by decide) (by decide) k) ?_
                  refine own_pre (B := s₁.setTop (mkF m 22 #[.val (.ref a1), .val (.int (0 : Int32)), .val (.int p2), .val (.int (4 : Int32))] [(.int (4 : Int32))])) (fun t k => XS.iloadN X0.here hx rfl (hb hby d4_21) rfl k) ?_
                  obtain ⟨fsr19, hrr19, hrunr19, hendedr19, hWr19, hsamer19⟩ := X0.leave (v := some (.int (4 : Int32))) (fun h => by rw [Bd.returns] at h; cases h)
                  refine ⟨_, _, (retI X0 hx Bd.returns (hb hby d4_22) hrr19), hrunr19, hendedr19, _, _, rfl, ?_, ⟨_, rfl⟩, hWr19, hsamer19.mono (by decide) (by decide)⟩
                  show Q4_0 Z a1 p2 k_a1 x0 x1 x2 x3 h0 n0 _ s₁.heap _
                  rw [e0]
                  exact ⟨(by unfold own_f4_0; rw [if_pos hc4_3, if_neg hc12_5, if_pos hc4_7, if_neg hc12_9, if_pos hc4_11, if_neg hc12_13, if_pos hc4_15, if_neg hc12_17]), N0, rfl⟩
              · refine own_pre (B := s₁.setTop (mkF m 21 #[.val (.ref a1), .val (.int (0 : Int32)), .val (.int p2), .val (.int (3 : Int32))] [])) (fun t k => XS.icmpYes X0.here hx rfl (pc0 := 4) (pc' := 21) rfl (hb hby d4_4) rfl (flt hc4_15).2.1 (by decide) (by decide) k) ?_
                refine own_pre (B := s₁.setTop (mkF m 22 #[.val (.ref a1), .val (.int (0 : Int32)), .val (.int p2), .val (.int (3 : Int32))] [(.int (3 : Int32))])) (fun t k => XS.iloadN X0.here hx rfl (hb hby d4_21) rfl k) ?_
                obtain ⟨fsr20, hrr20, hrunr20, hendedr20, hWr20, hsamer20⟩ := X0.leave (v := some (.int (3 : Int32))) (fun h => by rw [Bd.returns] at h; cases h)
                refine ⟨_, _, (retI X0 hx Bd.returns (hb hby d4_22) hrr20), hrunr20, hendedr20, _, _, rfl, ?_, ⟨_, rfl⟩, hWr20, hsamer20.mono (by decide) (by decide)⟩
                show Q4_0 Z a1 p2 k_a1 x0 x1 x2 x3 h0 n0 _ s₁.heap _
                rw [e0]
                exact ⟨(by unfold own_f4_0; rw [if_pos hc4_3, if_neg hc12_5, if_pos hc4_7, if_neg hc12_9, if_pos hc4_11, if_neg hc12_13, if_neg hc4_15]), N0, rfl⟩
          · refine own_pre (B := s₁.setTop (mkF m 21 #[.val (.ref a1), .val (.int (0 : Int32)), .val (.int p2), .val (.int (2 : Int32))] [])) (fun t k => XS.icmpYes X0.here hx rfl (pc0 := 4) (pc' := 21) rfl (hb hby d4_4) rfl (flt hc4_11).2.1 (by decide) (by decide) k) ?_
            refine own_pre (B := s₁.setTop (mkF m 22 #[.val (.ref a1), .val (.int (0 : Int32)), .val (.int p2), .val (.int (2 : Int32))] [(.int (2 : Int32))])) (fun t k => XS.iloadN X0.here hx rfl (hb hby d4_21) rfl k) ?_
            obtain ⟨fsr21, hrr21, hrunr21, hendedr21, hWr21, hsamer21⟩ := X0.leave (v := some (.int (2 : Int32))) (fun h => by rw [Bd.returns] at h; cases h)
            refine ⟨_, _, (retI X0 hx Bd.returns (hb hby d4_22) hrr21), hrunr21, hendedr21, _, _, rfl, ?_, ⟨_, rfl⟩, hWr21, hsamer21.mono (by decide) (by decide)⟩
            show Q4_0 Z a1 p2 k_a1 x0 x1 x2 x3 h0 n0 _ s₁.heap _
            rw [e0]
            exact ⟨(by unfold own_f4_0; rw [if_pos hc4_3, if_neg hc12_5, if_pos hc4_7, if_neg hc12_9, if_neg hc4_11]), N0, rfl⟩
      · refine own_pre (B := s₁.setTop (mkF m 21 #[.val (.ref a1), .val (.int (0 : Int32)), .val (.int p2), .val (.int (1 : Int32))] [])) (fun t k => XS.icmpYes X0.here hx rfl (pc0 := 4) (pc' := 21) rfl (hb hby d4_4) rfl (flt hc4_7).2.1 (by decide) (by decide) k) ?_
        refine own_pre (B := s₁.setTop (mkF m 22 #[.val (.ref a1), .val (.int (0 : Int32)), .val (.int p2), .val (.int (1 : Int32))] [(.int (1 : Int32))])) (fun t k => XS.iloadN X0.here hx rfl (hb hby d4_21) rfl k) ?_
        obtain ⟨fsr22, hrr22, hrunr22, hendedr22, hWr22, hsamer22⟩ := X0.leave (v := some (.int (1 : Int32))) (fun h => by rw [Bd.returns] at h; cases h)
        refine ⟨_, _, (retI X0 hx Bd.returns (hb hby d4_22) hrr22), hrunr22, hendedr22, _, _, rfl, ?_, ⟨_, rfl⟩, hWr22, hsamer22.mono (by decide) (by decide)⟩
        show Q4_0 Z a1 p2 k_a1 x0 x1 x2 x3 h0 n0 _ s₁.heap _
        rw [e0]
        exact ⟨(by unfold own_f4_0; rw [if_pos hc4_3, if_neg hc12_5, if_neg hc4_7]), N0, rfl⟩
  · refine own_pre (B := s₁.setTop (mkF m 21 #[.val (.ref a1), .val (.int (0 : Int32)), .val (.int p2), .val (.int (0 : Int32))] [])) (fun t k => XS.icmpYes X0.here hx rfl (pc0 := 4) (pc' := 21) rfl (hb hby d4_4) rfl (flt hc4_3).2.1 (by decide) (by decide) k) ?_
    refine own_pre (B := s₁.setTop (mkF m 22 #[.val (.ref a1), .val (.int (0 : Int32)), .val (.int p2), .val (.int (0 : Int32))] [(.int (0 : Int32))])) (fun t k => XS.iloadN X0.here hx rfl (hb hby d4_21) rfl k) ?_
    obtain ⟨fsr23, hrr23, hrunr23, hendedr23, hWr23, hsamer23⟩ := X0.leave (v := some (.int (0 : Int32))) (fun h => by rw [Bd.returns] at h; cases h)
    refine ⟨_, _, (retI X0 hx Bd.returns (hb hby d4_22) hrr23), hrunr23, hendedr23, _, _, rfl, ?_, ⟨_, rfl⟩, hWr23, hsamer23.mono (by decide) (by decide)⟩
    show Q4_0 Z a1 p2 k_a1 x0 x1 x2 x3 h0 n0 _ s₁.heap _
    rw [e0]
    exact ⟨(by unfold own_f4_0; rw [if_neg hc4_3]), N0, rfl⟩
theorem ef_4_1 (m : MethodId) (x0 : Addr) (x2 : Int32) : entryFrame m #[(.ref x0), (.int (1 : Int32)), (.int x2)] 4 = mkF m 0 #[.val (.ref x0), .val (.int (1 : Int32)), .val (.int x2), .unset] [] := by first | (simp [entryFrame, mkF, argsToLocals, Value.category]; done) | rfl
def own_f4_1 (p2 : Int32) (x0 : Int32) (x1 : Int32) (x2 : Int32) (x3 : Int32) : Int32 := (if (1 : Int32) < p2 then (if x1 = (46 : Int32) then (1 : Int32) else (if (2 : Int32) < p2 then (if x2 = (46 : Int32) then (2 : Int32) else (if (3 : Int32) < p2 then (if x3 = (46 : Int32) then (3 : Int32) else (4 : Int32)) else (3 : Int32))) else (2 : Int32))) else (1 : Int32))
def Q4_1 (Z : State) (a1 : Addr) (p2 : Int32) (k_a1 : ClassId) (x0 : Int32) (x1 : Int32) (x2 : Int32) (x3 : Int32) (h0 : Heap) (n0 : Nat) (v : Option Value) (h : Heap) (L : List Loc) : Prop := v = some (.int (own_f4_1 p2 x0 x1 x2 x3)) ∧ Fr n0 L ∧ h = h0
set_option maxRecDepth 65536 in
set_option maxHeartbeats 40000000 in
theorem rm4_1 (l : Launch) (Z : State) (a0 : Array Value) (hw : ∀ d ∈ tables_1, d.before a0 Z = true) (ws : List Jvm.Cond) (a1 : Addr) (p2 : Int32) (k_a1 : ClassId) (x0 : Int32) (x1 : Int32) (x2 : Int32) (x3 : Int32) (h0 : Heap) (n0 : Nat) (Z0 : n0 ≤ h0.size) (V_a1 : Arv Z h0 a1 k_a1 .char (4 : Int32) [(.int x0), (.int x1), (.int x2), (.int x3)] (.int (0 : Int32))) (he4 : ¬ (4 : Int32) < p2) :
    MetFree l (⟨"com/example/anableps/anableps/name/Names", "labelEnd", "([CII)I"⟩ : MethodName) (head1 (Jvm.Cond.code (⟨"com/example/anableps/anableps/name/Names", "labelEnd", "([CII)I"⟩ : MethodName) prog_24_method_3_code 4 (some .int) :: ws) ({ frames := 0, cells := 0, slots := 0, locals := 0 } : Room)) (fun a U => a = #[(.ref a1), (.int (1 : Int32)), (.int p2)] ∧ Z.Warmed39 U.vm ∧ U.heap = h0) (fun _ _ _ _ _ => True) (fun _ U o U' => ∃ v L, o = .returned v ∧ Q4_1 Z a1 p2 k_a1 x0 x1 x2 x3 h0 n0 v U'.heap L ∧ FrameEnd U o U' L ({ frames := 0, cells := 0, slots := 0, locals := 0 } : Room).cells ({ frames := 0, cells := 0, slots := 0, locals := 0 } : Room).slots) := by
  refine MetFree.of_bodySF (plainFor_of_name pn_4) hisR ?_
  intro p e s m args below meth c s₁ Bd hml0 hP hK
  obtain ⟨rfl, hZ, hh⟩ := hP
  have hx := Bd.exec
  have hby := Bd.bytes
  have hml : c.maxLocals = 4 := hml0
  have hown : s.vm.findClass "com/example/anableps/anableps/name/Names" = some m.cls := findClass_of_methodNamed Bd.named
  have hnm := (name_of_methodNamed Bd.named Bd.method).1
  have X0 : Stand p l e ({ frames := 0, cells := 0, slots := 0, locals := 0 } : Room) s m #[(.ref a1), (.int (1 : Int32)), (.int p2)] below meth c s₁ [] 0 0 := Stand.of_body Bd
  have e0 : s₁.heap = h0 := by rw [← hh, Bd.state]; rfl
  have N0 := Fr.nil n0
  apply own_in
  refine own_pre (B := s₁.setTop (mkF m 0 #[.val (.ref a1), .val (.int (1 : Int32)), .val (.int p2), .unset] [])) (fun t k => castTop (ef_4_1 m a1 p2) k) ?_
  refine own_pre (B := s₁.setTop (mkF m 1 #[.val (.ref a1), .val (.int (1 : Int32)), .val (.int p2), .unset] [(.int (1 : Int32))])) (fun t k => XS.iloadN X0.here hx rfl (hb hby d4_0) rfl k) ?_
  refine own_pre (B := s₁.setTop (mkF m 2 #[.val (.ref a1), .val (.int (1 : Int32)), .val (.int p2), .val (.int (1 : Int32))] [])) (fun t k => XS.istoreN X0.here hx rfl (hb hby d4_1) rfl (l' := #[.val (.ref a1), .val (.int (1 : Int32)), .val (.int p2), .val (.int (1 : Int32))]) rfl k) ?_
  refine own_pre (B := s₁.setTop (mkF m 3 #[.val (.ref a1), .val (.int (1 : Int32)), .val (.int p2), .val (.int (1 : Int32))] [(.int (1 : Int32))])) (fun t k => XS.iloadN X0.here hx rfl (hb hby d4_2) rfl k) ?_
  refine own_pre (B := s₁.setTop (mkF m 4 #[.val (.ref a1), .val (.int (1 : Int32)), .val (.int p2), .val (.int (1 : Int32))] [(.int p2), (.int (1 : Int32))])) (fun t k => XS.iloadN X0.here hx rfl (hb hby d4_3) rfl k) ?_
  by_cases hc4_3 : (1 : Int32) < p2
  · refine own_pre (B := s₁.setTop (mkF m 7 #[.val (.ref a1), .val (.int (1 : Int32)), .val (.int p2), .val (.int (1 : Int32))] [])) (fun t k => XS.icmpNo X0.here hx rfl (hb hby d4_4) rfl (tlt hc4_3).2.1 k) ?_
    refine own_pre (B := s₁.setTop (mkF m 8 #[.val (.ref a1), .val (.int (1 : Int32)), .val (.int p2), .val (.int (1 : Int32))] [(.ref a1)])) (fun t k => XS.aloadN X0.here hx rfl (hb hby d4_7) rfl rfl k) ?_
    refine own_pre (B := s₁.setTop (mkF m 9 #[.val (.ref a1), .val (.int (1 : Int32)), .val (.int p2), .val (.int (1 : Int32))] [(.int (1 : Int32)), (.ref a1)])) (fun t k => XS.iloadN X0.here hx rfl (hb hby d4_8) rfl k) ?_
    obtain ⟨cl4, Ar4, q4, S4, N4v, H4v, G4v⟩ := V_a1
    have V_a1 : Arv Z h0 a1 k_a1 .char (4 : Int32) [(.int x0), (.int x1), (.int x2), (.int x3)] (.int (0 : Int32)) := ⟨cl4, Ar4, q4, S4, N4v, H4v, G4v⟩
    have hin4 : ¬ ((1 : Int32) < 0 ∨ cl4.slots.size ≤ ((1 : Int32)).toNatClampNeg) := inb_of S4 ⟨by decide, by decide⟩
    have hat4 : cl4.slots[((1 : Int32)).toNatClampNeg]? = some (.int x1) := H4v.at hin4 rfl
    refine own_pre (B := s₁.setTop (mkF m 10 #[.val (.ref a1), .val (.int (1 : Int32)), .val (.int p2), .val (.int (1 : Int32))] [(.int x1)])) (fun t k => X0.caload hx (j := (1 : Int32)) (v := (.int x1)) (by rw [e0]; exact Ar4.1) (State.isArrayOf_alike hZ.alike Ar4.2.1) Ar4.2.2 hin4 hat4 (g := (mkF m 9 #[.val (.ref a1), .val (.int (1 : Int32)), .val (.int p2), .val (.int (1 : Int32))] [(.int (1 : Int32)), (.ref a1)])) rfl rfl (hb hby d4_9) t k) ?_
    refine own_pre (B := s₁.setTop (mkF m 12 #[.val (.ref a1), .val (.int (1 : Int32)), .val (.int p2), .val (.int (1 : Int32))] [(.int (46 : Int32)), (.int x1)])) (fun t k => XS.bipush X0.here hx rfl (hb hby d4_10) k) ?_
    by_cases hc12_5 : x1 = (46 : Int32)
    · refine own_pre (B := s₁.setTop (mkF m 21 #[.val (.ref a1), .val (.int (1 : Int32)), .val (.int p2), .val (.int (1 : Int32))] [])) (fun t k => XS.icmpYes X0.here hx rfl (pc0 := 12) (pc' := 21) rfl (hb hby d4_12) rfl (teq hc12_5).1 (by decide) (by decide) k) ?_
      refine own_pre (B := s₁.setTop (mkF m 22 #[.val (.ref a1), .val (.int (1 : Int32)), .val (.int p2), .val (.int (1 : Int32))] [(.int (1 : Int32))])) (fun t k => XS.iloadN X0.here hx rfl (hb hby d4_21) rfl k) ?_
      obtain ⟨fsr6, hrr6, hrunr6, hendedr6, hWr6, hsamer6⟩ := X0.leave (v := some (.int (1 : Int32))) (fun h => by rw [Bd.returns] at h; cases h)
      refine ⟨_, _, (retI X0 hx Bd.returns (hb hby d4_22) hrr6), hrunr6, hendedr6, _, _, rfl, ?_, ⟨_, rfl⟩, hWr6, hsamer6.mono (by decide) (by decide)⟩
      show Q4_1 Z a1 p2 k_a1 x0 x1 x2 x3 h0 n0 _ s₁.heap _
      rw [e0]
      exact ⟨(by unfold own_f4_1; rw [if_pos hc4_3, if_pos hc12_5]), N0, rfl⟩
    · refine own_pre (B := s₁.setTop (mkF m 15 #[.val (.ref a1), .val (.int (1 : Int32)), .val (.int p2), .val (.int (1 : Int32))] [])) (fun t k => XS.icmpNo X0.here hx rfl (hb hby d4_12) rfl (feq hc12_5).1 k) ?_
      refine own_pre (B := s₁.setTop (mkF m 18 #[.val (.ref a1), .val (.int (1 : Int32)), .val (.int p2), .val (.int (2 : Int32))] [])) (fun t k => XS.iinc X0.here hx rfl (hb hby d4_15) rfl (l' := #[.val (.ref a1), .val (.int (1 : Int32)), .val (.int p2), .val (.int (2 : Int32))]) rfl k) ?_
      refine own_pre (B := s₁.setTop (mkF m 2 #[.val (.ref a1), .val (.int (1 : Int32)), .val (.int p2), .val (.int (2 : Int32))] [])) (fun t k => XS.goto X0.here hx rfl (pc0 := 18) (pc' := 2) rfl (hb hby d4_18) (by decide) (by decide) k) ?_
      refine own_pre (B := s₁.setTop (mkF m 3 #[.val (.ref a1), .val (.int (1 : Int32)), .val (.int p2), .val (.int (2 : Int32))] [(.int (2 : Int32))])) (fun t k => XS.iloadN X0.here hx rfl (hb hby d4_2) rfl k) ?_
      refine own_pre (B := s₁.setTop (mkF m 4 #[.val (.ref a1), .val (.int (1 : Int32)), .val (.int p2), .val (.int (2 : Int32))] [(.int p2), (.int (2 : Int32))])) (fun t k => XS.iloadN X0.here hx rfl (hb hby d4_3) rfl k) ?_
      by_cases hc4_7 : (2 : Int32) < p2
      · refine own_pre (B := s₁.setTop (mkF m 7 #[.val (.ref a1), .val (.int (1 : Int32)), .val (.int p2), .val (.int (2 : Int32))] [])) (fun t k => XS.icmpNo X0.here hx rfl (hb hby d4_4) rfl (tlt hc4_7).2.1 k) ?_
        refine own_pre (B := s₁.setTop (mkF m 8 #[.val (.ref a1), .val (.int (1 : Int32)), .val (.int p2), .val (.int (2 : Int32))] [(.ref a1)])) (fun t k => XS.aloadN X0.here hx rfl (hb hby d4_7) rfl rfl k) ?_
        refine own_pre (B := s₁.setTop (mkF m 9 #[.val (.ref a1), .val (.int (1 : Int32)), .val (.int p2), .val (.int (2 : Int32))] [(.int (2 : Int32)), (.ref a1)])) (fun t k => XS.iloadN X0.here hx rfl (hb hby d4_8) rfl k) ?_
        obtain ⟨cl8, Ar8, q8, S8, N8v, H8v, G8v⟩ := V_a1
        have V_a1 : Arv Z h0 a1 k_a1 .char (4 : Int32) [(.int x0), (.int x1), (.int x2), (.int x3)] (.int (0 : Int32)) := ⟨cl8, Ar8, q8, S8, N8v, H8v, G8v⟩
        have hin8 : ¬ ((2 : Int32) < 0 ∨ cl8.slots.size ≤ ((2 : Int32)).toNatClampNeg) := inb_of S8 ⟨by decide, by decide⟩
        have hat8 : cl8.slots[((2 : Int32)).toNatClampNeg]? = some (.int x2) := H8v.at hin8 rfl
        refine own_pre (B := s₁.setTop (mkF m 10 #[.val (.ref a1), .val (.int (1 : Int32)), .val (.int p2), .val (.int (2 : Int32))] [(.int x2)])) (fun t k => X0.caload hx (j := (2 : Int32)) (v := (.int x2)) (by rw [e0]; exact Ar8.1) (State.isArrayOf_alike hZ.alike Ar8.2.1) Ar8.2.2 hin8 hat8 (g := (mkF m 9 #[.val (.ref a1), .val (.int (1 : Int32)), .val (.int p2), .val (.int (2 : Int32))] [(.int (2 : Int32)), (.ref a1)])) rfl rfl (hb hby d4_9) t k) ?_
        refine own_pre (B := s₁.setTop (mkF m 12 #[.val (.ref a1), .val (.int (1 : Int32)), .val (.int p2), .val (.int (2 : Int32))] [(.int (46 : Int32)), (.int x2)])) (fun t k => XS.bipush X0.here hx rfl (hb hby d4_10) k) ?_
        by_cases hc12_9 : x2 = (46 : Int32)
        · refine own_pre (B := s₁.setTop (mkF m 21 #[.val (.ref a1), .val (.int (1 : Int32)), .val (.int p2), .val (.int (2 : Int32))] [])) (fun t k => XS.icmpYes X0.here hx rfl (pc0 := 12) (pc' := 21) rfl (hb hby d4_12) rfl (teq hc12_9).1 (by decide) (by decide) k) ?_
          refine own_pre (B := s₁.setTop (mkF m 22 #[.val (.ref a1), .val (.int (1 : Int32)), .val (.int p2), .val (.int (2 : Int32))] [(.int (2 : Int32))])) (fun t k => XS.iloadN X0.here hx rfl (hb hby d4_21) rfl k) ?_
          obtain ⟨fsr10, hrr10, hrunr10, hendedr10, hWr10, hsamer10⟩ := X0.leave (v := some (.int (2 : Int32))) (fun h => by rw [Bd.returns] at h; cases h)
          refine ⟨_, _, (retI X0 hx Bd.returns (hb hby d4_22) hrr10), hrunr10, hendedr10, _, _, rfl, ?_, ⟨_, rfl⟩, hWr10, hsamer10.mono (by decide) (by decide)⟩
          show Q4_1 Z a1 p2 k_a1 x0 x1 x2 x3 h0 n0 _ s₁.heap _
          rw [e0]
          exact ⟨(by unfold own_f4_1; rw [if_pos hc4_3, if_neg hc12_5, if_pos hc4_7, if_pos hc12_9]), N0, rfl⟩
        · refine own_pre (B := s₁.setTop (mkF m 15 #[.val (.ref a1), .val (.int (1 : Int32)), .val (.int p2), .val (.int (2 : Int32))] [])) (fun t k => XS.icmpNo X0.here hx rfl (hb hby d4_12) rfl (feq hc12_9).1 k) ?_
          refine own_pre (B := s₁.setTop (mkF m 18 #[.val (.ref a1), .val (.int (1 : Int32)), .val (.int p2), .val (.int (3 : Int32))] [])) (fun t k => XS.iinc X0.here hx rfl (hb hby d4_15) rfl (l' := #[.val (.ref a1), .val (.int (1 : Int32)), .val (.int p2), .val (.int (3 : Int32))]) rfl k) ?_
          refine own_pre (B := s₁.setTop (mkF m 2 #[.val (.ref a1), .val (.int (1 : Int32)), .val (.int p2), .val (.int (3 : Int32))] [])) (fun t k => XS.goto X0.here hx rfl (pc0 := 18) (pc' := 2) rfl (hb hby d4_18) (by decide) (by decide) k) ?_
          refine own_pre (B := s₁.setTop (mkF m 3 #[.val (.ref a1), .val (.int (1 : Int32)), .val (.int p2), .val (.int (3 : Int32))] [(.int (3 : Int32))])) (fun t k => XS.iloadN X0.here hx rfl (hb hby d4_2) rfl k) ?_
          refine own_pre (B := s₁.setTop (mkF m 4 #[.val (.ref a1), .val (.int (1 : Int32)), .val (.int p2), .val (.int (3 : Int32))] [(.int p2), (.int (3 : Int32))])) (fun t k => XS.iloadN X0.here hx rfl (hb hby d4_3) rfl k) ?_
          by_cases hc4_11 : (3 : Int32) < p2
          · refine own_pre (B := s₁.setTop (mkF m 7 #[.val (.ref a1), .val (.int (1 : Int32)), .val (.int p2), .val (.int (3 : Int32))] [])) (fun t k => XS.icmpNo X0.here hx rfl (hb hby d4_4) rfl (tlt hc4_11).2.1 k) ?_
            refine own_pre (B := s₁.setTop (mkF m 8 #[.val (.ref a1), .val (.int (1 : Int32)), .val (.int p2), .val (.int (3 : Int32))] [(.ref a1)])) (fun t k => XS.aloadN X0.here hx rfl (hb hby d4_7) rfl rfl k) ?_
            refine own_pre (B := s₁.setTop (mkF m 9 #[.val (.ref a1), .val (.int (1 : Int32)), .val (.int p2), .val (.int (3 : Int32))] [(.int (3 : Int32)), (.ref a1)])) (fun t k => XS.iloadN X0.here hx rfl (hb hby d4_8) rfl k) ?_
            obtain ⟨cl12, Ar12, q12, S12, N12v, H12v, G12v⟩ := V_a1
            have V_a1 : Arv Z h0 a1 k_a1 .char (4 : Int32) [(.int x0), (.int x1), (.int x2), (.int x3)] (.int (0 : Int32)) := ⟨cl12, Ar12, q12, S12, N12v, H12v, G12v⟩
            have hin12 : ¬ ((3 : Int32) < 0 ∨ cl12.slots.size ≤ ((3 : Int32)).toNatClampNeg) := inb_of S12 ⟨by decide, by decide⟩
            have hat12 : cl12.slots[((3 : Int32)).toNatClampNeg]? = some (.int x3) := H12v.at hin12 rfl
            refine own_pre (B := s₁.setTop (mkF m 10 #[.val (.ref a1), .val (.int (1 : Int32)), .val (.int p2), .val (.int (3 : Int32))] [(.int x3)])) (fun t k => X0.caload hx (j := (3 : Int32)) (v := (.int x3)) (by rw [e0]; exact Ar12.1) (State.isArrayOf_alike hZ.alike Ar12.2.1) Ar12.2.2 hin12 hat12 (g := (mkF m 9 #[.val (.ref a1), .val (.int (1 : Int32)), .val (.int p2), .val (.int (3 : Int32))] [(.int (3 : Int32)), (.ref a1)])) rfl rfl (hb hby d4_9) t k) ?_
            refine own_pre (B := s₁.setTop (mkF m 12 #[.val (.ref a1), .val (.int (1 : Int32)), .val (.int p2), .val (.int (3 : Int32))] [(.int (46 : Int32)), (.int x3)])) (fun t k => XS.bipush X0.here hx rfl (hb hby d4_10) k) ?_
            by_cases hc12_13 : x3 = (46 : Int32)
            · refine own_pre (B := s₁.setTop (mkF m 21 #[.val (.ref a1), .val (.int (1 : Int32)), .val (.int p2), .val (.int (3 : Int32))] [])) (fun t k => XS.icmpYes X0.here hx rfl (pc0 := 12) (pc' := 21) rfl (hb hby d4_12) rfl (teq hc12_13).1 (by decide) (by decide) k) ?_
              refine own_pre (B := s₁.setTop (mkF m 22 #[.val (.ref a1), .val (.int (1 : Int32)), .val (.int p2), .val (.int (3 : Int32))] [(.int (3 : Int32))])) (fun t k => XS.iloadN X0.here hx rfl (hb hby d4_21) rfl k) ?_
              obtain ⟨fsr14, hrr14, hrunr14, hendedr14, hWr14, hsamer14⟩ := X0.leave (v := some (.int (3 : Int32))) (fun h => by rw [Bd.returns] at h; cases h)
              refine ⟨_, _, (retI X0 hx Bd.returns (hb hby d4_22) hrr14), hrunr14, hendedr14, _, _, rfl, ?_, ⟨_, rfl⟩, hWr14, hsamer14.mono (by decide) (by decide)⟩
              show Q4_1 Z a1 p2 k_a1 x0 x1 x2 x3 h0 n0 _ s₁.heap _
              rw [e0]
              exact ⟨(by unfold own_f4_1; rw [if_pos hc4_3, if_neg hc12_5, if_pos hc4_7, if_neg hc12_9, if_pos hc4_11, if_pos hc12_13]), N0, rfl⟩
            · refine own_pre (B := s₁.setTop (mkF m 15 #[.val (.ref a1), .val (.int (1 : Int32)), .val (.int p2), .val (.int (3 : Int32))] [])) (fun t k => XS.icmpNo X0.here hx rfl (hb hby d4_12) rfl (feq hc12_13).1 k) ?_
              refine own_pre (B := s₁.setTop (mkF m 18 #[.val (.ref a1), .val (.int (1 : Int32)), .val (.int p2), .val (.int (4 : Int32))] [])) (fun t k => XS.iinc X0.here hx rfl (hb hby d4_15) rfl (l' := #[.val (.ref a1), .val (.int (1 : Int32)), .val (.int p2), .val (.int (4 : Int32))]) rfl k) ?_
              refine own_pre (B := s₁.setTop (mkF m 2 #[.val (.ref a1), .val (.int (1 : Int32)), .val (.int p2), .val (.int (4 : Int32))] [])) (fun t k => XS.goto X0.here hx rfl (pc0 := 18) (pc' := 2) rfl (hb hby d4_18) (by decide) (by decide) k) ?_
              refine own_pre (B := s₁.setTop (mkF m 3 #[.val (.ref a1), .val (.int (1 : Int32)), .val (.int p2), .val (.int (4 : Int32))] [(.int (4 : Int32))])) (fun t k => XS.iloadN X0.here hx rfl (hb hby d4_2) rfl k) ?_
              refine own_pre (B := s₁.setTop (mkF m 4 #[.val (.ref a1), .val (.int (1 : Int32)), .val (.int p2), .val (.int (4 : Int32))] [(.int p2), (.int (4 : Int32))])) (fun t k => XS.iloadN X0.here hx rfl (hb hby d4_3) rfl k) ?_
              refine own_pre (B := s₁.setTop (mkF m 21 #[.val (.ref a1), .val (.int (1 : Int32)), .val (.int p2), .val (.int (4 : Int32))] [])) (fun t k => XS.icmpYes X0.here hx rfl (pc0 := 4) (pc' := 21) rfl (hb hby d4_4) rfl (flt he4).2.1 (by decide) (by decide) k) ?_
              refine own_pre (B := s₁.setTop (mkF m 22 #[.val (.ref a1), .val (.int (1 : Int32)), .val (.int p2), .val (.int (4 : Int32))] [(.int (4 : Int32))])) (fun t k => XS.iloadN X0.here hx rfl (hb hby d4_21) rfl k) ?_
              obtain ⟨fsr15, hrr15, hrunr15, hendedr15, hWr15, hsamer15⟩ := X0.leave (v := some (.int (4 : Int32))) (fun h => by rw [Bd.returns] at h; cases h)
              refine ⟨_, _, (retI X0 hx Bd.returns (hb hby d4_22) hrr15), hrunr15, hendedr15, _, _, rfl, ?_, ⟨_, rfl⟩, hWr15, hsamer15.mono (by decide) (by decide)⟩
              show Q4_1 Z a1 p2 k_a1 x0 x1 x2 x3 h0 n0 _ s₁.heap _
              rw [e0]
              exact ⟨(by unfold own_f4_1; rw [if_pos hc4_3, if_neg hc12_5, if_pos hc4_7, if_neg hc12_9, if_pos hc4_11, if_neg hc12_13]), N0, rfl⟩
          · refine own_pre (B := s₁.setTop (mkF m 21 #[.val (.ref a1), .val (.int (1 : Int32)), .val (.int p2), .val (.int (3 : Int32))] [])) (fun t k => XS.icmpYes X0.here hx rfl (pc0 := 4) (pc' := 21) rfl (hb hby d4_4) rfl (flt hc4_11).2.1 (by decide) (by decide) k) ?_
            refine own_pre (B := s₁.setTop (mkF m 22 #[.val (.ref a1), .val (.int (1 : Int32)), .val (.int p2), .val (.int (3 : Int32))] [(.int (3 : Int32))])) (fun t k => XS.iloadN X0.here hx rfl (hb hby d4_21) rfl k) ?_
            obtain ⟨fsr16, hrr16, hrunr16, hendedr16, hWr16, hsamer16⟩ := X0.leave (v := some (.int (3 : Int32))) (fun h => by rw [Bd.returns] at h; cases h)
            refine ⟨_, _, (retI X0 hx Bd.returns (hb hby d4_22) hrr16), hrunr16, hendedr16, _, _, rfl, ?_, ⟨_, rfl⟩, hWr16, hsamer16.mono (by decide) (by decide)⟩
            show Q4_1 Z a1 p2 k_a1 x0 x1 x2 x3 h0 n0 _ s₁.heap _
            rw [e0]
            exact ⟨(by unfold own_f4_1; rw [if_pos hc4_3, if_neg hc12_5, if_pos hc4_7, if_neg hc12_9, if_neg hc4_11]), N0, rfl⟩
      · refine own_pre (B := s₁.setTop (mkF m 21 #[.val (.ref a1), .val (.int (1 : Int32)), .val (.int p2), .val (.int (2 : Int32))] [])) (fun t k => XS.icmpYes X0.here hx rfl (pc0 := 4) (pc' := 21) rfl (hb hby d4_4) rfl (flt hc4_7).2.1 (by decide) (by decide) k) ?_
        refine own_pre (B := s₁.setTop (mkF m 22 #[.val (.ref a1), .val (.int (1 : Int32)), .val (.int p2), .val (.int (2 : Int32))] [(.int (2 : Int32))])) (fun t k => XS.iloadN X0.here hx rfl (hb hby d4_21) rfl k) ?_
        obtain ⟨fsr17, hrr17, hrunr17, hendedr17, hWr17, hsamer17⟩ := X0.leave (v := some (.int (2 : Int32))) (fun h => by rw [Bd.returns] at h; cases h)
        refine ⟨_, _, (retI X0 hx Bd.returns (hb hby d4_22) hrr17), hrunr17, hendedr17, _, _, rfl, ?_, ⟨_, rfl⟩, hWr17, hsamer17.mono (by decide) (by decide)⟩
        show Q4_1 Z a1 p2 k_a1 x0 x1 x2 x3 h0 n0 _ s₁.heap _
        rw [e0]
        exact ⟨(by unfold own_f4_1; rw [if_pos hc4_3, if_neg hc12_5, if_neg hc4_7]), N0, rfl⟩
  · refine own_pre (B := s₁.setTop (mkF m 21 #[.val (.ref a1), .val (.int (1 : Int32)), .val (.int p2), .val (.int (1 : Int32))] [])) (fun t k => XS.icmpYes X0.here hx rfl (pc0 := 4) (pc' := 21) rfl (hb hby d4_4) rfl (flt hc4_3).2.1 (by decide) (by decide) k) ?_
    refine own_pre (B := s₁.setTop (mkF m 22 #[.val (.ref a1), .val (.int (1 : Int32)), .val (.int p2), .val (.int (1 : Int32))] [(.int (1 : Int32))])) (fun t k => XS.iloadN X0.here hx rfl (hb hby d4_21) rfl k) ?_
    obtain ⟨fsr18, hrr18, hrunr18, hendedr18, hWr18, hsamer18⟩ := X0.leave (v := some (.int (1 : Int32))) (fun h => by rw [Bd.returns] at h; cases h)
    refine ⟨_, _, (retI X0 hx Bd.returns (hb hby d4_22) hrr18), hrunr18, hendedr18, _, _, rfl, ?_, ⟨_, rfl⟩, hWr18, hsamer18.mono (by decide) (by decide)⟩
    show Q4_1 Z a1 p2 k_a1 x0 x1 x2 x3 h0 n0 _ s₁.heap _
    rw [e0]
    exact ⟨(by unfold own_f4_1; rw [if_neg hc4_3]), N0, rfl⟩
theorem ef_4_2 (m : MethodId) (x0 : Addr) (x2 : Int32) : entryFrame m #[(.ref x0), (.int (2 : Int32)), (.int x2)] 4 = mkF m 0 #[.val (.ref x0), .val (.int (2 : Int32)), .val (.int x2), .unset] [] := by first | (simp [entryFrame, mkF, argsToLocals, Value.category]; done) | rfl
def own_f4_2 (p2 : Int32) (x0 : Int32) (x1 : Int32) (x2 : Int32) (x3 : Int32) : Int32 := (if (2 : Int32) < p2 then (if x2 = (46 : Int32) then (2 : Int32) else (if (3 : Int32) < p2 then (if x3 = (46 : Int32) then (3 : Int32) else (4 : Int32)) else (3 : Int32))) else (2 : Int32))
def Q4_2 (Z : State) (a1 : Addr) (p2 : Int32) (k_a1 : ClassId) (x0 : Int32) (x1 : Int32) (x2 : Int32) (x3 : Int32) (h0 : Heap) (n0 : Nat) (v : Option Value) (h : Heap) (L : List Loc) : Prop := v = some (.int (own_f4_2 p2 x0 x1 x2 x3)) ∧ Fr n0 L ∧ h = h0
set_option maxRecDepth 65536 in
set_option maxHeartbeats 40000000 in
theorem rm4_2 (l : Launch) (Z : State) (a0 : Array Value) (hw : ∀ d ∈ tables_1, d.before a0 Z = true) (ws : List Jvm.Cond) (a1 : Addr) (p2 : Int32) (k_a1 : ClassId) (x0 : Int32) (x1 : Int32) (x2 : Int32) (x3 : Int32) (h0 : Heap) (n0 : Nat) (Z0 : n0 ≤ h0.size) (V_a1 : Arv Z h0 a1 k_a1 .char (4 : Int32) [(.int x0), (.int x1), (.int x2), (.int x3)] (.int (0 : Int32))) (he4 : ¬ (4 : Int32) < p2) :
    MetFree l (⟨"com/example/anableps/anableps/name/Names", "labelEnd", "([CII)I"⟩ : MethodName) (head1 (Jvm.Cond.code (⟨"com/example/anableps/anableps/name/Names", "labelEnd", "([CII)I"⟩ : MethodName) prog_24_method_3_code 4 (some .int) :: ws) ({ frames := 0, cells := 0, slots := 0, locals := 0 } : Room)) (fun a U => a = #[(.ref a1), (.int (2 : Int32)), (.int p2)] ∧ Z.Warmed39 U.vm ∧ U.heap = h0) (fun _ _ _ _ _ => True) (fun _ U o U' => ∃ v L, o = .returned v ∧ Q4_2 Z a1 p2 k_a1 x0 x1 x2 x3 h0 n0 v U'.heap L ∧ FrameEnd U o U' L ({ frames := 0, cells := 0, slots := 0, locals := 0 } : Room).cells ({ frames := 0, cells := 0, slots := 0, locals := 0 } : Room).slots) := by
  refine MetFree.of_bodySF (plainFor_of_name pn_4) hisR ?_
  intro p e s m args below meth c s₁ Bd hml0 hP hK
  obtain ⟨rfl, hZ, hh⟩ := hP
  have hx := Bd.exec
  have hby := Bd.bytes
  have hml : c.maxLocals = 4 := hml0
  have hown : s.vm.findClass "com/example/anableps/anableps/name/Names" = some m.cls := findClass_of_methodNamed Bd.named
  have hnm := (name_of_methodNamed Bd.named Bd.method).1
  have X0 : Stand p l e ({ frames := 0, cells := 0, slots := 0, locals := 0 } : Room) s m #[(.ref a1), (.int (2 : Int32)), (.int p2)] below meth c s₁ [] 0 0 := Stand.of_body Bd
  have e0 : s₁.heap = h0 := by rw [← hh, Bd.state]; rfl
  have N0 := Fr.nil n0
  apply own_in
  refine own_pre (B := s₁.setTop (mkF m 0 #[.val (.ref a1), .val (.int (2 : Int32)), .val (.int p2), .unset] [])) (fun t k => castTop (ef_4_2 m a1 p2) k) ?_
  refine own_pre (B := s₁.setTop (mkF m 1 #[.val (.ref a1), .val (.int (2 : Int32)), .val (.int p2), .unset] [(.int (2 : Int32))])) (fun t k => XS.iloadN X0.here hx rfl (hb hby d4_0) rfl k) ?_
  refine own_pre (B := s₁.setTop (mkF m 2 #[.val (.ref a1), .val (.int (2 : Int32)), .val (.int p2), .val (.int (2 : Int32))] [])) (fun t k => XS.istoreN X0.here hx rfl (hb hby d4_1) rfl (l' := #[.val (.ref a1), .val (.int (2 : Int32)), .val (.int p2), .val (.int (2 : Int32))]) rfl k) ?_
  refine own_pre (B := s₁.setTop (mkF m 3 #[.val (.ref a1), .val (.int (2 : Int32)), .val (.int p2), .val (.int (2 : Int32))] [(.int (2 : Int32))])) (fun t k => XS.iloadN X0.here hx rfl (hb hby d4_2) rfl k) ?_
  refine own_pre (B := s₁.setTop (mkF m 4 #[.val (.ref a1), .val (.int (2 : Int32)), .val (.int p2), .val (.int (2 : Int32))] [(.int p2), (.int (2 : Int32))])) (fun t k => XS.iloadN X0.here hx rfl (hb hby d4_3) rfl k) ?_
  by_cases hc4_3 : (2 : Int32) < p2
  · refine own_pre (B := s₁.setTop (mkF m 7 #[.val (.ref a1), .val (.int (2 : Int32)), .val (.int p2), .val (.int (2 : Int32))] [])) (fun t k => XS.icmpNo X0.here hx rfl (hb hby d4_4) rfl (tlt hc4_3).2.1 k) ?_
    refine own_pre (B := s₁.setTop (mkF m 8 #[.val (.ref a1), .val (.int (2 : Int32)), .val (.int p2), .val (.int (2 : Int32))] [(.ref a1)])) (fun t k => XS.aloadN X0.here hx rfl (hb hby d4_7) rfl rfl k) ?_
    refine own_pre (B := s₁.setTop (mkF m 9 #[.val (.ref a1), .val (.int (2 : Int32)), .val (.int p2), .val (.int (2 : Int32))] [(.int (2 : Int32)), (.ref a1)])) (fun t k => XS.iloadN X0.here hx rfl (hb hby d4_8) rfl k) ?_
    obtain ⟨cl4, Ar4, q4, S4, N4v, H4v, G4v⟩ := V_a1
    have V_a1 : Arv Z h0 a1 k_a1 .char (4 : Int32) [(.int x0), (.int x1), (.int x2), (.int x3)] (.int (0 : Int32)) := ⟨cl4, Ar4, q4, S4, N4v, H4v, G4v⟩
    have hin4 : ¬ ((2 : Int32) < 0 ∨ cl4.slots.size ≤ ((2 : Int32)).toNatClampNeg) := inb_of S4 ⟨by decide, by decide⟩
    have hat4 : cl4.slots[((2 : Int32)).toNatClampNeg]? = some (.int x2) := H4v.at hin4 rfl
    refine own_pre (B := s₁.setTop (mkF m 10 #[.val (.ref a1), .val (.int (2 : Int32)), .val (.int p2), .val (.int (2 : Int32))] [(.int x2)])) (fun t k => X0.caload hx (j := (2 : Int32)) (v := (.int x2)) (by rw [e0]; exact Ar4.1) (State.isArrayOf_alike hZ.alike Ar4.2.1) Ar4.2.2 hin4 hat4 (g := (mkF m 9 #[.val (.ref a1), .val (.int (2 : Int32)), .val (.int p2), .val (.int (2 : Int32))] [(.int (2 : Int32)), (.ref a1)])) rfl rfl (hb hby d4_9) t k) ?_
    refine own_pre (B := s₁.setTop (mkF m 12 #[.val (.ref a1), .val (.int (2 : Int32)), .val (.int p2), .val (.int (2 : Int32))] [(.int (46 : Int32)), (.int x2)])) (fun t k => XS.bipush X0.here hx rfl (hb hby d4_10) k) ?_
    by_cases hc12_5 : x2 = (46 : Int32)
    · refine own_pre (B := s₁.setTop (mkF m 21 #[.val (.ref a1), .val (.int (2 : Int32)), .val (.int p2), .val (.int (2 : Int32))] [])) (fun t k => XS.icmpYes X0.here hx rfl (pc0 := 12) (pc' := 21) rfl (hb hby d4_12) rfl (teq hc12_5).1 (by decide) (by decide) k) ?_
      refine own_pre (B := s₁.setTop (mkF m 22 #[.val (.ref a1), .val (.int (2 : Int32)), .val (.int p2), .val (.int (2 : Int32))] [(.int (2 : Int32))])) (fun t k => XS.iloadN X0.here hx rfl (hb hby d4_21) rfl k) ?_
      obtain ⟨fsr6, hrr6, hrunr6, hendedr6, hWr6, hsamer6⟩ := X0.leave (v := some (.int (2 : Int32))) (fun h => by rw [Bd.returns] at h; cases h)
      refine ⟨_, _, (retI X0 hx Bd.returns (hb hby d4_22) hrr6), hrunr6, hendedr6, _, _, rfl, ?_, ⟨_, rfl⟩, hWr6, hsamer6.mono (by decide) (by decide)⟩
      show Q4_2 Z a1 p2 k_a1 x0 x1 x2 x3 h0 n0 _ s₁.heap _
      rw [e0]
      exact ⟨(by unfold own_f4_2; rw [if_pos hc4_3, if_pos hc12_5]), N0, rfl⟩
    · refine own_pre (B := s₁.setTop (mkF m 15 #[.val (.ref a1), .val (.int (2 : Int32)), .val (.int p2), .val (.int (2 : Int32))] [])) (fun t k => XS.icmpNo X0.here hx rfl (hb hby d4_12) rfl (feq hc12_5).1 k) ?_
      refine own_pre (B := s₁.setTop (mkF m 18 #[.val (.ref a1), .val (.int (2 : Int32)), .val (.int p2), .val (.int (3 : Int32))] [])) (fun t k => XS.iinc X0.here hx rfl (hb hby d4_15) rfl (l' := #[.val (.ref a1), .val (.int (2 : Int32)), .val (.int p2), .val (.int (3 : Int32))]) rfl k) ?_
      refine own_pre (B := s₁.setTop (mkF m 2 #[.val (.ref a1), .val (.int (2 : Int32)), .val (.int p2), .val (.int (3 : Int32))] [])) (fun t k => XS.goto X0.here hx rfl (pc0 := 18) (pc' := 2) rfl (hb hby d4_18) (by decide) (by decide) k) ?_
      refine own_pre (B := s₁.setTop (mkF m 3 #[.val (.ref a1), .val (.int (2 : Int32)), .val (.int p2), .val (.int (3 : Int32))] [(.int (3 : Int32))])) (fun t k => XS.iloadN X0.here hx rfl (hb hby d4_2) rfl k) ?_
      refine own_pre (B := s₁.setTop (mkF m 4 #[.val (.ref a1), .val (.int (2 : Int32)), .val (.int p2), .val (.int (3 : Int32))] [(.int p2), (.int (3 : Int32))])) (fun t k => XS.iloadN X0.here hx rfl (hb hby d4_3) rfl k) ?_
      by_cases hc4_7 : (3 : Int32) < p2
      · refine own_pre (B := s₁.setTop (mkF m 7 #[.val (.ref a1), .val (.int (2 : Int32)), .val (.int p2), .val (.int (3 : Int32))] [])) (fun t k => XS.icmpNo X0.here hx rfl (hb hby d4_4) rfl (tlt hc4_7).2.1 k) ?_
        refine own_pre (B := s₁.setTop (mkF m 8 #[.val (.ref a1), .val (.int (2 : Int32)), .val (.int p2), .val (.int (3 : Int32))] [(.ref a1)])) (fun t k => XS.aloadN X0.here hx rfl (hb hby d4_7) rfl rfl k) ?_
        refine own_pre (B := s₁.setTop (mkF m 9 #[.val (.ref a1), .val (.int (2 : Int32)), .val (.int p2), .val (.int (3 : Int32))] [(.int (3 : Int32)), (.ref a1)])) (fun t k => XS.iloadN X0.here hx rfl (hb hby d4_8) rfl k) ?_
        obtain ⟨cl8, Ar8, q8, S8, N8v, H8v, G8v⟩ := V_a1
        have V_a1 : Arv Z h0 a1 k_a1 .char (4 : Int32) [(.int x0), (.int x1), (.int x2), (.int x3)] (.int (0 : Int32)) := ⟨cl8, Ar8, q8, S8, N8v, H8v, G8v⟩
        have hin8 : ¬ ((3 : Int32) < 0 ∨ cl8.slots.size ≤ ((3 : Int32)).toNatClampNeg) := inb_of S8 ⟨by decide, by decide⟩
        have hat8 : cl8.slots[((3 : Int32)).toNatClampNeg]? = some (.int x3) := H8v.at hin8 rfl
        refine own_pre (B := s₁.setTop (mkF m 10 #[.val (.ref a1), .val (.int (2 : Int32)), .val (.int p2), .val (.int (3 : Int32))] [(.int x3)])) (fun t k => X0.caload hx (j := (3 : Int32)) (v := (.int x3)) (by rw [e0]; exact Ar8.1) (State.isArrayOf_alike hZ.alike Ar8.2.1) Ar8.2.2 hin8 hat8 (g := (mkF m 9 #[.val (.ref a1), .val (.int (2 : Int32)), .val (.int p2), .val (.int (3 : Int32))] [(.int (3 : Int32)), (.ref a1)])) rfl rfl (hb hby d4_9) t k) ?_
        refine own_pre (B := s₁.setTop (mkF m 12 #[.val (.ref a1), .val (.int (2 : Int32)), .val (.int p2), .val (.int (3 : Int32))] [(.int (46 : Int32)), (.int x3)])) (fun t k => XS.bipush X0.here hx rfl (hb hby d4_10) k) ?_
        by_cases hc12_9 : x3 = (46 : Int32)
        · refine own_pre (B := s₁.setTop (mkF m 21 #[.val (.ref a1), .val (.int (2 : Int32)), .val (.int p2), .val (.int (3 : Int32))] [])) (fun t k => XS.icmpYes X0.here hx rfl (pc0 := 12) (pc' := 21) rfl (hb hby d4_12) rfl (teq hc12_9).1 (by decide) (by decide) k) ?_
          refine own_pre (B := s₁.setTop (mkF m 22 #[.val (.ref a1), .val (.int (2 : Int32)), .val (.int p2), .val (.int (3 : Int32))] [(.int (3 : Int32))])) (fun t k => XS.iloadN X0.here hx rfl (hb hby d4_21) rfl k) ?_
          obtain ⟨fsr10, hrr10, hrunr10, hendedr10, hWr10, hsamer10⟩ := X0.leave (v := some (.int (3 : Int32))) (fun h => by rw [Bd.returns] at h; cases h)
          refine ⟨_, _, (retI X0 hx Bd.returns (hb hby d4_22) hrr10), hrunr10, hendedr10, _, _, rfl, ?_, ⟨_, rfl⟩, hWr10, hsamer10.mono (by decide) (by decide)⟩
          show Q4_2 Z a1 p2 k_a1 x0 x1 x2 x3 h0 n0 _ s₁.heap _
          rw [e0]
          exact ⟨(by unfold own_f4_2; rw [if_pos hc4_3, if_neg hc12_5, if_pos hc4_7, if_pos hc12_9]), N0, rfl⟩
        · refine own_pre (B := s₁.setTop (mkF m 15 #[.val (.ref a1), .val (.int (2 : Int32)), .val (.int p2), .val (.int (3 : Int32))] [])) (fun t k => XS.icmpNo X0.here hx rfl (hb hby d4_12) rfl (feq hc12_9).1 k) ?_
          refine own_pre (B := s₁.setTop (mkF m 18 #[.val (.ref a1), .val (.int (2 : Int32)), .val (.int p2), .val (.int (4 : Int32))] [])) (fun t k => XS.iinc X0.here hx rfl (hb hby d4_15) rfl (l' := #[.val (.ref a1), .val (.int (2 : Int32)), .val (.int p2), .val (.int (4 : Int32))]) rfl k) ?_
          refine own_pre (B := s₁.setTop (mkF m 2 #[.val (.ref a1), .val (.int (2 : Int32)), .val (.int p2), .val (.int (4 : Int32))] [])) (fun t k => XS.goto X0.here hx rfl (pc0 := 18) (pc' := 2) rfl (hb hby d4_18) (by decide) (by decide) k) ?_
          refine own_pre (B := s₁.setTop (mkF m 3 #[.val (.ref a1), .val (.int (2 : Int32)), .val (.int p2), .val (.int (4 : Int32))] [(.int (4 : Int32))])) (fun t k => XS.iloadN X0.here hx rfl (hb hby d4_2) rfl k) ?_
          refine own_pre (B := s₁.setTop (mkF m 4 #[.val (.ref a1), .val (.int (2 : Int32)), .val (.int p2), .val (.int (4 : Int32))] [(.int p2), (.int (4 : Int32))])) (fun t k => XS.iloadN X0.here hx rfl (hb hby d4_3) rfl k) ?_
          refine own_pre (B := s₁.setTop (mkF m 21 #[.val (.ref a1), .val (.int (2 : Int32)), .val (.int p2), .val (.int (4 : Int32))] [])) (fun t k => XS.icmpYes X0.here hx rfl (pc0 := 4) (pc' := 21) rfl (hb hby d4_4) rfl (flt he4).2.1 (by decide) (by decide) k) ?_
          refine own_pre (B := s₁.setTop (mkF m 22 #[.val (.ref a1), .val (.int (2 : Int32)), .val (.int p2), .val (.int (4 : Int32))] [(.int (4 : Int32))])) (fun t k => XS.iloadN X0.here hx rfl (hb hby d4_21) rfl k) ?_
          obtain ⟨fsr11, hrr11, hrunr11, hendedr11, hWr11, hsamer11⟩ := X0.leave (v := some (.int (4 : Int32))) (fun h => by rw [Bd.returns] at h; cases h)
          refine ⟨_, _, (retI X0 hx Bd.returns (hb hby d4_22) hrr11), hrunr11, hendedr11, _, _, rfl, ?_, ⟨_, rfl⟩, hWr11, hsamer11.mono (by decide) (by decide)⟩
          show Q4_2 Z a1 p2 k_a1 x0 x1 x2 x3 h0 n0 _ s₁.heap _
          rw [e0]
          exact ⟨(by unfold own_f4_2; rw [if_pos hc4_3, if_neg hc12_5, if_pos hc4_7, if_neg hc12_9]), N0, rfl⟩
      · refine own_pre (B := s₁.setTop (mkF m 21 #[.val (.ref a1), .val (.int (2 : Int32)), .val (.int p2), .val (.int (3 : Int32))] [])) (fun t k => XS.icmpYes X0.here hx rfl (pc0 := 4) (pc' := 21) rfl (hb hby d4_4) rfl (flt hc4_7).2.1 (by decide) (by decide) k) ?_
        refine own_pre (B := s₁.setTop (mkF m 22 #[.val (.ref a1), .val (.int (2 : Int32)), .val (.int p2), .val (.int (3 : Int32))] [(.int (3 : Int32))])) (fun t k => XS.iloadN X0.here hx rfl (hb hby d4_21) rfl k) ?_
        obtain ⟨fsr12, hrr12, hrunr12, hendedr12, hWr12, hsamer12⟩ := X0.leave (v := some (.int (3 : Int32))) (fun h => by rw [Bd.returns] at h; cases h)
        refine ⟨_, _, (retI X0 hx Bd.returns (hb hby d4_22) hrr12), hrunr12, hendedr12, _, _, rfl, ?_, ⟨_, rfl⟩, hWr12, hsamer12.mono (by decide) (by decide)⟩
        show Q4_2 Z a1 p2 k_a1 x0 x1 x2 x3 h0 n0 _ s₁.heap _
        rw [e0]
        exact ⟨(by unfold own_f4_2; rw [if_pos hc4_3, if_neg hc12_5, if_neg hc4_7]), N0, rfl⟩
  · refine own_pre (B := s₁.setTop (mkF m 21 #[.val (.ref a1), .val (.int (2 : Int32)), .val (.int p2), .val (.int (2 : Int32))] [])) (fun t k => XS.icmpYes X0.here hx rfl (pc0 := 4) (pc' := 21) rfl (hb hby d4_4) rfl (flt hc4_3).2.1 (by decide) (by decide) k) ?_
    refine own_pre (B := s₁.setTop (mkF m 22 #[.val (.ref a1), .val (.int (2 : Int32)), .val (.int p2), .val (.int (2 : Int32))] [(.int (2 : Int32))])) (fun t k => XS.iloadN X0.here hx rfl (hb hby d4_21) rfl k) ?_
    obtain ⟨fsr13, hrr13, hrunr13, hendedr13, hWr13, hsamer13⟩ := X0.leave (v := some (.int (2 : Int32))) (fun h => by rw [Bd.returns] at h; cases h)
    refine ⟨_, _, (retI X0 hx Bd.returns (hb hby d4_22) hrr13), hrunr13, hendedr13, _, _, rfl, ?_, ⟨_, rfl⟩, hWr13, hsamer13.mono (by decide) (by decide)⟩
    show Q4_2 Z a1 p2 k_a1 x0 x1 x2 x3 h0 n0 _ s₁.heap _
    rw [e0]
    exact ⟨(by unfold own_f4_2; rw [if_neg hc4_3]), N0, rfl⟩
theorem ef_4_3 (m : MethodId) (x0 : Addr) (x2 : Int32) : entryFrame m #[(.ref x0), (.int (3 : Int32)), (.int x2)] 4 = mkF m 0 #[.val (.ref x0), .val (.int (3 : Int32)), .val (.int x2), .unset] [] := by first | (simp [entryFrame, mkF, argsToLocals, Value.category]; done) | rfl
def own_f4_3 (p2 : Int32) (x0 : Int32) (x1 : Int32) (x2 : Int32) (x3 : Int32) : Int32 := (if (3 : Int32) < p2 then (if x3 = (46 : Int32) then (3 : Int32) else (4 : Int32)) else (3 : Int32))
def Q4_3 (Z : State) (a1 : Addr) (p2 : Int32) (k_a1 : ClassId) (x0 : Int32) (x1 : Int32) (x2 : Int32) (x3 : Int32) (h0 : Heap) (n0 : Nat) (v : Option Value) (h : Heap) (L : List Loc) : Prop := v = some (.int (own_f4_3 p2 x0 x1 x2 x3)) ∧ Fr n0 L ∧ h = h0
set_option maxRecDepth 65536 in
set_option maxHeartbeats 40000000 in
theorem rm4_3 (l : Launch) (Z : State) (a0 : Array Value) (hw : ∀ d ∈ tables_1, d.before a0 Z = true) (ws : List Jvm.Cond) (a1 : Addr) (p2 : Int32) (k_a1 : ClassId) (x0 : Int32) (x1 : Int32) (x2 : Int32) (x3 : Int32) (h0 : Heap) (n0 : Nat) (Z0 : n0 ≤ h0.size) (V_a1 : Arv Z h0 a1 k_a1 .char (4 : Int32) [(.int x0), (.int x1), (.int x2), (.int x3)] (.int (0 : Int32))) (he4 : ¬ (4 : Int32) < p2) :
    MetFree l (⟨"com/example/anableps/anableps/name/Names", "labelEnd", "([CII)I"⟩ : MethodName) (head1 (Jvm.Cond.code (⟨"com/example/anableps/anableps/name/Names", "labelEnd", "([CII)I"⟩ : MethodName) prog_24_method_3_code 4 (some .int) :: ws) ({ frames := 0, cells := 0, slots := 0, locals := 0 } : Room)) (fun a U => a = #[(.ref a1), (.int (3 : Int32)), (.int p2)] ∧ Z.Warmed39 U.vm ∧ U.heap = h0) (fun _ _ _ _ _ => True) (fun _ U o U' => ∃ v L, o = .returned v ∧ Q4_3 Z a1 p2 k_a1 x0 x1 x2 x3 h0 n0 v U'.heap L ∧ FrameEnd U o U' L ({ frames := 0, cells := 0, slots := 0, locals := 0 } : Room).cells ({ frames := 0, cells := 0, slots := 0, locals := 0 } : Room).slots) := by
  refine MetFree.of_bodySF (plainFor_of_name pn_4) hisR ?_
  intro p e s m args below meth c s₁ Bd hml0 hP hK
  obtain ⟨rfl, hZ, hh⟩ := hP
  have hx := Bd.exec
  have hby := Bd.bytes
  have hml : c.maxLocals = 4 := hml0
  have hown : s.vm.findClass "com/example/anableps/anableps/name/Names" = some m.cls := findClass_of_methodNamed Bd.named
  have hnm := (name_of_methodNamed Bd.named Bd.method).1
  have X0 : Stand p l e ({ frames := 0, cells := 0, slots := 0, locals := 0 } : Room) s m #[(.ref a1), (.int (3 : Int32)), (.int p2)] below meth c s₁ [] 0 0 := Stand.of_body Bd
  have e0 : s₁.heap = h0 := by rw [← hh, Bd.state]; rfl
  have N0 := Fr.nil n0
  apply own_in
  refine own_pre (B := s₁.setTop (mkF m 0 #[.val (.ref a1), .val (.int (3 : Int32)), .val (.int p2), .unset] [])) (fun t k => castTop (ef_4_3 m a1 p2) k) ?_
  refine own_pre (B := s₁.setTop (mkF m 1 #[.val (.ref a1), .val (.int (3 : Int32)), .val (.int p2), .unset] [(.int (3 : Int32))])) (fun t k => XS.iloadN X0.here hx rfl (hb hby d4_0) rfl k) ?_
  refine own_pre (B := s₁.setTop (mkF m 2 #[.val (.ref a1), .val (.int (3 : Int32)), .val (.int p2), .val (.int (3 : Int32))] [])) (fun t k => XS.istoreN X0.here hx rfl (hb hby d4_1) rfl (l' := #[.val (.ref a1), .val (.int (3 : Int32)), .val (.int p2), .val (.int (3 : Int32))]) rfl k) ?_
  refine own_pre (B := s₁.setTop (mkF m 3 #[.val (.ref a1), .val (.int (3 : Int32)), .val (.int p2), .val (.int (3 : Int32))] [(.int (3 : Int32))])) (fun t k => XS.iloadN X0.here hx rfl (hb hby d4_2) rfl k) ?_
  refine own_pre (B := s₁.setTop (mkF m 4 #[.val (.ref a1), .val (.int (3 : Int32)), .val (.int p2), .val (.int (3 : Int32))] [(.int p2), (.int (3 : Int32))])) (fun t k => XS.iloadN X0.here hx rfl (hb hby d4_3) rfl k) ?_
  by_cases hc4_3 : (3 : Int32) < p2
  · refine own_pre (B := s₁.setTop (mkF m 7 #[.val (.ref a1), .val (.int (3 : Int32)), .val (.int p2), .val (.int (3 : Int32))] [])) (fun t k => XS.icmpNo X0.here hx rfl (hb hby d4_4) rfl (tlt hc4_3).2.1 k) ?_
    refine own_pre (B := s₁.setTop (mkF m 8 #[.val (.ref a1), .val (.int (3 : Int32)), .val (.int p2), .val (.int (3 : Int32))] [(.ref a1)])) (fun t k => XS.aloadN X0.here hx rfl (hb hby d4_7) rfl rfl k) ?_
    refine own_pre (B := s₁.setTop (mkF m 9 #[.val (.ref a1), .val (.int (3 : Int32)), .val (.int p2), .val (.int (3 : Int32))] [(.int (3 : Int32)), (.ref a1)])) (fun t k => XS.iloadN X0.here hx rfl (hb hby d4_8) rfl k) ?_
    obtain ⟨cl4, Ar4, q4, S4, N4v, H4v, G4v⟩ := V_a1
    have V_a1 : Arv Z h0 a1 k_a1 .char (4 : Int32) [(.int x0), (.int x1), (.int x2), (.int x3)] (.int (0 : Int32)) := ⟨cl4, Ar4, q4, S4, N4v, H4v, G4v⟩
    have hin4 : ¬ ((3 : Int32) < 0 ∨ cl4.slots.size ≤ ((3 : Int32)).toNatClampNeg) := inb_of S4 ⟨by decide, by decide⟩
    have hat4 : cl4.slots[((3 : Int32)).toNatClampNeg]? = some (.int x3) := H4v.at hin4 rfl
    refine own_pre (B := s₁.setTop (mkF m 10 #[.val (.ref a1), .val (.int (3 : Int32)), .val (.int p2), .val (.int (3 : Int32))] [(.int x3)])) (fun t k => X0.caload hx (j := (3 : Int32)) (v := (.int x3)) (by rw [e0]; exact Ar4.1) (State.isArrayOf_alike hZ.alike Ar4.2.1) Ar4.2.2 hin4 hat4 (g := (mkF m 9 #[.val (.ref a1), .val (.int (3 : Int32)), .val (.int p2), .val (.int (3 : Int32))] [(.int (3 : Int32)), (.ref a1)])) rfl rfl (hb hby d4_9) t k) ?_
    refine own_pre (B := s₁.setTop (mkF m 12 #[.val (.ref a1), .val (.int (3 : Int32)), .val (.int p2), .val (.int (3 : Int32))] [(.int (46 : Int32)), (.int x3)])) (fun t k => XS.bipush X0.here hx rfl (hb hby d4_10) k) ?_
    by_cases hc12_5 : x3 = (46 : Int32)
    · refine own_pre (B := s₁.setTop (mkF m 21 #[.val (.ref a1), .val (.int (3 : Int32)), .val (.int p2), .val (.int (3 : Int32))] [])) (fun t k => XS.icmpYes X0.here hx rfl (pc0 := 12) (pc' := 21) rfl (hb hby d4_12) rfl (teq hc12_5).1 (by decide) (by decide) k) ?_
      refine own_pre (B := s₁.setTop (mkF m 22 #[.val (.ref a1), .val (.int (3 : Int32)), .val (.int p2), .val (.int (3 : Int32))] [(.int (3 : Int32))])) (fun t k => XS.iloadN X0.here hx rfl (hb hby d4_21) rfl k) ?_
      obtain ⟨fsr6, hrr6, hrunr6, hendedr6, hWr6, hsamer6⟩ := X0.leave (v := some (.int (3 : Int32))) (fun h => by rw [Bd.returns] at h; cases h)
      refine ⟨_, _, (retI X0 hx Bd.returns (hb hby d4_22) hrr6), hrunr6, hendedr6, _, _, rfl, ?_, ⟨_, rfl⟩, hWr6, hsamer6.mono (by decide) (by decide)⟩
      show Q4_3 Z a1 p2 k_a1 x0 x1 x2 x3 h0 n0 _ s₁.heap _
      rw [e0]
      exact ⟨(by unfold own_f4_3; rw [if_pos hc4_3, if_pos hc12_5]), N0, rfl⟩
    · refine own_pre (B := s₁.setTop (mkF m 15 #[.val (.ref a1), .val (.int (3 : Int32)), .val (.int p2), .val (.int (3 : Int32))] [])) (fun t k => XS.icmpNo X0.here hx rfl (hb hby d4_12) rfl (feq hc12_5).1 k) ?_
      refine own_pre (B := s₁.setTop (mkF m 18 #[.val (.ref a1), .val (.int (3 : Int32)), .val (.int p2), .val (.int (4 : Int32))] [])) (fun t k => XS.iinc X0.here hx rfl (hb hby d4_15) rfl (l' := #[.val (.ref a1), .val (.int (3 : Int32)), .val (.int p2), .val (.int (4 : Int32))]) rfl k) ?_
      refine own_pre (B := s₁.setTop (mkF m 2 #[.val (.ref a1), .val (.int (3 : Int32)), .val (.int p2), .val (.int (4 : Int32))] [])) (fun t k => XS.goto X0.here hx rfl (pc0 := 18) (pc' := 2) rfl (hb hby d4_18) (by decide) (by decide) k) ?_
      refine own_pre (B := s₁.setTop (mkF m 3 #[.val (.ref a1), .val (.int (3 : Int32)), .val (.int p2), .val (.int (4 : Int32))] [(.int (4 : Int32))])) (fun t k => XS.iloadN X0.here hx rfl (hb hby d4_2) rfl k) ?_
      refine own_pre (B := s₁.setTop (mkF m 4 #[.val (.ref a1), .val (.int (3 : Int32)), .val (.int p2), .val (.int (4 : Int32))] [(.int p2), (.int (4 : Int32))])) (fun t k => XS.iloadN X0.here hx rfl (hb hby d4_3) rfl k) ?_
      refine own_pre (B := s₁.setTop (mkF m 21 #[.val (.ref a1), .val (.int (3 : Int32)), .val (.int p2), .val (.int (4 : Int32))] [])) (fun t k => XS.icmpYes X0.here hx rfl (pc0 := 4) (pc' := 21) rfl (hb hby d4_4) rfl (flt he4).2.1 (by decide) (by decide) k) ?_
      refine own_pre (B := s₁.setTop (mkF m 22 #[.val (.ref a1), .val (.int (3 : Int32)), .val (.int p2), .val (.int (4 : Int32))] [(.int (4 : Int32))])) (fun t k => XS.iloadN X0.here hx rfl (hb hby d4_21) rfl k) ?_
      obtain ⟨fsr7, hrr7, hrunr7, hendedr7, hWr7, hsamer7⟩ := X0.leave (v := some (.int (4 : Int32))) (fun h => by rw [Bd.returns] at h; cases h)
      refine ⟨_, _, (retI X0 hx Bd.returns (hb hby d4_22) hrr7), hrunr7, hendedr7, _, _, rfl, ?_, ⟨_, rfl⟩, hWr7, hsamer7.mono (by decide) (by decide)⟩
      show Q4_3 Z a1 p2 k_a1 x0 x1 x2 x3 h0 n0 _ s₁.heap _
      rw [e0]
      exact ⟨(by unfold own_f4_3; rw [if_pos hc4_3, if_neg hc12_5]), N0, rfl⟩
  · refine own_pre (B := s₁.setTop (mkF m 21 #[.val (.ref a1), .val (.int (3 : Int32)), .val (.int p2), .val (.int (3 : Int32))] [])) (fun t k => XS.icmpYes X0.here hx rfl (pc0 := 4) (pc' := 21) rfl (hb hby d4_4) rfl (flt hc4_3).2.1 (by decide) (by decide) k) ?_
    refine own_pre (B := s₁.setTop (mkF m 22 #[.val (.ref a1), .val (.int (3 : Int32)), .val (.int p2), .val (.int (3 : Int32))] [(.int (3 : Int32))])) (fun t k => XS.iloadN X0.here hx rfl (hb hby d4_21) rfl k) ?_
    obtain ⟨fsr8, hrr8, hrunr8, hendedr8, hWr8, hsamer8⟩ := X0.leave (v := some (.int (3 : Int32))) (fun h => by rw [Bd.returns] at h; cases h)
    refine ⟨_, _, (retI X0 hx Bd.returns (hb hby d4_22) hrr8), hrunr8, hendedr8, _, _, rfl, ?_, ⟨_, rfl⟩, hWr8, hsamer8.mono (by decide) (by decide)⟩
    show Q4_3 Z a1 p2 k_a1 x0 x1 x2 x3 h0 n0 _ s₁.heap _
    rw [e0]
    exact ⟨(by unfold own_f4_3; rw [if_neg hc4_3]), N0, rfl⟩
theorem ef_4_4 (m : MethodId) (x0 : Addr) (x2 : Int32) : entryFrame m #[(.ref x0), (.int (4 : Int32)), (.int x2)] 4 = mkF m 0 #[.val (.ref x0), .val (.int (4 : Int32)), .val (.int x2), .unset] [] := by first | (simp [entryFrame, mkF, argsToLocals, Value.category]; done) | rfl
def own_f4_4 (p2 : Int32) (x0 : Int32) (x1 : Int32) (x2 : Int32) (x3 : Int32) : Int32 := (4 : Int32)
def Q4_4 (Z : State) (a1 : Addr) (p2 : Int32) (k_a1 : ClassId) (x0 : Int32) (x1 : Int32) (x2 : Int32) (x3 : Int32) (h0 : Heap) (n0 : Nat) (v : Option Value) (h : Heap) (L : List Loc) : Prop := v = some (.int (own_f4_4 p2 x0 x1 x2 x3)) ∧ Fr n0 L ∧ h = h0
set_option maxRecDepth 65536 in
set_option maxHeartbeats 40000000 in
theorem rm4_4 (l : Launch) (Z : State) (a0 : Array Value) (hw : ∀ d ∈ tables_1, d.before a0 Z = true) (ws : List Jvm.Cond) (a1 : Addr) (p2 : Int32) (k_a1 : ClassId) (x0 : Int32) (x1 : Int32) (x2 : Int32) (x3 : Int32) (h0 : Heap) (n0 : Nat) (Z0 : n0 ≤ h0.size) (V_a1 : Arv Z h0 a1 k_a1 .char (4 : Int32) [(.int x0), (.int x1), (.int x2), (.int x3)] (.int (0 : Int32))) (he4 : ¬ (4 : Int32) < p2) :
    MetFree l (⟨"com/example/anableps/anableps/name/Names", "labelEnd", "([CII)I"⟩ : MethodName) (head1 (Jvm.Cond.code (⟨"com/example/anableps/anableps/name/Names", "labelEnd", "([CII)I"⟩ : MethodName) prog_24_method_3_code 4 (some .int) :: ws) ({ frames := 0, cells := 0, slots := 0, locals := 0 } : Room)) (fun a U => a = #[(.ref a1), (.int (4 : Int32)), (.int p2)] ∧ Z.Warmed39 U.vm ∧ U.heap = h0) (fun _ _ _ _ _ => True) (fun _ U o U' => ∃ v L, o = .returned v ∧ Q4_4 Z a1 p2 k_a1 x0 x1 x2 x3 h0 n0 v U'.heap L ∧ FrameEnd U o U' L ({ frames := 0, cells := 0, slots := 0, locals := 0 } : Room).cells ({ frames := 0, cells := 0, slots := 0, locals := 0 } : Room).slots) := by
  refine MetFree.of_bodySF (plainFor_of_name pn_4) hisR ?_
  intro p e s m args below meth c s₁ Bd hml0 hP hK
  obtain ⟨rfl, hZ, hh⟩ := hP
  have hx := Bd.exec
  have hby := Bd.bytes
  have hml : c.maxLocals = 4 := hml0
  have hown : s.vm.findClass "com/example/anableps/anableps/name/Names" = some m.cls := findClass_of_methodNamed Bd.named
  have hnm := (name_of_methodNamed Bd.named Bd.method).1
  have X0 : Stand p l e ({ frames := 0, cells := 0, slots := 0, locals := 0 } : Room) s m #[(.ref a1), (.int (4 : Int32)), (.int p2)] below meth c s₁ [] 0 0 := Stand.of_body Bd
  have e0 : s₁.heap = h0 := by rw [← hh, Bd.state]; rfl
  have N0 := Fr.nil n0
  apply own_in
  refine own_pre (B := s₁.setTop (mkF m 0 #[.val (.ref a1), .val (.int (4 : Int32)), .val (.int p2), .unset] [])) (fun t k => castTop (ef_4_4 m a1 p2) k) ?_
  refine own_pre (B := s₁.setTop (mkF m 1 #[.val (.ref a1), .val (.int (4 : Int32)), .val (.int p2), .unset] [(.int (4 : Int32))])) (fun t k => XS.iloadN X0.here hx rfl (hb hby d4_0) rfl k) ?_
  refine own_pre (B := s₁.setTop (mkF m 2 #[.val (.ref a1), .val (.int (4 : Int32)), .val (.int p2), .val (.int (4 : Int32))] [])) (fun t k => XS.istoreN X0.here hx rfl (hb hby d4_1) rfl (l' := #[.val (.ref a1), .val (.int (4 : Int32)), .val (.int p2), .val (.int (4 : Int32))]) rfl k) ?_
  refine own_pre (B := s₁.setTop (mkF m 3 #[.val (.ref a1), .val (.int (4 : Int32)), .val (.int p2), .val (.int (4 : Int32))] [(.int (4 : Int32))])) (fun t k => XS.iloadN X0.here hx rfl (hb hby d4_2) rfl k) ?_
  refine own_pre (B := s₁.setTop (mkF m 4 #[.val (.ref a1), .val (.int (4 : Int32)), .val (.int p2), .val (.int (4 : Int32))] [(.int p2), (.int (4 : Int32))])) (fun t k => XS.iloadN X0.here hx rfl (hb hby d4_3) rfl k) ?_
  refine own_pre (B := s₁.setTop (mkF m 21 #[.val (.ref a1), .val (.int (4 : Int32)), .val (.int p2), .val (.int (4 : Int32))] [])) (fun t k => XS.icmpYes X0.here hx rfl (pc0 := 4) (pc' := 21) rfl (hb hby d4_4) rfl (flt he4).2.1 (by decide) (by decide) k) ?_
  refine own_pre (B := s₁.setTop (mkF m 22 #[.val (.ref a1), .val (.int (4 : Int32)), .val (.int p2), .val (.int (4 : Int32))] [(.int (4 : Int32))])) (fun t k => XS.iloadN X0.here hx rfl (hb hby d4_21) rfl k) ?_
  obtain ⟨fsr3, hrr3, hrunr3, hendedr3, hWr3, hsamer3⟩ := X0.leave (v := some (.int (4 : Int32))) (fun h => by rw [Bd.returns] at h; cases h)
  refine ⟨_, _, (retI X0 hx Bd.returns (hb hby d4_22) hrr3), hrunr3, hendedr3, _, _, rfl, ?_, ⟨_, rfl⟩, hWr3, hsamer3.mono (by decide) (by decide)⟩
  show Q4_4 Z a1 p2 k_a1 x0 x1 x2 x3 h0 n0 _ s₁.heap _
  rw [e0]
  exact ⟨rfl, N0, rfl⟩
theorem own_ab (x : Int32) : 0 ≤ ((x &&& (7 : Int32)) % (5 : Int32)).toInt ∧ ((x &&& (7 : Int32)) % (5 : Int32)).toInt ≤ 4 := by
  have m := c_mask x 7 3 (by decide) (by decide)
  have r := (c_irem (x &&& 7) 5 5 (by decide)).1
  omega
theorem own_mm {a b s e : Int32} (ha : 0 ≤ a.toInt ∧ a.toInt ≤ 4) (hb : 0 ≤ b.toInt ∧ b.toInt ≤ 4) (hs : s = own_f2 a b) (he : e = own_f3 a b) :
    (s = 0 ∨ s = 1 ∨ s = 2 ∨ s = 3 ∨ s = 4) ∧ ¬ e < s ∧ ¬ (4 : Int32) < e ∧ ¬ e < 0 := by
  have e0 : (0 : Int32).toInt = 0 := by decide
  have e1 : (1 : Int32).toInt = 1 := by decide
  have e2 : (2 : Int32).toInt = 2 := by decide
  have e3 : (3 : Int32).toInt = 3 := by decide
  have e4 : (4 : Int32).toInt = 4 := by decide
  unfold own_f2 at hs
  unfold own_f3 at he
  simp only [Int32.lt_iff_toInt_lt, ← Int32.toInt_inj] at hs he ⊢
  split at hs <;> split at he <;> omega
theorem pd_0 : parseMethodDescriptor "(I)C" = some ⟨[.int], some .char⟩ := by decide +kernel
theorem pd_1 : parseMethodDescriptor "(II)I" = some ⟨[.int, .int], some .int⟩ := by decide +kernel
theorem pd_2 : parseMethodDescriptor "([CII)I" = some ⟨[(.array .char), .int, .int], some .int⟩ := by decide +kernel
theorem own_law0 {z55 z50 z36 z10 z16 z22 z28 z46 z42 z38 : Int32} (hz38 : z38 = (if (3 : Int32) < z36 then (if (nar .char z28) = (46 : Int32) then (3 : Int32) else z36) else z36)) (hz42 : z42 = (if (2 : Int32) < z36 then (if (nar .char z22) = (46 : Int32) then (2 : Int32) else z38) else z38)) (hz46 : z46 = (if (1 : Int32) < z36 then (if (nar .char z16) = (46 : Int32) then (1 : Int32) else z42) else z42)) (hz50 : z50 = (if (0 : Int32) < z36 then (if (nar .char z10) = (46 : Int32) then (0 : Int32) else z46) else z46)) (hz55 : z55 = (own_f4_0 z36 (nar .char z10) (nar .char z16) (nar .char z22) (nar .char z28))) (hy0 : ¬ z36 < (0 : Int32)) (hy1 : ¬ (4 : Int32) < z36) (hy2 : ¬ z36 < (0 : Int32)) : z55 = z50 := by
  have e0 : (0 : Int32).toInt = 0 := by decide
  have e1 : (1 : Int32).toInt = 1 := by decide
  have e2 : (2 : Int32).toInt = 2 := by decide
  have e3 : (3 : Int32).toInt = 3 := by decide
  have e4 : (4 : Int32).toInt = 4 := by decide
  rw [hz55, hz50, hz46, hz42, hz38]
  unfold own_f4_0
  simp only [Int32.lt_iff_toInt_lt] at hy0 hy1 hy2 ⊢
  rw [← Int32.toInt_inj]
  repeat' split
  all_goals first | rfl | omega | (exfalso; omega) | (exfalso; contradiction)
theorem own_law1 {z70 z65 z36 z10 z16 z22 z28 z61 z57 : Int32} (hz57 : z57 = (if (3 : Int32) < z36 then (if (nar .char z28) = (46 : Int32) then (3 : Int32) else z36) else z36)) (hz61 : z61 = (if (2 : Int32) < z36 then (if (nar .char z22) = (46 : Int32) then (2 : Int32) else z57) else z57)) (hz65 : z65 = (if (1 : Int32) < z36 then (if (nar .char z16) = (46 : Int32) then (1 : Int32) else z61) else z61)) (hz70 : z70 = (own_f4_1 z36 (nar .char z10) (nar .char z16) (nar .char z22) (nar .char z28))) (hy0 : ¬ z36 < (1 : Int32)) (hy1 : ¬ (4 : Int32) < z36) (hy2 : ¬ z36 < (0 : Int32)) : z70 = z65 := by
  have e0 : (0 : Int32).toInt = 0 := by decide
  have e1 : (1 : Int32).toInt = 1 := by decide
  have e2 : (2 : Int32).toInt = 2 := by decide
  have e3 : (3 : Int32).toInt = 3 := by decide
  have e4 : (4 : Int32).toInt = 4 := by decide
  rw [hz70, hz65, hz61, hz57]
  unfold own_f4_1
  simp only [Int32.lt_iff_toInt_lt] at hy0 hy1 hy2 ⊢
  rw [← Int32.toInt_inj]
  repeat' split
  all_goals first | rfl | omega | (exfalso; omega) | (exfalso; contradiction)
theorem own_law2 {z81 z76 z36 z10 z16 z22 z28 z72 : Int32} (hz72 : z72 = (if (3 : Int32) < z36 then (if (nar .char z28) = (46 : Int32) then (3 : Int32) else z36) else z36)) (hz76 : z76 = (if (2 : Int32) < z36 then (if (nar .char z22) = (46 : Int32) then (2 : Int32) else z72) else z72)) (hz81 : z81 = (own_f4_2 z36 (nar .char z10) (nar .char z16) (nar .char z22) (nar .char z28))) (hy0 : ¬ z36 < (2 : Int32)) (hy1 : ¬ (4 : Int32) < z36) (hy2 : ¬ z36 < (0 : Int32)) : z81 = z76 := by
  have e0 : (0 : Int32).toInt = 0 := by decide
  have e1 : (1 : Int32).toInt = 1 := by decide
  have e2 : (2 : Int32).toInt = 2 := by decide
  have e3 : (3 : Int32).toInt = 3 := by decide
  have e4 : (4 : Int32).toInt = 4 := by decide
  rw [hz81, hz76, hz72]
  unfold own_f4_2
  simp only [Int32.lt_iff_toInt_lt] at hy0 hy1 hy2 ⊢
  rw [← Int32.toInt_inj]
  repeat' split
  all_goals first | rfl | omega | (exfalso; omega) | (exfalso; contradiction)
theorem own_law3 {z88 z83 z36 z10 z16 z22 z28 : Int32} (hz83 : z83 = (if (3 : Int32) < z36 then (if (nar .char z28) = (46 : Int32) then (3 : Int32) else z36) else z36)) (hz88 : z88 = (own_f4_3 z36 (nar .char z10) (nar .char z16) (nar .char z22) (nar .char z28))) (hy0 : ¬ z36 < (3 : Int32)) (hy1 : ¬ (4 : Int32) < z36) (hy2 : ¬ z36 < (0 : Int32)) : z88 = z83 := by
  have e0 : (0 : Int32).toInt = 0 := by decide
  have e1 : (1 : Int32).toInt = 1 := by decide
  have e2 : (2 : Int32).toInt = 2 := by decide
  have e3 : (3 : Int32).toInt = 3 := by decide
  have e4 : (4 : Int32).toInt = 4 := by decide
  rw [hz88, hz83]
  unfold own_f4_3
  simp only [Int32.lt_iff_toInt_lt] at hy0 hy1 hy2 ⊢
  rw [← Int32.toInt_inj]
  repeat' split
  all_goals first | rfl | omega | (exfalso; omega) | (exfalso; contradiction)
theorem own_law4 {z91 z36 z10 z16 z22 z28 : Int32} (hz91 : z91 = (own_f4_4 z36 (nar .char z10) (nar .char z16) (nar .char z22) (nar .char z28))) (hy0 : ¬ z36 < (4 : Int32)) (hy1 : ¬ (4 : Int32) < z36) (hy2 : ¬ z36 < (0 : Int32)) : z91 = z36 := by
  have e0 : (0 : Int32).toInt = 0 := by decide
  have e1 : (1 : Int32).toInt = 1 := by decide
  have e2 : (2 : Int32).toInt = 2 := by decide
  have e3 : (3 : Int32).toInt = 3 := by decide
  have e4 : (4 : Int32).toInt = 4 := by decide
  rw [hz91]
  unfold own_f4_4
  simp only [Int32.lt_iff_toInt_lt] at hy0 hy1 hy2 ⊢
  rw [← Int32.toInt_inj]
  repeat' split
  all_goals first | rfl | omega | (exfalso; omega) | (exfalso; contradiction)
theorem pn_0 : plainName "com/example/anableps/anableps/name/NamesLabelEndPinLaw" = true := by first | (simp [plainName, overriddenIn]; done) | decide +kernel
theorem ef_0 (m : MethodId) (x0 : Int32) (x1 : Int32) (x2 : Int32) (x3 : Int32) (x4 : Int32) : entryFrame m #[(.int x0), (.int x1), (.int x2), (.int x3), (.int x4)] maxLocals = mkF m 0 #[.val (.int x0), .val (.int x1), .val (.int x2), .val (.int x3), .val (.int x4), .unset, .unset, .unset, .unset, .unset, .unset] [] := by first | (simp [entryFrame, mkF, argsToLocals, Value.category, maxLocals]; done) | rfl
def Q0 (Z : State) (p1 : Int32) (p2 : Int32) (p3 : Int32) (p4 : Int32) (p5 : Int32) (h0 : Heap) (n0 : Nat) (v : Option Value) (h : Heap) (L : List Loc) : Prop := v = some (.int 1) ∧ Fr n0 L
set_option maxRecDepth 65536 in
set_option maxHeartbeats 40000000 in
theorem rm0 (l : Launch) (Z : State) (a0 : Array Value) (hw : ∀ d ∈ tables_1, d.before a0 Z = true) (ws : List Jvm.Cond) (p1 : Int32) (p2 : Int32) (p3 : Int32) (p4 : Int32) (p5 : Int32) (h0 : Heap) (n0 : Nat) (Z0 : n0 ≤ h0.size) :
    MetFree l x (head1 (Jvm.Cond.code x code maxLocals ret :: ws) room_1) (fun a U => a = #[(.int p1), (.int p2), (.int p3), (.int p4), (.int p5)] ∧ Z.Warmed39 U.vm ∧ U.heap = h0) (fun _ _ _ _ _ => True) (fun _ U o U' => ∃ v L, o = .returned v ∧ Q0 Z p1 p2 p3 p4 p5 h0 n0 v U'.heap L ∧ FrameEnd U o U' L 1 4) := by
  refine MetFree.of_bodySF (plainFor_of_name pn_0) hisR ?_
  intro p e s m args below meth c s₁ Bd hml0 hP hK
  obtain ⟨rfl, hZ, hh⟩ := hP
  have hx := Bd.exec
  have hby := Bd.bytes
  have hml : c.maxLocals = 11 := hml0
  have hown : s.vm.findClass "com/example/anableps/anableps/name/NamesLabelEndPinLaw" = some m.cls := findClass_of_methodNamed Bd.named
  have hnm := (name_of_methodNamed Bd.named Bd.method).1
  have X0 : Stand p l e room_1 s m #[(.int p1), (.int p2), (.int p3), (.int p4), (.int p5)] below meth c s₁ [] 0 0 := Stand.of_body Bd
  have e0 : s₁.heap = h0 := by rw [← hh, Bd.state]; rfl
  have N0 := Fr.nil n0
  apply own_in
  refine own_pre (B := s₁.setTop (mkF m 0 #[.val (.int p1), .val (.int p2), .val (.int p3), .val (.int p4), .val (.int p5), .unset, .unset, .unset, .unset, .unset, .unset] [])) (fun t k => castTop (ef_0 m p1 p2 p3 p4 p5) k) ?_
  refine own_pre (B := s₁.setTop (mkF m 1 #[.val (.int p1), .val (.int p2), .val (.int p3), .val (.int p4), .val (.int p5), .unset, .unset, .unset, .unset, .unset, .unset] [(.int (4 : Int32))])) (fun t k => XS.iconst X0.here hx rfl (hb hby at_0) k) ?_
  have K6 : Keep h0 h0 [] := (Keep.refl h0 [])
  obtain ⟨T7, h7, k7, X7, e7, E7, A7, st7⟩ := newP X0 hx hZ (hw _ (ow 0 rfl)) e0 (g := (mkF m 1 #[.val (.int p1), .val (.int p2), .val (.int p3), .val (.int p4), .val (.int p5), .unset, .unset, .unset, .unset, .unset, .unset] [(.int (4 : Int32))])) rfl (hb hby at_1) rfl (by decide) (cap := 4) (by decide) (by decide) (by decide) (by decide)
  obtain ⟨b7, g7⟩ : ∃ z, z = h0.size := ⟨_, rfl⟩
  rw [← g7] at A7 st7
  have g_b7 : n0 ≤ b7 := Nat.le_trans Z0 (Nat.le_of_eq g7.symm)
  have s_b7 : h0.size ≤ b7 := Nat.le_trans K6.1 (Nat.le_of_eq g7.symm)
  have V_b7 : Arv Z h7 b7 k7 .char (4 : Int32) [(.int (0 : Int32)), (.int (0 : Int32)), (.int (0 : Int32)), (.int (0 : Int32))] (.int (0 : Int32)) := (Arv.new A7 (by decide)).pad (pad_rep [] (.int (0 : Int32)) 4)
  refine own_pre (B := T7.setTop (mkF m 3 #[.val (.int p1), .val (.int p2), .val (.int p3), .val (.int p4), .val (.int p5), .unset, .unset, .unset, .unset, .unset, .unset] [(.ref b7)])) (fun t k => st7 t k) ?_
  refine own_pre (B := T7.setTop (mkF m 5 #[.val (.int p1), .val (.int p2), .val (.int p3), .val (.int p4), .val (.int p5), .val (.ref b7), .unset, .unset, .unset, .unset, .unset] [])) (fun t k => XS.astore X7.here hx rfl (hb hby at_3) rfl rfl (l' := #[.val (.int p1), .val (.int p2), .val (.int p3), .val (.int p4), .val (.int p5), .val (.ref b7), .unset, .unset, .unset, .unset, .unset]) rfl k) ?_
  refine own_pre (B := T7.setTop (mkF m 7 #[.val (.int p1), .val (.int p2), .val (.int p3), .val (.int p4), .val (.int p5), .val (.ref b7), .unset, .unset, .unset, .unset, .unset] [(.ref b7)])) (fun t k => XS.aload X7.here hx rfl (hb hby at_5) rfl rfl k) ?_
  refine own_pre (B := T7.setTop (mkF m 8 #[.val (.int p1), .val (.int p2), .val (.int p3), .val (.int p4), .val (.int p5), .val (.ref b7), .unset, .unset, .unset, .unset, .unset] [(.int (0 : Int32)), (.ref b7)])) (fun t k => XS.iconst X7.here hx rfl (hb hby at_7) k) ?_
  refine own_pre (B := T7.setTop (mkF m 9 #[.val (.int p1), .val (.int p2), .val (.int p3), .val (.int p4), .val (.int p5), .val (.ref b7), .unset, .unset, .unset, .unset, .unset] [(.int p1), (.int (0 : Int32)), (.ref b7)])) (fun t k => XS.iloadN X7.here hx rfl (hb hby at_8) rfl k) ?_
  have sz8 : n0 ≤ h7.size := (Nat.le_trans Z0 E7.1)
  obtain ⟨_, _, ⟨T9, L9, k9, n9⟩, -, X9, ⟨Lc9, hQ9, l9, y9, z9⟩, st9⟩ := Jvm.LawKit.callS X7 hx (y := (⟨"com/example/anableps/anableps/name/NamesLabelEndPinLaw", "unit", "(I)C"⟩ : MethodName)) hown (mvT hZ (hw _ (ow 1 rfl))) (mvT hZ (hw _ (ow 2 rfl))) (mvT hZ (hw _ (ow 3 rfl))) (mvT hZ (hw _ (ow 4 rfl))) (by decide) (backOf (W := 2) (rm1 l Z a0 hw [] p1 h7 n0 sz8 ) hZ (hw _ (ow 4 rfl)) (hw _ (ow 3 rfl)) (by decide) (by decide)) (g := (mkF m 9 #[.val (.int p1), .val (.int p2), .val (.int p3), .val (.int p4), .val (.int p5), .val (.ref b7), .unset, .unset, .unset, .unset, .unset] [(.int p1), (.int (0 : Int32)), (.ref b7)])) rfl (by rw [hml]; rfl) (argsL := [(.int p1)]) (rest := [(.int (0 : Int32)), (.ref b7)]) (lenOf pd_0 rfl) rfl (by show 2 * 0 + _ ≤ _; exact Nat.le_of_eq rfl) (hb hby at_9) (fun _ _ => ⟨rfl, e7, (by decide : 1 + 0 ≤ _), (by decide : 4 + 0 ≤ _)⟩)
  dsimp only [Pt.U, Pt.locs, Pt.cells, Pt.slots] at X9 l9 y9 z9 st9 hQ9
  subst l9 y9 z9
  obtain ⟨rfl, N9q, e9⟩ := hQ9
  have N9 := Fr.app N0 N9q
  obtain ⟨z10, hz10⟩ : ∃ z : Int32, z = (own_f1 p1) := ⟨_, rfl⟩
  rw [← hz10] at st9
  refine own_pre (B := T9.setTop (mkF m 12 #[.val (.int p1), .val (.int p2), .val (.int p3), .val (.int p4), .val (.int p5), .val (.ref b7), .unset, .unset, .unset, .unset, .unset] [(.int z10), (.int (0 : Int32)), (.ref b7)])) (fun t k => st9 t k) ?_
  have K11 : Keep h0 h7 [] := (Keep.ext K6 E7)
  obtain ⟨cl12, Ar12, q12, S12, N12v, H12v, G12v⟩ := V_b7
  have V_b7 : Arv Z h7 b7 k7 .char (4 : Int32) [(.int (0 : Int32)), (.int (0 : Int32)), (.int (0 : Int32)), (.int (0 : Int32))] (.int (0 : Int32)) := ⟨cl12, Ar12, q12, S12, N12v, H12v, G12v⟩
  have hin12 : ¬ ((0 : Int32) < 0 ∨ cl12.slots.size ≤ ((0 : Int32)).toNatClampNeg) := inb_of S12 ⟨by decide, by decide⟩
  obtain ⟨T13, h13, X13, e13, W13, st13⟩ := stC X9 hx hZ e9 Ar12 (j := (0 : Int32)) hin12 (g := (mkF m 12 #[.val (.int p1), .val (.int p2), .val (.int p3), .val (.int p4), .val (.int p5), .val (.ref b7), .unset, .unset, .unset, .unset, .unset] [(.int z10), (.int (0 : Int32)), (.ref b7)])) rfl rfl (hb hby at_12)
  have V13 : Arv Z h13 b7 k7 .char (4 : Int32) [(.int (nar .char z10)), (.int (0 : Int32)), (.int (0 : Int32)), (.int (0 : Int32))] (.int (0 : Int32)) := Arv.set Ar12 q12 S12 N12v H12v G12v (fits_nar_char _) W13 0 rfl (Nat.le_of_ble_eq_true rfl)
  have N13 := Fr.snoc X13 N9 g_b7
  refine own_pre (B := T13.setTop (mkF m 13 #[.val (.int p1), .val (.int p2), .val (.int p3), .val (.int p4), .val (.int p5), .val (.ref b7), .unset, .unset, .unset, .unset, .unset] [])) (fun t k => st13 t k) ?_
  refine own_pre (B := T13.setTop (mkF m 15 #[.val (.int p1), .val (.int p2), .val (.int p3), .val (.int p4), .val (.int p5), .val (.ref b7), .unset, .unset, .unset, .unset, .unset] [(.ref b7)])) (fun t k => XS.aload X13.here hx rfl (hb hby at_13) rfl rfl k) ?_
  refine own_pre (B := T13.setTop (mkF m 16 #[.val (.int p1), .val (.int p2), .val (.int p3), .val (.int p4), .val (.int p5), .val (.ref b7), .unset, .unset, .unset, .unset, .unset] [(.int (1 : Int32)), (.ref b7)])) (fun t k => XS.iconst X13.here hx rfl (hb hby at_15) k) ?_
  refine own_pre (B := T13.setTop (mkF m 17 #[.val (.int p1), .val (.int p2), .val (.int p3), .val (.int p4), .val (.int p5), .val (.ref b7), .unset, .unset, .unset, .unset, .unset] [(.int p2), (.int (1 : Int32)), (.ref b7)])) (fun t k => XS.iloadN X13.here hx rfl (hb hby at_16) rfl k) ?_
  have sz14 : n0 ≤ h13.size := (Nat.le_trans sz8 (Keep.of_wr W13).1)
  obtain ⟨_, _, ⟨T15, L15, k15, n15⟩, -, X15, ⟨Lc15, hQ15, l15, y15, z15⟩, st15⟩ := Jvm.LawKit.callS X13 hx (y := (⟨"com/example/anableps/anableps/name/NamesLabelEndPinLaw", "unit", "(I)C"⟩ : MethodName)) hown (mvT hZ (hw _ (ow 1 rfl))) (mvT hZ (hw _ (ow 2 rfl))) (mvT hZ (hw _ (ow 3 rfl))) (mvT hZ (hw _ (ow 4 rfl))) (by decide) (backOf (W := 2) (rm1 l Z a0 hw [] p2 h13 n0 sz14 ) hZ (hw _ (ow 4 rfl)) (hw _ (ow 3 rfl)) (by decide) (by decide)) (g := (mkF m 17 #[.val (.int p1), .val (.int p2), .val (.int p3), .val (.int p4), .val (.int p5), .val (.ref b7), .unset, .unset, .unset, .unset, .unset] [(.int p2), (.int (1 : Int32)), (.ref b7)])) rfl (by rw [hml]; rfl) (argsL := [(.int p2)]) (rest := [(.int (1 : Int32)), (.ref b7)]) (lenOf pd_0 rfl) rfl (by show 2 * 0 + _ ≤ _; exact Nat.le_of_eq rfl) (hb hby at_17) (fun _ _ => ⟨rfl, e13, (by decide : 1 + 0 ≤ _), (by decide : 4 + 0 ≤ _)⟩)
  dsimp only [Pt.U, Pt.locs, Pt.cells, Pt.slots] at X15 l15 y15 z15 st15 hQ15
  subst l15 y15 z15
  obtain ⟨rfl, N15q, e15⟩ := hQ15
  have N15 := Fr.app N13 N15q
  obtain ⟨z16, hz16⟩ : ∃ z : Int32, z = (own_f1 p2) := ⟨_, rfl⟩
  rw [← hz16] at st15
  refine own_pre (B := T15.setTop (mkF m 20 #[.val (.int p1), .val (.int p2), .val (.int p3), .val (.int p4), .val (.int p5), .val (.ref b7), .unset, .unset, .unset, .unset, .unset] [(.int z16), (.int (1 : Int32)), (.ref b7)])) (fun t k => st15 t k) ?_
  have K17 : Keep h0 h13 [] := (Keep.wr K11 W13 (Or.inr s_b7))
  obtain ⟨cl18, Ar18, q18, S18, N18v, H18v, G18v⟩ := V13
  have V13 : Arv Z h13 b7 k7 .char (4 : Int32) [(.int (nar .char z10)), (.int (0 : Int32)), (.int (0 : Int32)), (.int (0 : Int32))] (.int (0 : Int32)) := ⟨cl18, Ar18, q18, S18, N18v, H18v, G18v⟩
  have hin18 : ¬ ((1 : Int32) < 0 ∨ cl18.slots.size ≤ ((1 : Int32)).toNatClampNeg) := inb_of S18 ⟨by decide, by decide⟩
  obtain ⟨T19, h19, X19, e19, W19, st19⟩ := stC X15 hx hZ e15 Ar18 (j := (1 : Int32)) hin18 (g := (mkF m 20 #[.val (.int p1), .val (.int p2), .val (.int p3), .val (.int p4), .val (.int p5), .val (.ref b7), .unset, .unset, .unset, .unset, .unset] [(.int z16), (.int (1 : Int32)), (.ref b7)])) rfl rfl (hb hby at_20)
  have V19 : Arv Z h19 b7 k7 .char (4 : Int32) [(.int (nar .char z10)), (.int (nar .char z16)), (.int (0 : Int32)), (.int (0 : Int32))] (.int (0 : Int32)) := Arv.set Ar18 q18 S18 N18v H18v G18v (fits_nar_char _) W19 1 rfl (Nat.le_of_ble_eq_true rfl)
  have N19 := Fr.snoc X19 N15 g_b7
  refine own_pre (B := T19.setTop (mkF m 21 #[.val (.int p1), .val (.int p2), .val (.int p3), .val (.int p4), .val (.int p5), .val (.ref b7), .unset, .unset, .unset, .unset, .unset] [])) (fun t k => st19 t k) ?_
  refine own_pre (B := T19.setTop (mkF m 23 #[.val (.int p1), .val (.int p2), .val (.int p3), .val (.int p4), .val (.int p5), .val (.ref b7), .unset, .unset, .unset, .unset, .unset] [(.ref b7)])) (fun t k => XS.aload X19.here hx rfl (hb hby at_21) rfl rfl k) ?_
  refine own_pre (B := T19.setTop (mkF m 24 #[.val (.int p1), .val (.int p2), .val (.int p3), .val (.int p4), .val (.int p5), .val (.ref b7), .unset, .unset, .unset, .unset, .unset] [(.int (2 : Int32)), (.ref b7)])) (fun t k => XS.iconst X19.here hx rfl (hb hby at_23) k) ?_
  refine own_pre (B := T19.setTop (mkF m 25 #[.val (.int p1), .val (.int p2), .val (.int p3), .val (.int p4), .val (.int p5), .val (.ref b7), .unset, .unset, .unset, .unset, .unset] [(.int p3), (.int (2 : Int32)), (.ref b7)])) (fun t k => XS.iloadN X19.here hx rfl (hb hby at_24) rfl k) ?_
  have sz20 : n0 ≤ h19.size := (Nat.le_trans sz14 (Keep.of_wr W19).1)
  obtain ⟨_, _, ⟨T21, L21, k21, n21⟩, -, X21, ⟨Lc21, hQ21, l21, y21, z21⟩, st21⟩ := Jvm.LawKit.callS X19 hx (y := (⟨"com/example/anableps/anableps/name/NamesLabelEndPinLaw", "unit", "(I)C"⟩ : MethodName)) hown (mvT hZ (hw _ (ow 1 rfl))) (mvT hZ (hw _ (ow 2 rfl))) (mvT hZ (hw _ (ow 3 rfl))) (mvT hZ (hw _ (ow 4 rfl))) (by decide) (backOf (W := 2) (rm1 l Z a0 hw [] p3 h19 n0 sz20 ) hZ (hw _ (ow 4 rfl)) (hw _ (ow 3 rfl)) (by decide) (by decide)) (g := (mkF m 25 #[.val (.int p1), .val (.int p2), .val (.int p3), .val (.int p4), .val (.int p5), .val (.ref b7), .unset, .unset, .unset, .unset, .unset] [(.int p3), (.int (2 : Int32)), (.ref b7)])) rfl (by rw [hml]; rfl) (argsL := [(.int p3)]) (rest := [(.int (2 : Int32)), (.ref b7)]) (lenOf pd_0 rfl) rfl (by show 2 * 0 + _ ≤ _; exact Nat.le_of_eq rfl) (hb hby at_25) (fun _ _ => ⟨rfl, e19, (by decide : 1 + 0 ≤ _), (by decide : 4 + 0 ≤ _)⟩)
  dsimp only [Pt.U, Pt.locs, Pt.cells, Pt.slots] at X21 l21 y21 z21 st21 hQ21
  subst l21 y21 z21
  obtain ⟨rfl, N21q, e21⟩ := hQ21
  have N21 := Fr.app N19 N21q
  obtain ⟨z22, hz22⟩ : ∃ z : Int32, z = (own_f1 p3) := ⟨_, rfl⟩
  rw [← hz22] at st21
  refine own_pre (B := T21.setTop (mkF m 28 #[.val (.int p1), .val (.int p2), .val (.int p3), .val (.int p4), .val (.int p5), .val (.ref b7), .unset, .unset, .unset, .unset, .unset] [(.int z22), (.int (2 : Int32)), (.ref b7)])) (fun t k => st21 t k) ?_
  have K23 : Keep h0 h19 [] := (Keep.wr K17 W19 (Or.inr s_b7))
  obtain ⟨cl24, Ar24, q24, S24, N24v, H24v, G24v⟩ := V19
  have V19 : Arv Z h19 b7 k7 .char (4 : Int32) [(.int (nar .char z10)), (.int (nar .char z16)), (.int (0 : Int32)), (.int (0 : Int32))] (.int (0 : Int32)) := ⟨cl24, Ar24, q24, S24, N24v, H24v, G24v⟩
  have hin24 : ¬ ((2 : Int32) < 0 ∨ cl24.slots.size ≤ ((2 : Int32)).toNatClampNeg) := inb_of S24 ⟨by decide, by decide⟩
  obtain ⟨T25, h25, X25, e25, W25, st25⟩ := stC X21 hx hZ e21 Ar24 (j := (2 : Int32)) hin24 (g := (mkF m 28 #[.val (.int p1), .val (.int p2), .val (.int p3), .val (.int p4), .val (.int p5), .val (.ref b7), .unset, .unset, .unset, .unset, .unset] [(.int z22), (.int (2 : Int32)), (.ref b7)])) rfl rfl (hb hby at_28)
  have V25 : Arv Z h25 b7 k7 .char (4 : Int32) [(.int (nar .char z10)), (.int (nar .char z16)), (.int (nar .char z22)), (.int (0 : Int32))] (.int (0 : Int32)) := Arv.set Ar24 q24 S24 N24v H24v G24v (fits_nar_char _) W25 2 rfl (Nat.le_of_ble_eq_true rfl)
  have N25 := Fr.snoc X25 N21 g_b7
  refine own_pre (B := T25.setTop (mkF m 29 #[.val (.int p1), .val (.int p2), .val (.int p3), .val (.int p4), .val (.int p5), .val (.ref b7), .unset, .unset, .unset, .unset, .unset] [])) (fun t k => st25 t k) ?_
  refine own_pre (B := T25.setTop (mkF m 31 #[.val (.int p1), .val (.int p2), .val (.int p3), .val (.int p4), .val (.int p5), .val (.ref b7), .unset, .unset, .unset, .unset, .unset] [(.ref b7)])) (fun t k => XS.aload X25.here hx rfl (hb hby at_29) rfl rfl k) ?_
  refine own_pre (B := T25.setTop (mkF m 32 #[.val (.int p1), .val (.int p2), .val (.int p3), .val (.int p4), .val (.int p5), .val (.ref b7), .unset, .unset, .unset, .unset, .unset] [(.int (3 : Int32)), (.ref b7)])) (fun t k => XS.iconst X25.here hx rfl (hb hby at_31) k) ?_
  refine own_pre (B := T25.setTop (mkF m 33 #[.val (.int p1), .val (.int p2), .val (.int p3), .val (.int p4), .val (.int p5), .val (.ref b7), .unset, .unset, .unset, .unset, .unset] [(.int p4), (.int (3 : Int32)), (.ref b7)])) (fun t k => XS.iloadN X25.here hx rfl (hb hby at_32) rfl k) ?_
  have sz26 : n0 ≤ h25.size := (Nat.le_trans sz20 (Keep.of_wr W25).1)
  obtain ⟨_, _, ⟨T27, L27, k27, n27⟩, -, X27, ⟨Lc27, hQ27, l27, y27, z27⟩, st27⟩ := Jvm.LawKit.callS X25 hx (y := (⟨"com/example/anableps/anableps/name/NamesLabelEndPinLaw", "unit", "(I)C"⟩ : MethodName)) hown (mvT hZ (hw _ (ow 1 rfl))) (mvT hZ (hw _ (ow 2 rfl))) (mvT hZ (hw _ (ow 3 rfl))) (mvT hZ (hw _ (ow 4 rfl))) (by decide) (backOf (W := 2) (rm1 l Z a0 hw [] p4 h25 n0 sz26 ) hZ (hw _ (ow 4 rfl)) (hw _ (ow 3 rfl)) (by decide) (by decide)) (g := (mkF m 33 #[.val (.int p1), .val (.int p2), .val (.int p3), .val (.int p4), .val (.int p5), .val (.ref b7), .unset, .unset, .unset, .unset, .unset] [(.int p4), (.int (3 : Int32)), (.ref b7)])) rfl (by rw [hml]; rfl) (argsL := [(.int p4)]) (rest := [(.int (3 : Int32)), (.ref b7)]) (lenOf pd_0 rfl) rfl (by show 2 * 0 + _ ≤ _; exact Nat.le_of_eq rfl) (hb hby at_33) (fun _ _ => ⟨rfl, e25, (by decide : 1 + 0 ≤ _), (by decide : 4 + 0 ≤ _)⟩)
  dsimp only [Pt.U, Pt.locs, Pt.cells, Pt.slots] at X27 l27 y27 z27 st27 hQ27
  subst l27 y27 z27
  obtain ⟨rfl, N27q, e27⟩ := hQ27
  have N27 := Fr.app N25 N27q
  obtain ⟨z28, hz28⟩ : ∃ z : Int32, z = (own_f1 p4) := ⟨_, rfl⟩
  rw [← hz28] at st27
  refine own_pre (B := T27.setTop (mkF m 36 #[.val (.int p1), .val (.int p2), .val (.int p3), .val (.int p4), .val (.int p5), .val (.ref b7), .unset, .unset, .unset, .unset, .unset] [(.int z28), (.int (3 : Int32)), (.ref b7)])) (fun t k => st27 t k) ?_
  have K29 : Keep h0 h25 [] := (Keep.wr K23 W25 (Or.inr s_b7))
  obtain ⟨cl30, Ar30, q30, S30, N30v, H30v, G30v⟩ := V25
  have V25 : Arv Z h25 b7 k7 .char (4 : Int32) [(.int (nar .char z10)), (.int (nar .char z16)), (.int (nar .char z22)), (.int (0 : Int32))] (.int (0 : Int32)) := ⟨cl30, Ar30, q30, S30, N30v, H30v, G30v⟩
  have hin30 : ¬ ((3 : Int32) < 0 ∨ cl30.slots.size ≤ ((3 : Int32)).toNatClampNeg) := inb_of S30 ⟨by decide, by decide⟩
  obtain ⟨T31, h31, X31, e31, W31, st31⟩ := stC X27 hx hZ e27 Ar30 (j := (3 : Int32)) hin30 (g := (mkF m 36 #[.val (.int p1), .val (.int p2), .val (.int p3), .val (.int p4), .val (.int p5), .val (.ref b7), .unset, .unset, .unset, .unset, .unset] [(.int z28), (.int (3 : Int32)), (.ref b7)])) rfl rfl (hb hby at_36)
  have V31 : Arv Z h31 b7 k7 .char (4 : Int32) [(.int (nar .char z10)), (.int (nar .char z16)), (.int (nar .char z22)), (.int (nar .char z28))] (.int (0 : Int32)) := Arv.set Ar30 q30 S30 N30v H30v G30v (fits_nar_char _) W31 3 rfl (Nat.le_of_ble_eq_true rfl)
  have N31 := Fr.snoc X31 N27 g_b7
  refine own_pre (B := T31.setTop (mkF m 37 #[.val (.int p1), .val (.int p2), .val (.int p3), .val (.int p4), .val (.int p5), .val (.ref b7), .unset, .unset, .unset, .unset, .unset] [])) (fun t k => st31 t k) ?_
  refine own_pre (B := T31.setTop (mkF m 39 #[.val (.int p1), .val (.int p2), .val (.int p3), .val (.int p4), .val (.int p5), .val (.ref b7), .unset, .unset, .unset, .unset, .unset] [(.int p5)])) (fun t k => XS.iload X31.here hx rfl (hb hby at_37) rfl k) ?_
  refine own_pre (B := T31.setTop (mkF m 41 #[.val (.int p1), .val (.int p2), .val (.int p3), .val (.int p4), .val (.int p5), .val (.ref b7), .unset, .unset, .unset, .unset, .unset] [(.int (7 : Int32)), (.int p5)])) (fun t k => XS.bipush X31.here hx rfl (hb hby at_39) k) ?_
  refine own_pre (B := T31.setTop (mkF m 42 #[.val (.int p1), .val (.int p2), .val (.int p3), .val (.int p4), .val (.int p5), .val (.ref b7), .unset, .unset, .unset, .unset, .unset] [(.int (p5 &&& (7 : Int32)))])) (fun t k => XS.iand X31.here hx rfl (hb hby at_41) rfl k) ?_
  refine own_pre (B := T31.setTop (mkF m 43 #[.val (.int p1), .val (.int p2), .val (.int p3), .val (.int p4), .val (.int p5), .val (.ref b7), .unset, .unset, .unset, .unset, .unset] [(.int (5 : Int32)), (.int (p5 &&& (7 : Int32)))])) (fun t k => XS.iconst X31.here hx rfl (hb hby at_42) k) ?_
  refine own_pre (B := T31.setTop (mkF m 44 #[.val (.int p1), .val (.int p2), .val (.int p3), .val (.int p4), .val (.int p5), .val (.ref b7), .unset, .unset, .unset, .unset, .unset] [(.int ((p5 &&& (7 : Int32)) % (5 : Int32)))])) (fun t k => iremM X31 hx rfl (hb hby at_43) rfl (by decide) k) ?_
  refine own_pre (B := T31.setTop (mkF m 46 #[.val (.int p1), .val (.int p2), .val (.int p3), .val (.int p4), .val (.int p5), .val (.ref b7), .val (.int ((p5 &&& (7 : Int32)) % (5 : Int32))), .unset, .unset, .unset, .unset] [])) (fun t k => XS.istore X31.here hx rfl (hb hby at_44) rfl (l' := #[.val (.int p1), .val (.int p2), .val (.int p3), .val (.int p4), .val (.int p5), .val (.ref b7), .val (.int ((p5 &&& (7 : Int32)) % (5 : Int32))), .unset, .unset, .unset, .unset]) rfl k) ?_
  refine own_pre (B := T31.setTop (mkF m 48 #[.val (.int p1), .val (.int p2), .val (.int p3), .val (.int p4), .val (.int p5), .val (.ref b7), .val (.int ((p5 &&& (7 : Int32)) % (5 : Int32))), .unset, .unset, .unset, .unset] [(.int p5)])) (fun t k => XS.iload X31.here hx rfl (hb hby at_46) rfl k) ?_
  refine own_pre (B := T31.setTop (mkF m 49 #[.val (.int p1), .val (.int p2), .val (.int p3), .val (.int p4), .val (.int p5), .val (.ref b7), .val (.int ((p5 &&& (7 : Int32)) % (5 : Int32))), .unset, .unset, .unset, .unset] [(.int (3 : Int32)), (.int p5)])) (fun t k => XS.iconst X31.here hx rfl (hb hby at_48) k) ?_
  refine own_pre (B := T31.setTop (mkF m 50 #[.val (.int p1), .val (.int p2), .val (.int p3), .val (.int p4), .val (.int p5), .val (.ref b7), .val (.int ((p5 &&& (7 : Int32)) % (5 : Int32))), .unset, .unset, .unset, .unset] [(.int ((p5.toUInt32 >>> ((3 : Int32) &&& 31).toUInt32).toInt32))])) (fun t k => XS.iushr X31.here hx rfl (hb hby at_49) rfl k) ?_
  refine own_pre (B := T31.setTop (mkF m 52 #[.val (.int p1), .val (.int p2), .val (.int p3), .val (.int p4), .val (.int p5), .val (.ref b7), .val (.int ((p5 &&& (7 : Int32)) % (5 : Int32))), .unset, .unset, .unset, .unset] [(.int (7 : Int32)), (.int ((p5.toUInt32 >>> ((3 : Int32) &&& 31).toUInt32).toInt32))])) (fun t k => XS.bipush X31.here hx rfl (hb hby at_50) k) ?_
  refine own_pre (B := T31.setTop (mkF m 53 #[.val (.int p1), .val (.int p2), .val (.int p3), .val (.int p4), .val (.int p5), .val (.ref b7), .val (.int ((p5 &&& (7 : Int32)) % (5 : Int32))), .unset, .unset, .unset, .unset] [(.int (((p5.toUInt32 >>> ((3 : Int32) &&& 31).toUInt32).toInt32) &&& (7 : Int32)))])) (fun t k => XS.iand X31.here hx rfl (hb hby at_52) rfl k) ?_
  refine own_pre (B := T31.setTop (mkF m 54 #[.val (.int p1), .val (.int p2), .val (.int p3), .val (.int p4), .val (.int p5), .val (.ref b7), .val (.int ((p5 &&& (7 : Int32)) % (5 : Int32))), .unset, .unset, .unset, .unset] [(.int (5 : Int32)), (.int (((p5.toUInt32 >>> ((3 : Int32) &&& 31).toUInt32).toInt32) &&& (7 : Int32)))])) (fun t k => XS.iconst X31.here hx rfl (hb hby at_53) k) ?_
  refine own_pre (B := T31.setTop (mkF m 55 #[.val (.int p1), .val (.int p2), .val (.int p3), .val (.int p4), .val (.int p5), .val (.ref b7), .val (.int ((p5 &&& (7 : Int32)) % (5 : Int32))), .unset, .unset, .unset, .unset] [(.int ((((p5.toUInt32 >>> ((3 : Int32) &&& 31).toUInt32).toInt32) &&& (7 : Int32)) % (5 : Int32)))])) (fun t k => iremM X31 hx rfl (hb hby at_54) rfl (by decide) k) ?_
  refine own_pre (B := T31.setTop (mkF m 57 #[.val (.int p1), .val (.int p2), .val (.int p3), .val (.int p4), .val (.int p5), .val (.ref b7), .val (.int ((p5 &&& (7 : Int32)) % (5 : Int32))), .val (.int ((((p5.toUInt32 >>> ((3 : Int32) &&& 31).toUInt32).toInt32) &&& (7 : Int32)) % (5 : Int32))), .unset, .unset, .unset] [])) (fun t k => XS.istore X31.here hx rfl (hb hby at_55) rfl (l' := #[.val (.int p1), .val (.int p2), .val (.int p3), .val (.int p4), .val (.int p5), .val (.ref b7), .val (.int ((p5 &&& (7 : Int32)) % (5 : Int32))), .val (.int ((((p5.toUInt32 >>> ((3 : Int32) &&& 31).toUInt32).toInt32) &&& (7 : Int32)) % (5 : Int32))), .unset, .unset, .unset]) rfl k) ?_
  refine own_pre (B := T31.setTop (mkF m 59 #[.val (.int p1), .val (.int p2), .val (.int p3), .val (.int p4), .val (.int p5), .val (.ref b7), .val (.int ((p5 &&& (7 : Int32)) % (5 : Int32))), .val (.int ((((p5.toUInt32 >>> ((3 : Int32) &&& 31).toUInt32).toInt32) &&& (7 : Int32)) % (5 : Int32))), .unset, .unset, .unset] [(.int ((p5 &&& (7 : Int32)) % (5 : Int32)))])) (fun t k => XS.iload X31.here hx rfl (hb hby at_57) rfl k) ?_
  refine own_pre (B := T31.setTop (mkF m 61 #[.val (.int p1), .val (.int p2), .val (.int p3), .val (.int p4), .val (.int p5), .val (.ref b7), .val (.int ((p5 &&& (7 : Int32)) % (5 : Int32))), .val (.int ((((p5.toUInt32 >>> ((3 : Int32) &&& 31).toUInt32).toInt32) &&& (7 : Int32)) % (5 : Int32))), .unset, .unset, .unset] [(.int ((((p5.toUInt32 >>> ((3 : Int32) &&& 31).toUInt32).toInt32) &&& (7 : Int32)) % (5 : Int32))), (.int ((p5 &&& (7 : Int32)) % (5 : Int32)))])) (fun t k => XS.iload X31.here hx rfl (hb hby at_59) rfl k) ?_
  have sz32 : n0 ≤ h31.size := (Nat.le_trans sz26 (Keep.of_wr W31).1)
  obtain ⟨_, _, ⟨T33, L33, k33, n33⟩, -, X33, ⟨Lc33, hQ33, l33, y33, z33⟩, st33⟩ := Jvm.LawKit.callS X31 hx (y := (⟨"java/lang/Math", "min", "(II)I"⟩ : MethodName)) hown (mvT hZ (hw _ (ow 5 rfl))) (mvT hZ (hw _ (ow 6 rfl))) (mvT hZ (hw _ (ow 7 rfl))) (mvT hZ (hw _ (ow 8 rfl))) (by decide) (backOf (W := 0) (rm2 l Z a0 hw [] ((p5 &&& (7 : Int32)) % (5 : Int32)) ((((p5.toUInt32 >>> ((3 : Int32) &&& 31).toUInt32).toInt32) &&& (7 : Int32)) % (5 : Int32)) h31 n0 sz32 ) hZ (hw _ (ow 8 rfl)) (hw _ (ow 7 rfl)) (by decide) (by decide)) (g := (mkF m 61 #[.val (.int p1), .val (.int p2), .val (.int p3), .val (.int p4), .val (.int p5), .val (.ref b7), .val (.int ((p5 &&& (7 : Int32)) % (5 : Int32))), .val (.int ((((p5.toUInt32 >>> ((3 : Int32) &&& 31).toUInt32).toInt32) &&& (7 : Int32)) % (5 : Int32))), .unset, .unset, .unset] [(.int ((((p5.toUInt32 >>> ((3 : Int32) &&& 31).toUInt32).toInt32) &&& (7 : Int32)) % (5 : Int32))), (.int ((p5 &&& (7 : Int32)) % (5 : Int32)))])) rfl (by rw [hml]; rfl) (argsL := [(.int ((p5 &&& (7 : Int32)) % (5 : Int32))), (.int ((((p5.toUInt32 >>> ((3 : Int32) &&& 31).toUInt32).toInt32) &&& (7 : Int32)) % (5 : Int32)))]) (rest := []) (lenOf pd_1 rfl) rfl (by show 2 * 0 + _ ≤ _; exact Nat.le_of_eq rfl) (hb hby at_61) (fun _ _ => ⟨rfl, e31, (by decide : 1 + 0 ≤ _), (by decide : 4 + 0 ≤ _)⟩)
  dsimp only [Pt.U, Pt.locs, Pt.cells, Pt.slots] at X33 l33 y33 z33 st33 hQ33
  subst l33 y33 z33
  obtain ⟨rfl, N33q, e33⟩ := hQ33
  have N33 := Fr.app N31 N33q
  obtain ⟨z34, hz34⟩ : ∃ z : Int32, z = (own_f2 ((p5 &&& (7 : Int32)) % (5 : Int32)) ((((p5.toUInt32 >>> ((3 : Int32) &&& 31).toUInt32).toInt32) &&& (7 : Int32)) % (5 : Int32))) := ⟨_, rfl⟩
  rw [← hz34] at st33
  refine own_pre (B := T33.setTop (mkF m 64 #[.val (.int p1), .val (.int p2), .val (.int p3), .val (.int p4), .val (.int p5), .val (.ref b7), .val (.int ((p5 &&& (7 : Int32)) % (5 : Int32))), .val (.int ((((p5.toUInt32 >>> ((3 : Int32) &&& 31).toUInt32).toInt32) &&& (7 : Int32)) % (5 : Int32))), .unset, .unset, .unset] [(.int z34)])) (fun t k => st33 t k) ?_
  refine own_pre (B := T33.setTop (mkF m 66 #[.val (.int p1), .val (.int p2), .val (.int p3), .val (.int p4), .val (.int p5), .val (.ref b7), .val (.int ((p5 &&& (7 : Int32)) % (5 : Int32))), .val (.int ((((p5.toUInt32 >>> ((3 : Int32) &&& 31).toUInt32).toInt32) &&& (7 : Int32)) % (5 : Int32))), .val (.int z34), .unset, .unset] [])) (fun t k => XS.istore X33.here hx rfl (hb hby at_64) rfl (l' := #[.val (.int p1), .val (.int p2), .val (.int p3), .val (.int p4), .val (.int p5), .val (.ref b7), .val (.int ((p5 &&& (7 : Int32)) % (5 : Int32))), .val (.int ((((p5.toUInt32 >>> ((3 : Int32) &&& 31).toUInt32).toInt32) &&& (7 : Int32)) % (5 : Int32))), .val (.int z34), .unset, .unset]) rfl k) ?_
  refine own_pre (B := T33.setTop (mkF m 68 #[.val (.int p1), .val (.int p2), .val (.int p3), .val (.int p4), .val (.int p5), .val (.ref b7), .val (.int ((p5 &&& (7 : Int32)) % (5 : Int32))), .val (.int ((((p5.toUInt32 >>> ((3 : Int32) &&& 31).toUInt32).toInt32) &&& (7 : Int32)) % (5 : Int32))), .val (.int z34), .unset, .unset] [(.int ((p5 &&& (7 : Int32)) % (5 : Int32)))])) (fun t k => XS.iload X33.here hx rfl (hb hby at_66) rfl k) ?_
  refine own_pre (B := T33.setTop (mkF m 70 #[.val (.int p1), .val (.int p2), .val (.int p3), .val (.int p4), .val (.int p5), .val (.ref b7), .val (.int ((p5 &&& (7 : Int32)) % (5 : Int32))), .val (.int ((((p5.toUInt32 >>> ((3 : Int32) &&& 31).toUInt32).toInt32) &&& (7 : Int32)) % (5 : Int32))), .val (.int z34), .unset, .unset] [(.int ((((p5.toUInt32 >>> ((3 : Int32) &&& 31).toUInt32).toInt32) &&& (7 : Int32)) % (5 : Int32))), (.int ((p5 &&& (7 : Int32)) % (5 : Int32)))])) (fun t k => XS.iload X33.here hx rfl (hb hby at_68) rfl k) ?_
  obtain ⟨_, _, ⟨T35, L35, k35, n35⟩, -, X35, ⟨Lc35, hQ35, l35, y35, z35⟩, st35⟩ := Jvm.LawKit.callS X33 hx (y := (⟨"java/lang/Math", "max", "(II)I"⟩ : MethodName)) hown (mvT hZ (hw _ (ow 9 rfl))) (mvT hZ (hw _ (ow 10 rfl))) (mvT hZ (hw _ (ow 7 rfl))) (mvT hZ (hw _ (ow 11 rfl))) (by decide) (backOf (W := 0) (rm3 l Z a0 hw [] ((p5 &&& (7 : Int32)) % (5 : Int32)) ((((p5.toUInt32 >>> ((3 : Int32) &&& 31).toUInt32).toInt32) &&& (7 : Int32)) % (5 : Int32)) h31 n0 sz32 ) hZ (hw _ (ow 11 rfl)) (hw _ (ow 7 rfl)) (by decide) (by decide)) (g := (mkF m 70 #[.val (.int p1), .val (.int p2), .val (.int p3), .val (.int p4), .val (.int p5), .val (.ref b7), .val (.int ((p5 &&& (7 : Int32)) % (5 : Int32))), .val (.int ((((p5.toUInt32 >>> ((3 : Int32) &&& 31).toUInt32).toInt32) &&& (7 : Int32)) % (5 : Int32))), .val (.int z34), .unset, .unset] [(.int ((((p5.toUInt32 >>> ((3 : Int32) &&& 31).toUInt32).toInt32) &&& (7 : Int32)) % (5 : Int32))), (.int ((p5 &&& (7 : Int32)) % (5 : Int32)))])) rfl (by rw [hml]; rfl) (argsL := [(.int ((p5 &&& (7 : Int32)) % (5 : Int32))), (.int ((((p5.toUInt32 >>> ((3 : Int32) &&& 31).toUInt32).toInt32) &&& (7 : Int32)) % (5 : Int32)))]) (rest := []) (lenOf pd_1 rfl) rfl (by show 2 * 0 + _ ≤ _; exact Nat.le_of_eq rfl) (hb hby at_70) (fun _ _ => ⟨rfl, e33, (by decide : 1 + 0 ≤ _), (by decide : 4 + 0 ≤ _)⟩)
  dsimp only [Pt.U, Pt.locs, Pt.cells, Pt.slots] at X35 l35 y35 z35 st35 hQ35
  subst l35 y35 z35
  obtain ⟨rfl, N35q, e35⟩ := hQ35
  have N35 := Fr.app N33 N35q
  obtain ⟨z36, hz36⟩ : ∃ z : Int32, z = (own_f3 ((p5 &&& (7 : Int32)) % (5 : Int32)) ((((p5.toUInt32 >>> ((3 : Int32) &&& 31).toUInt32).toInt32) &&& (7 : Int32)) % (5 : Int32))) := ⟨_, rfl⟩
  rw [← hz36] at st35
  refine own_pre (B := T35.setTop (mkF m 73 #[.val (.int p1), .val (.int p2), .val (.int p3), .val (.int p4), .val (.int p5), .val (.ref b7), .val (.int ((p5 &&& (7 : Int32)) % (5 : Int32))), .val (.int ((((p5.toUInt32 >>> ((3 : Int32) &&& 31).toUInt32).toInt32) &&& (7 : Int32)) % (5 : Int32))), .val (.int z34), .unset, .unset] [(.int z36)])) (fun t k => st35 t k) ?_
  refine own_pre (B := T35.setTop (mkF m 75 #[.val (.int p1), .val (.int p2), .val (.int p3), .val (.int p4), .val (.int p5), .val (.ref b7), .val (.int ((p5 &&& (7 : Int32)) % (5 : Int32))), .val (.int ((((p5.toUInt32 >>> ((3 : Int32) &&& 31).toUInt32).toInt32) &&& (7 : Int32)) % (5 : Int32))), .val (.int z34), .val (.int z36), .unset] [])) (fun t k => XS.istore X35.here hx rfl (hb hby at_73) rfl (l' := #[.val (.int p1), .val (.int p2), .val (.int p3), .val (.int p4), .val (.int p5), .val (.ref b7), .val (.int ((p5 &&& (7 : Int32)) % (5 : Int32))), .val (.int ((((p5.toUInt32 >>> ((3 : Int32) &&& 31).toUInt32).toInt32) &&& (7 : Int32)) % (5 : Int32))), .val (.int z34), .val (.int z36), .unset]) rfl k) ?_
  refine own_pre (B := T35.setTop (mkF m 77 #[.val (.int p1), .val (.int p2), .val (.int p3), .val (.int p4), .val (.int p5), .val (.ref b7), .val (.int ((p5 &&& (7 : Int32)) % (5 : Int32))), .val (.int ((((p5.toUInt32 >>> ((3 : Int32) &&& 31).toUInt32).toInt32) &&& (7 : Int32)) % (5 : Int32))), .val (.int z34), .val (.int z36), .unset] [(.int z36)])) (fun t k => XS.iload X35.here hx rfl (hb hby at_75) rfl k) ?_
  refine own_pre (B := T35.setTop (mkF m 79 #[.val (.int p1), .val (.int p2), .val (.int p3), .val (.int p4), .val (.int p5), .val (.ref b7), .val (.int ((p5 &&& (7 : Int32)) % (5 : Int32))), .val (.int ((((p5.toUInt32 >>> ((3 : Int32) &&& 31).toUInt32).toInt32) &&& (7 : Int32)) % (5 : Int32))), .val (.int z34), .val (.int z36), .val (.int z36)] [])) (fun t k => XS.istore X35.here hx rfl (hb hby at_77) rfl (l' := #[.val (.int p1), .val (.int p2), .val (.int p3), .val (.int p4), .val (.int p5), .val (.ref b7), .val (.int ((p5 &&& (7 : Int32)) % (5 : Int32))), .val (.int ((((p5.toUInt32 >>> ((3 : Int32) &&& 31).toUInt32).toInt32) &&& (7 : Int32)) % (5 : Int32))), .val (.int z34), .val (.int z36), .val (.int z36)]) rfl k) ?_
  have mm37 := own_mm (own_ab _) (own_ab _) hz34 hz36
  rcases mm37.1 with hs | hs | hs | hs | hs
  · subst hs
    refine own_pre (B := T35.setTop (mkF m 81 #[.val (.int p1), .val (.int p2), .val (.int p3), .val (.int p4), .val (.int p5), .val (.ref b7), .val (.int ((p5 &&& (7 : Int32)) % (5 : Int32))), .val (.int ((((p5.toUInt32 >>> ((3 : Int32) &&& 31).toUInt32).toInt32) &&& (7 : Int32)) % (5 : Int32))), .val (.int (0 : Int32)), .val (.int z36), .val (.int z36)] [(.int (0 : Int32))])) (fun t k => XS.iload X35.here hx rfl (hb hby at_79) rfl k) ?_
    refine own_pre (B := T35.setTop (mkF m 82 #[.val (.int p1), .val (.int p2), .val (.int p3), .val (.int p4), .val (.int p5), .val (.ref b7), .val (.int ((p5 &&& (7 : Int32)) % (5 : Int32))), .val (.int ((((p5.toUInt32 >>> ((3 : Int32) &&& 31).toUInt32).toInt32) &&& (7 : Int32)) % (5 : Int32))), .val (.int (0 : Int32)), .val (.int z36), .val (.int z36)] [(.int (3 : Int32)), (.int (0 : Int32))])) (fun t k => XS.iconst X35.here hx rfl (hb hby at_81) k) ?_
    obtain ⟨z38, hz38⟩ : ∃ z : Int32, z = (if (3 : Int32) < z36 then (if (nar .char z28) = (46 : Int32) then (3 : Int32) else z36) else z36) := ⟨_, rfl⟩
    refine own_pre (B := T35.setTop (mkF m 103 #[.val (.int p1), .val (.int p2), .val (.int p3), .val (.int p4), .val (.int p5), .val (.ref b7), .val (.int ((p5 &&& (7 : Int32)) % (5 : Int32))), .val (.int ((((p5.toUInt32 >>> ((3 : Int32) &&& 31).toUInt32).toInt32) &&& (7 : Int32)) % (5 : Int32))), .val (.int (0 : Int32)), .val (.int z36), .val (.int z38)] [])) (fun t k => ?_) ?_
    · refine XS.icmpNo X35.here hx rfl (hb hby at_82) rfl (flt (by decide : ¬ ((3 : Int32) < (0 : Int32)))).2.2.1 ?_
      show Steps p.tables e below (T35.setTop (mkF m 85 #[.val (.int p1), .val (.int p2), .val (.int p3), .val (.int p4), .val (.int p5), .val (.ref b7), .val (.int ((p5 &&& (7 : Int32)) % (5 : Int32))), .val (.int ((((p5.toUInt32 >>> ((3 : Int32) &&& 31).toUInt32).toInt32) &&& (7 : Int32)) % (5 : Int32))), .val (.int (0 : Int32)), .val (.int z36), .val (.int z36)] [])) _
      refine XS.iconst X35.here hx rfl (hb hby at_85) ?_
      show Steps p.tables e below (T35.setTop (mkF m 86 #[.val (.int p1), .val (.int p2), .val (.int p3), .val (.int p4), .val (.int p5), .val (.ref b7), .val (.int ((p5 &&& (7 : Int32)) % (5 : Int32))), .val (.int ((((p5.toUInt32 >>> ((3 : Int32) &&& 31).toUInt32).toInt32) &&& (7 : Int32)) % (5 : Int32))), .val (.int (0 : Int32)), .val (.int z36), .val (.int z36)] [(.int (3 : Int32))])) _
      refine XS.iload X35.here hx rfl (hb hby at_86) rfl ?_
      show Steps p.tables e below (T35.setTop (mkF m 88 #[.val (.int p1), .val (.int p2), .val (.int p3), .val (.int p4), .val (.int p5), .val (.ref b7), .val (.int ((p5 &&& (7 : Int32)) % (5 : Int32))), .val (.int ((((p5.toUInt32 >>> ((3 : Int32) &&& 31).toUInt32).toInt32) &&& (7 : Int32)) % (5 : Int32))), .val (.int (0 : Int32)), .val (.int z36), .val (.int z36)] [(.int z36), (.int (3 : Int32))])) _
      by_cases hc88_39 : (3 : Int32) < z36
      · refine XS.icmpNo X35.here hx rfl (hb hby at_88) rfl (tlt hc88_39).2.1 ?_
        show Steps p.tables e below (T35.setTop (mkF m 91 #[.val (.int p1), .val (.int p2), .val (.int p3), .val (.int p4), .val (.int p5), .val (.ref b7), .val (.int ((p5 &&& (7 : Int32)) % (5 : Int32))), .val (.int ((((p5.toUInt32 >>> ((3 : Int32) &&& 31).toUInt32).toInt32) &&& (7 : Int32)) % (5 : Int32))), .val (.int (0 : Int32)), .val (.int z36), .val (.int z36)] [])) _
        refine XS.aload X35.here hx rfl (hb hby at_91) rfl rfl ?_
        show Steps p.tables e below (T35.setTop (mkF m 93 #[.val (.int p1), .val (.int p2), .val (.int p3), .val (.int p4), .val (.int p5), .val (.ref b7), .val (.int ((p5 &&& (7 : Int32)) % (5 : Int32))), .val (.int ((((p5.toUInt32 >>> ((3 : Int32) &&& 31).toUInt32).toInt32) &&& (7 : Int32)) % (5 : Int32))), .val (.int (0 : Int32)), .val (.int z36), .val (.int z36)] [(.ref b7)])) _
        refine XS.iconst X35.here hx rfl (hb hby at_93) ?_
        show Steps p.tables e below (T35.setTop (mkF m 94 #[.val (.int p1), .val (.int p2), .val (.int p3), .val (.int p4), .val (.int p5), .val (.ref b7), .val (.int ((p5 &&& (7 : Int32)) % (5 : Int32))), .val (.int ((((p5.toUInt32 >>> ((3 : Int32) &&& 31).toUInt32).toInt32) &&& (7 : Int32)) % (5 : Int32))), .val (.int (0 : Int32)), .val (.int z36), .val (.int z36)] [(.int (3 : Int32)), (.ref b7)])) _
        obtain ⟨cl40, Ar40, q40, S40, N40v, H40v, G40v⟩ := V31
        have V31 : Arv Z h31 b7 k7 .char (4 : Int32) [(.int (nar .char z10)), (.int (nar .char z16)), (.int (nar .char z22)), (.int (nar .char z28))] (.int (0 : Int32)) := ⟨cl40, Ar40, q40, S40, N40v, H40v, G40v⟩
        have hin40 : ¬ ((3 : Int32) < 0 ∨ cl40.slots.size ≤ ((3 : Int32)).toNatClampNeg) := inb_of S40 ⟨by decide, by decide⟩
        have hat40 : cl40.slots[((3 : Int32)).toNatClampNeg]? = some (.int (nar .char z28)) := H40v.at hin40 rfl
        refine X35.caload hx (j := (3 : Int32)) (v := (.int (nar .char z28))) (by rw [e35]; exact Ar40.1) (State.isArrayOf_alike hZ.alike Ar40.2.1) Ar40.2.2 hin40 hat40 (g := (mkF m 94 #[.val (.int p1), .val (.int p2), .val (.int p3), .val (.int p4), .val (.int p5), .val (.ref b7), .val (.int ((p5 &&& (7 : Int32)) % (5 : Int32))), .val (.int ((((p5.toUInt32 >>> ((3 : Int32) &&& 31).toUInt32).toInt32) &&& (7 : Int32)) % (5 : Int32))), .val (.int (0 : Int32)), .val (.int z36), .val (.int z36)] [(.int (3 : Int32)), (.ref b7)])) rfl rfl (hb hby at_94) _ ?_
        show Steps p.tables e below (T35.setTop (mkF m 95 #[.val (.int p1), .val (.int p2), .val (.int p3), .val (.int p4), .val (.int p5), .val (.ref b7), .val (.int ((p5 &&& (7 : Int32)) % (5 : Int32))), .val (.int ((((p5.toUInt32 >>> ((3 : Int32) &&& 31).toUInt32).toInt32) &&& (7 : Int32)) % (5 : Int32))), .val (.int (0 : Int32)), .val (.int z36), .val (.int z36)] [(.int (nar .char z28))])) _
        refine XS.bipush X35.here hx rfl (hb hby at_95) ?_
        show Steps p.tables e below (T35.setTop (mkF m 97 #[.val (.int p1), .val (.int p2), .val (.int p3), .val (.int p4), .val (.int p5), .val (.ref b7), .val (.int ((p5 &&& (7 : Int32)) % (5 : Int32))), .val (.int ((((p5.toUInt32 >>> ((3 : Int32) &&& 31).toUInt32).toInt32) &&& (7 : Int32)) % (5 : Int32))), .val (.int (0 : Int32)), .val (.int z36), .val (.int z36)] [(.int (46 : Int32)), (.int (nar .char z28))])) _
        by_cases hc97_41 : (nar .char z28) = (46 : Int32)
        · refine XS.icmpNo X35.here hx rfl (hb hby at_97) rfl (teq hc97_41).2 ?_
          show Steps p.tables e below (T35.setTop (mkF m 100 #[.val (.int p1), .val (.int p2), .val (.int p3), .val (.int p4), .val (.int p5), .val (.ref b7), .val (.int ((p5 &&& (7 : Int32)) % (5 : Int32))), .val (.int ((((p5.toUInt32 >>> ((3 : Int32) &&& 31).toUInt32).toInt32) &&& (7 : Int32)) % (5 : Int32))), .val (.int (0 : Int32)), .val (.int z36), .val (.int z36)] [])) _
          refine XS.iconst X35.here hx rfl (hb hby at_100) ?_
          show Steps p.tables e below (T35.setTop (mkF m 101 #[.val (.int p1), .val (.int p2), .val (.int p3), .val (.int p4), .val (.int p5), .val (.ref b7), .val (.int ((p5 &&& (7 : Int32)) % (5 : Int32))), .val (.int ((((p5.toUInt32 >>> ((3 : Int32) &&& 31).toUInt32).toInt32) &&& (7 : Int32)) % (5 : Int32))), .val (.int (0 : Int32)), .val (.int z36), .val (.int z36)] [(.int (3 : Int32))])) _
          refine XS.istore X35.here hx rfl (hb hby at_101) rfl (l' := #[.val (.int p1), .val (.int p2), .val (.int p3), .val (.int p4), .val (.int p5), .val (.ref b7), .val (.int ((p5 &&& (7 : Int32)) % (5 : Int32))), .val (.int ((((p5.toUInt32 >>> ((3 : Int32) &&& 31).toUInt32).toInt32) &&& (7 : Int32)) % (5 : Int32))), .val (.int (0 : Int32)), .val (.int z36), .val (.int (3 : Int32))]) rfl ?_
          show Steps p.tables e below (T35.setTop (mkF m 103 #[.val (.int p1), .val (.int p2), .val (.int p3), .val (.int p4), .val (.int p5), .val (.ref b7), .val (.int ((p5 &&& (7 : Int32)) % (5 : Int32))), .val (.int ((((p5.toUInt32 >>> ((3 : Int32) &&& 31).toUInt32).toInt32) &&& (7 : Int32)) % (5 : Int32))), .val (.int (0 : Int32)), .val (.int z36), .val (.int (3 : Int32))] [])) _
          rw [if_pos hc88_39, if_pos hc97_41] at hz38
          subst hz38
          exact k
        · refine XS.icmpYes X35.here hx rfl (pc0 := 97) (pc' := 103) rfl (hb hby at_97) rfl (feq hc97_41).2 (by decide) (by decide) ?_
          show Steps p.tables e below (T35.setTop (mkF m 103 #[.val (.int p1), .val (.int p2), .val (.int p3), .val (.int p4), .val (.int p5), .val (.ref b7), .val (.int ((p5 &&& (7 : Int32)) % (5 : Int32))), .val (.int ((((p5.toUInt32 >>> ((3 : Int32) &&& 31).toUInt32).toInt32) &&& (7 : Int32)) % (5 : Int32))), .val (.int (0 : Int32)), .val (.int z36), .val (.int z36)] [])) _
          rw [if_pos hc88_39, if_neg hc97_41] at hz38
          subst hz38
          exact k
      · refine XS.icmpYes X35.here hx rfl (pc0 := 88) (pc' := 103) rfl (hb hby at_88) rfl (flt hc88_39).2.1 (by decide) (by decide) ?_
        show Steps p.tables e below (T35.setTop (mkF m 103 #[.val (.int p1), .val (.int p2), .val (.int p3), .val (.int p4), .val (.int p5), .val (.ref b7), .val (.int ((p5 &&& (7 : Int32)) % (5 : Int32))), .val (.int ((((p5.toUInt32 >>> ((3 : Int32) &&& 31).toUInt32).toInt32) &&& (7 : Int32)) % (5 : Int32))), .val (.int (0 : Int32)), .val (.int z36), .val (.int z36)] [])) _
        rw [if_neg hc88_39] at hz38
        subst hz38
        exact k
    refine own_pre (B := T35.setTop (mkF m 105 #[.val (.int p1), .val (.int p2), .val (.int p3), .val (.int p4), .val (.int p5), .val (.ref b7), .val (.int ((p5 &&& (7 : Int32)) % (5 : Int32))), .val (.int ((((p5.toUInt32 >>> ((3 : Int32) &&& 31).toUInt32).toInt32) &&& (7 : Int32)) % (5 : Int32))), .val (.int (0 : Int32)), .val (.int z36), .val (.int z38)] [(.int (0 : Int32))])) (fun t k => XS.iload X35.here hx rfl (hb hby at_103) rfl k) ?_
    refine own_pre (B := T35.setTop (mkF m 106 #[.val (.int p1), .val (.int p2), .val (.int p3), .val (.int p4), .val (.int p5), .val (.ref b7), .val (.int ((p5 &&& (7 : Int32)) % (5 : Int32))), .val (.int ((((p5.toUInt32 >>> ((3 : Int32) &&& 31).toUInt32).toInt32) &&& (7 : Int32)) % (5 : Int32))), .val (.int (0 : Int32)), .val (.int z36), .val (.int z38)] [(.int (2 : Int32)), (.int (0 : Int32))])) (fun t k => XS.iconst X35.here hx rfl (hb hby at_105) k) ?_
    obtain ⟨z42, hz42⟩ : ∃ z : Int32, z = (if (2 : Int32) < z36 then (if (nar .char z22) = (46 : Int32) then (2 : Int32) else z38) else z38) := ⟨_, rfl⟩
    refine own_pre (B := T35.setTop (mkF m 127 #[.val (.int p1), .val (.int p2), .val (.int p3), .val (.int p4), .val (.int p5), .val (.ref b7), .val (.int ((p5 &&& (7 : Int32)) % (5 : Int32))), .val (.int ((((p5.toUInt32 >>> ((3 : Int32) &&& 31).toUInt32).toInt32) &&& (7 : Int32)) % (5 : Int32))), .val (.int (0 : Int32)), .val (.int z36), .val (.int z42)] [])) (fun t k => ?_) ?_
    · refine XS.icmpNo X35.here hx rfl (hb hby at_106) rfl (flt (by decide : ¬ ((2 : Int32) < (0 : Int32)))).2.2.1 ?_
      show Steps p.tables e below (T35.setTop (mkF m 109 #[.val (.int p1), .val (.int p2), .val (.int p3), .val (.int p4), .val (.int p5), .val (.ref b7), .val (.int ((p5 &&& (7 : Int32)) % (5 : Int32))), .val (.int ((((p5.toUInt32 >>> ((3 : Int32) &&& 31).toUInt32).toInt32) &&& (7 : Int32)) % (5 : Int32))), .val (.int (0 : Int32)), .val (.int z36), .val (.int z38)] [])) _
      refine XS.iconst X35.here hx rfl (hb hby at_109) ?_
      show Steps p.tables e below (T35.setTop (mkF m 110 #[.val (.int p1), .val (.int p2), .val (.int p3), .val (.int p4), .val (.int p5), .val (.ref b7), .val (.int ((p5 &&& (7 : Int32)) % (5 : Int32))), .val (.int ((((p5.toUInt32 >>> ((3 : Int32) &&& 31).toUInt32).toInt32) &&& (7 : Int32)) % (5 : Int32))), .val (.int (0 : Int32)), .val (.int z36), .val (.int z38)] [(.int (2 : Int32))])) _
      refine XS.iload X35.here hx rfl (hb hby at_110) rfl ?_
      show Steps p.tables e below (T35.setTop (mkF m 112 #[.val (.int p1), .val (.int p2), .val (.int p3), .val (.int p4), .val (.int p5), .val (.ref b7), .val (.int ((p5 &&& (7 : Int32)) % (5 : Int32))), .val (.int ((((p5.toUInt32 >>> ((3 : Int32) &&& 31).toUInt32).toInt32) &&& (7 : Int32)) % (5 : Int32))), .val (.int (0 : Int32)), .val (.int z36), .val (.int z38)] [(.int z36), (.int (2 : Int32))])) _
      by_cases hc112_43 : (2 : Int32) < z36
      · refine XS.icmpNo X35.here hx rfl (hb hby at_112) rfl (tlt hc112_43).2.1 ?_
        show Steps p.tables e below (T35.setTop (mkF m 115 #[.val (.int p1), .val (.int p2), .val (.int p3), .val (.int p4), .val (.int p5), .val (.ref b7), .val (.int ((p5 &&& (7 : Int32)) % (5 : Int32))), .val (.int ((((p5.toUInt32 >>> ((3 : Int32) &&& 31).toUInt32).toInt32) &&& (7 : Int32)) % (5 : Int32))), .val (.int (0 : Int32)), .val (.int z36), .val (.int z38)] [])) _
        refine XS.aload X35.here hx rfl (hb hby at_115) rfl rfl ?_
        show Steps p.tables e below (T35.setTop (mkF m 117 #[.val (.int p1), .val (.int p2), .val (.int p3), .val (.int p4), .val (.int p5), .val (.ref b7), .val (.int ((p5 &&& (7 : Int32)) % (5 : Int32))), .val (.int ((((p5.toUInt32 >>> ((3 : Int32) &&& 31).toUInt32).toInt32) &&& (7 : Int32)) % (5 : Int32))), .val (.int (0 : Int32)), .val (.int z36), .val (.int z38)] [(.ref b7)])) _
        refine XS.iconst X35.here hx rfl (hb hby at_117) ?_
        show Steps p.tables e below (T35.setTop (mkF m 118 #[.val (.int p1), .val (.int p2), .val (.int p3), .val (.int p4), .val (.int p5), .val (.ref b7), .val (.int ((p5 &&& (7 : Int32)) % (5 : Int32))), .val (.int ((((p5.toUInt32 >>> ((3 : Int32) &&& 31).toUInt32).toInt32) &&& (7 : Int32)) % (5 : Int32))), .val (.int (0 : Int32)), .val (.int z36), .val (.int z38)] [(.int (2 : Int32)), (.ref b7)])) _
        obtain ⟨cl44, Ar44, q44, S44, N44v, H44v, G44v⟩ := V31
        have V31 : Arv Z h31 b7 k7 .char (4 : Int32) [(.int (nar .char z10)), (.int (nar .char z16)), (.int (nar .char z22)), (.int (nar .char z28))] (.int (0 : Int32)) := ⟨cl44, Ar44, q44, S44, N44v, H44v, G44v⟩
        have hin44 : ¬ ((2 : Int32) < 0 ∨ cl44.slots.size ≤ ((2 : Int32)).toNatClampNeg) := inb_of S44 ⟨by decide, by decide⟩
        have hat44 : cl44.slots[((2 : Int32)).toNatClampNeg]? = some (.int (nar .char z22)) := H44v.at hin44 rfl
        refine X35.caload hx (j := (2 : Int32)) (v := (.int (nar .char z22))) (by rw [e35]; exact Ar44.1) (State.isArrayOf_alike hZ.alike Ar44.2.1) Ar44.2.2 hin44 hat44 (g := (mkF m 118 #[.val (.int p1), .val (.int p2), .val (.int p3), .val (.int p4), .val (.int p5), .val (.ref b7), .val (.int ((p5 &&& (7 : Int32)) % (5 : Int32))), .val (.int ((((p5.toUInt32 >>> ((3 : Int32) &&& 31).toUInt32).toInt32) &&& (7 : Int32)) % (5 : Int32))), .val (.int (0 : Int32)), .val (.int z36), .val (.int z38)] [(.int (2 : Int32)), (.ref b7)])) rfl rfl (hb hby at_118) _ ?_
        show Steps p.tables e below (T35.setTop (mkF m 119 #[.val (.int p1), .val (.int p2), .val (.int p3), .val (.int p4), .val (.int p5), .val (.ref b7), .val (.int ((p5 &&& (7 : Int32)) % (5 : Int32))), .val (.int ((((p5.toUInt32 >>> ((3 : Int32) &&& 31).toUInt32).toInt32) &&& (7 : Int32)) % (5 : Int32))), .val (.int (0 : Int32)), .val (.int z36), .val (.int z38)] [(.int (nar .char z22))])) _
        refine XS.bipush X35.here hx rfl (hb hby at_119) ?_
        show Steps p.tables e below (T35.setTop (mkF m 121 #[.val (.int p1), .val (.int p2), .val (.int p3), .val (.int p4), .val (.int p5), .val (.ref b7), .val (.int ((p5 &&& (7 : Int32)) % (5 : Int32))), .val (.int ((((p5.toUInt32 >>> ((3 : Int32) &&& 31).toUInt32).toInt32) &&& (7 : Int32)) % (5 : Int32))), .val (.int (0 : Int32)), .val (.int z36), .val (.int z38)] [(.int (46 : Int32)), (.int (nar .char z22))])) _
        by_cases hc121_45 : (nar .char z22) = (46 : Int32)
        · refine XS.icmpNo X35.here hx rfl (hb hby at_121) rfl (teq hc121_45).2 ?_
          show Steps p.tables e below (T35.setTop (mkF m 124 #[.val (.int p1), .val (.int p2), .val (.int p3), .val (.int p4), .val (.int p5), .val (.ref b7), .val (.int ((p5 &&& (7 : Int32)) % (5 : Int32))), .val (.int ((((p5.toUInt32 >>> ((3 : Int32) &&& 31).toUInt32).toInt32) &&& (7 : Int32)) % (5 : Int32))), .val (.int (0 : Int32)), .val (.int z36), .val (.int z38)] [])) _
          refine XS.iconst X35.here hx rfl (hb hby at_124) ?_
          show Steps p.tables e below (T35.setTop (mkF m 125 #[.val (.int p1), .val (.int p2), .val (.int p3), .val (.int p4), .val (.int p5), .val (.ref b7), .val (.int ((p5 &&& (7 : Int32)) % (5 : Int32))), .val (.int ((((p5.toUInt32 >>> ((3 : Int32) &&& 31).toUInt32).toInt32) &&& (7 : Int32)) % (5 : Int32))), .val (.int (0 : Int32)), .val (.int z36), .val (.int z38)] [(.int (2 : Int32))])) _
          refine XS.istore X35.here hx rfl (hb hby at_125) rfl (l' := #[.val (.int p1), .val (.int p2), .val (.int p3), .val (.int p4), .val (.int p5), .val (.ref b7), .val (.int ((p5 &&& (7 : Int32)) % (5 : Int32))), .val (.int ((((p5.toUInt32 >>> ((3 : Int32) &&& 31).toUInt32).toInt32) &&& (7 : Int32)) % (5 : Int32))), .val (.int (0 : Int32)), .val (.int z36), .val (.int (2 : Int32))]) rfl ?_
          show Steps p.tables e below (T35.setTop (mkF m 127 #[.val (.int p1), .val (.int p2), .val (.int p3), .val (.int p4), .val (.int p5), .val (.ref b7), .val (.int ((p5 &&& (7 : Int32)) % (5 : Int32))), .val (.int ((((p5.toUInt32 >>> ((3 : Int32) &&& 31).toUInt32).toInt32) &&& (7 : Int32)) % (5 : Int32))), .val (.int (0 : Int32)), .val (.int z36), .val (.int (2 : Int32))] [])) _
          rw [if_pos hc112_43, if_pos hc121_45] at hz42
          subst hz42
          exact k
        · refine XS.icmpYes X35.here hx rfl (pc0 := 121) (pc' := 127) rfl (hb hby at_121) rfl (feq hc121_45).2 (by decide) (by decide) ?_
          show Steps p.tables e below (T35.setTop (mkF m 127 #[.val (.int p1), .val (.int p2), .val (.int p3), .val (.int p4), .val (.int p5), .val (.ref b7), .val (.int ((p5 &&& (7 : Int32)) % (5 : Int32))), .val (.int ((((p5.toUInt32 >>> ((3 : Int32) &&& 31).toUInt32).toInt32) &&& (7 : Int32)) % (5 : Int32))), .val (.int (0 : Int32)), .val (.int z36), .val (.int z38)] [])) _
          rw [if_pos hc112_43, if_neg hc121_45] at hz42
          subst hz42
          exact k
      · refine XS.icmpYes X35.here hx rfl (pc0 := 112) (pc' := 127) rfl (hb hby at_112) rfl (flt hc112_43).2.1 (by decide) (by decide) ?_
        show Steps p.tables e below (T35.setTop (mkF m 127 #[.val (.int p1), .val (.int p2), .val (.int p3), .val (.int p4), .val (.int p5), .val (.ref b7), .val (.int ((p5 &&& (7 : Int32)) % (5 : Int32))), .val (.int ((((p5.toUInt32 >>> ((3 : Int32) &&& 31).toUInt32).toInt32) &&& (7 : Int32)) % (5 : Int32))), .val (.int (0 : Int32)), .val (.int z36), .val (.int z38)] [])) _
        rw [if_neg hc112_43] at hz42
        subst hz42
        exact k
    refine own_pre (B := T35.setTop (mkF m 129 #[.val (.int p1), .val (.int p2), .val (.int p3), .val (.int p4), .val (.int p5), .val (.ref b7), .val (.int ((p5 &&& (7 : Int32)) % (5 : Int32))), .val (.int ((((p5.toUInt32 >>> ((3 : Int32) &&& 31).toUInt32).toInt32) &&& (7 : Int32)) % (5 : Int32))), .val (.int (0 : Int32)), .val (.int z36), .val (.int z42)] [(.int (0 : Int32))])) (fun t k => XS.iload X35.here hx rfl (hb hby at_127) rfl k) ?_
    refine own_pre (B := T35.setTop (mkF m 130 #[.val (.int p1), .val (.int p2), .val (.int p3), .val (.int p4), .val (.int p5), .val (.ref b7), .val (.int ((p5 &&& (7 : Int32)) % (5 : Int32))), .val (.int ((((p5.toUInt32 >>> ((3 : Int32) &&& 31).toUInt32).toInt32) &&& (7 : Int32)) % (5 : Int32))), .val (.int (0 : Int32)), .val (.int z36), .val (.int z42)] [(.int (1 : Int32)), (.int (0 : Int32))])) (fun t k => XS.iconst X35.here hx rfl (hb hby at_129) k) ?_
    obtain ⟨z46, hz46⟩ : ∃ z : Int32, z = (if (1 : Int32) < z36 then (if (nar .char z16) = (46 : Int32) then (1 : Int32) else z42) else z42) := ⟨_, rfl⟩
    refine own_pre (B := T35.setTop (mkF m 151 #[.val (.int p1), .val (.int p2), .val (.int p3), .val (.int p4), .val (.int p5), .val (.ref b7), .val (.int ((p5 &&& (7 : Int32)) % (5 : Int32))), .val (.int ((((p5.toUInt32 >>> ((3 : Int32) &&& 31).toUInt32).toInt32) &&& (7 : Int32)) % (5 : Int32))), .val (.int (0 : Int32)), .val (.int z36), .val (.int z46)] [])) (fun t k => ?_) ?_
    · refine XS.icmpNo X35.here hx rfl (hb hby at_130) rfl (flt (by decide : ¬ ((1 : Int32) < (0 : Int32)))).2.2.1 ?_
      show Steps p.tables e below (T35.setTop (mkF m 133 #[.val (.int p1), .val (.int p2), .val (.int p3), .val (.int p4), .val (.int p5), .val (.ref b7), .val (.int ((p5 &&& (7 : Int32)) % (5 : Int32))), .val (.int ((((p5.toUInt32 >>> ((3 : Int32) &&& 31).toUInt32).toInt32) &&& (7 : Int32)) % (5 : Int32))), .val (.int (0 : Int32)), .val (.int z36), .val (.int z42)] [])) _
      refine XS.iconst X35.here hx rfl (hb hby at_133) ?_
      show Steps p.tables e below (T35.setTop (mkF m 134 #[.val (.int p1), .val (.int p2), .val (.int p3), .val (.int p4), .val (.int p5), .val (.ref b7), .val (.int ((p5 &&& (7 : Int32)) % (5 : Int32))), .val (.int ((((p5.toUInt32 >>> ((3 : Int32) &&& 31).toUInt32).toInt32) &&& (7 : Int32)) % (5 : Int32))), .val (.int (0 : Int32)), .val (.int z36), .val (.int z42)] [(.int (1 : Int32))])) _
      refine XS.iload X35.here hx rfl (hb hby at_134) rfl ?_
      show Steps p.tables e below (T35.setTop (mkF m 136 #[.val (.int p1), .val (.int p2), .val (.int p3), .val (.int p4), .val (.int p5), .val (.ref b7), .val (.int ((p5 &&& (7 : Int32)) % (5 : Int32))), .val (.int ((((p5.toUInt32 >>> ((3 : Int32) &&& 31).toUInt32).toInt32) &&& (7 : Int32)) % (5 : Int32))), .val (.int (0 : Int32)), .val (.int z36), .val (.int z42)] [(.int z36), (.int (1 : Int32))])) _
      by_cases hc136_47 : (1 : Int32) < z36
      · refine XS.icmpNo X35.here hx rfl (hb hby at_136) rfl (tlt hc136_47).2.1 ?_
        show Steps p.tables e below (T35.setTop (mkF m 139 #[.val (.int p1), .val (.int p2), .val (.int p3), .val (.int p4), .val (.int p5), .val (.ref b7), .val (.int ((p5 &&& (7 : Int32)) % (5 : Int32))), .val (.int ((((p5.toUInt32 >>> ((3 : Int32) &&& 31).toUInt32).toInt32) &&& (7 : Int32)) % (5 : Int32))), .val (.int (0 : Int32)), .val (.int z36), .val (.int z42)] [])) _
        refine XS.aload X35.here hx rfl (hb hby at_139) rfl rfl ?_
        show Steps p.tables e below (T35.setTop (mkF m 141 #[.val (.int p1), .val (.int p2), .val (.int p3), .val (.int p4), .val (.int p5), .val (.ref b7), .val (.int ((p5 &&& (7 : Int32)) % (5 : Int32))), .val (.int ((((p5.toUInt32 >>> ((3 : Int32) &&& 31).toUInt32).toInt32) &&& (7 : Int32)) % (5 : Int32))), .val (.int (0 : Int32)), .val (.int z36), .val (.int z42)] [(.ref b7)])) _
        refine XS.iconst X35.here hx rfl (hb hby at_141) ?_
        show Steps p.tables e below (T35.setTop (mkF m 142 #[.val (.int p1), .val (.int p2), .val (.int p3), .val (.int p4), .val (.int p5), .val (.ref b7), .val (.int ((p5 &&& (7 : Int32)) % (5 : Int32))), .val (.int ((((p5.toUInt32 >>> ((3 : Int32) &&& 31).toUInt32).toInt32) &&& (7 : Int32)) % (5 : Int32))), .val (.int (0 : Int32)), .val (.int z36), .val (.int z42)] [(.int (1 : Int32)), (.ref b7)])) _
        obtain ⟨cl48, Ar48, q48, S48, N48v, H48v, G48v⟩ := V31
        have V31 : Arv Z h31 b7 k7 .char (4 : Int32) [(.int (nar .char z10)), (.int (nar .char z16)), (.int (nar .char z22)), (.int (nar .char z28))] (.int (0 : Int32)) := ⟨cl48, Ar48, q48, S48, N48v, H48v, G48v⟩
        have hin48 : ¬ ((1 : Int32) < 0 ∨ cl48.slots.size ≤ ((1 : Int32)).toNatClampNeg) := inb_of S48 ⟨by decide, by decide⟩
        have hat48 : cl48.slots[((1 : Int32)).toNatClampNeg]? = some (.int (nar .char z16)) := H48v.at hin48 rfl
        refine X35.caload hx (j := (1 : Int32)) (v := (.int (nar .char z16))) (by rw [e35]; exact Ar48.1) (State.isArrayOf_alike hZ.alike Ar48.2.1) Ar48.2.2 hin48 hat48 (g := (mkF m 142 #[.val (.int p1), .val (.int p2), .val (.int p3), .val (.int p4), .val (.int p5), .val (.ref b7), .val (.int ((p5 &&& (7 : Int32)) % (5 : Int32))), .val (.int ((((p5.toUInt32 >>> ((3 : Int32) &&& 31).toUInt32).toInt32) &&& (7 : Int32)) % (5 : Int32))), .val (.int (0 : Int32)), .val (.int z36), .val (.int z42)] [(.int (1 : Int32)), (.ref b7)])) rfl rfl (hb hby at_142) _ ?_
        show Steps p.tables e below (T35.setTop (mkF m 143 #[.val (.int p1), .val (.int p2), .val (.int p3), .val (.int p4), .val (.int p5), .val (.ref b7), .val (.int ((p5 &&& (7 : Int32)) % (5 : Int32))), .val (.int ((((p5.toUInt32 >>> ((3 : Int32) &&& 31).toUInt32).toInt32) &&& (7 : Int32)) % (5 : Int32))), .val (.int (0 : Int32)), .val (.int z36), .val (.int z42)] [(.int (nar .char z16))])) _
        refine XS.bipush X35.here hx rfl (hb hby at_143) ?_
        show Steps p.tables e below (T35.setTop (mkF m 145 #[.val (.int p1), .val (.int p2), .val (.int p3), .val (.int p4), .val (.int p5), .val (.ref b7), .val (.int ((p5 &&& (7 : Int32)) % (5 : Int32))), .val (.int ((((p5.toUInt32 >>> ((3 : Int32) &&& 31).toUInt32).toInt32) &&& (7 : Int32)) % (5 : Int32))), .val (.int (0 : Int32)), .val (.int z36), .val (.int z42)] [(.int (46 : Int32)), (.int (nar .char z16))])) _
        by_cases hc145_49 : (nar .char z16) = (46 : Int32)
        · refine XS.icmpNo X35.here hx rfl (hb hby at_145) rfl (teq hc145_49).2 ?_
          show Steps p.tables e below (T35.setTop (mkF m 148 #[.val (.int p1), .val (.int p2), .val (.int p3), .val (.int p4), .val (.int p5), .val (.ref b7), .val (.int ((p5 &&& (7 : Int32)) % (5 : Int32))), .val (.int ((((p5.toUInt32 >>> ((3 : Int32) &&& 31).toUInt32).toInt32) &&& (7 : Int32)) % (5 : Int32))), .val (.int (0 : Int32)), .val (.int z36), .val (.int z42)] [])) _
          refine XS.iconst X35.here hx rfl (hb hby at_148) ?_
          show Steps p.tables e below (T35.setTop (mkF m 149 #[.val (.int p1), .val (.int p2), .val (.int p3), .val (.int p4), .val (.int p5), .val (.ref b7), .val (.int ((p5 &&& (7 : Int32)) % (5 : Int32))), .val (.int ((((p5.toUInt32 >>> ((3 : Int32) &&& 31).toUInt32).toInt32) &&& (7 : Int32)) % (5 : Int32))), .val (.int (0 : Int32)), .val (.int z36), .val (.int z42)] [(.int (1 : Int32))])) _
          refine XS.istore X35.here hx rfl (hb hby at_149) rfl (l' := #[.val (.int p1), .val (.int p2), .val (.int p3), .val (.int p4), .val (.int p5), .val (.ref b7), .val (.int ((p5 &&& (7 : Int32)) % (5 : Int32))), .val (.int ((((p5.toUInt32 >>> ((3 : Int32) &&& 31).toUInt32).toInt32) &&& (7 : Int32)) % (5 : Int32))), .val (.int (0 : Int32)), .val (.int z36), .val (.int (1 : Int32))]) rfl ?_
          show Steps p.tables e below (T35.setTop (mkF m 151 #[.val (.int p1), .val (.int p2), .val (.int p3), .val (.int p4), .val (.int p5), .val (.ref b7), .val (.int ((p5 &&& (7 : Int32)) % (5 : Int32))), .val (.int ((((p5.toUInt32 >>> ((3 : Int32) &&& 31).toUInt32).toInt32) &&& (7 : Int32)) % (5 : Int32))), .val (.int (0 : Int32)), .val (.int z36), .val (.int (1 : Int32))] [])) _
          rw [if_pos hc136_47, if_pos hc145_49] at hz46
          subst hz46
          exact k
        · refine XS.icmpYes X35.here hx rfl (pc0 := 145) (pc' := 151) rfl (hb hby at_145) rfl (feq hc145_49).2 (by decide) (by decide) ?_
          show Steps p.tables e below (T35.setTop (mkF m 151 #[.val (.int p1), .val (.int p2), .val (.int p3), .val (.int p4), .val (.int p5), .val (.ref b7), .val (.int ((p5 &&& (7 : Int32)) % (5 : Int32))), .val (.int ((((p5.toUInt32 >>> ((3 : Int32) &&& 31).toUInt32).toInt32) &&& (7 : Int32)) % (5 : Int32))), .val (.int (0 : Int32)), .val (.int z36), .val (.int z42)] [])) _
          rw [if_pos hc136_47, if_neg hc145_49] at hz46
          subst hz46
          exact k
      · refine XS.icmpYes X35.here hx rfl (pc0 := 136) (pc' := 151) rfl (hb hby at_136) rfl (flt hc136_47).2.1 (by decide) (by decide) ?_
        show Steps p.tables e below (T35.setTop (mkF m 151 #[.val (.int p1), .val (.int p2), .val (.int p3), .val (.int p4), .val (.int p5), .val (.ref b7), .val (.int ((p5 &&& (7 : Int32)) % (5 : Int32))), .val (.int ((((p5.toUInt32 >>> ((3 : Int32) &&& 31).toUInt32).toInt32) &&& (7 : Int32)) % (5 : Int32))), .val (.int (0 : Int32)), .val (.int z36), .val (.int z42)] [])) _
        rw [if_neg hc136_47] at hz46
        subst hz46
        exact k
    refine own_pre (B := T35.setTop (mkF m 153 #[.val (.int p1), .val (.int p2), .val (.int p3), .val (.int p4), .val (.int p5), .val (.ref b7), .val (.int ((p5 &&& (7 : Int32)) % (5 : Int32))), .val (.int ((((p5.toUInt32 >>> ((3 : Int32) &&& 31).toUInt32).toInt32) &&& (7 : Int32)) % (5 : Int32))), .val (.int (0 : Int32)), .val (.int z36), .val (.int z46)] [(.int (0 : Int32))])) (fun t k => XS.iload X35.here hx rfl (hb hby at_151) rfl k) ?_
    obtain ⟨z50, hz50⟩ : ∃ z : Int32, z = (if (0 : Int32) < z36 then (if (nar .char z10) = (46 : Int32) then (0 : Int32) else z46) else z46) := ⟨_, rfl⟩
    refine own_pre (B := T35.setTop (mkF m 174 #[.val (.int p1), .val (.int p2), .val (.int p3), .val (.int p4), .val (.int p5), .val (.ref b7), .val (.int ((p5 &&& (7 : Int32)) % (5 : Int32))), .val (.int ((((p5.toUInt32 >>> ((3 : Int32) &&& 31).toUInt32).toInt32) &&& (7 : Int32)) % (5 : Int32))), .val (.int (0 : Int32)), .val (.int z36), .val (.int z50)] [])) (fun t k => ?_) ?_
    · refine XS.ifNo X35.here hx rfl (hb hby at_153) rfl ((if0 _ _).trans (flt (by decide : ¬ ((0 : Int32) < (0 : Int32)))).2.2.1) ?_
      show Steps p.tables e below (T35.setTop (mkF m 156 #[.val (.int p1), .val (.int p2), .val (.int p3), .val (.int p4), .val (.int p5), .val (.ref b7), .val (.int ((p5 &&& (7 : Int32)) % (5 : Int32))), .val (.int ((((p5.toUInt32 >>> ((3 : Int32) &&& 31).toUInt32).toInt32) &&& (7 : Int32)) % (5 : Int32))), .val (.int (0 : Int32)), .val (.int z36), .val (.int z46)] [])) _
      refine XS.iconst X35.here hx rfl (hb hby at_156) ?_
      show Steps p.tables e below (T35.setTop (mkF m 157 #[.val (.int p1), .val (.int p2), .val (.int p3), .val (.int p4), .val (.int p5), .val (.ref b7), .val (.int ((p5 &&& (7 : Int32)) % (5 : Int32))), .val (.int ((((p5.toUInt32 >>> ((3 : Int32) &&& 31).toUInt32).toInt32) &&& (7 : Int32)) % (5 : Int32))), .val (.int (0 : Int32)), .val (.int z36), .val (.int z46)] [(.int (0 : Int32))])) _
      refine XS.iload X35.here hx rfl (hb hby at_157) rfl ?_
      show Steps p.tables e below (T35.setTop (mkF m 159 #[.val (.int p1), .val (.int p2), .val (.int p3), .val (.int p4), .val (.int p5), .val (.ref b7), .val (.int ((p5 &&& (7 : Int32)) % (5 : Int32))), .val (.int ((((p5.toUInt32 >>> ((3 : Int32) &&& 31).toUInt32).toInt32) &&& (7 : Int32)) % (5 : Int32))), .val (.int (0 : Int32)), .val (.int z36), .val (.int z46)] [(.int z36), (.int (0 : Int32))])) _
      by_cases hc159_51 : (0 : Int32) < z36
      · refine XS.icmpNo X35.here hx rfl (hb hby at_159) rfl (tlt hc159_51).2.1 ?_
        show Steps p.tables e below (T35.setTop (mkF m 162 #[.val (.int p1), .val (.int p2), .val (.int p3), .val (.int p4), .val (.int p5), .val (.ref b7), .val (.int ((p5 &&& (7 : Int32)) % (5 : Int32))), .val (.int ((((p5.toUInt32 >>> ((3 : Int32) &&& 31).toUInt32).toInt32) &&& (7 : Int32)) % (5 : Int32))), .val (.int (0 : Int32)), .val (.int z36), .val (.int z46)] [])) _
        refine XS.aload X35.here hx rfl (hb hby at_162) rfl rfl ?_
        show Steps p.tables e below (T35.setTop (mkF m 164 #[.val (.int p1), .val (.int p2), .val (.int p3), .val (.int p4), .val (.int p5), .val (.ref b7), .val (.int ((p5 &&& (7 : Int32)) % (5 : Int32))), .val (.int ((((p5.toUInt32 >>> ((3 : Int32) &&& 31).toUInt32).toInt32) &&& (7 : Int32)) % (5 : Int32))), .val (.int (0 : Int32)), .val (.int z36), .val (.int z46)] [(.ref b7)])) _
        refine XS.iconst X35.here hx rfl (hb hby at_164) ?_
        show Steps p.tables e below (T35.setTop (mkF m 165 #[.val (.int p1), .val (.int p2), .val (.int p3), .val (.int p4), .val (.int p5), .val (.ref b7), .val (.int ((p5 &&& (7 : Int32)) % (5 : Int32))), .val (.int ((((p5.toUInt32 >>> ((3 : Int32) &&& 31).toUInt32).toInt32) &&& (7 : Int32)) % (5 : Int32))), .val (.int (0 : Int32)), .val (.int z36), .val (.int z46)] [(.int (0 : Int32)), (.ref b7)])) _
        obtain ⟨cl52, Ar52, q52, S52, N52v, H52v, G52v⟩ := V31
        have V31 : Arv Z h31 b7 k7 .char (4 : Int32) [(.int (nar .char z10)), (.int (nar .char z16)), (.int (nar .char z22)), (.int (nar .char z28))] (.int (0 : Int32)) := ⟨cl52, Ar52, q52, S52, N52v, H52v, G52v⟩
        have hin52 : ¬ ((0 : Int32) < 0 ∨ cl52.slots.size ≤ ((0 : Int32)).toNatClampNeg) := inb_of S52 ⟨by decide, by decide⟩
        have hat52 : cl52.slots[((0 : Int32)).toNatClampNeg]? = some (.int (nar .char z10)) := H52v.at hin52 rfl
        refine X35.caload hx (j := (0 : Int32)) (v := (.int (nar .char z10))) (by rw [e35]; exact Ar52.1) (State.isArrayOf_alike hZ.alike Ar52.2.1) Ar52.2.2 hin52 hat52 (g := (mkF m 165 #[.val (.int p1), .val (.int p2), .val (.int p3), .val (.int p4), .val (.int p5), .val (.ref b7), .val (.int ((p5 &&& (7 : Int32)) % (5 : Int32))), .val (.int ((((p5.toUInt32 >>> ((3 : Int32) &&& 31).toUInt32).toInt32) &&& (7 : Int32)) % (5 : Int32))), .val (.int (0 : Int32)), .val (.int z36), .val (.int z46)] [(.int (0 : Int32)), (.ref b7)])) rfl rfl (hb hby at_165) _ ?_
        show Steps p.tables e below (T35.setTop (mkF m 166 #[.val (.int p1), .val (.int p2), .val (.int p3), .val (.int p4), .val (.int p5), .val (.ref b7), .val (.int ((p5 &&& (7 : Int32)) % (5 : Int32))), .val (.int ((((p5.toUInt32 >>> ((3 : Int32) &&& 31).toUInt32).toInt32) &&& (7 : Int32)) % (5 : Int32))), .val (.int (0 : Int32)), .val (.int z36), .val (.int z46)] [(.int (nar .char z10))])) _
        refine XS.bipush X35.here hx rfl (hb hby at_166) ?_
        show Steps p.tables e below (T35.setTop (mkF m 168 #[.val (.int p1), .val (.int p2), .val (.int p3), .val (.int p4), .val (.int p5), .val (.ref b7), .val (.int ((p5 &&& (7 : Int32)) % (5 : Int32))), .val (.int ((((p5.toUInt32 >>> ((3 : Int32) &&& 31).toUInt32).toInt32) &&& (7 : Int32)) % (5 : Int32))), .val (.int (0 : Int32)), .val (.int z36), .val (.int z46)] [(.int (46 : Int32)), (.int (nar .char z10))])) _
        by_cases hc168_53 : (nar .char z10) = (46 : Int32)
        · refine XS.icmpNo X35.here hx rfl (hb hby at_168) rfl (teq hc168_53).2 ?_
          show Steps p.tables e below (T35.setTop (mkF m 171 #[.val (.int p1), .val (.int p2), .val (.int p3), .val (.int p4), .val (.int p5), .val (.ref b7), .val (.int ((p5 &&& (7 : Int32)) % (5 : Int32))), .val (.int ((((p5.toUInt32 >>> ((3 : Int32) &&& 31).toUInt32).toInt32) &&& (7 : Int32)) % (5 : Int32))), .val (.int (0 : Int32)), .val (.int z36), .val (.int z46)] [])) _
          refine XS.iconst X35.here hx rfl (hb hby at_171) ?_
          show Steps p.tables e below (T35.setTop (mkF m 172 #[.val (.int p1), .val (.int p2), .val (.int p3), .val (.int p4), .val (.int p5), .val (.ref b7), .val (.int ((p5 &&& (7 : Int32)) % (5 : Int32))), .val (.int ((((p5.toUInt32 >>> ((3 : Int32) &&& 31).toUInt32).toInt32) &&& (7 : Int32)) % (5 : Int32))), .val (.int (0 : Int32)), .val (.int z36), .val (.int z46)] [(.int (0 : Int32))])) _
          refine XS.istore X35.here hx rfl (hb hby at_172) rfl (l' := #[.val (.int p1), .val (.int p2), .val (.int p3), .val (.int p4), .val (.int p5), .val (.ref b7), .val (.int ((p5 &&& (7 : Int32)) % (5 : Int32))), .val (.int ((((p5.toUInt32 >>> ((3 : Int32) &&& 31).toUInt32).toInt32) &&& (7 : Int32)) % (5 : Int32))), .val (.int (0 : Int32)), .val (.int z36), .val (.int (0 : Int32))]) rfl ?_
          show Steps p.tables e below (T35.setTop (mkF m 174 #[.val (.int p1), .val (.int p2), .val (.int p3), .val (.int p4), .val (.int p5), .val (.ref b7), .val (.int ((p5 &&& (7 : Int32)) % (5 : Int32))), .val (.int ((((p5.toUInt32 >>> ((3 : Int32) &&& 31).toUInt32).toInt32) &&& (7 : Int32)) % (5 : Int32))), .val (.int (0 : Int32)), .val (.int z36), .val (.int (0 : Int32))] [])) _
          rw [if_pos hc159_51, if_pos hc168_53] at hz50
          subst hz50
          exact k
        · refine XS.icmpYes X35.here hx rfl (pc0 := 168) (pc' := 174) rfl (hb hby at_168) rfl (feq hc168_53).2 (by decide) (by decide) ?_
          show Steps p.tables e below (T35.setTop (mkF m 174 #[.val (.int p1), .val (.int p2), .val (.int p3), .val (.int p4), .val (.int p5), .val (.ref b7), .val (.int ((p5 &&& (7 : Int32)) % (5 : Int32))), .val (.int ((((p5.toUInt32 >>> ((3 : Int32) &&& 31).toUInt32).toInt32) &&& (7 : Int32)) % (5 : Int32))), .val (.int (0 : Int32)), .val (.int z36), .val (.int z46)] [])) _
          rw [if_pos hc159_51, if_neg hc168_53] at hz50
          subst hz50
          exact k
      · refine XS.icmpYes X35.here hx rfl (pc0 := 159) (pc' := 174) rfl (hb hby at_159) rfl (flt hc159_51).2.1 (by decide) (by decide) ?_
        show Steps p.tables e below (T35.setTop (mkF m 174 #[.val (.int p1), .val (.int p2), .val (.int p3), .val (.int p4), .val (.int p5), .val (.ref b7), .val (.int ((p5 &&& (7 : Int32)) % (5 : Int32))), .val (.int ((((p5.toUInt32 >>> ((3 : Int32) &&& 31).toUInt32).toInt32) &&& (7 : Int32)) % (5 : Int32))), .val (.int (0 : Int32)), .val (.int z36), .val (.int z46)] [])) _
        rw [if_neg hc159_51] at hz50
        subst hz50
        exact k
    refine own_pre (B := T35.setTop (mkF m 176 #[.val (.int p1), .val (.int p2), .val (.int p3), .val (.int p4), .val (.int p5), .val (.ref b7), .val (.int ((p5 &&& (7 : Int32)) % (5 : Int32))), .val (.int ((((p5.toUInt32 >>> ((3 : Int32) &&& 31).toUInt32).toInt32) &&& (7 : Int32)) % (5 : Int32))), .val (.int (0 : Int32)), .val (.int z36), .val (.int z50)] [(.ref b7)])) (fun t k => XS.aload X35.here hx rfl (hb hby at_174) rfl rfl k) ?_
    refine own_pre (B := T35.setTop (mkF m 178 #[.val (.int p1), .val (.int p2), .val (.int p3), .val (.int p4), .val (.int p5), .val (.ref b7), .val (.int ((p5 &&& (7 : Int32)) % (5 : Int32))), .val (.int ((((p5.toUInt32 >>> ((3 : Int32) &&& 31).toUInt32).toInt32) &&& (7 : Int32)) % (5 : Int32))), .val (.int (0 : Int32)), .val (.int z36), .val (.int z50)] [(.int (0 : Int32)), (.ref b7)])) (fun t k => XS.iload X35.here hx rfl (hb hby at_176) rfl k) ?_
    refine own_pre (B := T35.setTop (mkF m 180 #[.val (.int p1), .val (.int p2), .val (.int p3), .val (.int p4), .val (.int p5), .val (.ref b7), .val (.int ((p5 &&& (7 : Int32)) % (5 : Int32))), .val (.int ((((p5.toUInt32 >>> ((3 : Int32) &&& 31).toUInt32).toInt32) &&& (7 : Int32)) % (5 : Int32))), .val (.int (0 : Int32)), .val (.int z36), .val (.int z50)] [(.int z36), (.int (0 : Int32)), (.ref b7)])) (fun t k => XS.iload X35.here hx rfl (hb hby at_178) rfl k) ?_
    obtain ⟨_, _, ⟨T54, L54, k54, n54⟩, -, X54, ⟨Lc54, hQ54, l54, y54, z54⟩, st54⟩ := Jvm.LawKit.callS X35 hx (y := (⟨"com/example/anableps/anableps/name/Names", "labelEnd", "([CII)I"⟩ : MethodName)) hown (mvT hZ (hw _ (ow 12 rfl))) (mvT hZ (hw _ (ow 13 rfl))) (mvT hZ (hw _ (ow 14 rfl))) (mvT hZ (hw _ (ow 15 rfl))) (by decide) (backOf (W := 0) (rm4_0 l Z a0 hw [] b7 z36 k7 (nar .char z10) (nar .char z16) (nar .char z22) (nar .char z28) h31 n0 sz32 V31 mm37.2.2.1) hZ (hw _ (ow 15 rfl)) (hw _ (ow 14 rfl)) (by decide) (by decide)) (g := (mkF m 180 #[.val (.int p1), .val (.int p2), .val (.int p3), .val (.int p4), .val (.int p5), .val (.ref b7), .val (.int ((p5 &&& (7 : Int32)) % (5 : Int32))), .val (.int ((((p5.toUInt32 >>> ((3 : Int32) &&& 31).toUInt32).toInt32) &&& (7 : Int32)) % (5 : Int32))), .val (.int (0 : Int32)), .val (.int z36), .val (.int z50)] [(.int z36), (.int (0 : Int32)), (.ref b7)])) rfl (by rw [hml]; rfl) (argsL := [(.ref b7), (.int (0 : Int32)), (.int z36)]) (rest := []) (lenOf pd_2 rfl) rfl (by show 2 * 0 + _ ≤ _; exact Nat.le_of_eq rfl) (hb hby at_180) (fun _ _ => ⟨rfl, e35, (by decide : 1 + 0 ≤ _), (by decide : 4 + 0 ≤ _)⟩)
    dsimp only [Pt.U, Pt.locs, Pt.cells, Pt.slots] at X54 l54 y54 z54 st54 hQ54
    subst l54 y54 z54
    obtain ⟨rfl, N54q, e54⟩ := hQ54
    have N54 := Fr.app N35 N54q
    obtain ⟨z55, hz55⟩ : ∃ z : Int32, z = (own_f4_0 z36 (nar .char z10) (nar .char z16) (nar .char z22) (nar .char z28)) := ⟨_, rfl⟩
    rw [← hz55] at st54
    refine own_pre (B := T54.setTop (mkF m 183 #[.val (.int p1), .val (.int p2), .val (.int p3), .val (.int p4), .val (.int p5), .val (.ref b7), .val (.int ((p5 &&& (7 : Int32)) % (5 : Int32))), .val (.int ((((p5.toUInt32 >>> ((3 : Int32) &&& 31).toUInt32).toInt32) &&& (7 : Int32)) % (5 : Int32))), .val (.int (0 : Int32)), .val (.int z36), .val (.int z50)] [(.int z55)])) (fun t k => st54 t k) ?_
    refine own_pre (B := T54.setTop (mkF m 185 #[.val (.int p1), .val (.int p2), .val (.int p3), .val (.int p4), .val (.int p5), .val (.ref b7), .val (.int ((p5 &&& (7 : Int32)) % (5 : Int32))), .val (.int ((((p5.toUInt32 >>> ((3 : Int32) &&& 31).toUInt32).toInt32) &&& (7 : Int32)) % (5 : Int32))), .val (.int (0 : Int32)), .val (.int z36), .val (.int z50)] [(.int z50), (.int z55)])) (fun t k => XS.iload X54.here hx rfl (hb hby at_183) rfl k) ?_
    refine own_pre (B := T54.setTop (mkF m 188 #[.val (.int p1), .val (.int p2), .val (.int p3), .val (.int p4), .val (.int p5), .val (.ref b7), .val (.int ((p5 &&& (7 : Int32)) % (5 : Int32))), .val (.int ((((p5.toUInt32 >>> ((3 : Int32) &&& 31).toUInt32).toInt32) &&& (7 : Int32)) % (5 : Int32))), .val (.int (0 : Int32)), .val (.int z36), .val (.int z50)] [])) (fun t k => XS.icmpNo X54.here hx rfl (hb hby at_185) rfl (teq (own_law0 hz38 hz42 hz46 hz50 hz55 mm37.2.1 mm37.2.2.1 mm37.2.2.2)).2 k) ?_
    refine own_pre (B := T54.setTop (mkF m 189 #[.val (.int p1), .val (.int p2), .val (.int p3), .val (.int p4), .val (.int p5), .val (.ref b7), .val (.int ((p5 &&& (7 : Int32)) % (5 : Int32))), .val (.int ((((p5.toUInt32 >>> ((3 : Int32) &&& 31).toUInt32).toInt32) &&& (7 : Int32)) % (5 : Int32))), .val (.int (0 : Int32)), .val (.int z36), .val (.int z50)] [(.int (1 : Int32))])) (fun t k => XS.iconst X54.here hx rfl (hb hby at_188) k) ?_
    refine own_pre (B := T54.setTop (mkF m 193 #[.val (.int p1), .val (.int p2), .val (.int p3), .val (.int p4), .val (.int p5), .val (.ref b7), .val (.int ((p5 &&& (7 : Int32)) % (5 : Int32))), .val (.int ((((p5.toUInt32 >>> ((3 : Int32) &&& 31).toUInt32).toInt32) &&& (7 : Int32)) % (5 : Int32))), .val (.int (0 : Int32)), .val (.int z36), .val (.int z50)] [(.int (1 : Int32))])) (fun t k => XS.goto X54.here hx rfl (pc0 := 189) (pc' := 193) rfl (hb hby at_189) (by decide) (by decide) k) ?_
    obtain ⟨fsr56, hrr56, hrunr56, hendedr56, hWr56, hsamer56⟩ := X54.leave (v := some (.int (1 : Int32))) (fun h => by rw [Bd.returns] at h; cases h)
    refine ⟨_, _, (retN X54 hx (t := .boolean) Bd.returns (by simp) (hb hby at_193) hrr56), hrunr56, hendedr56, _, _, rfl, ?_, ⟨_, rfl⟩, hWr56, hsamer56.mono (by decide) (by decide)⟩
    show Q0 Z p1 p2 p3 p4 p5 h0 n0 _ T54.heap _
    rw [e54]
    exact ⟨rfl, N54⟩
  · subst hs
    refine own_pre (B := T35.setTop (mkF m 81 #[.val (.int p1), .val (.int p2), .val (.int p3), .val (.int p4), .val (.int p5), .val (.ref b7), .val (.int ((p5 &&& (7 : Int32)) % (5 : Int32))), .val (.int ((((p5.toUInt32 >>> ((3 : Int32) &&& 31).toUInt32).toInt32) &&& (7 : Int32)) % (5 : Int32))), .val (.int (1 : Int32)), .val (.int z36), .val (.int z36)] [(.int (1 : Int32))])) (fun t k => XS.iload X35.here hx rfl (hb hby at_79) rfl k) ?_
    refine own_pre (B := T35.setTop (mkF m 82 #[.val (.int p1), .val (.int p2), .val (.int p3), .val (.int p4), .val (.int p5), .val (.ref b7), .val (.int ((p5 &&& (7 : Int32)) % (5 : Int32))), .val (.int ((((p5.toUInt32 >>> ((3 : Int32) &&& 31).toUInt32).toInt32) &&& (7 : Int32)) % (5 : Int32))), .val (.int (1 : Int32)), .val (.int z36), .val (.int z36)] [(.int (3 : Int32)), (.int (1 : Int32))])) (fun t k => XS.iconst X35.here hx rfl (hb hby at_81) k) ?_
    obtain ⟨z57, hz57⟩ : ∃ z : Int32, z = (if (3 : Int32) < z36 then (if (nar .char z28) = (46 : Int32) then (3 : Int32) else z36) else z36) := ⟨_, rfl⟩
    refine own_pre (B := T35.setTop (mkF m 103 #[.val (.int p1), .val (.int p2), .val (.int p3), .val (.int p4), .val (.int p5), .val (.ref b7), .val (.int ((p5 &&& (7 : Int32)) % (5 : Int32))), .val (.int ((((p5.toUInt32 >>> ((3 : Int32) &&& 31).toUInt32).toInt32) &&& (7 : Int32)) % (5 : Int32))), .val (.int (1 : Int32)), .val (.int z36), .val (.int z57)] [])) (fun t k => ?_) ?_
    · refine XS.icmpNo X35.here hx rfl (hb hby at_82) rfl (flt (by decide : ¬ ((3 : Int32) < (1 : Int32)))).2.2.1 ?_
      show Steps p.tables e below (T35.setTop (mkF m 85 #[.val (.int p1), .val (.int p2), .val (.int p3), .val (.int p4), .val (.int p5), .val (.ref b7), .val (.int ((p5 &&& (7 : Int32)) % (5 : Int32))), .val (.int ((((p5.toUInt32 >>> ((3 : Int32) &&& 31).toUInt32).toInt32) &&& (7 : Int32)) % (5 : Int32))), .val (.int (1 : Int32)), .val (.int z36), .val (.int z36)] [])) _
      refine XS.iconst X35.here hx rfl (hb hby at_85) ?_
      show Steps p.tables e below (T35.setTop (mkF m 86 #[.val (.int p1), .val (.int p2), .val (.int p3), .val (.int p4), .val (.int p5), .val (.ref b7), .val (.int ((p5 &&& (7 : Int32)) % (5 : Int32))), .val (.int ((((p5.toUInt32 >>> ((3 : Int32) &&& 31).toUInt32).toInt32) &&& (7 : Int32)) % (5 : Int32))), .val (.int (1 : Int32)), .val (.int z36), .val (.int z36)] [(.int (3 : Int32))])) _
      refine XS.iload X35.here hx rfl (hb hby at_86) rfl ?_
      show Steps p.tables e below (T35.setTop (mkF m 88 #[.val (.int p1), .val (.int p2), .val (.int p3), .val (.int p4), .val (.int p5), .val (.ref b7), .val (.int ((p5 &&& (7 : Int32)) % (5 : Int32))), .val (.int ((((p5.toUInt32 >>> ((3 : Int32) &&& 31).toUInt32).toInt32) &&& (7 : Int32)) % (5 : Int32))), .val (.int (1 : Int32)), .val (.int z36), .val (.int z36)] [(.int z36), (.int (3 : Int32))])) _
      by_cases hc88_58 : (3 : Int32) < z36
      · refine XS.icmpNo X35.here hx rfl (hb hby at_88) rfl (tlt hc88_58).2.1 ?_
        show Steps p.tables e below (T35.setTop (mkF m 91 #[.val (.int p1), .val (.int p2), .val (.int p3), .val (.int p4), .val (.int p5), .val (.ref b7), .val (.int ((p5 &&& (7 : Int32)) % (5 : Int32))), .val (.int ((((p5.toUInt32 >>> ((3 : Int32) &&& 31).toUInt32).toInt32) &&& (7 : Int32)) % (5 : Int32))), .val (.int (1 : Int32)), .val (.int z36), .val (.int z36)] [])) _
        refine XS.aload X35.here hx rfl (hb hby at_91) rfl rfl ?_
        show Steps p.tables e below (T35.setTop (mkF m 93 #[.val (.int p1), .val (.int p2), .val (.int p3), .val (.int p4), .val (.int p5), .val (.ref b7), .val (.int ((p5 &&& (7 : Int32)) % (5 : Int32))), .val (.int ((((p5.toUInt32 >>> ((3 : Int32) &&& 31).toUInt32).toInt32) &&& (7 : Int32)) % (5 : Int32))), .val (.int (1 : Int32)), .val (.int z36), .val (.int z36)] [(.ref b7)])) _
        refine XS.iconst X35.here hx rfl (hb hby at_93) ?_
        show Steps p.tables e below (T35.setTop (mkF m 94 #[.val (.int p1), .val (.int p2), .val (.int p3), .val (.int p4), .val (.int p5), .val (.ref b7), .val (.int ((p5 &&& (7 : Int32)) % (5 : Int32))), .val (.int ((((p5.toUInt32 >>> ((3 : Int32) &&& 31).toUInt32).toInt32) &&& (7 : Int32)) % (5 : Int32))), .val (.int (1 : Int32)), .val (.int z36), .val (.int z36)] [(.int (3 : Int32)), (.ref b7)])) _
        obtain ⟨cl59, Ar59, q59, S59, N59v, H59v, G59v⟩ := V31
        have V31 : Arv Z h31 b7 k7 .char (4 : Int32) [(.int (nar .char z10)), (.int (nar .char z16)), (.int (nar .char z22)), (.int (nar .char z28))] (.int (0 : Int32)) := ⟨cl59, Ar59, q59, S59, N59v, H59v, G59v⟩
        have hin59 : ¬ ((3 : Int32) < 0 ∨ cl59.slots.size ≤ ((3 : Int32)).toNatClampNeg) := inb_of S59 ⟨by decide, by decide⟩
        have hat59 : cl59.slots[((3 : Int32)).toNatClampNeg]? = some (.int (nar .char z28)) := H59v.at hin59 rfl
        refine X35.caload hx (j := (3 : Int32)) (v := (.int (nar .char z28))) (by rw [e35]; exact Ar59.1) (State.isArrayOf_alike hZ.alike Ar59.2.1) Ar59.2.2 hin59 hat59 (g := (mkF m 94 #[.val (.int p1), .val (.int p2), .val (.int p3), .val (.int p4), .val (.int p5), .val (.ref b7), .val (.int ((p5 &&& (7 : Int32)) % (5 : Int32))), .val (.int ((((p5.toUInt32 >>> ((3 : Int32) &&& 31).toUInt32).toInt32) &&& (7 : Int32)) % (5 : Int32))), .val (.int (1 : Int32)), .val (.int z36), .val (.int z36)] [(.int (3 : Int32)), (.ref b7)])) rfl rfl (hb hby at_94) _ ?_
        show Steps p.tables e below (T35.setTop (mkF m 95 #[.val (.int p1), .val (.int p2), .val (.int p3), .val (.int p4), .val (.int p5), .val (.ref b7), .val (.int ((p5 &&& (7 : Int32)) % (5 : Int32))), .val (.int ((((p5.toUInt32 >>> ((3 : Int32) &&& 31).toUInt32).toInt32) &&& (7 : Int32)) % (5 : Int32))), .val (.int (1 : Int32)), .val (.int z36), .val (.int z36)] [(.int (nar .char z28))])) _
        refine XS.bipush X35.here hx rfl (hb hby at_95) ?_
        show Steps p.tables e below (T35.setTop (mkF m 97 #[.val (.int p1), .val (.int p2), .val (.int p3), .val (.int p4), .val (.int p5), .val (.ref b7), .val (.int ((p5 &&& (7 : Int32)) % (5 : Int32))), .val (.int ((((p5.toUInt32 >>> ((3 : Int32) &&& 31).toUInt32).toInt32) &&& (7 : Int32)) % (5 : Int32))), .val (.int (1 : Int32)), .val (.int z36), .val (.int z36)] [(.int (46 : Int32)), (.int (nar .char z28))])) _
        by_cases hc97_60 : (nar .char z28) = (46 : Int32)
        · refine XS.icmpNo X35.here hx rfl (hb hby at_97) rfl (teq hc97_60).2 ?_
          show Steps p.tables e below (T35.setTop (mkF m 100 #[.val (.int p1), .val (.int p2), .val (.int p3), .val (.int p4), .val (.int p5), .val (.ref b7), .val (.int ((p5 &&& (7 : Int32)) % (5 : Int32))), .val (.int ((((p5.toUInt32 >>> ((3 : Int32) &&& 31).toUInt32).toInt32) &&& (7 : Int32)) % (5 : Int32))), .val (.int (1 : Int32)), .val (.int z36), .val (.int z36)] [])) _
          refine XS.iconst X35.here hx rfl (hb hby at_100) ?_
          show Steps p.tables e below (T35.setTop (mkF m 101 #[.val (.int p1), .val (.int p2), .val (.int p3), .val (.int p4), .val (.int p5), .val (.ref b7), .val (.int ((p5 &&& (7 : Int32)) % (5 : Int32))), .val (.int ((((p5.toUInt32 >>> ((3 : Int32) &&& 31).toUInt32).toInt32) &&& (7 : Int32)) % (5 : Int32))), .val (.int (1 : Int32)), .val (.int z36), .val (.int z36)] [(.int (3 : Int32))])) _
          refine XS.istore X35.here hx rfl (hb hby at_101) rfl (l' := #[.val (.int p1), .val (.int p2), .val (.int p3), .val (.int p4), .val (.int p5), .val (.ref b7), .val (.int ((p5 &&& (7 : Int32)) % (5 : Int32))), .val (.int ((((p5.toUInt32 >>> ((3 : Int32) &&& 31).toUInt32).toInt32) &&& (7 : Int32)) % (5 : Int32))), .val (.int (1 : Int32)), .val (.int z36), .val (.int (3 : Int32))]) rfl ?_
          show Steps p.tables e below (T35.setTop (mkF m 103 #[.val (.int p1), .val (.int p2), .val (.int p3), .val (.int p4), .val (.int p5), .val (.ref b7), .val (.int ((p5 &&& (7 : Int32)) % (5 : Int32))), .val (.int ((((p5.toUInt32 >>> ((3 : Int32) &&& 31).toUInt32).toInt32) &&& (7 : Int32)) % (5 : Int32))), .val (.int (1 : Int32)), .val (.int z36), .val (.int (3 : Int32))] [])) _
          rw [if_pos hc88_58, if_pos hc97_60] at hz57
          subst hz57
          exact k
        · refine XS.icmpYes X35.here hx rfl (pc0 := 97) (pc' := 103) rfl (hb hby at_97) rfl (feq hc97_60).2 (by decide) (by decide) ?_
          show Steps p.tables e below (T35.setTop (mkF m 103 #[.val (.int p1), .val (.int p2), .val (.int p3), .val (.int p4), .val (.int p5), .val (.ref b7), .val (.int ((p5 &&& (7 : Int32)) % (5 : Int32))), .val (.int ((((p5.toUInt32 >>> ((3 : Int32) &&& 31).toUInt32).toInt32) &&& (7 : Int32)) % (5 : Int32))), .val (.int (1 : Int32)), .val (.int z36), .val (.int z36)] [])) _
          rw [if_pos hc88_58, if_neg hc97_60] at hz57
          subst hz57
          exact k
      · refine XS.icmpYes X35.here hx rfl (pc0 := 88) (pc' := 103) rfl (hb hby at_88) rfl (flt hc88_58).2.1 (by decide) (by decide) ?_
        show Steps p.tables e below (T35.setTop (mkF m 103 #[.val (.int p1), .val (.int p2), .val (.int p3), .val (.int p4), .val (.int p5), .val (.ref b7), .val (.int ((p5 &&& (7 : Int32)) % (5 : Int32))), .val (.int ((((p5.toUInt32 >>> ((3 : Int32) &&& 31).toUInt32).toInt32) &&& (7 : Int32)) % (5 : Int32))), .val (.int (1 : Int32)), .val (.int z36), .val (.int z36)] [])) _
        rw [if_neg hc88_58] at hz57
        subst hz57
        exact k
    refine own_pre (B := T35.setTop (mkF m 105 #[.val (.int p1), .val (.int p2), .val (.int p3), .val (.int p4), .val (.int p5), .val (.ref b7), .val (.int ((p5 &&& (7 : Int32)) % (5 : Int32))), .val (.int ((((p5.toUInt32 >>> ((3 : Int32) &&& 31).toUInt32).toInt32) &&& (7 : Int32)) % (5 : Int32))), .val (.int (1 : Int32)), .val (.int z36), .val (.int z57)] [(.int (1 : Int32))])) (fun t k => XS.iload X35.here hx rfl (hb hby at_103) rfl k) ?_
    refine own_pre (B := T35.setTop (mkF m 106 #[.val (.int p1), .val (.int p2), .val (.int p3), .val (.int p4), .val (.int p5), .val (.ref b7), .val (.int ((p5 &&& (7 : Int32)) % (5 : Int32))), .val (.int ((((p5.toUInt32 >>> ((3 : Int32) &&& 31).toUInt32).toInt32) &&& (7 : Int32)) % (5 : Int32))), .val (.int (1 : Int32)), .val (.int z36), .val (.int z57)] [(.int (2 : Int32)), (.int (1 : Int32))])) (fun t k => XS.iconst X35.here hx rfl (hb hby at_105) k) ?_
    obtain ⟨z61, hz61⟩ : ∃ z : Int32, z = (if (2 : Int32) < z36 then (if (nar .char z22) = (46 : Int32) then (2 : Int32) else z57) else z57) := ⟨_, rfl⟩
    refine own_pre (B := T35.setTop (mkF m 127 #[.val (.int p1), .val (.int p2), .val (.int p3), .val (.int p4), .val (.int p5), .val (.ref b7), .val (.int ((p5 &&& (7 : Int32)) % (5 : Int32))), .val (.int ((((p5.toUInt32 >>> ((3 : Int32) &&& 31).toUInt32).toInt32) &&& (7 : Int32)) % (5 : Int32))), .val (.int (1 : Int32)), .val (.int z36), .val (.int z61)] [])) (fun t k => ?_) ?_
    · refine XS.icmpNo X35.here hx rfl (hb hby at_106) rfl (flt (by decide : ¬ ((2 : Int32) < (1 : Int32)))).2.2.1 ?_
      show Steps p.tables e below (T35.setTop (mkF m 109 #[.val (.int p1), .val (.int p2), .val (.int p3), .val (.int p4), .val (.int p5), .val (.ref b7), .val (.int ((p5 &&& (7 : Int32)) % (5 : Int32))), .val (.int ((((p5.toUInt32 >>> ((3 : Int32) &&& 31).toUInt32).toInt32) &&& (7 : Int32)) % (5 : Int32))), .val (.int (1 : Int32)), .val (.int z36), .val (.int z57)] [])) _
      refine XS.iconst X35.here hx rfl (hb hby at_109) ?_
      show Steps p.tables e below (T35.setTop (mkF m 110 #[.val (.int p1), .val (.int p2), .val (.int p3), .val (.int p4), .val (.int p5), .val (.ref b7), .val (.int ((p5 &&& (7 : Int32)) % (5 : Int32))), .val (.int ((((p5.toUInt32 >>> ((3 : Int32) &&& 31).toUInt32).toInt32) &&& (7 : Int32)) % (5 : Int32))), .val (.int (1 : Int32)), .val (.int z36), .val (.int z57)] [(.int (2 : Int32))])) _
      refine XS.iload X35.here hx rfl (hb hby at_110) rfl ?_
      show Steps p.tables e below (T35.setTop (mkF m 112 #[.val (.int p1), .val (.int p2), .val (.int p3), .val (.int p4), .val (.int p5), .val (.ref b7), .val (.int ((p5 &&& (7 : Int32)) % (5 : Int32))), .val (.int ((((p5.toUInt32 >>> ((3 : Int32) &&& 31).toUInt32).toInt32) &&& (7 : Int32)) % (5 : Int32))), .val (.int (1 : Int32)), .val (.int z36), .val (.int z57)] [(.int z36), (.int (2 : Int32))])) _
      by_cases hc112_62 : (2 : Int32) < z36
      · refine XS.icmpNo X35.here hx rfl (hb hby at_112) rfl (tlt hc112_62).2.1 ?_
        show Steps p.tables e below (T35.setTop (mkF m 115 #[.val (.int p1), .val (.int p2), .val (.int p3), .val (.int p4), .val (.int p5), .val (.ref b7), .val (.int ((p5 &&& (7 : Int32)) % (5 : Int32))), .val (.int ((((p5.toUInt32 >>> ((3 : Int32) &&& 31).toUInt32).toInt32) &&& (7 : Int32)) % (5 : Int32))), .val (.int (1 : Int32)), .val (.int z36), .val (.int z57)] [])) _
        refine XS.aload X35.here hx rfl (hb hby at_115) rfl rfl ?_
        show Steps p.tables e below (T35.setTop (mkF m 117 #[.val (.int p1), .val (.int p2), .val (.int p3), .val (.int p4), .val (.int p5), .val (.ref b7), .val (.int ((p5 &&& (7 : Int32)) % (5 : Int32))), .val (.int ((((p5.toUInt32 >>> ((3 : Int32) &&& 31).toUInt32).toInt32) &&& (7 : Int32)) % (5 : Int32))), .val (.int (1 : Int32)), .val (.int z36), .val (.int z57)] [(.ref b7)])) _
        refine XS.iconst X35.here hx rfl (hb hby at_117) ?_
        show Steps p.tables e below (T35.setTop (mkF m 118 #[.val (.int p1), .val (.int p2), .val (.int p3), .val (.int p4), .val (.int p5), .val (.ref b7), .val (.int ((p5 &&& (7 : Int32)) % (5 : Int32))), .val (.int ((((p5.toUInt32 >>> ((3 : Int32) &&& 31).toUInt32).toInt32) &&& (7 : Int32)) % (5 : Int32))), .val (.int (1 : Int32)), .val (.int z36), .val (.int z57)] [(.int (2 : Int32)), (.ref b7)])) _
        obtain ⟨cl63, Ar63, q63, S63, N63v, H63v, G63v⟩ := V31
        have V31 : Arv Z h31 b7 k7 .char (4 : Int32) [(.int (nar .char z10)), (.int (nar .char z16)), (.int (nar .char z22)), (.int (nar .char z28))] (.int (0 : Int32)) := ⟨cl63, Ar63, q63, S63, N63v, H63v, G63v⟩
        have hin63 : ¬ ((2 : Int32) < 0 ∨ cl63.slots.size ≤ ((2 : Int32)).toNatClampNeg) := inb_of S63 ⟨by decide, by decide⟩
        have hat63 : cl63.slots[((2 : Int32)).toNatClampNeg]? = some (.int (nar .char z22)) := H63v.at hin63 rfl
        refine X35.caload hx (j := (2 : Int32)) (v := (.int (nar .char z22))) (by rw [e35]; exact Ar63.1) (State.isArrayOf_alike hZ.alike Ar63.2.1) Ar63.2.2 hin63 hat63 (g := (mkF m 118 #[.val (.int p1), .val (.int p2), .val (.int p3), .val (.int p4), .val (.int p5), .val (.ref b7), .val (.int ((p5 &&& (7 : Int32)) % (5 : Int32))), .val (.int ((((p5.toUInt32 >>> ((3 : Int32) &&& 31).toUInt32).toInt32) &&& (7 : Int32)) % (5 : Int32))), .val (.int (1 : Int32)), .val (.int z36), .val (.int z57)] [(.int (2 : Int32)), (.ref b7)])) rfl rfl (hb hby at_118) _ ?_
        show Steps p.tables e below (T35.setTop (mkF m 119 #[.val (.int p1), .val (.int p2), .val (.int p3), .val (.int p4), .val (.int p5), .val (.ref b7), .val (.int ((p5 &&& (7 : Int32)) % (5 : Int32))), .val (.int ((((p5.toUInt32 >>> ((3 : Int32) &&& 31).toUInt32).toInt32) &&& (7 : Int32)) % (5 : Int32))), .val (.int (1 : Int32)), .val (.int z36), .val (.int z57)] [(.int (nar .char z22))])) _
        refine XS.bipush X35.here hx rfl (hb hby at_119) ?_
        show Steps p.tables e below (T35.setTop (mkF m 121 #[.val (.int p1), .val (.int p2), .val (.int p3), .val (.int p4), .val (.int p5), .val (.ref b7), .val (.int ((p5 &&& (7 : Int32)) % (5 : Int32))), .val (.int ((((p5.toUInt32 >>> ((3 : Int32) &&& 31).toUInt32).toInt32) &&& (7 : Int32)) % (5 : Int32))), .val (.int (1 : Int32)), .val (.int z36), .val (.int z57)] [(.int (46 : Int32)), (.int (nar .char z22))])) _
        by_cases hc121_64 : (nar .char z22) = (46 : Int32)
        · refine XS.icmpNo X35.here hx rfl (hb hby at_121) rfl (teq hc121_64).2 ?_
          show Steps p.tables e below (T35.setTop (mkF m 124 #[.val (.int p1), .val (.int p2), .val (.int p3), .val (.int p4), .val (.int p5), .val (.ref b7), .val (.int ((p5 &&& (7 : Int32)) % (5 : Int32))), .val (.int ((((p5.toUInt32 >>> ((3 : Int32) &&& 31).toUInt32).toInt32) &&& (7 : Int32)) % (5 : Int32))), .val (.int (1 : Int32)), .val (.int z36), .val (.int z57)] [])) _
          refine XS.iconst X35.here hx rfl (hb hby at_124) ?_
          show Steps p.tables e below (T35.setTop (mkF m 125 #[.val (.int p1), .val (.int p2), .val (.int p3), .val (.int p4), .val (.int p5), .val (.ref b7), .val (.int ((p5 &&& (7 : Int32)) % (5 : Int32))), .val (.int ((((p5.toUInt32 >>> ((3 : Int32) &&& 31).toUInt32).toInt32) &&& (7 : Int32)) % (5 : Int32))), .val (.int (1 : Int32)), .val (.int z36), .val (.int z57)] [(.int (2 : Int32))])) _
          refine XS.istore X35.here hx rfl (hb hby at_125) rfl (l' := #[.val (.int p1), .val (.int p2), .val (.int p3), .val (.int p4), .val (.int p5), .val (.ref b7), .val (.int ((p5 &&& (7 : Int32)) % (5 : Int32))), .val (.int ((((p5.toUInt32 >>> ((3 : Int32) &&& 31).toUInt32).toInt32) &&& (7 : Int32)) % (5 : Int32))), .val (.int (1 : Int32)), .val (.int z36), .val (.int (2 : Int32))]) rfl ?_
          show Steps p.tables e below (T35.setTop (mkF m 127 #[.val (.int p1), .val (.int p2), .val (.int p3), .val (.int p4), .val (.int p5), .val (.ref b7), .val (.int ((p5 &&& (7 : Int32)) % (5 : Int32))), .val (.int ((((p5.toUInt32 >>> ((3 : Int32) &&& 31).toUInt32).toInt32) &&& (7 : Int32)) % (5 : Int32))), .val (.int (1 : Int32)), .val (.int z36), .val (.int (2 : Int32))] [])) _
          rw [if_pos hc112_62, if_pos hc121_64] at hz61
          subst hz61
          exact k
        · refine XS.icmpYes X35.here hx rfl (pc0 := 121) (pc' := 127) rfl (hb hby at_121) rfl (feq hc121_64).2 (by decide) (by decide) ?_
          show Steps p.tables e below (T35.setTop (mkF m 127 #[.val (.int p1), .val (.int p2), .val (.int p3), .val (.int p4), .val (.int p5), .val (.ref b7), .val (.int ((p5 &&& (7 : Int32)) % (5 : Int32))), .val (.int ((((p5.toUInt32 >>> ((3 : Int32) &&& 31).toUInt32).toInt32) &&& (7 : Int32)) % (5 : Int32))), .val (.int (1 : Int32)), .val (.int z36), .val (.int z57)] [])) _
          rw [if_pos hc112_62, if_neg hc121_64] at hz61
          subst hz61
          exact k
      · refine XS.icmpYes X35.here hx rfl (pc0 := 112) (pc' := 127) rfl (hb hby at_112) rfl (flt hc112_62).2.1 (by decide) (by decide) ?_
        show Steps p.tables e below (T35.setTop (mkF m 127 #[.val (.int p1), .val (.int p2), .val (.int p3), .val (.int p4), .val (.int p5), .val (.ref b7), .val (.int ((p5 &&& (7 : Int32)) % (5 : Int32))), .val (.int ((((p5.toUInt32 >>> ((3 : Int32) &&& 31).toUInt32).toInt32) &&& (7 : Int32)) % (5 : Int32))), .val (.int (1 : Int32)), .val (.int z36), .val (.int z57)] [])) _
        rw [if_neg hc112_62] at hz61
        subst hz61
        exact k
    refine own_pre (B := T35.setTop (mkF m 129 #[.val (.int p1), .val (.int p2), .val (.int p3), .val (.int p4), .val (.int p5), .val (.ref b7), .val (.int ((p5 &&& (7 : Int32)) % (5 : Int32))), .val (.int ((((p5.toUInt32 >>> ((3 : Int32) &&& 31).toUInt32).toInt32) &&& (7 : Int32)) % (5 : Int32))), .val (.int (1 : Int32)), .val (.int z36), .val (.int z61)] [(.int (1 : Int32))])) (fun t k => XS.iload X35.here hx rfl (hb hby at_127) rfl k) ?_
    refine own_pre (B := T35.setTop (mkF m 130 #[.val (.int p1), .val (.int p2), .val (.int p3), .val (.int p4), .val (.int p5), .val (.ref b7), .val (.int ((p5 &&& (7 : Int32)) % (5 : Int32))), .val (.int ((((p5.toUInt32 >>> ((3 : Int32) &&& 31).toUInt32).toInt32) &&& (7 : Int32)) % (5 : Int32))), .val (.int (1 : Int32)), .val (.int z36), .val (.int z61)] [(.int (1 : Int32)), (.int (1 : Int32))])) (fun t k => XS.iconst X35.here hx rfl (hb hby at_129) k) ?_
    obtain ⟨z65, hz65⟩ : ∃ z : Int32, z = (if (1 : Int32) < z36 then (if (nar .char z16) = (46 : Int32) then (1 : Int32) else z61) else z61) := ⟨_, rfl⟩
    refine own_pre (B := T35.setTop (mkF m 151 #[.val (.int p1), .val (.int p2), .val (.int p3), .val (.int p4), .val (.int p5), .val (.ref b7), .val (.int ((p5 &&& (7 : Int32)) % (5 : Int32))), .val (.int ((((p5.toUInt32 >>> ((3 : Int32) &&& 31).toUInt32).toInt32) &&& (7 : Int32)) % (5 : Int32))), .val (.int (1 : Int32)), .val (.int z36), .val (.int z65)] [])) (fun t k => ?_) ?_
    · refine XS.icmpNo X35.here hx rfl (hb hby at_130) rfl (flt (by decide : ¬ ((1 : Int32) < (1 : Int32)))).2.2.1 ?_
      show Steps p.tables e below (T35.setTop (mkF m 133 #[.val (.int p1), .val (.int p2), .val (.int p3), .val (.int p4), .val (.int p5), .val (.ref b7), .val (.int ((p5 &&& (7 : Int32)) % (5 : Int32))), .val (.int ((((p5.toUInt32 >>> ((3 : Int32) &&& 31).toUInt32).toInt32) &&& (7 : Int32)) % (5 : Int32))), .val (.int (1 : Int32)), .val (.int z36), .val (.int z61)] [])) _
      refine XS.iconst X35.here hx rfl (hb hby at_133) ?_
      show Steps p.tables e below (T35.setTop (mkF m 134 #[.val (.int p1), .val (.int p2), .val (.int p3), .val (.int p4), .val (.int p5), .val (.ref b7), .val (.int ((p5 &&& (7 : Int32)) % (5 : Int32))), .val (.int ((((p5.toUInt32 >>> ((3 : Int32) &&& 31).toUInt32).toInt32) &&& (7 : Int32)) % (5 : Int32))), .val (.int (1 : Int32)), .val (.int z36), .val (.int z61)] [(.int (1 : Int32))])) _
      refine XS.iload X35.here hx rfl (hb hby at_134) rfl ?_
      show Steps p.tables e below (T35.setTop (mkF m 136 #[.val (.int p1), .val (.int p2), .val (.int p3), .val (.int p4), .val (.int p5), .val (.ref b7), .val (.int ((p5 &&& (7 : Int32)) % (5 : Int32))), .val (.int ((((p5.toUInt32 >>> ((3 : Int32) &&& 31).toUInt32).toInt32) &&& (7 : Int32)) % (5 : Int32))), .val (.int (1 : Int32)), .val (.int z36), .val (.int z61)] [(.int z36), (.int (1 : Int32))])) _
      by_cases hc136_66 : (1 : Int32) < z36
      · refine XS.icmpNo X35.here hx rfl (hb hby at_136) rfl (tlt hc136_66).2.1 ?_
        show Steps p.tables e below (T35.setTop (mkF m 139 #[.val (.int p1), .val (.int p2), .val (.int p3), .val (.int p4), .val (.int p5), .val (.ref b7), .val (.int ((p5 &&& (7 : Int32)) % (5 : Int32))), .val (.int ((((p5.toUInt32 >>> ((3 : Int32) &&& 31).toUInt32).toInt32) &&& (7 : Int32)) % (5 : Int32))), .val (.int (1 : Int32)), .val (.int z36), .val (.int z61)] [])) _
        refine XS.aload X35.here hx rfl (hb hby at_139) rfl rfl ?_
        show Steps p.tables e below (T35.setTop (mkF m 141 #[.val (.int p1), .val (.int p2), .val (.int p3), .val (.int p4), .val (.int p5), .val (.ref b7), .val (.int ((p5 &&& (7 : Int32)) % (5 : Int32))), .val (.int ((((p5.toUInt32 >>> ((3 : Int32) &&& 31).toUInt32).toInt32) &&& (7 : Int32)) % (5 : Int32))), .val (.int (1 : Int32)), .val (.int z36), .val (.int z61)] [(.ref b7)])) _
        refine XS.iconst X35.here hx rfl (hb hby at_141) ?_
        show Steps p.tables e below (T35.setTop (mkF m 142 #[.val (.int p1), .val (.int p2), .val (.int p3), .val (.int p4), .val (.int p5), .val (.ref b7), .val (.int ((p5 &&& (7 : Int32)) % (5 : Int32))), .val (.int ((((p5.toUInt32 >>> ((3 : Int32) &&& 31).toUInt32).toInt32) &&& (7 : Int32)) % (5 : Int32))), .val (.int (1 : Int32)), .val (.int z36), .val (.int z61)] [(.int (1 : Int32)), (.ref b7)])) _
        obtain ⟨cl67, Ar67, q67, S67, N67v, H67v, G67v⟩ := V31
        have V31 : Arv Z h31 b7 k7 .char (4 : Int32) [(.int (nar .char z10)), (.int (nar .char z16)), (.int (nar .char z22)), (.int (nar .char z28))] (.int (0 : Int32)) := ⟨cl67, Ar67, q67, S67, N67v, H67v, G67v⟩
        have hin67 : ¬ ((1 : Int32) < 0 ∨ cl67.slots.size ≤ ((1 : Int32)).toNatClampNeg) := inb_of S67 ⟨by decide, by decide⟩
        have hat67 : cl67.slots[((1 : Int32)).toNatClampNeg]? = some (.int (nar .char z16)) := H67v.at hin67 rfl
        refine X35.caload hx (j := (1 : Int32)) (v := (.int (nar .char z16))) (by rw [e35]; exact Ar67.1) (State.isArrayOf_alike hZ.alike Ar67.2.1) Ar67.2.2 hin67 hat67 (g := (mkF m 142 #[.val (.int p1), .val (.int p2), .val (.int p3), .val (.int p4), .val (.int p5), .val (.ref b7), .val (.int ((p5 &&& (7 : Int32)) % (5 : Int32))), .val (.int ((((p5.toUInt32 >>> ((3 : Int32) &&& 31).toUInt32).toInt32) &&& (7 : Int32)) % (5 : Int32))), .val (.int (1 : Int32)), .val (.int z36), .val (.int z61)] [(.int (1 : Int32)), (.ref b7)])) rfl rfl (hb hby at_142) _ ?_
        show Steps p.tables e below (T35.setTop (mkF m 143 #[.val (.int p1), .val (.int p2), .val (.int p3), .val (.int p4), .val (.int p5), .val (.ref b7), .val (.int ((p5 &&& (7 : Int32)) % (5 : Int32))), .val (.int ((((p5.toUInt32 >>> ((3 : Int32) &&& 31).toUInt32).toInt32) &&& (7 : Int32)) % (5 : Int32))), .val (.int (1 : Int32)), .val (.int z36), .val (.int z61)] [(.int (nar .char z16))])) _
        refine XS.bipush X35.here hx rfl (hb hby at_143) ?_
        show Steps p.tables e below (T35.setTop (mkF m 145 #[.val (.int p1), .val (.int p2), .val (.int p3), .val (.int p4), .val (.int p5), .val (.ref b7), .val (.int ((p5 &&& (7 : Int32)) % (5 : Int32))), .val (.int ((((p5.toUInt32 >>> ((3 : Int32) &&& 31).toUInt32).toInt32) &&& (7 : Int32)) % (5 : Int32))), .val (.int (1 : Int32)), .val (.int z36), .val (.int z61)] [(.int (46 : Int32)), (.int (nar .char z16))])) _
        by_cases hc145_68 : (nar .char z16) = (46 : Int32)
        · refine XS.icmpNo X35.here hx rfl (hb hby at_145) rfl (teq hc145_68).2 ?_
          show Steps p.tables e below (T35.setTop (mkF m 148 #[.val (.int p1), .val (.int p2), .val (.int p3), .val (.int p4), .val (.int p5), .val (.ref b7), .val (.int ((p5 &&& (7 : Int32)) % (5 : Int32))), .val (.int ((((p5.toUInt32 >>> ((3 : Int32) &&& 31).toUInt32).toInt32) &&& (7 : Int32)) % (5 : Int32))), .val (.int (1 : Int32)), .val (.int z36), .val (.int z61)] [])) _
          refine XS.iconst X35.here hx rfl (hb hby at_148) ?_
          show Steps p.tables e below (T35.setTop (mkF m 149 #[.val (.int p1), .val (.int p2), .val (.int p3), .val (.int p4), .val (.int p5), .val (.ref b7), .val (.int ((p5 &&& (7 : Int32)) % (5 : Int32))), .val (.int ((((p5.toUInt32 >>> ((3 : Int32) &&& 31).toUInt32).toInt32) &&& (7 : Int32)) % (5 : Int32))), .val (.int (1 : Int32)), .val (.int z36), .val (.int z61)] [(.int (1 : Int32))])) _
          refine XS.istore X35.here hx rfl (hb hby at_149) rfl (l' := #[.val (.int p1), .val (.int p2), .val (.int p3), .val (.int p4), .val (.int p5), .val (.ref b7), .val (.int ((p5 &&& (7 : Int32)) % (5 : Int32))), .val (.int ((((p5.toUInt32 >>> ((3 : Int32) &&& 31).toUInt32).toInt32) &&& (7 : Int32)) % (5 : Int32))), .val (.int (1 : Int32)), .val (.int z36), .val (.int (1 : Int32))]) rfl ?_
          show Steps p.tables e below (T35.setTop (mkF m 151 #[.val (.int p1), .val (.int p2), .val (.int p3), .val (.int p4), .val (.int p5), .val (.ref b7), .val (.int ((p5 &&& (7 : Int32)) % (5 : Int32))), .val (.int ((((p5.toUInt32 >>> ((3 : Int32) &&& 31).toUInt32).toInt32) &&& (7 : Int32)) % (5 : Int32))), .val (.int (1 : Int32)), .val (.int z36), .val (.int (1 : Int32))] [])) _
          rw [if_pos hc136_66, if_pos hc145_68] at hz65
          subst hz65
          exact k
        · refine XS.icmpYes X35.here hx rfl (pc0 := 145) (pc' := 151) rfl (hb hby at_145) rfl (feq hc145_68).2 (by decide) (by decide) ?_
          show Steps p.tables e below (T35.setTop (mkF m 151 #[.val (.int p1), .val (.int p2), .val (.int p3), .val (.int p4), .val (.int p5), .val (.ref b7), .val (.int ((p5 &&& (7 : Int32)) % (5 : Int32))), .val (.int ((((p5.toUInt32 >>> ((3 : Int32) &&& 31).toUInt32).toInt32) &&& (7 : Int32)) % (5 : Int32))), .val (.int (1 : Int32)), .val (.int z36), .val (.int z61)] [])) _
          rw [if_pos hc136_66, if_neg hc145_68] at hz65
          subst hz65
          exact k
      · refine XS.icmpYes X35.here hx rfl (pc0 := 136) (pc' := 151) rfl (hb hby at_136) rfl (flt hc136_66).2.1 (by decide) (by decide) ?_
        show Steps p.tables e below (T35.setTop (mkF m 151 #[.val (.int p1), .val (.int p2), .val (.int p3), .val (.int p4), .val (.int p5), .val (.ref b7), .val (.int ((p5 &&& (7 : Int32)) % (5 : Int32))), .val (.int ((((p5.toUInt32 >>> ((3 : Int32) &&& 31).toUInt32).toInt32) &&& (7 : Int32)) % (5 : Int32))), .val (.int (1 : Int32)), .val (.int z36), .val (.int z61)] [])) _
        rw [if_neg hc136_66] at hz65
        subst hz65
        exact k
    refine own_pre (B := T35.setTop (mkF m 153 #[.val (.int p1), .val (.int p2), .val (.int p3), .val (.int p4), .val (.int p5), .val (.ref b7), .val (.int ((p5 &&& (7 : Int32)) % (5 : Int32))), .val (.int ((((p5.toUInt32 >>> ((3 : Int32) &&& 31).toUInt32).toInt32) &&& (7 : Int32)) % (5 : Int32))), .val (.int (1 : Int32)), .val (.int z36), .val (.int z65)] [(.int (1 : Int32))])) (fun t k => XS.iload X35.here hx rfl (hb hby at_151) rfl k) ?_
    refine own_pre (B := T35.setTop (mkF m 174 #[.val (.int p1), .val (.int p2), .val (.int p3), .val (.int p4), .val (.int p5), .val (.ref b7), .val (.int ((p5 &&& (7 : Int32)) % (5 : Int32))), .val (.int ((((p5.toUInt32 >>> ((3 : Int32) &&& 31).toUInt32).toInt32) &&& (7 : Int32)) % (5 : Int32))), .val (.int (1 : Int32)), .val (.int z36), .val (.int z65)] [])) (fun t k => ?_) ?_
    · refine XS.ifYes X35.here hx rfl (pc0 := 153) (pc' := 174) rfl (hb hby at_153) rfl ((if0 _ _).trans (tlt (by decide : (0 : Int32) < (1 : Int32))).2.2.1) (by decide) (by decide) ?_
      show Steps p.tables e below (T35.setTop (mkF m 174 #[.val (.int p1), .val (.int p2), .val (.int p3), .val (.int p4), .val (.int p5), .val (.ref b7), .val (.int ((p5 &&& (7 : Int32)) % (5 : Int32))), .val (.int ((((p5.toUInt32 >>> ((3 : Int32) &&& 31).toUInt32).toInt32) &&& (7 : Int32)) % (5 : Int32))), .val (.int (1 : Int32)), .val (.int z36), .val (.int z65)] [])) _
      exact k
    refine own_pre (B := T35.setTop (mkF m 176 #[.val (.int p1), .val (.int p2), .val (.int p3), .val (.int p4), .val (.int p5), .val (.ref b7), .val (.int ((p5 &&& (7 : Int32)) % (5 : Int32))), .val (.int ((((p5.toUInt32 >>> ((3 : Int32) &&& 31).toUInt32).toInt32) &&& (7 : Int32)) % (5 : Int32))), .val (.int (1 : Int32)), .val (.int z36), .val (.int z65)] [(.ref b7)])) (fun t k => XS.aload X35.here hx rfl (hb hby at_174) rfl rfl k) ?_
    refine own_pre (B := T35.setTop (mkF m 178 #[.val (.int p1), .val (.int p2), .val (.int p3), .val (.int p4), .val (.int p5), .val (.ref b7), .val (.int ((p5 &&& (7 : Int32)) % (5 : Int32))), .val (.int ((((p5.toUInt32 >>> ((3 : Int32) &&& 31).toUInt32).toInt32) &&& (7 : Int32)) % (5 : Int32))), .val (.int (1 : Int32)), .val (.int z36), .val (.int z65)] [(.int (1 : Int32)), (.ref b7)])) (fun t k => XS.iload X35.here hx rfl (hb hby at_176) rfl k) ?_
    refine own_pre (B := T35.setTop (mkF m 180 #[.val (.int p1), .val (.int p2), .val (.int p3), .val (.int p4), .val (.int p5), .val (.ref b7), .val (.int ((p5 &&& (7 : Int32)) % (5 : Int32))), .val (.int ((((p5.toUInt32 >>> ((3 : Int32) &&& 31).toUInt32).toInt32) &&& (7 : Int32)) % (5 : Int32))), .val (.int (1 : Int32)), .val (.int z36), .val (.int z65)] [(.int z36), (.int (1 : Int32)), (.ref b7)])) (fun t k => XS.iload X35.here hx rfl (hb hby at_178) rfl k) ?_
    obtain ⟨_, _, ⟨T69, L69, k69, n69⟩, -, X69, ⟨Lc69, hQ69, l69, y69, z69⟩, st69⟩ := Jvm.LawKit.callS X35 hx (y := (⟨"com/example/anableps/anableps/name/Names", "labelEnd", "([CII)I"⟩ : MethodName)) hown (mvT hZ (hw _ (ow 12 rfl))) (mvT hZ (hw _ (ow 13 rfl))) (mvT hZ (hw _ (ow 14 rfl))) (mvT hZ (hw _ (ow 15 rfl))) (by decide) (backOf (W := 0) (rm4_1 l Z a0 hw [] b7 z36 k7 (nar .char z10) (nar .char z16) (nar .char z22) (nar .char z28) h31 n0 sz32 V31 mm37.2.2.1) hZ (hw _ (ow 15 rfl)) (hw _ (ow 14 rfl)) (by decide) (by decide)) (g := (mkF m 180 #[.val (.int p1), .val (.int p2), .val (.int p3), .val (.int p4), .val (.int p5), .val (.ref b7), .val (.int ((p5 &&& (7 : Int32)) % (5 : Int32))), .val (.int ((((p5.toUInt32 >>> ((3 : Int32) &&& 31).toUInt32).toInt32) &&& (7 : Int32)) % (5 : Int32))), .val (.int (1 : Int32)), .val (.int z36), .val (.int z65)] [(.int z36), (.int (1 : Int32)), (.ref b7)])) rfl (by rw [hml]; rfl) (argsL := [(.ref b7), (.int (1 : Int32)), (.int z36)]) (rest := []) (lenOf pd_2 rfl) rfl (by show 2 * 0 + _ ≤ _; exact Nat.le_of_eq rfl) (hb hby at_180) (fun _ _ => ⟨rfl, e35, (by decide : 1 + 0 ≤ _), (by decide : 4 + 0 ≤ _)⟩)
    dsimp only [Pt.U, Pt.locs, Pt.cells, Pt.slots] at X69 l69 y69 z69 st69 hQ69
    subst l69 y69 z69
    obtain ⟨rfl, N69q, e69⟩ := hQ69
    have N69 := Fr.app N35 N69q
    obtain ⟨z70, hz70⟩ : ∃ z : Int32, z = (own_f4_1 z36 (nar .char z10) (nar .char z16) (nar .char z22) (nar .char z28)) := ⟨_, rfl⟩
    rw [← hz70] at st69
    refine own_pre (B := T69.setTop (mkF m 183 #[.val (.int p1), .val (.int p2), .val (.int p3), .val (.int p4), .val (.int p5), .val (.ref b7), .val (.int ((p5 &&& (7 : Int32)) % (5 : Int32))), .val (.int ((((p5.toUInt32 >>> ((3 : Int32) &&& 31).toUInt32).toInt32) &&& (7 : Int32)) % (5 : Int32))), .val (.int (1 : Int32)), .val (.int z36), .val (.int z65)] [(.int z70)])) (fun t k => st69 t k) ?_
    refine own_pre (B := T69.setTop (mkF m 185 #[.val (.int p1), .val (.int p2), .val (.int p3), .val (.int p4), .val (.int p5), .val (.ref b7), .val (.int ((p5 &&& (7 : Int32)) % (5 : Int32))), .val (.int ((((p5.toUInt32 >>> ((3 : Int32) &&& 31).toUInt32).toInt32) &&& (7 : Int32)) % (5 : Int32))), .val (.int (1 : Int32)), .val (.int z36), .val (.int z65)] [(.int z65), (.int z70)])) (fun t k => XS.iload X69.here hx rfl (hb hby at_183) rfl k) ?_
    refine own_pre (B := T69.setTop (mkF m 188 #[.val (.int p1), .val (.int p2), .val (.int p3), .val (.int p4), .val (.int p5), .val (.ref b7), .val (.int ((p5 &&& (7 : Int32)) % (5 : Int32))), .val (.int ((((p5.toUInt32 >>> ((3 : Int32) &&& 31).toUInt32).toInt32) &&& (7 : Int32)) % (5 : Int32))), .val (.int (1 : Int32)), .val (.int z36), .val (.int z65)] [])) (fun t k => XS.icmpNo X69.here hx rfl (hb hby at_185) rfl (teq (own_law1 hz57 hz61 hz65 hz70 mm37.2.1 mm37.2.2.1 mm37.2.2.2)).2 k) ?_
    refine own_pre (B := T69.setTop (mkF m 189 #[.val (.int p1), .val (.int p2), .val (.int p3), .val (.int p4), .val (.int p5), .val (.ref b7), .val (.int ((p5 &&& (7 : Int32)) % (5 : Int32))), .val (.int ((((p5.toUInt32 >>> ((3 : Int32) &&& 31).toUInt32).toInt32) &&& (7 : Int32)) % (5 : Int32))), .val (.int (1 : Int32)), .val (.int z36), .val (.int z65)] [(.int (1 : Int32))])) (fun t k => XS.iconst X69.here hx rfl (hb hby at_188) k) ?_
    refine own_pre (B := T69.setTop (mkF m 193 #[.val (.int p1), .val (.int p2), .val (.int p3), .val (.int p4), .val (.int p5), .val (.ref b7), .val (.int ((p5 &&& (7 : Int32)) % (5 : Int32))), .val (.int ((((p5.toUInt32 >>> ((3 : Int32) &&& 31).toUInt32).toInt32) &&& (7 : Int32)) % (5 : Int32))), .val (.int (1 : Int32)), .val (.int z36), .val (.int z65)] [(.int (1 : Int32))])) (fun t k => XS.goto X69.here hx rfl (pc0 := 189) (pc' := 193) rfl (hb hby at_189) (by decide) (by decide) k) ?_
    obtain ⟨fsr71, hrr71, hrunr71, hendedr71, hWr71, hsamer71⟩ := X69.leave (v := some (.int (1 : Int32))) (fun h => by rw [Bd.returns] at h; cases h)
    refine ⟨_, _, (retN X69 hx (t := .boolean) Bd.returns (by simp) (hb hby at_193) hrr71), hrunr71, hendedr71, _, _, rfl, ?_, ⟨_, rfl⟩, hWr71, hsamer71.mono (by decide) (by decide)⟩
    show Q0 Z p1 p2 p3 p4 p5 h0 n0 _ T69.heap _
    rw [e69]
    exact ⟨rfl, N69⟩
  · subst hs
    refine own_pre (B := T35.setTop (mkF m 81 #[.val (.int p1), .val (.int p2), .val (.int p3), .val (.int p4), .val (.int p5), .val (.ref b7), .val (.int ((p5 &&& (7 : Int32)) % (5 : Int32))), .val (.int ((((p5.toUInt32 >>> ((3 : Int32) &&& 31).toUInt32).toInt32) &&& (7 : Int32)) % (5 : Int32))), .val (.int (2 : Int32)), .val (.int z36), .val (.int z36)] [(.int (2 : Int32))])) (fun t k => XS.iload X35.here hx rfl (hb hby at_79) rfl k) ?_
    refine own_pre (B := T35.setTop (mkF m 82 #[.val (.int p1), .val (.int p2), .val (.int p3), .val (.int p4), .val (.int p5), .val (.ref b7), .val (.int ((p5 &&& (7 : Int32)) % (5 : Int32))), .val (.int ((((p5.toUInt32 >>> ((3 : Int32) &&& 31).toUInt32).toInt32) &&& (7 : Int32)) % (5 : Int32))), .val (.int (2 : Int32)), .val (.int z36), .val (.int z36)] [(.int (3 : Int32)), (.int (2 : Int32))])) (fun t k => XS.iconst X35.here hx rfl (hb hby at_81) k) ?_
    obtain ⟨z72, hz72⟩ : ∃ z : Int32, z = (if (3 : Int32) < z36 then (if (nar .char z28) = (46 : Int32) then (3 : Int32) else z36) else z36) := ⟨_, rfl⟩
    refine own_pre (B := T35.setTop (mkF m 103 #[.val (.int p1), .val (.int p2), .val (.int p3), .val (.int p4), .val (.int p5), .val (.ref b7), .val (.int ((p5 &&& (7 : Int32)) % (5 : Int32))), .val (.int ((((p5.toUInt32 >>> ((3 : Int32) &&& 31).toUInt32).toInt32) &&& (7 : Int32)) % (5 : Int32))), .val (.int (2 : Int32)), .val (.int z36), .val (.int z72)] [])) (fun t k => ?_) ?_
    · refine XS.icmpNo X35.here hx rfl (hb hby at_82) rfl (flt (by decide : ¬ ((3 : Int32) < (2 : Int32)))).2.2.1 ?_
      show Steps p.tables e below (T35.setTop (mkF m 85 #[.val (.int p1), .val (.int p2), .val (.int p3), .val (.int p4), .val (.int p5), .val (.ref b7), .val (.int ((p5 &&& (7 : Int32)) % (5 : Int32))), .val (.int ((((p5.toUInt32 >>> ((3 : Int32) &&& 31).toUInt32).toInt32) &&& (7 : Int32)) % (5 : Int32))), .val (.int (2 : Int32)), .val (.int z36), .val (.int z36)] [])) _
      refine XS.iconst X35.here hx rfl (hb hby at_85) ?_
      show Steps p.tables e below (T35.setTop (mkF m 86 #[.val (.int p1), .val (.int p2), .val (.int p3), .val (.int p4), .val (.int p5), .val (.ref b7), .val (.int ((p5 &&& (7 : Int32)) % (5 : Int32))), .val (.int ((((p5.toUInt32 >>> ((3 : Int32) &&& 31).toUInt32).toInt32) &&& (7 : Int32)) % (5 : Int32))), .val (.int (2 : Int32)), .val (.int z36), .val (.int z36)] [(.int (3 : Int32))])) _
      refine XS.iload X35.here hx rfl (hb hby at_86) rfl ?_
      show Steps p.tables e below (T35.setTop (mkF m 88 #[.val (.int p1), .val (.int p2), .val (.int p3), .val (.int p4), .val (.int p5), .val (.ref b7), .val (.int ((p5 &&& (7 : Int32)) % (5 : Int32))), .val (.int ((((p5.toUInt32 >>> ((3 : Int32) &&& 31).toUInt32).toInt32) &&& (7 : Int32)) % (5 : Int32))), .val (.int (2 : Int32)), .val (.int z36), .val (.int z36)] [(.int z36), (.int (3 : Int32))])) _
      by_cases hc88_73 : (3 : Int32) < z36
      · refine XS.icmpNo X35.here hx rfl (hb hby at_88) rfl (tlt hc88_73).2.1 ?_
        show Steps p.tables e below (T35.setTop (mkF m 91 #[.val (.int p1), .val (.int p2), .val (.int p3), .val (.int p4), .val (.int p5), .val (.ref b7), .val (.int ((p5 &&& (7 : Int32)) % (5 : Int32))), .val (.int ((((p5.toUInt32 >>> ((3 : Int32) &&& 31).toUInt32).toInt32) &&& (7 : Int32)) % (5 : Int32))), .val (.int (2 : Int32)), .val (.int z36), .val (.int z36)] [])) _
        refine XS.aload X35.here hx rfl (hb hby at_91) rfl rfl ?_
        show Steps p.tables e below (T35.setTop (mkF m 93 #[.val (.int p1), .val (.int p2), .val (.int p3), .val (.int p4), .val (.int p5), .val (.ref b7), .val (.int ((p5 &&& (7 : Int32)) % (5 : Int32))), .val (.int ((((p5.toUInt32 >>> ((3 : Int32) &&& 31).toUInt32).toInt32) &&& (7 : Int32)) % (5 : Int32))), .val (.int (2 : Int32)), .val (.int z36), .val (.int z36)] [(.ref b7)])) _
        refine XS.iconst X35.here hx rfl (hb hby at_93) ?_
        show Steps p.tables e below (T35.setTop (mkF m 94 #[.val (.int p1), .val (.int p2), .val (.int p3), .val (.int p4), .val (.int p5), .val (.ref b7), .val (.int ((p5 &&& (7 : Int32)) % (5 : Int32))), .val (.int ((((p5.toUInt32 >>> ((3 : Int32) &&& 31).toUInt32).toInt32) &&& (7 : Int32)) % (5 : Int32))), .val (.int (2 : Int32)), .val (.int z36), .val (.int z36)] [(.int (3 : Int32)), (.ref b7)])) _
        obtain ⟨cl74, Ar74, q74, S74, N74v, H74v, G74v⟩ := V31
        have V31 : Arv Z h31 b7 k7 .char (4 : Int32) [(.int (nar .char z10)), (.int (nar .char z16)), (.int (nar .char z22)), (.int (nar .char z28))] (.int (0 : Int32)) := ⟨cl74, Ar74, q74, S74, N74v, H74v, G74v⟩
        have hin74 : ¬ ((3 : Int32) < 0 ∨ cl74.slots.size ≤ ((3 : Int32)).toNatClampNeg) := inb_of S74 ⟨by decide, by decide⟩
        have hat74 : cl74.slots[((3 : Int32)).toNatClampNeg]? = some (.int (nar .char z28)) := H74v.at hin74 rfl
        refine X35.caload hx (j := (3 : Int32)) (v := (.int (nar .char z28))) (by rw [e35]; exact Ar74.1) (State.isArrayOf_alike hZ.alike Ar74.2.1) Ar74.2.2 hin74 hat74 (g := (mkF m 94 #[.val (.int p1), .val (.int p2), .val (.int p3), .val (.int p4), .val (.int p5), .val (.ref b7), .val (.int ((p5 &&& (7 : Int32)) % (5 : Int32))), .val (.int ((((p5.toUInt32 >>> ((3 : Int32) &&& 31).toUInt32).toInt32) &&& (7 : Int32)) % (5 : Int32))), .val (.int (2 : Int32)), .val (.int z36), .val (.int z36)] [(.int (3 : Int32)), (.ref b7)])) rfl rfl (hb hby at_94) _ ?_
        show Steps p.tables e below (T35.setTop (mkF m 95 #[.val (.int p1), .val (.int p2), .val (.int p3), .val (.int p4), .val (.int p5), .val (.ref b7), .val (.int ((p5 &&& (7 : Int32)) % (5 : Int32))), .val (.int ((((p5.toUInt32 >>> ((3 : Int32) &&& 31).toUInt32).toInt32) &&& (7 : Int32)) % (5 : Int32))), .val (.int (2 : Int32)), .val (.int z36), .val (.int z36)] [(.int (nar .char z28))])) _
        refine XS.bipush X35.here hx rfl (hb hby at_95) ?_
        show Steps p.tables e below (T35.setTop (mkF m 97 #[.val (.int p1), .val (.int p2), .val (.int p3), .val (.int p4), .val (.int p5), .val (.ref b7), .val (.int ((p5 &&& (7 : Int32)) % (5 : Int32))), .val (.int ((((p5.toUInt32 >>> ((3 : Int32) &&& 31).toUInt32).toInt32) &&& (7 : Int32)) % (5 : Int32))), .val (.int (2 : Int32)), .val (.int z36), .val (.int z36)] [(.int (46 : Int32)), (.int (nar .char z28))])) _
        by_cases hc97_75 : (nar .char z28) = (46 : Int32)
        · refine XS.icmpNo X35.here hx rfl (hb hby at_97) rfl (teq hc97_75).2 ?_
          show Steps p.tables e below (T35.setTop (mkF m 100 #[.val (.int p1), .val (.int p2), .val (.int p3), .val (.int p4), .val (.int p5), .val (.ref b7), .val (.int ((p5 &&& (7 : Int32)) % (5 : Int32))), .val (.int ((((p5.toUInt32 >>> ((3 : Int32) &&& 31).toUInt32).toInt32) &&& (7 : Int32)) % (5 : Int32))), .val (.int (2 : Int32)), .val (.int z36), .val (.int z36)] [])) _
          refine XS.iconst X35.here hx rfl (hb hby at_100) ?_
          show Steps p.tables e below (T35.setTop (mkF m 101 #[.val (.int p1), .val (.int p2), .val (.int p3), .val (.int p4), .val (.int p5), .val (.ref b7), .val (.int ((p5 &&& (7 : Int32)) % (5 : Int32))), .val (.int ((((p5.toUInt32 >>> ((3 : Int32) &&& 31).toUInt32).toInt32) &&& (7 : Int32)) % (5 : Int32))), .val (.int (2 : Int32)), .val (.int z36), .val (.int z36)] [(.int (3 : Int32))])) _
          refine XS.istore X35.here hx rfl (hb hby at_101) rfl (l' := #[.val (.int p1), .val (.int p2), .val (.int p3), .val (.int p4), .val (.int p5), .val (.ref b7), .val (.int ((p5 &&& (7 : Int32)) % (5 : Int32))), .val (.int ((((p5.toUInt32 >>> ((3 : Int32) &&& 31).toUInt32).toInt32) &&& (7 : Int32)) % (5 : Int32))), .val (.int (2 : Int32)), .val (.int z36), .val (.int (3 : Int32))]) rfl ?_
          show Steps p.tables e below (T35.setTop (mkF m 103 #[.val (.int p1), .val (.int p2), .val (.int p3), .val (.int p4), .val (.int p5), .val (.ref b7), .val (.int ((p5 &&& (7 : Int32)) % (5 : Int32))), .val (.int ((((p5.toUInt32 >>> ((3 : Int32) &&& 31).toUInt32).toInt32) &&& (7 : Int32)) % (5 : Int32))), .val (.int (2 : Int32)), .val (.int z36), .val (.int (3 : Int32))] [])) _
          rw [if_pos hc88_73, if_pos hc97_75] at hz72
          subst hz72
          exact k
        · refine XS.icmpYes X35.here hx rfl (pc0 := 97) (pc' := 103) rfl (hb hby at_97) rfl (feq hc97_75).2 (by decide) (by decide) ?_
          show Steps p.tables e below (T35.setTop (mkF m 103 #[.val (.int p1), .val (.int p2), .val (.int p3), .val (.int p4), .val (.int p5), .val (.ref b7), .val (.int ((p5 &&& (7 : Int32)) % (5 : Int32))), .val (.int ((((p5.toUInt32 >>> ((3 : Int32) &&& 31).toUInt32).toInt32) &&& (7 : Int32)) % (5 : Int32))), .val (.int (2 : Int32)), .val (.int z36), .val (.int z36)] [])) _
          rw [if_pos hc88_73, if_neg hc97_75] at hz72
          subst hz72
          exact k
      · refine XS.icmpYes X35.here hx rfl (pc0 := 88) (pc' := 103) rfl (hb hby at_88) rfl (flt hc88_73).2.1 (by decide) (by decide) ?_
        show Steps p.tables e below (T35.setTop (mkF m 103 #[.val (.int p1), .val (.int p2), .val (.int p3), .val (.int p4), .val (.int p5), .val (.ref b7), .val (.int ((p5 &&& (7 : Int32)) % (5 : Int32))), .val (.int ((((p5.toUInt32 >>> ((3 : Int32) &&& 31).toUInt32).toInt32) &&& (7 : Int32)) % (5 : Int32))), .val (.int (2 : Int32)), .val (.int z36), .val (.int z36)] [])) _
        rw [if_neg hc88_73] at hz72
        subst hz72
        exact k
    refine own_pre (B := T35.setTop (mkF m 105 #[.val (.int p1), .val (.int p2), .val (.int p3), .val (.int p4), .val (.int p5), .val (.ref b7), .val (.int ((p5 &&& (7 : Int32)) % (5 : Int32))), .val (.int ((((p5.toUInt32 >>> ((3 : Int32) &&& 31).toUInt32).toInt32) &&& (7 : Int32)) % (5 : Int32))), .val (.int (2 : Int32)), .val (.int z36), .val (.int z72)] [(.int (2 : Int32))])) (fun t k => XS.iload X35.here hx rfl (hb hby at_103) rfl k) ?_
    refine own_pre (B := T35.setTop (mkF m 106 #[.val (.int p1), .val (.int p2), .val (.int p3), .val (.int p4), .val (.int p5), .val (.ref b7), .val (.int ((p5 &&& (7 : Int32)) % (5 : Int32))), .val (.int ((((p5.toUInt32 >>> ((3 : Int32) &&& 31).toUInt32).toInt32) &&& (7 : Int32)) % (5 : Int32))), .val (.int (2 : Int32)), .val (.int z36), .val (.int z72)] [(.int (2 : Int32)), (.int (2 : Int32))])) (fun t k => XS.iconst X35.here hx rfl (hb hby at_105) k) ?_
    obtain ⟨z76, hz76⟩ : ∃ z : Int32, z = (if (2 : Int32) < z36 then (if (nar .char z22) = (46 : Int32) then (2 : Int32) else z72) else z72) := ⟨_, rfl⟩
    refine own_pre (B := T35.setTop (mkF m 127 #[.val (.int p1), .val (.int p2), .val (.int p3), .val (.int p4), .val (.int p5), .val (.ref b7), .val (.int ((p5 &&& (7 : Int32)) % (5 : Int32))), .val (.int ((((p5.toUInt32 >>> ((3 : Int32) &&& 31).toUInt32).toInt32) &&& (7 : Int32)) % (5 : Int32))), .val (.int (2 : Int32)), .val (.int z36), .val (.int z76)] [])) (fun t k => ?_) ?_
    · refine XS.icmpNo X35.here hx rfl (hb hby at_106) rfl (flt (by decide : ¬ ((2 : Int32) < (2 : Int32)))).2.2.1 ?_
      show Steps p.tables e below (T35.setTop (mkF m 109 #[.val (.int p1), .val (.int p2), .val (.int p3), .val (.int p4), .val (.int p5), .val (.ref b7), .val (.int ((p5 &&& (7 : Int32)) % (5 : Int32))), .val (.int ((((p5.toUInt32 >>> ((3 : Int32) &&& 31).toUInt32).toInt32) &&& (7 : Int32)) % (5 : Int32))), .val (.int (2 : Int32)), .val (.int z36), .val (.int z72)] [])) _
      refine XS.iconst X35.here hx rfl (hb hby at_109) ?_
      show Steps p.tables e below (T35.setTop (mkF m 110 #[.val (.int p1), .val (.int p2), .val (.int p3), .val (.int p4), .val (.int p5), .val (.ref b7), .val (.int ((p5 &&& (7 : Int32)) % (5 : Int32))), .val (.int ((((p5.toUInt32 >>> ((3 : Int32) &&& 31).toUInt32).toInt32) &&& (7 : Int32)) % (5 : Int32))), .val (.int (2 : Int32)), .val (.int z36), .val (.int z72)] [(.int (2 : Int32))])) _
      refine XS.iload X35.here hx rfl (hb hby at_110) rfl ?_
      show Steps p.tables e below (T35.setTop (mkF m 112 #[.val (.int p1), .val (.int p2), .val (.int p3), .val (.int p4), .val (.int p5), .val (.ref b7), .val (.int ((p5 &&& (7 : Int32)) % (5 : Int32))), .val (.int ((((p5.toUInt32 >>> ((3 : Int32) &&& 31).toUInt32).toInt32) &&& (7 : Int32)) % (5 : Int32))), .val (.int (2 : Int32)), .val (.int z36), .val (.int z72)] [(.int z36), (.int (2 : Int32))])) _
      by_cases hc112_77 : (2 : Int32) < z36
      · refine XS.icmpNo X35.here hx rfl (hb hby at_112) rfl (tlt hc112_77).2.1 ?_
        show Steps p.tables e below (T35.setTop (mkF m 115 #[.val (.int p1), .val (.int p2), .val (.int p3), .val (.int p4), .val (.int p5), .val (.ref b7), .val (.int ((p5 &&& (7 : Int32)) % (5 : Int32))), .val (.int ((((p5.toUInt32 >>> ((3 : Int32) &&& 31).toUInt32).toInt32) &&& (7 : Int32)) % (5 : Int32))), .val (.int (2 : Int32)), .val (.int z36), .val (.int z72)] [])) _
        refine XS.aload X35.here hx rfl (hb hby at_115) rfl rfl ?_
        show Steps p.tables e below (T35.setTop (mkF m 117 #[.val (.int p1), .val (.int p2), .val (.int p3), .val (.int p4), .val (.int p5), .val (.ref b7), .val (.int ((p5 &&& (7 : Int32)) % (5 : Int32))), .val (.int ((((p5.toUInt32 >>> ((3 : Int32) &&& 31).toUInt32).toInt32) &&& (7 : Int32)) % (5 : Int32))), .val (.int (2 : Int32)), .val (.int z36), .val (.int z72)] [(.ref b7)])) _
        refine XS.iconst X35.here hx rfl (hb hby at_117) ?_
        show Steps p.tables e below (T35.setTop (mkF m 118 #[.val (.int p1), .val (.int p2), .val (.int p3), .val (.int p4), .val (.int p5), .val (.ref b7), .val (.int ((p5 &&& (7 : Int32)) % (5 : Int32))), .val (.int ((((p5.toUInt32 >>> ((3 : Int32) &&& 31).toUInt32).toInt32) &&& (7 : Int32)) % (5 : Int32))), .val (.int (2 : Int32)), .val (.int z36), .val (.int z72)] [(.int (2 : Int32)), (.ref b7)])) _
        obtain ⟨cl78, Ar78, q78, S78, N78v, H78v, G78v⟩ := V31
        have V31 : Arv Z h31 b7 k7 .char (4 : Int32) [(.int (nar .char z10)), (.int (nar .char z16)), (.int (nar .char z22)), (.int (nar .char z28))] (.int (0 : Int32)) := ⟨cl78, Ar78, q78, S78, N78v, H78v, G78v⟩
        have hin78 : ¬ ((2 : Int32) < 0 ∨ cl78.slots.size ≤ ((2 : Int32)).toNatClampNeg) := inb_of S78 ⟨by decide, by decide⟩
        have hat78 : cl78.slots[((2 : Int32)).toNatClampNeg]? = some (.int (nar .char z22)) := H78v.at hin78 rfl
        refine X35.caload hx (j := (2 : Int32)) (v := (.int (nar .char z22))) (by rw [e35]; exact Ar78.1) (State.isArrayOf_alike hZ.alike Ar78.2.1) Ar78.2.2 hin78 hat78 (g := (mkF m 118 #[.val (.int p1), .val (.int p2), .val (.int p3), .val (.int p4), .val (.int p5), .val (.ref b7), .val (.int ((p5 &&& (7 : Int32)) % (5 : Int32))), .val (.int ((((p5.toUInt32 >>> ((3 : Int32) &&& 31).toUInt32).toInt32) &&& (7 : Int32)) % (5 : Int32))), .val (.int (2 : Int32)), .val (.int z36), .val (.int z72)] [(.int (2 : Int32)), (.ref b7)])) rfl rfl (hb hby at_118) _ ?_
        show Steps p.tables e below (T35.setTop (mkF m 119 #[.val (.int p1), .val (.int p2), .val (.int p3), .val (.int p4), .val (.int p5), .val (.ref b7), .val (.int ((p5 &&& (7 : Int32)) % (5 : Int32))), .val (.int ((((p5.toUInt32 >>> ((3 : Int32) &&& 31).toUInt32).toInt32) &&& (7 : Int32)) % (5 : Int32))), .val (.int (2 : Int32)), .val (.int z36), .val (.int z72)] [(.int (nar .char z22))])) _
        refine XS.bipush X35.here hx rfl (hb hby at_119) ?_
        show Steps p.tables e below (T35.setTop (mkF m 121 #[.val (.int p1), .val (.int p2), .val (.int p3), .val (.int p4), .val (.int p5), .val (.ref b7), .val (.int ((p5 &&& (7 : Int32)) % (5 : Int32))), .val (.int ((((p5.toUInt32 >>> ((3 : Int32) &&& 31).toUInt32).toInt32) &&& (7 : Int32)) % (5 : Int32))), .val (.int (2 : Int32)), .val (.int z36), .val (.int z72)] [(.int (46 : Int32)), (.int (nar .char z22))])) _
        by_cases hc121_79 : (nar .char z22) = (46 : Int32)
        · refine XS.icmpNo X35.here hx rfl (hb hby at_121) rfl (teq hc121_79).2 ?_
          show Steps p.tables e below (T35.setTop (mkF m 124 #[.val (.int p1), .val (.int p2), .val (.int p3), .val (.int p4), .val (.int p5), .val (.ref b7), .val (.int ((p5 &&& (7 : Int32)) % (5 : Int32))), .val (.int ((((p5.toUInt32 >>> ((3 : Int32) &&& 31).toUInt32).toInt32) &&& (7 : Int32)) % (5 : Int32))), .val (.int (2 : Int32)), .val (.int z36), .val (.int z72)] [])) _
          refine XS.iconst X35.here hx rfl (hb hby at_124) ?_
          show Steps p.tables e below (T35.setTop (mkF m 125 #[.val (.int p1), .val (.int p2), .val (.int p3), .val (.int p4), .val (.int p5), .val (.ref b7), .val (.int ((p5 &&& (7 : Int32)) % (5 : Int32))), .val (.int ((((p5.toUInt32 >>> ((3 : Int32) &&& 31).toUInt32).toInt32) &&& (7 : Int32)) % (5 : Int32))), .val (.int (2 : Int32)), .val (.int z36), .val (.int z72)] [(.int (2 : Int32))])) _
          refine XS.istore X35.here hx rfl (hb hby at_125) rfl (l' := #[.val (.int p1), .val (.int p2), .val (.int p3), .val (.int p4), .val (.int p5), .val (.ref b7), .val (.int ((p5 &&& (7 : Int32)) % (5 : Int32))), .val (.int ((((p5.toUInt32 >>> ((3 : Int32) &&& 31).toUInt32).toInt32) &&& (7 : Int32)) % (5 : Int32))), .val (.int (2 : Int32)), .val (.int z36), .val (.int (2 : Int32))]) rfl ?_
          show Steps p.tables e below (T35.setTop (mkF m 127 #[.val (.int p1), .val (.int p2), .val (.int p3), .val (.int p4), .val (.int p5), .val (.ref b7), .val (.int ((p5 &&& (7 : Int32)) % (5 : Int32))), .val (.int ((((p5.toUInt32 >>> ((3 : Int32) &&& 31).toUInt32).toInt32) &&& (7 : Int32)) % (5 : Int32))), .val (.int (2 : Int32)), .val (.int z36), .val (.int (2 : Int32))] [])) _
          rw [if_pos hc112_77, if_pos hc121_79] at hz76
          subst hz76
          exact k
        · refine XS.icmpYes X35.here hx rfl (pc0 := 121) (pc' := 127) rfl (hb hby at_121) rfl (feq hc121_79).2 (by decide) (by decide) ?_
          show Steps p.tables e below (T35.setTop (mkF m 127 #[.val (.int p1), .val (.int p2), .val (.int p3), .val (.int p4), .val (.int p5), .val (.ref b7), .val (.int ((p5 &&& (7 : Int32)) % (5 : Int32))), .val (.int ((((p5.toUInt32 >>> ((3 : Int32) &&& 31).toUInt32).toInt32) &&& (7 : Int32)) % (5 : Int32))), .val (.int (2 : Int32)), .val (.int z36), .val (.int z72)] [])) _
          rw [if_pos hc112_77, if_neg hc121_79] at hz76
          subst hz76
          exact k
      · refine XS.icmpYes X35.here hx rfl (pc0 := 112) (pc' := 127) rfl (hb hby at_112) rfl (flt hc112_77).2.1 (by decide) (by decide) ?_
        show Steps p.tables e below (T35.setTop (mkF m 127 #[.val (.int p1), .val (.int p2), .val (.int p3), .val (.int p4), .val (.int p5), .val (.ref b7), .val (.int ((p5 &&& (7 : Int32)) % (5 : Int32))), .val (.int ((((p5.toUInt32 >>> ((3 : Int32) &&& 31).toUInt32).toInt32) &&& (7 : Int32)) % (5 : Int32))), .val (.int (2 : Int32)), .val (.int z36), .val (.int z72)] [])) _
        rw [if_neg hc112_77] at hz76
        subst hz76
        exact k
    refine own_pre (B := T35.setTop (mkF m 129 #[.val (.int p1), .val (.int p2), .val (.int p3), .val (.int p4), .val (.int p5), .val (.ref b7), .val (.int ((p5 &&& (7 : Int32)) % (5 : Int32))), .val (.int ((((p5.toUInt32 >>> ((3 : Int32) &&& 31).toUInt32).toInt32) &&& (7 : Int32)) % (5 : Int32))), .val (.int (2 : Int32)), .val (.int z36), .val (.int z76)] [(.int (2 : Int32))])) (fun t k => XS.iload X35.here hx rfl (hb hby at_127) rfl k) ?_
    refine own_pre (B := T35.setTop (mkF m 130 #[.val (.int p1), .val (.int p2), .val (.int p3), .val (.int p4), .val (.int p5), .val (.ref b7), .val (.int ((p5 &&& (7 : Int32)) % (5 : Int32))), .val (.int ((((p5.toUInt32 >>> ((3 : Int32) &&& 31).toUInt32).toInt32) &&& (7 : Int32)) % (5 : Int32))), .val (.int (2 : Int32)), .val (.int z36), .val (.int z76)] [(.int (1 : Int32)), (.int (2 : Int32))])) (fun t k => XS.iconst X35.here hx rfl (hb hby at_129) k) ?_
    refine own_pre (B := T35.setTop (mkF m 151 #[.val (.int p1), .val (.int p2), .val (.int p3), .val (.int p4), .val (.int p5), .val (.ref b7), .val (.int ((p5 &&& (7 : Int32)) % (5 : Int32))), .val (.int ((((p5.toUInt32 >>> ((3 : Int32) &&& 31).toUInt32).toInt32) &&& (7 : Int32)) % (5 : Int32))), .val (.int (2 : Int32)), .val (.int z36), .val (.int z76)] [])) (fun t k => ?_) ?_
    · refine XS.icmpYes X35.here hx rfl (pc0 := 130) (pc' := 151) rfl (hb hby at_130) rfl (tlt (by decide : (1 : Int32) < (2 : Int32))).2.2.1 (by decide) (by decide) ?_
      show Steps p.tables e below (T35.setTop (mkF m 151 #[.val (.int p1), .val (.int p2), .val (.int p3), .val (.int p4), .val (.int p5), .val (.ref b7), .val (.int ((p5 &&& (7 : Int32)) % (5 : Int32))), .val (.int ((((p5.toUInt32 >>> ((3 : Int32) &&& 31).toUInt32).toInt32) &&& (7 : Int32)) % (5 : Int32))), .val (.int (2 : Int32)), .val (.int z36), .val (.int z76)] [])) _
      exact k
    refine own_pre (B := T35.setTop (mkF m 153 #[.val (.int p1), .val (.int p2), .val (.int p3), .val (.int p4), .val (.int p5), .val (.ref b7), .val (.int ((p5 &&& (7 : Int32)) % (5 : Int32))), .val (.int ((((p5.toUInt32 >>> ((3 : Int32) &&& 31).toUInt32).toInt32) &&& (7 : Int32)) % (5 : Int32))), .val (.int (2 : Int32)), .val (.int z36), .val (.int z76)] [(.int (2 : Int32))])) (fun t k => XS.iload X35.here hx rfl (hb hby at_151) rfl k) ?_
    refine own_pre (B := T35.setTop (mkF m 174 #[.val (.int p1), .val (.int p2), .val (.int p3), .val (.int p4), .val (.int p5), .val (.ref b7), .val (.int ((p5 &&& (7 : Int32)) % (5 : Int32))), .val (.int ((((p5.toUInt32 >>> ((3 : Int32) &&& 31).toUInt32).toInt32) &&& (7 : Int32)) % (5 : Int32))), .val (.int (2 : Int32)), .val (.int z36), .val (.int z76)] [])) (fun t k => ?_) ?_
    · refine XS.ifYes X35.here hx rfl (pc0 := 153) (pc' := 174) rfl (hb hby at_153) rfl ((if0 _ _).trans (tlt (by decide : (0 : Int32) < (2 : Int32))).2.2.1) (by decide) (by decide) ?_
      show Steps p.tables e below (T35.setTop (mkF m 174 #[.val (.int p1), .val (.int p2), .val (.int p3), .val (.int p4), .val (.int p5), .val (.ref b7), .val (.int ((p5 &&& (7 : Int32)) % (5 : Int32))), .val (.int ((((p5.toUInt32 >>> ((3 : Int32) &&& 31).toUInt32).toInt32) &&& (7 : Int32)) % (5 : Int32))), .val (.int (2 : Int32)), .val (.int z36), .val (.int z76)] [])) _
      exact k
    refine own_pre (B := T35.setTop (mkF m 176 #[.val (.int p1), .val (.int p2), .val (.int p3), .val (.int p4), .val (.int p5), .val (.ref b7), .val (.int ((p5 &&& (7 : Int32)) % (5 : Int32))), .val (.int ((((p5.toUInt32 >>> ((3 : Int32) &&& 31).toUInt32).toInt32) &&& (7 : Int32)) % (5 : Int32))), .val (.int (2 : Int32)), .val (.int z36), .val (.int z76)] [(.ref b7)])) (fun t k => XS.aload X35.here hx rfl (hb hby at_174) rfl rfl k) ?_
    refine own_pre (B := T35.setTop (mkF m 178 #[.val (.int p1), .val (.int p2), .val (.int p3), .val (.int p4), .val (.int p5), .val (.ref b7), .val (.int ((p5 &&& (7 : Int32)) % (5 : Int32))), .val (.int ((((p5.toUInt32 >>> ((3 : Int32) &&& 31).toUInt32).toInt32) &&& (7 : Int32)) % (5 : Int32))), .val (.int (2 : Int32)), .val (.int z36), .val (.int z76)] [(.int (2 : Int32)), (.ref b7)])) (fun t k => XS.iload X35.here hx rfl (hb hby at_176) rfl k) ?_
    refine own_pre (B := T35.setTop (mkF m 180 #[.val (.int p1), .val (.int p2), .val (.int p3), .val (.int p4), .val (.int p5), .val (.ref b7), .val (.int ((p5 &&& (7 : Int32)) % (5 : Int32))), .val (.int ((((p5.toUInt32 >>> ((3 : Int32) &&& 31).toUInt32).toInt32) &&& (7 : Int32)) % (5 : Int32))), .val (.int (2 : Int32)), .val (.int z36), .val (.int z76)] [(.int z36), (.int (2 : Int32)), (.ref b7)])) (fun t k => XS.iload X35.here hx rfl (hb hby at_178) rfl k) ?_
    obtain ⟨_, _, ⟨T80, L80, k80, n80⟩, -, X80, ⟨Lc80, hQ80, l80, y80, z80⟩, st80⟩ := Jvm.LawKit.callS X35 hx (y := (⟨"com/example/anableps/anableps/name/Names", "labelEnd", "([CII)I"⟩ : MethodName)) hown (mvT hZ (hw _ (ow 12 rfl))) (mvT hZ (hw _ (ow 13 rfl))) (mvT hZ (hw _ (ow 14 rfl))) (mvT hZ (hw _ (ow 15 rfl))) (by decide) (backOf (W := 0) (rm4_2 l Z a0 hw [] b7 z36 k7 (nar .char z10) (nar .char z16) (nar .char z22) (nar .char z28) h31 n0 sz32 V31 mm37.2.2.1) hZ (hw _ (ow 15 rfl)) (hw _ (ow 14 rfl)) (by decide) (by decide)) (g := (mkF m 180 #[.val (.int p1), .val (.int p2), .val (.int p3), .val (.int p4), .val (.int p5), .val (.ref b7), .val (.int ((p5 &&& (7 : Int32)) % (5 : Int32))), .val (.int ((((p5.toUInt32 >>> ((3 : Int32) &&& 31).toUInt32).toInt32) &&& (7 : Int32)) % (5 : Int32))), .val (.int (2 : Int32)), .val (.int z36), .val (.int z76)] [(.int z36), (.int (2 : Int32)), (.ref b7)])) rfl (by rw [hml]; rfl) (argsL := [(.ref b7), (.int (2 : Int32)), (.int z36)]) (rest := []) (lenOf pd_2 rfl) rfl (by show 2 * 0 + _ ≤ _; exact Nat.le_of_eq rfl) (hb hby at_180) (fun _ _ => ⟨rfl, e35, (by decide : 1 + 0 ≤ _), (by decide : 4 + 0 ≤ _)⟩)
    dsimp only [Pt.U, Pt.locs, Pt.cells, Pt.slots] at X80 l80 y80 z80 st80 hQ80
    subst l80 y80 z80
    obtain ⟨rfl, N80q, e80⟩ := hQ80
    have N80 := Fr.app N35 N80q
    obtain ⟨z81, hz81⟩ : ∃ z : Int32, z = (own_f4_2 z36 (nar .char z10) (nar .char z16) (nar .char z22) (nar .char z28)) := ⟨_, rfl⟩
    rw [← hz81] at st80
    refine own_pre (B := T80.setTop (mkF m 183 #[.val (.int p1), .val (.int p2), .val (.int p3), .val (.int p4), .val (.int p5), .val (.ref b7), .val (.int ((p5 &&& (7 : Int32)) % (5 : Int32))), .val (.int ((((p5.toUInt32 >>> ((3 : Int32) &&& 31).toUInt32).toInt32) &&& (7 : Int32)) % (5 : Int32))), .val (.int (2 : Int32)), .val (.int z36), .val (.int z76)] [(.int z81)])) (fun t k => st80 t k) ?_
    refine own_pre (B := T80.setTop (mkF m 185 #[.val (.int p1), .val (.int p2), .val (.int p3), .val (.int p4), .val (.int p5), .val (.ref b7), .val (.int ((p5 &&& (7 : Int32)) % (5 : Int32))), .val (.int ((((p5.toUInt32 >>> ((3 : Int32) &&& 31).toUInt32).toInt32) &&& (7 : Int32)) % (5 : Int32))), .val (.int (2 : Int32)), .val (.int z36), .val (.int z76)] [(.int z76), (.int z81)])) (fun t k => XS.iload X80.here hx rfl (hb hby at_183) rfl k) ?_
    refine own_pre (B := T80.setTop (mkF m 188 #[.val (.int p1), .val (.int p2), .val (.int p3), .val (.int p4), .val (.int p5), .val (.ref b7), .val (.int ((p5 &&& (7 : Int32)) % (5 : Int32))), .val (.int ((((p5.toUInt32 >>> ((3 : Int32) &&& 31).toUInt32).toInt32) &&& (7 : Int32)) % (5 : Int32))), .val (.int (2 : Int32)), .val (.int z36), .val (.int z76)] [])) (fun t k => XS.icmpNo X80.here hx rfl (hb hby at_185) rfl (teq (own_law2 hz72 hz76 hz81 mm37.2.1 mm37.2.2.1 mm37.2.2.2)).2 k) ?_
    refine own_pre (B := T80.setTop (mkF m 189 #[.val (.int p1), .val (.int p2), .val (.int p3), .val (.int p4), .val (.int p5), .val (.ref b7), .val (.int ((p5 &&& (7 : Int32)) % (5 : Int32))), .val (.int ((((p5.toUInt32 >>> ((3 : Int32) &&& 31).toUInt32).toInt32) &&& (7 : Int32)) % (5 : Int32))), .val (.int (2 : Int32)), .val (.int z36), .val (.int z76)] [(.int (1 : Int32))])) (fun t k => XS.iconst X80.here hx rfl (hb hby at_188) k) ?_
    refine own_pre (B := T80.setTop (mkF m 193 #[.val (.int p1), .val (.int p2), .val (.int p3), .val (.int p4), .val (.int p5), .val (.ref b7), .val (.int ((p5 &&& (7 : Int32)) % (5 : Int32))), .val (.int ((((p5.toUInt32 >>> ((3 : Int32) &&& 31).toUInt32).toInt32) &&& (7 : Int32)) % (5 : Int32))), .val (.int (2 : Int32)), .val (.int z36), .val (.int z76)] [(.int (1 : Int32))])) (fun t k => XS.goto X80.here hx rfl (pc0 := 189) (pc' := 193) rfl (hb hby at_189) (by decide) (by decide) k) ?_
    obtain ⟨fsr82, hrr82, hrunr82, hendedr82, hWr82, hsamer82⟩ := X80.leave (v := some (.int (1 : Int32))) (fun h => by rw [Bd.returns] at h; cases h)
    refine ⟨_, _, (retN X80 hx (t := .boolean) Bd.returns (by simp) (hb hby at_193) hrr82), hrunr82, hendedr82, _, _, rfl, ?_, ⟨_, rfl⟩, hWr82, hsamer82.mono (by decide) (by decide)⟩
    show Q0 Z p1 p2 p3 p4 p5 h0 n0 _ T80.heap _
    rw [e80]
    exact ⟨rfl, N80⟩
  · subst hs
    refine own_pre (B := T35.setTop (mkF m 81 #[.val (.int p1), .val (.int p2), .val (.int p3), .val (.int p4), .val (.int p5), .val (.ref b7), .val (.int ((p5 &&& (7 : Int32)) % (5 : Int32))), .val (.int ((((p5.toUInt32 >>> ((3 : Int32) &&& 31).toUInt32).toInt32) &&& (7 : Int32)) % (5 : Int32))), .val (.int (3 : Int32)), .val (.int z36), .val (.int z36)] [(.int (3 : Int32))])) (fun t k => XS.iload X35.here hx rfl (hb hby at_79) rfl k) ?_
    refine own_pre (B := T35.setTop (mkF m 82 #[.val (.int p1), .val (.int p2), .val (.int p3), .val (.int p4), .val (.int p5), .val (.ref b7), .val (.int ((p5 &&& (7 : Int32)) % (5 : Int32))), .val (.int ((((p5.toUInt32 >>> ((3 : Int32) &&& 31).toUInt32).toInt32) &&& (7 : Int32)) % (5 : Int32))), .val (.int (3 : Int32)), .val (.int z36), .val (.int z36)] [(.int (3 : Int32)), (.int (3 : Int32))])) (fun t k => XS.iconst X35.here hx rfl (hb hby at_81) k) ?_
    obtain ⟨z83, hz83⟩ : ∃ z : Int32, z = (if (3 : Int32) < z36 then (if (nar .char z28) = (46 : Int32) then (3 : Int32) else z36) else z36) := ⟨_, rfl⟩
    refine own_pre (B := T35.setTop (mkF m 103 #[.val (.int p1), .val (.int p2), .val (.int p3), .val (.int p4), .val (.int p5), .val (.ref b7), .val (.int ((p5 &&& (7 : Int32)) % (5 : Int32))), .val (.int ((((p5.toUInt32 >>> ((3 : Int32) &&& 31).toUInt32).toInt32) &&& (7 : Int32)) % (5 : Int32))), .val (.int (3 : Int32)), .val (.int z36), .val (.int z83)] [])) (fun t k => ?_) ?_
    · refine XS.icmpNo X35.here hx rfl (hb hby at_82) rfl (flt (by decide : ¬ ((3 : Int32) < (3 : Int32)))).2.2.1 ?_
      show Steps p.tables e below (T35.setTop (mkF m 85 #[.val (.int p1), .val (.int p2), .val (.int p3), .val (.int p4), .val (.int p5), .val (.ref b7), .val (.int ((p5 &&& (7 : Int32)) % (5 : Int32))), .val (.int ((((p5.toUInt32 >>> ((3 : Int32) &&& 31).toUInt32).toInt32) &&& (7 : Int32)) % (5 : Int32))), .val (.int (3 : Int32)), .val (.int z36), .val (.int z36)] [])) _
      refine XS.iconst X35.here hx rfl (hb hby at_85) ?_
      show Steps p.tables e below (T35.setTop (mkF m 86 #[.val (.int p1), .val (.int p2), .val (.int p3), .val (.int p4), .val (.int p5), .val (.ref b7), .val (.int ((p5 &&& (7 : Int32)) % (5 : Int32))), .val (.int ((((p5.toUInt32 >>> ((3 : Int32) &&& 31).toUInt32).toInt32) &&& (7 : Int32)) % (5 : Int32))), .val (.int (3 : Int32)), .val (.int z36), .val (.int z36)] [(.int (3 : Int32))])) _
      refine XS.iload X35.here hx rfl (hb hby at_86) rfl ?_
      show Steps p.tables e below (T35.setTop (mkF m 88 #[.val (.int p1), .val (.int p2), .val (.int p3), .val (.int p4), .val (.int p5), .val (.ref b7), .val (.int ((p5 &&& (7 : Int32)) % (5 : Int32))), .val (.int ((((p5.toUInt32 >>> ((3 : Int32) &&& 31).toUInt32).toInt32) &&& (7 : Int32)) % (5 : Int32))), .val (.int (3 : Int32)), .val (.int z36), .val (.int z36)] [(.int z36), (.int (3 : Int32))])) _
      by_cases hc88_84 : (3 : Int32) < z36
      · refine XS.icmpNo X35.here hx rfl (hb hby at_88) rfl (tlt hc88_84).2.1 ?_
        show Steps p.tables e below (T35.setTop (mkF m 91 #[.val (.int p1), .val (.int p2), .val (.int p3), .val (.int p4), .val (.int p5), .val (.ref b7), .val (.int ((p5 &&& (7 : Int32)) % (5 : Int32))), .val (.int ((((p5.toUInt32 >>> ((3 : Int32) &&& 31).toUInt32).toInt32) &&& (7 : Int32)) % (5 : Int32))), .val (.int (3 : Int32)), .val (.int z36), .val (.int z36)] [])) _
        refine XS.aload X35.here hx rfl (hb hby at_91) rfl rfl ?_
        show Steps p.tables e below (T35.setTop (mkF m 93 #[.val (.int p1), .val (.int p2), .val (.int p3), .val (.int p4), .val (.int p5), .val (.ref b7), .val (.int ((p5 &&& (7 : Int32)) % (5 : Int32))), .val (.int ((((p5.toUInt32 >>> ((3 : Int32) &&& 31).toUInt32).toInt32) &&& (7 : Int32)) % (5 : Int32))), .val (.int (3 : Int32)), .val (.int z36), .val (.int z36)] [(.ref b7)])) _
        refine XS.iconst X35.here hx rfl (hb hby at_93) ?_
        show Steps p.tables e below (T35.setTop (mkF m 94 #[.val (.int p1), .val (.int p2), .val (.int p3), .val (.int p4), .val (.int p5), .val (.ref b7), .val (.int ((p5 &&& (7 : Int32)) % (5 : Int32))), .val (.int ((((p5.toUInt32 >>> ((3 : Int32) &&& 31).toUInt32).toInt32) &&& (7 : Int32)) % (5 : Int32))), .val (.int (3 : Int32)), .val (.int z36), .val (.int z36)] [(.int (3 : Int32)), (.ref b7)])) _
        obtain ⟨cl85, Ar85, q85, S85, N85v, H85v, G85v⟩ := V31
        have V31 : Arv Z h31 b7 k7 .char (4 : Int32) [(.int (nar .char z10)), (.int (nar .char z16)), (.int (nar .char z22)), (.int (nar .char z28))] (.int (0 : Int32)) := ⟨cl85, Ar85, q85, S85, N85v, H85v, G85v⟩
        have hin85 : ¬ ((3 : Int32) < 0 ∨ cl85.slots.size ≤ ((3 : Int32)).toNatClampNeg) := inb_of S85 ⟨by decide, by decide⟩
        have hat85 : cl85.slots[((3 : Int32)).toNatClampNeg]? = some (.int (nar .char z28)) := H85v.at hin85 rfl
        refine X35.caload hx (j := (3 : Int32)) (v := (.int (nar .char z28))) (by rw [e35]; exact Ar85.1) (State.isArrayOf_alike hZ.alike Ar85.2.1) Ar85.2.2 hin85 hat85 (g := (mkF m 94 #[.val (.int p1), .val (.int p2), .val (.int p3), .val (.int p4), .val (.int p5), .val (.ref b7), .val (.int ((p5 &&& (7 : Int32)) % (5 : Int32))), .val (.int ((((p5.toUInt32 >>> ((3 : Int32) &&& 31).toUInt32).toInt32) &&& (7 : Int32)) % (5 : Int32))), .val (.int (3 : Int32)), .val (.int z36), .val (.int z36)] [(.int (3 : Int32)), (.ref b7)])) rfl rfl (hb hby at_94) _ ?_
        show Steps p.tables e below (T35.setTop (mkF m 95 #[.val (.int p1), .val (.int p2), .val (.int p3), .val (.int p4), .val (.int p5), .val (.ref b7), .val (.int ((p5 &&& (7 : Int32)) % (5 : Int32))), .val (.int ((((p5.toUInt32 >>> ((3 : Int32) &&& 31).toUInt32).toInt32) &&& (7 : Int32)) % (5 : Int32))), .val (.int (3 : Int32)), .val (.int z36), .val (.int z36)] [(.int (nar .char z28))])) _
        refine XS.bipush X35.here hx rfl (hb hby at_95) ?_
        show Steps p.tables e below (T35.setTop (mkF m 97 #[.val (.int p1), .val (.int p2), .val (.int p3), .val (.int p4), .val (.int p5), .val (.ref b7), .val (.int ((p5 &&& (7 : Int32)) % (5 : Int32))), .val (.int ((((p5.toUInt32 >>> ((3 : Int32) &&& 31).toUInt32).toInt32) &&& (7 : Int32)) % (5 : Int32))), .val (.int (3 : Int32)), .val (.int z36), .val (.int z36)] [(.int (46 : Int32)), (.int (nar .char z28))])) _
        by_cases hc97_86 : (nar .char z28) = (46 : Int32)
        · refine XS.icmpNo X35.here hx rfl (hb hby at_97) rfl (teq hc97_86).2 ?_
          show Steps p.tables e below (T35.setTop (mkF m 100 #[.val (.int p1), .val (.int p2), .val (.int p3), .val (.int p4), .val (.int p5), .val (.ref b7), .val (.int ((p5 &&& (7 : Int32)) % (5 : Int32))), .val (.int ((((p5.toUInt32 >>> ((3 : Int32) &&& 31).toUInt32).toInt32) &&& (7 : Int32)) % (5 : Int32))), .val (.int (3 : Int32)), .val (.int z36), .val (.int z36)] [])) _
          refine XS.iconst X35.here hx rfl (hb hby at_100) ?_
          show Steps p.tables e below (T35.setTop (mkF m 101 #[.val (.int p1), .val (.int p2), .val (.int p3), .val (.int p4), .val (.int p5), .val (.ref b7), .val (.int ((p5 &&& (7 : Int32)) % (5 : Int32))), .val (.int ((((p5.toUInt32 >>> ((3 : Int32) &&& 31).toUInt32).toInt32) &&& (7 : Int32)) % (5 : Int32))), .val (.int (3 : Int32)), .val (.int z36), .val (.int z36)] [(.int (3 : Int32))])) _
          refine XS.istore X35.here hx rfl (hb hby at_101) rfl (l' := #[.val (.int p1), .val (.int p2), .val (.int p3), .val (.int p4), .val (.int p5), .val (.ref b7), .val (.int ((p5 &&& (7 : Int32)) % (5 : Int32))), .val (.int ((((p5.toUInt32 >>> ((3 : Int32) &&& 31).toUInt32).toInt32) &&& (7 : Int32)) % (5 : Int32))), .val (.int (3 : Int32)), .val (.int z36), .val (.int (3 : Int32))]) rfl ?_
          show Steps p.tables e below (T35.setTop (mkF m 103 #[.val (.int p1), .val (.int p2), .val (.int p3), .val (.int p4), .val (.int p5), .val (.ref b7), .val (.int ((p5 &&& (7 : Int32)) % (5 : Int32))), .val (.int ((((p5.toUInt32 >>> ((3 : Int32) &&& 31).toUInt32).toInt32) &&& (7 : Int32)) % (5 : Int32))), .val (.int (3 : Int32)), .val (.int z36), .val (.int (3 : Int32))] [])) _
          rw [if_pos hc88_84, if_pos hc97_86] at hz83
          subst hz83
          exact k
        · refine XS.icmpYes X35.here hx rfl (pc0 := 97) (pc' := 103) rfl (hb hby at_97) rfl (feq hc97_86).2 (by decide) (by decide) ?_
          show Steps p.tables e below (T35.setTop (mkF m 103 #[.val (.int p1), .val (.int p2), .val (.int p3), .val (.int p4), .val (.int p5), .val (.ref b7), .val (.int ((p5 &&& (7 : Int32)) % (5 : Int32))), .val (.int ((((p5.toUInt32 >>> ((3 : Int32) &&& 31).toUInt32).toInt32) &&& (7 : Int32)) % (5 : Int32))), .val (.int (3 : Int32)), .val (.int z36), .val (.int z36)] [])) _
          rw [if_pos hc88_84, if_neg hc97_86] at hz83
          subst hz83
          exact k
      · refine XS.icmpYes X35.here hx rfl (pc0 := 88) (pc' := 103) rfl (hb hby at_88) rfl (flt hc88_84).2.1 (by decide) (by decide) ?_
        show Steps p.tables e below (T35.setTop (mkF m 103 #[.val (.int p1), .val (.int p2), .val (.int p3), .val (.int p4), .val (.int p5), .val (.ref b7), .val (.int ((p5 &&& (7 : Int32)) % (5 : Int32))), .val (.int ((((p5.toUInt32 >>> ((3 : Int32) &&& 31).toUInt32).toInt32) &&& (7 : Int32)) % (5 : Int32))), .val (.int (3 : Int32)), .val (.int z36), .val (.int z36)] [])) _
        rw [if_neg hc88_84] at hz83
        subst hz83
        exact k
    refine own_pre (B := T35.setTop (mkF m 105 #[.val (.int p1), .val (.int p2), .val (.int p3), .val (.int p4), .val (.int p5), .val (.ref b7), .val (.int ((p5 &&& (7 : Int32)) % (5 : Int32))), .val (.int ((((p5.toUInt32 >>> ((3 : Int32) &&& 31).toUInt32).toInt32) &&& (7 : Int32)) % (5 : Int32))), .val (.int (3 : Int32)), .val (.int z36), .val (.int z83)] [(.int (3 : Int32))])) (fun t k => XS.iload X35.here hx rfl (hb hby at_103) rfl k) ?_
    refine own_pre (B := T35.setTop (mkF m 106 #[.val (.int p1), .val (.int p2), .val (.int p3), .val (.int p4), .val (.int p5), .val (.ref b7), .val (.int ((p5 &&& (7 : Int32)) % (5 : Int32))), .val (.int ((((p5.toUInt32 >>> ((3 : Int32) &&& 31).toUInt32).toInt32) &&& (7 : Int32)) % (5 : Int32))), .val (.int (3 : Int32)), .val (.int z36), .val (.int z83)] [(.int (2 : Int32)), (.int (3 : Int32))])) (fun t k => XS.iconst X35.here hx rfl (hb hby at_105) k) ?_
    refine own_pre (B := T35.setTop (mkF m 127 #[.val (.int p1), .val (.int p2), .val (.int p3), .val (.int p4), .val (.int p5), .val (.ref b7), .val (.int ((p5 &&& (7 : Int32)) % (5 : Int32))), .val (.int ((((p5.toUInt32 >>> ((3 : Int32) &&& 31).toUInt32).toInt32) &&& (7 : Int32)) % (5 : Int32))), .val (.int (3 : Int32)), .val (.int z36), .val (.int z83)] [])) (fun t k => ?_) ?_
    · refine XS.icmpYes X35.here hx rfl (pc0 := 106) (pc' := 127) rfl (hb hby at_106) rfl (tlt (by decide : (2 : Int32) < (3 : Int32))).2.2.1 (by decide) (by decide) ?_
      show Steps p.tables e below (T35.setTop (mkF m 127 #[.val (.int p1), .val (.int p2), .val (.int p3), .val (.int p4), .val (.int p5), .val (.ref b7), .val (.int ((p5 &&& (7 : Int32)) % (5 : Int32))), .val (.int ((((p5.toUInt32 >>> ((3 : Int32) &&& 31).toUInt32).toInt32) &&& (7 : Int32)) % (5 : Int32))), .val (.int (3 : Int32)), .val (.int z36), .val (.int z83)] [])) _
      exact k
    refine own_pre (B := T35.setTop (mkF m 129 #[.val (.int p1), .val (.int p2), .val (.int p3), .val (.int p4), .val (.int p5), .val (.ref b7), .val (.int ((p5 &&& (7 : Int32)) % (5 : Int32))), .val (.int ((((p5.toUInt32 >>> ((3 : Int32) &&& 31).toUInt32).toInt32) &&& (7 : Int32)) % (5 : Int32))), .val (.int (3 : Int32)), .val (.int z36), .val (.int z83)] [(.int (3 : Int32))])) (fun t k => XS.iload X35.here hx rfl (hb hby at_127) rfl k) ?_
    refine own_pre (B := T35.setTop (mkF m 130 #[.val (.int p1), .val (.int p2), .val (.int p3), .val (.int p4), .val (.int p5), .val (.ref b7), .val (.int ((p5 &&& (7 : Int32)) % (5 : Int32))), .val (.int ((((p5.toUInt32 >>> ((3 : Int32) &&& 31).toUInt32).toInt32) &&& (7 : Int32)) % (5 : Int32))), .val (.int (3 : Int32)), .val (.int z36), .val (.int z83)] [(.int (1 : Int32)), (.int (3 : Int32))])) (fun t k => XS.iconst X35.here hx rfl (hb hby at_129) k) ?_
    refine own_pre (B := T35.setTop (mkF m 151 #[.val (.int p1), .val (.int p2), .val (.int p3), .val (.int p4), .val (.int p5), .val (.ref b7), .val (.int ((p5 &&& (7 : Int32)) % (5 : Int32))), .val (.int ((((p5.toUInt32 >>> ((3 : Int32) &&& 31).toUInt32).toInt32) &&& (7 : Int32)) % (5 : Int32))), .val (.int (3 : Int32)), .val (.int z36), .val (.int z83)] [])) (fun t k => ?_) ?_
    · refine XS.icmpYes X35.here hx rfl (pc0 := 130) (pc' := 151) rfl (hb hby at_130) rfl (tlt (by decide : (1 : Int32) < (3 : Int32))).2.2.1 (by decide) (by decide) ?_
      show Steps p.tables e below (T35.setTop (mkF m 151 #[.val (.int p1), .val (.int p2), .val (.int p3), .val (.int p4), .val (.int p5), .val (.ref b7), .val (.int ((p5 &&& (7 : Int32)) % (5 : Int32))), .val (.int ((((p5.toUInt32 >>> ((3 : Int32) &&& 31).toUInt32).toInt32) &&& (7 : Int32)) % (5 : Int32))), .val (.int (3 : Int32)), .val (.int z36), .val (.int z83)] [])) _
      exact k
    refine own_pre (B := T35.setTop (mkF m 153 #[.val (.int p1), .val (.int p2), .val (.int p3), .val (.int p4), .val (.int p5), .val (.ref b7), .val (.int ((p5 &&& (7 : Int32)) % (5 : Int32))), .val (.int ((((p5.toUInt32 >>> ((3 : Int32) &&& 31).toUInt32).toInt32) &&& (7 : Int32)) % (5 : Int32))), .val (.int (3 : Int32)), .val (.int z36), .val (.int z83)] [(.int (3 : Int32))])) (fun t k => XS.iload X35.here hx rfl (hb hby at_151) rfl k) ?_
    refine own_pre (B := T35.setTop (mkF m 174 #[.val (.int p1), .val (.int p2), .val (.int p3), .val (.int p4), .val (.int p5), .val (.ref b7), .val (.int ((p5 &&& (7 : Int32)) % (5 : Int32))), .val (.int ((((p5.toUInt32 >>> ((3 : Int32) &&& 31).toUInt32).toInt32) &&& (7 : Int32)) % (5 : Int32))), .val (.int (3 : Int32)), .val (.int z36), .val (.int z83)] [])) (fun t k => ?_) ?_
    · refine XS.ifYes X35.here hx rfl (pc0 := 153) (pc' := 174) rfl (hb hby at_153) rfl ((if0 _ _).trans (tlt (by decide : (0 : Int32) < (3 : Int32))).2.2.1) (by decide) (by decide) ?_
      show Steps p.tables e below (T35.setTop (mkF m 174 #[.val (.int p1), .val (.int p2), .val (.int p3), .val (.int p4), .val (.int p5), .val (.ref b7), .val (.int ((p5 &&& (7 : Int32)) % (5 : Int32))), .val (.int ((((p5.toUInt32 >>> ((3 : Int32) &&& 31).toUInt32).toInt32) &&& (7 : Int32)) % (5 : Int32))), .val (.int (3 : Int32)), .val (.int z36), .val (.int z83)] [])) _
      exact k
    refine own_pre (B := T35.setTop (mkF m 176 #[.val (.int p1), .val (.int p2), .val (.int p3), .val (.int p4), .val (.int p5), .val (.ref b7), .val (.int ((p5 &&& (7 : Int32)) % (5 : Int32))), .val (.int ((((p5.toUInt32 >>> ((3 : Int32) &&& 31).toUInt32).toInt32) &&& (7 : Int32)) % (5 : Int32))), .val (.int (3 : Int32)), .val (.int z36), .val (.int z83)] [(.ref b7)])) (fun t k => XS.aload X35.here hx rfl (hb hby at_174) rfl rfl k) ?_
    refine own_pre (B := T35.setTop (mkF m 178 #[.val (.int p1), .val (.int p2), .val (.int p3), .val (.int p4), .val (.int p5), .val (.ref b7), .val (.int ((p5 &&& (7 : Int32)) % (5 : Int32))), .val (.int ((((p5.toUInt32 >>> ((3 : Int32) &&& 31).toUInt32).toInt32) &&& (7 : Int32)) % (5 : Int32))), .val (.int (3 : Int32)), .val (.int z36), .val (.int z83)] [(.int (3 : Int32)), (.ref b7)])) (fun t k => XS.iload X35.here hx rfl (hb hby at_176) rfl k) ?_
    refine own_pre (B := T35.setTop (mkF m 180 #[.val (.int p1), .val (.int p2), .val (.int p3), .val (.int p4), .val (.int p5), .val (.ref b7), .val (.int ((p5 &&& (7 : Int32)) % (5 : Int32))), .val (.int ((((p5.toUInt32 >>> ((3 : Int32) &&& 31).toUInt32).toInt32) &&& (7 : Int32)) % (5 : Int32))), .val (.int (3 : Int32)), .val (.int z36), .val (.int z83)] [(.int z36), (.int (3 : Int32)), (.ref b7)])) (fun t k => XS.iload X35.here hx rfl (hb hby at_178) rfl k) ?_
    obtain ⟨_, _, ⟨T87, L87, k87, n87⟩, -, X87, ⟨Lc87, hQ87, l87, y87, z87⟩, st87⟩ := Jvm.LawKit.callS X35 hx (y := (⟨"com/example/anableps/anableps/name/Names", "labelEnd", "([CII)I"⟩ : MethodName)) hown (mvT hZ (hw _ (ow 12 rfl))) (mvT hZ (hw _ (ow 13 rfl))) (mvT hZ (hw _ (ow 14 rfl))) (mvT hZ (hw _ (ow 15 rfl))) (by decide) (backOf (W := 0) (rm4_3 l Z a0 hw [] b7 z36 k7 (nar .char z10) (nar .char z16) (nar .char z22) (nar .char z28) h31 n0 sz32 V31 mm37.2.2.1) hZ (hw _ (ow 15 rfl)) (hw _ (ow 14 rfl)) (by decide) (by decide)) (g := (mkF m 180 #[.val (.int p1), .val (.int p2), .val (.int p3), .val (.int p4), .val (.int p5), .val (.ref b7), .val (.int ((p5 &&& (7 : Int32)) % (5 : Int32))), .val (.int ((((p5.toUInt32 >>> ((3 : Int32) &&& 31).toUInt32).toInt32) &&& (7 : Int32)) % (5 : Int32))), .val (.int (3 : Int32)), .val (.int z36), .val (.int z83)] [(.int z36), (.int (3 : Int32)), (.ref b7)])) rfl (by rw [hml]; rfl) (argsL := [(.ref b7), (.int (3 : Int32)), (.int z36)]) (rest := []) (lenOf pd_2 rfl) rfl (by show 2 * 0 + _ ≤ _; exact Nat.le_of_eq rfl) (hb hby at_180) (fun _ _ => ⟨rfl, e35, (by decide : 1 + 0 ≤ _), (by decide : 4 + 0 ≤ _)⟩)
    dsimp only [Pt.U, Pt.locs, Pt.cells, Pt.slots] at X87 l87 y87 z87 st87 hQ87
    subst l87 y87 z87
    obtain ⟨rfl, N87q, e87⟩ := hQ87
    have N87 := Fr.app N35 N87q
    obtain ⟨z88, hz88⟩ : ∃ z : Int32, z = (own_f4_3 z36 (nar .char z10) (nar .char z16) (nar .char z22) (nar .char z28)) := ⟨_, rfl⟩
    rw [← hz88] at st87
    refine own_pre (B := T87.setTop (mkF m 183 #[.val (.int p1), .val (.int p2), .val (.int p3), .val (.int p4), .val (.int p5), .val (.ref b7), .val (.int ((p5 &&& (7 : Int32)) % (5 : Int32))), .val (.int ((((p5.toUInt32 >>> ((3 : Int32) &&& 31).toUInt32).toInt32) &&& (7 : Int32)) % (5 : Int32))), .val (.int (3 : Int32)), .val (.int z36), .val (.int z83)] [(.int z88)])) (fun t k => st87 t k) ?_
    refine own_pre (B := T87.setTop (mkF m 185 #[.val (.int p1), .val (.int p2), .val (.int p3), .val (.int p4), .val (.int p5), .val (.ref b7), .val (.int ((p5 &&& (7 : Int32)) % (5 : Int32))), .val (.int ((((p5.toUInt32 >>> ((3 : Int32) &&& 31).toUInt32).toInt32) &&& (7 : Int32)) % (5 : Int32))), .val (.int (3 : Int32)), .val (.int z36), .val (.int z83)] [(.int z83), (.int z88)])) (fun t k => XS.iload X87.here hx rfl (hb hby at_183) rfl k) ?_
    refine own_pre (B := T87.setTop (mkF m 188 #[.val (.int p1), .val (.int p2), .val (.int p3), .val (.int p4), .val (.int p5), .val (.ref b7), .val (.int ((p5 &&& (7 : Int32)) % (5 : Int32))), .val (.int ((((p5.toUInt32 >>> ((3 : Int32) &&& 31).toUInt32).toInt32) &&& (7 : Int32)) % (5 : Int32))), .val (.int (3 : Int32)), .val (.int z36), .val (.int z83)] [])) (fun t k => XS.icmpNo X87.here hx rfl (hb hby at_185) rfl (teq (own_law3 hz83 hz88 mm37.2.1 mm37.2.2.1 mm37.2.2.2)).2 k) ?_
    refine own_pre (B := T87.setTop (mkF m 189 #[.val (.int p1), .val (.int p2), .val (.int p3), .val (.int p4), .val (.int p5), .val (.ref b7), .val (.int ((p5 &&& (7 : Int32)) % (5 : Int32))), .val (.int ((((p5.toUInt32 >>> ((3 : Int32) &&& 31).toUInt32).toInt32) &&& (7 : Int32)) % (5 : Int32))), .val (.int (3 : Int32)), .val (.int z36), .val (.int z83)] [(.int (1 : Int32))])) (fun t k => XS.iconst X87.here hx rfl (hb hby at_188) k) ?_
    refine own_pre (B := T87.setTop (mkF m 193 #[.val (.int p1), .val (.int p2), .val (.int p3), .val (.int p4), .val (.int p5), .val (.ref b7), .val (.int ((p5 &&& (7 : Int32)) % (5 : Int32))), .val (.int ((((p5.toUInt32 >>> ((3 : Int32) &&& 31).toUInt32).toInt32) &&& (7 : Int32)) % (5 : Int32))), .val (.int (3 : Int32)), .val (.int z36), .val (.int z83)] [(.int (1 : Int32))])) (fun t k => XS.goto X87.here hx rfl (pc0 := 189) (pc' := 193) rfl (hb hby at_189) (by decide) (by decide) k) ?_
    obtain ⟨fsr89, hrr89, hrunr89, hendedr89, hWr89, hsamer89⟩ := X87.leave (v := some (.int (1 : Int32))) (fun h => by rw [Bd.returns] at h; cases h)
    refine ⟨_, _, (retN X87 hx (t := .boolean) Bd.returns (by simp) (hb hby at_193) hrr89), hrunr89, hendedr89, _, _, rfl, ?_, ⟨_, rfl⟩, hWr89, hsamer89.mono (by decide) (by decide)⟩
    show Q0 Z p1 p2 p3 p4 p5 h0 n0 _ T87.heap _
    rw [e87]
    exact ⟨rfl, N87⟩
  · subst hs
    refine own_pre (B := T35.setTop (mkF m 81 #[.val (.int p1), .val (.int p2), .val (.int p3), .val (.int p4), .val (.int p5), .val (.ref b7), .val (.int ((p5 &&& (7 : Int32)) % (5 : Int32))), .val (.int ((((p5.toUInt32 >>> ((3 : Int32) &&& 31).toUInt32).toInt32) &&& (7 : Int32)) % (5 : Int32))), .val (.int (4 : Int32)), .val (.int z36), .val (.int z36)] [(.int (4 : Int32))])) (fun t k => XS.iload X35.here hx rfl (hb hby at_79) rfl k) ?_
    refine own_pre (B := T35.setTop (mkF m 82 #[.val (.int p1), .val (.int p2), .val (.int p3), .val (.int p4), .val (.int p5), .val (.ref b7), .val (.int ((p5 &&& (7 : Int32)) % (5 : Int32))), .val (.int ((((p5.toUInt32 >>> ((3 : Int32) &&& 31).toUInt32).toInt32) &&& (7 : Int32)) % (5 : Int32))), .val (.int (4 : Int32)), .val (.int z36), .val (.int z36)] [(.int (3 : Int32)), (.int (4 : Int32))])) (fun t k => XS.iconst X35.here hx rfl (hb hby at_81) k) ?_
    refine own_pre (B := T35.setTop (mkF m 103 #[.val (.int p1), .val (.int p2), .val (.int p3), .val (.int p4), .val (.int p5), .val (.ref b7), .val (.int ((p5 &&& (7 : Int32)) % (5 : Int32))), .val (.int ((((p5.toUInt32 >>> ((3 : Int32) &&& 31).toUInt32).toInt32) &&& (7 : Int32)) % (5 : Int32))), .val (.int (4 : Int32)), .val (.int z36), .val (.int z36)] [])) (fun t k => ?_) ?_
    · refine XS.icmpYes X35.here hx rfl (pc0 := 82) (pc' := 103) rfl (hb hby at_82) rfl (tlt (by decide : (3 : Int32) < (4 : Int32))).2.2.1 (by decide) (by decide) ?_
      show Steps p.tables e below (T35.setTop (mkF m 103 #[.val (.int p1), .val (.int p2), .val (.int p3), .val (.int p4), .val (.int p5), .val (.ref b7), .val (.int ((p5 &&& (7 : Int32)) % (5 : Int32))), .val (.int ((((p5.toUInt32 >>> ((3 : Int32) &&& 31).toUInt32).toInt32) &&& (7 : Int32)) % (5 : Int32))), .val (.int (4 : Int32)), .val (.int z36), .val (.int z36)] [])) _
      exact k
    refine own_pre (B := T35.setTop (mkF m 105 #[.val (.int p1), .val (.int p2), .val (.int p3), .val (.int p4), .val (.int p5), .val (.ref b7), .val (.int ((p5 &&& (7 : Int32)) % (5 : Int32))), .val (.int ((((p5.toUInt32 >>> ((3 : Int32) &&& 31).toUInt32).toInt32) &&& (7 : Int32)) % (5 : Int32))), .val (.int (4 : Int32)), .val (.int z36), .val (.int z36)] [(.int (4 : Int32))])) (fun t k => XS.iload X35.here hx rfl (hb hby at_103) rfl k) ?_
    refine own_pre (B := T35.setTop (mkF m 106 #[.val (.int p1), .val (.int p2), .val (.int p3), .val (.int p4), .val (.int p5), .val (.ref b7), .val (.int ((p5 &&& (7 : Int32)) % (5 : Int32))), .val (.int ((((p5.toUInt32 >>> ((3 : Int32) &&& 31).toUInt32).toInt32) &&& (7 : Int32)) % (5 : Int32))), .val (.int (4 : Int32)), .val (.int z36), .val (.int z36)] [(.int (2 : Int32)), (.int (4 : Int32))])) (fun t k => XS.iconst X35.here hx rfl (hb hby at_105) k) ?_
    refine own_pre (B := T35.setTop (mkF m 127 #[.val (.int p1), .val (.int p2), .val (.int p3), .val (.int p4), .val (.int p5), .val (.ref b7), .val (.int ((p5 &&& (7 : Int32)) % (5 : Int32))), .val (.int ((((p5.toUInt32 >>> ((3 : Int32) &&& 31).toUInt32).toInt32) &&& (7 : Int32)) % (5 : Int32))), .val (.int (4 : Int32)), .val (.int z36), .val (.int z36)] [])) (fun t k => ?_) ?_
    · refine XS.icmpYes X35.here hx rfl (pc0 := 106) (pc' := 127) rfl (hb hby at_106) rfl (tlt (by decide : (2 : Int32) < (4 : Int32))).2.2.1 (by decide) (by decide) ?_
      show Steps p.tables e below (T35.setTop (mkF m 127 #[.val (.int p1), .val (.int p2), .val (.int p3), .val (.int p4), .val (.int p5), .val (.ref b7), .val (.int ((p5 &&& (7 : Int32)) % (5 : Int32))), .val (.int ((((p5.toUInt32 >>> ((3 : Int32) &&& 31).toUInt32).toInt32) &&& (7 : Int32)) % (5 : Int32))), .val (.int (4 : Int32)), .val (.int z36), .val (.int z36)] [])) _
      exact k
    refine own_pre (B := T35.setTop (mkF m 129 #[.val (.int p1), .val (.int p2), .val (.int p3), .val (.int p4), .val (.int p5), .val (.ref b7), .val (.int ((p5 &&& (7 : Int32)) % (5 : Int32))), .val (.int ((((p5.toUInt32 >>> ((3 : Int32) &&& 31).toUInt32).toInt32) &&& (7 : Int32)) % (5 : Int32))), .val (.int (4 : Int32)), .val (.int z36), .val (.int z36)] [(.int (4 : Int32))])) (fun t k => XS.iload X35.here hx rfl (hb hby at_127) rfl k) ?_
    refine own_pre (B := T35.setTop (mkF m 130 #[.val (.int p1), .val (.int p2), .val (.int p3), .val (.int p4), .val (.int p5), .val (.ref b7), .val (.int ((p5 &&& (7 : Int32)) % (5 : Int32))), .val (.int ((((p5.toUInt32 >>> ((3 : Int32) &&& 31).toUInt32).toInt32) &&& (7 : Int32)) % (5 : Int32))), .val (.int (4 : Int32)), .val (.int z36), .val (.int z36)] [(.int (1 : Int32)), (.int (4 : Int32))])) (fun t k => XS.iconst X35.here hx rfl (hb hby at_129) k) ?_
    refine own_pre (B := T35.setTop (mkF m 151 #[.val (.int p1), .val (.int p2), .val (.int p3), .val (.int p4), .val (.int p5), .val (.ref b7), .val (.int ((p5 &&& (7 : Int32)) % (5 : Int32))), .val (.int ((((p5.toUInt32 >>> ((3 : Int32) &&& 31).toUInt32).toInt32) &&& (7 : Int32)) % (5 : Int32))), .val (.int (4 : Int32)), .val (.int z36), .val (.int z36)] [])) (fun t k => ?_) ?_
    · refine XS.icmpYes X35.here hx rfl (pc0 := 130) (pc' := 151) rfl (hb hby at_130) rfl (tlt (by decide : (1 : Int32) < (4 : Int32))).2.2.1 (by decide) (by decide) ?_
      show Steps p.tables e below (T35.setTop (mkF m 151 #[.val (.int p1), .val (.int p2), .val (.int p3), .val (.int p4), .val (.int p5), .val (.ref b7), .val (.int ((p5 &&& (7 : Int32)) % (5 : Int32))), .val (.int ((((p5.toUInt32 >>> ((3 : Int32) &&& 31).toUInt32).toInt32) &&& (7 : Int32)) % (5 : Int32))), .val (.int (4 : Int32)), .val (.int z36), .val (.int z36)] [])) _
      exact k
    refine own_pre (B := T35.setTop (mkF m 153 #[.val (.int p1), .val (.int p2), .val (.int p3), .val (.int p4), .val (.int p5), .val (.ref b7), .val (.int ((p5 &&& (7 : Int32)) % (5 : Int32))), .val (.int ((((p5.toUInt32 >>> ((3 : Int32) &&& 31).toUInt32).toInt32) &&& (7 : Int32)) % (5 : Int32))), .val (.int (4 : Int32)), .val (.int z36), .val (.int z36)] [(.int (4 : Int32))])) (fun t k => XS.iload X35.here hx rfl (hb hby at_151) rfl k) ?_
    refine own_pre (B := T35.setTop (mkF m 174 #[.val (.int p1), .val (.int p2), .val (.int p3), .val (.int p4), .val (.int p5), .val (.ref b7), .val (.int ((p5 &&& (7 : Int32)) % (5 : Int32))), .val (.int ((((p5.toUInt32 >>> ((3 : Int32) &&& 31).toUInt32).toInt32) &&& (7 : Int32)) % (5 : Int32))), .val (.int (4 : Int32)), .val (.int z36), .val (.int z36)] [])) (fun t k => ?_) ?_
    · refine XS.ifYes X35.here hx rfl (pc0 := 153) (pc' := 174) rfl (hb hby at_153) rfl ((if0 _ _).trans (tlt (by decide : (0 : Int32) < (4 : Int32))).2.2.1) (by decide) (by decide) ?_
      show Steps p.tables e below (T35.setTop (mkF m 174 #[.val (.int p1), .val (.int p2), .val (.int p3), .val (.int p4), .val (.int p5), .val (.ref b7), .val (.int ((p5 &&& (7 : Int32)) % (5 : Int32))), .val (.int ((((p5.toUInt32 >>> ((3 : Int32) &&& 31).toUInt32).toInt32) &&& (7 : Int32)) % (5 : Int32))), .val (.int (4 : Int32)), .val (.int z36), .val (.int z36)] [])) _
      exact k
    refine own_pre (B := T35.setTop (mkF m 176 #[.val (.int p1), .val (.int p2), .val (.int p3), .val (.int p4), .val (.int p5), .val (.ref b7), .val (.int ((p5 &&& (7 : Int32)) % (5 : Int32))), .val (.int ((((p5.toUInt32 >>> ((3 : Int32) &&& 31).toUInt32).toInt32) &&& (7 : Int32)) % (5 : Int32))), .val (.int (4 : Int32)), .val (.int z36), .val (.int z36)] [(.ref b7)])) (fun t k => XS.aload X35.here hx rfl (hb hby at_174) rfl rfl k) ?_
    refine own_pre (B := T35.setTop (mkF m 178 #[.val (.int p1), .val (.int p2), .val (.int p3), .val (.int p4), .val (.int p5), .val (.ref b7), .val (.int ((p5 &&& (7 : Int32)) % (5 : Int32))), .val (.int ((((p5.toUInt32 >>> ((3 : Int32) &&& 31).toUInt32).toInt32) &&& (7 : Int32)) % (5 : Int32))), .val (.int (4 : Int32)), .val (.int z36), .val (.int z36)] [(.int (4 : Int32)), (.ref b7)])) (fun t k => XS.iload X35.here hx rfl (hb hby at_176) rfl k) ?_
    refine own_pre (B := T35.setTop (mkF m 180 #[.val (.int p1), .val (.int p2), .val (.int p3), .val (.int p4), .val (.int p5), .val (.ref b7), .val (.int ((p5 &&& (7 : Int32)) % (5 : Int32))), .val (.int ((((p5.toUInt32 >>> ((3 : Int32) &&& 31).toUInt32).toInt32) &&& (7 : Int32)) % (5 : Int32))), .val (.int (4 : Int32)), .val (.int z36), .val (.int z36)] [(.int z36), (.int (4 : Int32)), (.ref b7)])) (fun t k => XS.iload X35.here hx rfl (hb hby at_178) rfl k) ?_
    obtain ⟨_, _, ⟨T90, L90, k90, n90⟩, -, X90, ⟨Lc90, hQ90, l90, y90, z90⟩, st90⟩ := Jvm.LawKit.callS X35 hx (y := (⟨"com/example/anableps/anableps/name/Names", "labelEnd", "([CII)I"⟩ : MethodName)) hown (mvT hZ (hw _ (ow 12 rfl))) (mvT hZ (hw _ (ow 13 rfl))) (mvT hZ (hw _ (ow 14 rfl))) (mvT hZ (hw _ (ow 15 rfl))) (by decide) (backOf (W := 0) (rm4_4 l Z a0 hw [] b7 z36 k7 (nar .char z10) (nar .char z16) (nar .char z22) (nar .char z28) h31 n0 sz32 V31 mm37.2.2.1) hZ (hw _ (ow 15 rfl)) (hw _ (ow 14 rfl)) (by decide) (by decide)) (g := (mkF m 180 #[.val (.int p1), .val (.int p2), .val (.int p3), .val (.int p4), .val (.int p5), .val (.ref b7), .val (.int ((p5 &&& (7 : Int32)) % (5 : Int32))), .val (.int ((((p5.toUInt32 >>> ((3 : Int32) &&& 31).toUInt32).toInt32) &&& (7 : Int32)) % (5 : Int32))), .val (.int (4 : Int32)), .val (.int z36), .val (.int z36)] [(.int z36), (.int (4 : Int32)), (.ref b7)])) rfl (by rw [hml]; rfl) (argsL := [(.ref b7), (.int (4 : Int32)), (.int z36)]) (rest := []) (lenOf pd_2 rfl) rfl (by show 2 * 0 + _ ≤ _; exact Nat.le_of_eq rfl) (hb hby at_180) (fun _ _ => ⟨rfl, e35, (by decide : 1 + 0 ≤ _), (by decide : 4 + 0 ≤ _)⟩)
    dsimp only [Pt.U, Pt.locs, Pt.cells, Pt.slots] at X90 l90 y90 z90 st90 hQ90
    subst l90 y90 z90
    obtain ⟨rfl, N90q, e90⟩ := hQ90
    have N90 := Fr.app N35 N90q
    obtain ⟨z91, hz91⟩ : ∃ z : Int32, z = (own_f4_4 z36 (nar .char z10) (nar .char z16) (nar .char z22) (nar .char z28)) := ⟨_, rfl⟩
    rw [← hz91] at st90
    refine own_pre (B := T90.setTop (mkF m 183 #[.val (.int p1), .val (.int p2), .val (.int p3), .val (.int p4), .val (.int p5), .val (.ref b7), .val (.int ((p5 &&& (7 : Int32)) % (5 : Int32))), .val (.int ((((p5.toUInt32 >>> ((3 : Int32) &&& 31).toUInt32).toInt32) &&& (7 : Int32)) % (5 : Int32))), .val (.int (4 : Int32)), .val (.int z36), .val (.int z36)] [(.int z91)])) (fun t k => st90 t k) ?_
    refine own_pre (B := T90.setTop (mkF m 185 #[.val (.int p1), .val (.int p2), .val (.int p3), .val (.int p4), .val (.int p5), .val (.ref b7), .val (.int ((p5 &&& (7 : Int32)) % (5 : Int32))), .val (.int ((((p5.toUInt32 >>> ((3 : Int32) &&& 31).toUInt32).toInt32) &&& (7 : Int32)) % (5 : Int32))), .val (.int (4 : Int32)), .val (.int z36), .val (.int z36)] [(.int z36), (.int z91)])) (fun t k => XS.iload X90.here hx rfl (hb hby at_183) rfl k) ?_
    refine own_pre (B := T90.setTop (mkF m 188 #[.val (.int p1), .val (.int p2), .val (.int p3), .val (.int p4), .val (.int p5), .val (.ref b7), .val (.int ((p5 &&& (7 : Int32)) % (5 : Int32))), .val (.int ((((p5.toUInt32 >>> ((3 : Int32) &&& 31).toUInt32).toInt32) &&& (7 : Int32)) % (5 : Int32))), .val (.int (4 : Int32)), .val (.int z36), .val (.int z36)] [])) (fun t k => XS.icmpNo X90.here hx rfl (hb hby at_185) rfl (teq (own_law4 hz91 mm37.2.1 mm37.2.2.1 mm37.2.2.2)).2 k) ?_
    refine own_pre (B := T90.setTop (mkF m 189 #[.val (.int p1), .val (.int p2), .val (.int p3), .val (.int p4), .val (.int p5), .val (.ref b7), .val (.int ((p5 &&& (7 : Int32)) % (5 : Int32))), .val (.int ((((p5.toUInt32 >>> ((3 : Int32) &&& 31).toUInt32).toInt32) &&& (7 : Int32)) % (5 : Int32))), .val (.int (4 : Int32)), .val (.int z36), .val (.int z36)] [(.int (1 : Int32))])) (fun t k => XS.iconst X90.here hx rfl (hb hby at_188) k) ?_
    refine own_pre (B := T90.setTop (mkF m 193 #[.val (.int p1), .val (.int p2), .val (.int p3), .val (.int p4), .val (.int p5), .val (.ref b7), .val (.int ((p5 &&& (7 : Int32)) % (5 : Int32))), .val (.int ((((p5.toUInt32 >>> ((3 : Int32) &&& 31).toUInt32).toInt32) &&& (7 : Int32)) % (5 : Int32))), .val (.int (4 : Int32)), .val (.int z36), .val (.int z36)] [(.int (1 : Int32))])) (fun t k => XS.goto X90.here hx rfl (pc0 := 189) (pc' := 193) rfl (hb hby at_189) (by decide) (by decide) k) ?_
    obtain ⟨fsr92, hrr92, hrunr92, hendedr92, hWr92, hsamer92⟩ := X90.leave (v := some (.int (1 : Int32))) (fun h => by rw [Bd.returns] at h; cases h)
    refine ⟨_, _, (retN X90 hx (t := .boolean) Bd.returns (by simp) (hb hby at_193) hrr92), hrunr92, hendedr92, _, _, rfl, ?_, ⟨_, rfl⟩, hWr92, hsamer92.mono (by decide) (by decide)⟩
    show Q0 Z p1 p2 p3 p4 p5 h0 n0 _ T90.heap _
    rw [e90]
    exact ⟨rfl, N90⟩
set_option maxRecDepth 65536 in
set_option maxHeartbeats 40000000 in
theorem comes_1 {Post : Tables → Env → Array Value → State → Outcome → State → Prop} (hpost : ∀ tb e args s v u, (limb_1_1.after args s (.returned v) u = true ∧ limb_1_2.after args s (.returned v) u = true ∧ True) → FrameEnd s (.returned v) u (Jvm.fieldLocs frame_1_writes args s ++ Jvm.arrayLocs frame_1_arrays args s ++ Jvm.staticLocs frame_1_statics s) 16 128 → Post tb e args s (.returned v) u) :
    ArmFor flags0 classFile x code maxLocals ret World_1 tables_1 room_1 Calls_1 rest_1 Pre_1 Post := by
  intro l hfl _ _ p e ha hc hk s m args below hf hA hF happ hP
  obtain ⟨hcalls, hrest, hpre⟩ := hP
  obtain ⟨-, -, -, hnamed, -, -, -, hat⟩ := (Spec.applies_iff hf).mp happ
  obtain ⟨hg, hn⟩ := and_e (Cond.before_iff.mp (show (Jvm.Cond.and given_1 narrow_1).before args s = true from hpre))
  obtain ⟨g1, g2⟩ := and_e hg
  obtain ⟨g3, g4⟩ := and_e g2
  obtain ⟨g5, g6⟩ := and_e g4
  obtain ⟨g7, g8⟩ := and_e g6
  obtain ⟨g9, g10⟩ := and_e g8
  obtain ⟨w0, w1, w2, w3, w4, rfl⟩ : ∃ w0 w1 w2 w3 w4 : Value, args = #[w0, w1, w2, w3, w4] := by
    have hs : args.size = 5 := by simpa [Cond.value, given_1] using g1
    obtain ⟨L⟩ := args
    match L, hs with
    | [w0, w1, w2, w3, w4], _ => exact ⟨w0, w1, w2, w3, w4, rfl⟩
  have hw := fun d (hd : d ∈ tables_1) => atoms_spec (ws := Jvm.Cond.code x code maxLocals ret :: tables_1) hat d (List.mem_cons_of_mem _ hd)
  have hfit : Fit s := fun {y c} hc i hi => by
    obtain ⟨ha, rfl⟩ := Array.getElem?_eq_some_iff.mp hc
    have q := List.all_eq_true.mp ((Array.all_eq_true_iff_forall_mem.mp hF) _ (Array.getElem_mem ha)) i (List.mem_range.mpr hi)
    simpa [Array.getElem?_eq_getElem hi] using q
  obtain ⟨i0, ei0⟩ := is_v g3
  obtain rfl : w0 = (.int i0) := Option.some.inj ei0
  obtain ⟨i1, ei1⟩ := is_v g5
  obtain rfl : w1 = (.int i1) := Option.some.inj ei1
  obtain ⟨i2, ei2⟩ := is_v g7
  obtain rfl : w2 = (.int i2) := Option.some.inj ei2
  obtain ⟨i3, ei3⟩ := is_v g9
  obtain rfl : w3 = (.int i3) := Option.some.inj ei3
  obtain ⟨i4, ei4⟩ := is_v g10
  obtain rfl : w4 = (.int i4) := Option.some.inj ei4
  obtain ⟨n, o, h1, h2, h3, _, L, rfl, ⟨rfl, N⟩, hq⟩ := rm0 l s _ hw tables_1 i0 i1 i2 i3 i4  s.heap s.heap.size (Nat.le_refl _)  p e ha hc hk s m _ below hf ((Spec.applies_iff_loose hf).mp happ).1 ⟨rfl, State.Warmed39.refl s, rfl⟩ trivial
  refine ⟨n, _, h1, h2, h3, hpost _ _ _ _ _ _ ⟨Cond.after_iff.mpr rfl, Cond.after_iff.mpr (eq_i res_at (Term.int_eval (1)) rfl), trivial⟩ ⟨hq.1, hq.2.1, (hq.2.2.sift fun y hy => Or.inr (N y hy)).mono (by decide) (by decide)⟩⟩
theorem main_1_1 : Claimed_1_1 := comes_1 fun _ _ _ _ _ _ h hF => ⟨h.1, hF⟩
theorem main_1_2 : Claimed_1_2 := comes_1 fun _ _ _ _ _ _ h hF => ⟨h.2.1, hF⟩
end Jvm.Pilot.@@N@@
namespace Jvm.Pilot.@@N@@
open Jvm Jvm.ClassFile Sem Op Lib Jvm.Free Jvm.Stand Jvm.Pilot.@@N@@.Jvm.D
/-! MADE BY PROGRAM (witnessworld.py) out of the Statement's table words and the real class files: 12 classes; the members and pool entries that the words name. The judged class is class 1, her method 2. -/
namespace start1
open Jvm.ClassFile
def u (s : String) : CpInfo := .utf8 (stringToUtf16 s)
/-- a pool by its gaps: so many unusable entries, then the entry; so many at the end -/
def gap : Nat → List CpInfo → List CpInfo
  | 0, r => r
  | n + 1, r => .unusable :: gap n r
def poolList (es : List (Nat × CpInfo)) (last : Nat) : List CpInfo := es.foldr (fun e r => gap e.1 (e.2 :: r)) (gap last [])
def pool (es : List (Nat × CpInfo)) (last : Nat) : Array CpInfo := ⟨poolList es last⟩
def fileOf (pool : Array CpInfo) (this : Nat) (attrs : Array Attribute := #[]) (ms : Array MethodInfo := #[]) (fl : Nat := 33) (sup : Nat := 0) (ifs : Array Nat := #[]) (fds : Array FieldInfo := #[]) : ClassFile where
  minorVersion := 0
  majorVersion := 65
  constantPool := pool
  accessFlags := fl
  thisClass := this
  superClass := sup
  interfaces := ifs
  fields := fds
  methods := ms
  attributes := attrs
def plain (name : String) (sup : Option ClassId) : Class where
  name := name
  kind := .ordinary
  loader := none
  accessFlags := 33
  super := sup
  interfaces := #[]
  cf := none
  fields := #[]
  methods := #[]
  instanceTypes := #[]
  staticTypes := #[]
  resolved := #[]
  callSites := []
  init := .initialized
  statics := none
  mirror := none

def pool0 : Array CpInfo := pool [(5, u "<init>"), (0, u "()V"), (1, .class_ 10), (1, u "java/lang/Object")] 113

def k0m0 : Method := { name := "<init>", desc := "()V", sig := { parameters := [], returnType := none }, accessFlags := 1, code := none }
/-- java/lang/Object -/
def k0 : Class := { plain "java/lang/Object" none with
  accessFlags := 33
  interfaces := #[]
  cf := some (fileOf pool0 8 #[] #[{ accessFlags := 1, nameIndex := 5, descriptorIndex := 6, attributes := #[] }] 33 0 #[] #[])
  fields := #[]
  methods := #[k0m0]
  instanceTypes := #[]
  staticTypes := #[]
  resolved := Array.replicate 124 none
  statics := none }

def pool1 : Array CpInfo := pool [(2, .class_ 4), (1, u "java/lang/Object"), (0, u "<init>"), (0, u "()V"), (0, .methodref 8 9), (0, .class_ 10), (0, .nameAndType 11 12), (0, u "com/example/anableps/anableps/name/NamesLabelEndPinLaw"), (0, u "unit"), (0, u "(I)C"), (0, .methodref 14 15), (0, .class_ 16), (0, .nameAndType 17 18), (0, u "java/lang/Math"), (0, u "min"), (0, u "(II)I"), (0, .methodref 14 20), (0, .nameAndType 21 18), (0, u "max"), (0, .methodref 23 24), (0, .class_ 25), (0, .nameAndType 26 27), (0, u "com/example/anableps/anableps/name/Names"), (0, u "labelEnd"), (0, u "([CII)I"), (3, u "law"), (0, u "(IIIII)Z")] 4

def k1m0 : Method := { name := "<init>", desc := "()V", sig := { parameters := [], returnType := none }, accessFlags := 2, code := none }
def k1c1 : Code := { maxStack := 2, maxLocals := 1, code := method_2_code, exceptionTable := #[], attributes := #[] }
def k1m1 : Method := { name := "unit", desc := "(I)C", sig := { parameters := [.int], returnType := some .char }, accessFlags := 10, code := some k1c1 }
def k1c2 : Code := { maxStack := 3, maxLocals := 11, code := code, exceptionTable := #[], attributes := #[] }
def k1m2 : Method := { name := "law", desc := "(IIIII)Z", sig := { parameters := [.int, .int, .int, .int, .int], returnType := some .boolean }, accessFlags := 9, code := some k1c2 }
/-- com/example/anableps/anableps/name/NamesLabelEndPinLaw -/
def k1 : Class := { plain "com/example/anableps/anableps/name/NamesLabelEndPinLaw" (some 0) with
  accessFlags := 49
  interfaces := #[]
  cf := some (fileOf pool1 8 #[] #[{ accessFlags := 2, nameIndex := 5, descriptorIndex := 6, attributes := #[] }, { accessFlags := 10, nameIndex := 11, descriptorIndex := 12, attributes := #[] }, { accessFlags := 9, nameIndex := 31, descriptorIndex := 32, attributes := #[] }] 49 2 #[] #[])
  fields := #[]
  methods := #[k1m0, k1m1, k1m2]
  instanceTypes := #[]
  staticTypes := #[]
  resolved := Array.replicate 37 none
  statics := none }

def pool2 : Array CpInfo := pool [(1, .class_ 2), (0, u "java/lang/Math"), (1, .class_ 6), (1, u "java/lang/Object"), (0, u "<init>"), (0, u "()V"), (89, .class_ 100), (1, u "java/lang/Math$RandomNumberGeneratorHolder"), (71, u "negativeZeroFloatBits"), (0, u "J"), (2, u "negativeZeroDoubleBits"), (21, u "max"), (2, u "min"), (43, u "$assertionsDisabled"), (0, u "Z"), (88, u "(II)I"), (2, u "twoToTheDoubleScaleDown"), (0, u "D"), (4, u "twoToTheDoubleScaleUp"), (9, u "E"), (3, u "PI"), (2, u "TAU"), (2, u "DEGREES_TO_RADIANS"), (0, u "RADIANS_TO_DEGREES")] 94

def k2m0 : Method := { name := "<init>", desc := "()V", sig := { parameters := [], returnType := none }, accessFlags := 2, code := none }
def k2c1 : Code := { maxStack := 2, maxLocals := 2, code := jdk_29_method_65_code, exceptionTable := #[], attributes := #[] }
def k2m1 : Method := { name := "max", desc := "(II)I", sig := { parameters := [.int, .int], returnType := some .int }, accessFlags := 9, code := some k2c1 }
def k2c2 : Code := { maxStack := 2, maxLocals := 2, code := jdk_29_method_69_code, exceptionTable := #[], attributes := #[] }
def k2m2 : Method := { name := "min", desc := "(II)I", sig := { parameters := [.int, .int], returnType := some .int }, accessFlags := 9, code := some k2c2 }
/-- java/lang/Math -/
def k2 : Class := { plain "java/lang/Math" (some 0) with
  accessFlags := 49
  interfaces := #[]
  cf := some (fileOf pool2 1 #[.nestMembers #[98]] #[{ accessFlags := 2, nameIndex := 7, descriptorIndex := 8, attributes := #[] }, { accessFlags := 9, nameIndex := 198, descriptorIndex := 335, attributes := #[] }, { accessFlags := 9, nameIndex := 201, descriptorIndex := 335, attributes := #[] }] 49 4 #[] #[{ accessFlags := 25, nameIndex := 354, descriptorIndex := 339, attributes := #[] }, { accessFlags := 25, nameIndex := 358, descriptorIndex := 339, attributes := #[] }, { accessFlags := 25, nameIndex := 361, descriptorIndex := 339, attributes := #[] }, { accessFlags := 26, nameIndex := 364, descriptorIndex := 339, attributes := #[] }, { accessFlags := 26, nameIndex := 365, descriptorIndex := 339, attributes := #[] }, { accessFlags := 26, nameIndex := 172, descriptorIndex := 173, attributes := #[] }, { accessFlags := 26, nameIndex := 176, descriptorIndex := 173, attributes := #[] }, { accessFlags := 8, nameIndex := 344, descriptorIndex := 339, attributes := #[] }, { accessFlags := 8, nameIndex := 338, descriptorIndex := 339, attributes := #[] }, { accessFlags := 4120, nameIndex := 245, descriptorIndex := 246, attributes := #[] }])
  fields := #[{ name := "E", type := .double, accessFlags := 25, slot := 0, constantValue := 0 }, { name := "PI", type := .double, accessFlags := 25, slot := 1, constantValue := 0 }, { name := "TAU", type := .double, accessFlags := 25, slot := 2, constantValue := 0 }, { name := "DEGREES_TO_RADIANS", type := .double, accessFlags := 26, slot := 3, constantValue := 0 }, { name := "RADIANS_TO_DEGREES", type := .double, accessFlags := 26, slot := 4, constantValue := 0 }, { name := "negativeZeroFloatBits", type := .long, accessFlags := 26, slot := 5, constantValue := 0 }, { name := "negativeZeroDoubleBits", type := .long, accessFlags := 26, slot := 6, constantValue := 0 }, { name := "twoToTheDoubleScaleUp", type := .double, accessFlags := 8, slot := 7, constantValue := 0 }, { name := "twoToTheDoubleScaleDown", type := .double, accessFlags := 8, slot := 8, constantValue := 0 }, { name := "$assertionsDisabled", type := .boolean, accessFlags := 4120, slot := 9, constantValue := 0 }]
  methods := #[k2m0, k2m1, k2m2]
  instanceTypes := #[]
  staticTypes := #[.double, .double, .double, .double, .double, .long, .long, .double, .double, .boolean]
  resolved := Array.replicate 460 none
  statics := none }

def pool3 : Array CpInfo := pool [(2, .class_ 4), (1, u "java/lang/Object"), (0, u "<init>"), (0, u "()V"), (11, .class_ 20), (1, u "com/example/anableps/anableps/name/Names"), (0, u "labelEnd"), (0, u "([CII)I"), (10, .class_ 35), (1, u "com/example/anableps/anableps/name/Names$LabelConversion")] 32

def k3m0 : Method := { name := "<init>", desc := "()V", sig := { parameters := [], returnType := none }, accessFlags := 2, code := none }
def k3c1 : Code := { maxStack := 2, maxLocals := 4, code := prog_24_method_3_code, exceptionTable := #[], attributes := #[] }
def k3m1 : Method := { name := "labelEnd", desc := "([CII)I", sig := { parameters := [(.array .char), .int, .int], returnType := some .int }, accessFlags := 9, code := some k3c1 }
/-- com/example/anableps/anableps/name/Names -/
def k3 : Class := { plain "com/example/anableps/anableps/name/Names" (some 0) with
  accessFlags := 33
  interfaces := #[]
  cf := some (fileOf pool3 18 #[.nestMembers #[33]] #[{ accessFlags := 2, nameIndex := 5, descriptorIndex := 6, attributes := #[] }, { accessFlags := 9, nameIndex := 21, descriptorIndex := 22, attributes := #[] }] 33 2 #[] #[])
  fields := #[]
  methods := #[k3m0, k3m1]
  instanceTypes := #[]
  staticTypes := #[]
  resolved := Array.replicate 68 none
  statics := none }

def pool4 : Array CpInfo := pool [(1, u "java/lang/Cloneable"), (0, .class_ 1), (0, u "java/lang/Object"), (0, .class_ 3)] 3

/-- java/lang/Cloneable -/
def k4 : Class := { plain "java/lang/Cloneable" (some 0) with
  accessFlags := 1537
  interfaces := #[]
  cf := some (fileOf pool4 2 #[] #[] 1537 4 #[] #[])
  fields := #[]
  methods := #[]
  instanceTypes := #[]
  staticTypes := #[]
  resolved := Array.replicate 8 none
  statics := none }

def pool5 : Array CpInfo := pool [(1, u "java/io/Serializable"), (0, .class_ 1), (0, u "java/lang/Object"), (0, .class_ 3)] 3

/-- java/io/Serializable -/
def k5 : Class := { plain "java/io/Serializable" (some 0) with
  accessFlags := 1537
  interfaces := #[]
  cf := some (fileOf pool5 2 #[] #[] 1537 4 #[] #[])
  fields := #[]
  methods := #[]
  instanceTypes := #[]
  staticTypes := #[]
  resolved := Array.replicate 8 none
  statics := none }

/-- the primitive byte -/
def k6 : Class := { plain "byte" none with kind := .primitive 'B', accessFlags := 0x411 }
/-- [B -/
def k7 : Class := { plain "[B" (some 0) with kind := .array 6 .byte, interfaces := #[4, 5], accessFlags := 1041 }

/-- the primitive char -/
def k8 : Class := { plain "char" none with kind := .primitive 'C', accessFlags := 0x411 }
/-- [C -/
def k9 : Class := { plain "[C" (some 0) with kind := .array 8 .char, interfaces := #[4, 5], accessFlags := 1041 }

/-- the primitive int -/
def k10 : Class := { plain "int" none with kind := .primitive 'I', accessFlags := 0x411 }
/-- [I -/
def k11 : Class := { plain "[I" (some 0) with kind := .array 10 .int, interfaces := #[4, 5], accessFlags := 1041 }

def heap : Heap := #[]
def classes : Array Class := #[k0, k1, k2, k3, k4, k5, k6, k7, k8, k9, k10, k11]
def interned : List (Array UInt16 × Addr) := []
def slotsUsed : Nat := 0
def theMethod : MethodId := ⟨1, 2⟩
def args0 : Array Value := #[.int 5, .int 98, .int 7, .int 90, .int 32]
def aboutOver (below : List Frame) : State where
  vm := { classes := classes, interned := interned.toArray }
  heap := heap
  slotsUsed := slotsUsed
  threads := #[{ frames := .invoking theMethod args0 :: below }]
def below0 : List Frame := [.native { method := ⟨0, 0⟩, args := #[] }]
def about1 : State := aboutOver below0
def p0 : Program := .bare "" "" ""
def e0 : Env := launch0.env 0 0 0
theorem w_frames : about1.frames = Frame.invoking theMethod args0 :: below0 := rfl
set_option maxRecDepth 65536 in
theorem w_args : argsFit about1.vm theMethod args0 = true := by decide +kernel
set_option maxRecDepth 65536 in
theorem w_heap : heapFits about1 = true := by decide +kernel
set_option maxRecDepth 65536 in
theorem w_runnable : about1.curStatus? = some .runnable := by decide +kernel
set_option maxRecDepth 65536 in
theorem w_alone : about1.alone = true := by decide +kernel
set_option maxRecDepth 65536 in
theorem w_named : about1.methodNamed? x = some theMethod := by decide +kernel
set_option maxRecDepth 65536 in
theorem w_hears : about1.hears theMethod below0 = true := by decide +kernel
set_option maxRecDepth 65536 in
theorem w_ripe : about1.ripe theMethod args0 below0 = true := by decide +kernel
theorem w_running : about1.status = .running := rfl
set_option maxRecDepth 65536 in
theorem w_room : about1.hasRoom e0.platform room_1 = true :=
  launch0.hasRoom_least _ room_1 (by decide +kernel) (by decide +kernel) (by decide +kernel) (by decide +kernel) (by decide +kernel) (by decide +kernel)
theorem allAtoms_all (ts : List Jvm.Cond) (a : Array Jvm.Value) (st : Jvm.State) : (allAtoms ts).before a st = ts.all (fun c => c.before a st) := by
  induction ts with
  | nil => rfl
  | cons c t ih =>
    show (Jvm.Cond.and c (allAtoms t)).before a st = _
    rw [Jvm.Cond.before_and, ih, List.all_cons]
def words1 : List Jvm.Cond := Jvm.Cond.code x code maxLocals ret :: tables_1
/-- a 'code' word, met by the world's own term for the bytes: nothing is compared byte by byte -/
theorem code_word {y : MethodName} {bytes : ByteArray} {mx : Nat} {rt : Option FieldType} {a : Array Value} {s : State} {m : MethodId} {meth : Method} {c : Code} (h1 : s.methodNamed? y = some m) (h2 : s.vm.method? m = some meth) (h3 : meth.code = some c) (h4 : c.code = bytes)
    (h5 : (c.maxLocals == mx && c.exceptionTable.isEmpty && decide (c.maxStack ≤ mostOperands) && decide (meth.sig.returnType = rt) && !meth.locks && decide (parseMethodDescriptor y.desc = some meth.sig)) = true) : (Jvm.Cond.code y bytes mx rt).before a s = true := by
  simp only [Bool.and_eq_true, beq_iff_eq, Bool.not_eq_true', decide_eq_true_eq] at h5
  obtain ⟨⟨⟨⟨⟨g1, g2⟩, g3⟩, g4⟩, g5⟩, g6⟩ := h5
  simp [Cond.before, Cond.holds, Cond.value, h1, h2, h3, h4, g1, g2, g3, g4, g5, g6]
def isCode : Jvm.Cond → Bool
  | .code _ _ _ _ => true
  | _ => false
theorem all_split {L : List Jvm.Cond} {P : Jvm.Cond → Bool} (h1 : L.all (fun c => isCode c || P c) = true) (h2 : ∀ c ∈ L.filter isCode, P c = true) : L.all P = true := by
  refine List.all_eq_true.mpr fun c hc => ?_
  have h := List.all_eq_true.mp h1 c hc
  rcases Bool.eq_false_or_eq_true (isCode c) with hi | hi
  · exact h2 c (List.mem_filter.mpr ⟨hc, hi⟩)
  · simpa [hi] using h
set_option maxRecDepth 65536 in
theorem w_c0 : (Jvm.Cond.code x code maxLocals ret).before args0 about1 = true := code_word (m := ⟨1, 2⟩) (meth := k1m2) (c := k1c2) (by decide +kernel) rfl rfl rfl (by decide +kernel)
set_option maxRecDepth 65536 in
theorem w_c1 : (Jvm.Cond.code ({ cls := "com/example/anableps/anableps/name/NamesLabelEndPinLaw", name := "unit", desc := "(I)C" } : Jvm.MethodName) method_2_code (1 : Nat) (Option.some Jvm.ClassFile.FieldType.char)).before args0 about1 = true := code_word (m := ⟨1, 1⟩) (meth := k1m1) (c := k1c1) (by decide +kernel) rfl rfl rfl (by decide +kernel)
set_option maxRecDepth 65536 in
theorem w_c2 : (Jvm.Cond.code ({ cls := "java/lang/Math", name := "min", desc := "(II)I" } : Jvm.MethodName) jdk_29_method_69_code (2 : Nat) (Option.some Jvm.ClassFile.FieldType.int)).before args0 about1 = true := code_word (m := ⟨2, 2⟩) (meth := k2m2) (c := k2c2) (by decide +kernel) rfl rfl rfl (by decide +kernel)
set_option maxRecDepth 65536 in
theorem w_c3 : (Jvm.Cond.code ({ cls := "java/lang/Math", name := "max", desc := "(II)I" } : Jvm.MethodName) jdk_29_method_65_code (2 : Nat) (Option.some Jvm.ClassFile.FieldType.int)).before args0 about1 = true := code_word (m := ⟨2, 1⟩) (meth := k2m1) (c := k2c1) (by decide +kernel) rfl rfl rfl (by decide +kernel)
set_option maxRecDepth 65536 in
theorem w_c4 : (Jvm.Cond.code ({ cls := "com/example/anableps/anableps/name/Names", name := "labelEnd", desc := "([CII)I" } : Jvm.MethodName) prog_24_method_3_code (4 : Nat) (Option.some Jvm.ClassFile.FieldType.int)).before args0 about1 = true := code_word (m := ⟨3, 1⟩) (meth := k3m1) (c := k3c1) (by decide +kernel) rfl rfl rfl (by decide +kernel)
def codes1 : List Jvm.Cond := [Jvm.Cond.code x code maxLocals ret, Jvm.Cond.code ({ cls := "com/example/anableps/anableps/name/NamesLabelEndPinLaw", name := "unit", desc := "(I)C" } : Jvm.MethodName) method_2_code (1 : Nat) (Option.some Jvm.ClassFile.FieldType.char), Jvm.Cond.code ({ cls := "java/lang/Math", name := "min", desc := "(II)I" } : Jvm.MethodName) jdk_29_method_69_code (2 : Nat) (Option.some Jvm.ClassFile.FieldType.int), Jvm.Cond.code ({ cls := "java/lang/Math", name := "max", desc := "(II)I" } : Jvm.MethodName) jdk_29_method_65_code (2 : Nat) (Option.some Jvm.ClassFile.FieldType.int), Jvm.Cond.code ({ cls := "com/example/anableps/anableps/name/Names", name := "labelEnd", desc := "([CII)I" } : Jvm.MethodName) prog_24_method_3_code (4 : Nat) (Option.some Jvm.ClassFile.FieldType.int)]
set_option maxRecDepth 65536 in
theorem codes_eq : words1.filter isCode = codes1 := rfl
theorem w_codes : ∀ c ∈ words1.filter isCode, c.before args0 about1 = true := by
  rw [codes_eq]
  intro c hc
  simp only [codes1, List.mem_cons, List.not_mem_nil, or_false] at hc
  rcases hc with rfl | rfl | rfl | rfl | rfl
  · exact w_c0
  · exact w_c1
  · exact w_c2
  · exact w_c3
  · exact w_c4
set_option maxRecDepth 65536 in
theorem w_t1 : words1.all (fun c => isCode c || c.before args0 about1) = true := by decide +kernel
theorem w_tables : (allAtoms (Jvm.Cond.code x code maxLocals ret :: tables_1)).before args0 about1 = true := by
  rw [allAtoms_all]
  show words1.all (fun c => c.before args0 about1) = true
  refine all_split ?_ w_codes
  rw [w_t1]
set_option maxRecDepth 65536 in
theorem w_case : (Jvm.Cond.and given_1 narrow_1).before args0 about1 = true := by decide +kernel
theorem w_applies : (headSpec (Jvm.Cond.code x code maxLocals ret :: tables_1) room_1).applies x e0.platform about1 = true :=
  (Spec.applies_iff w_frames).mpr ⟨w_running, w_runnable, w_alone, w_named, w_hears, w_ripe, w_room, w_tables⟩
theorem atStart : AtStart classFile x code maxLocals ret World_1 tables_1 room_1 Calls_1 rest_1 Pre_1 launch0 p0 e0 about1 theMethod args0 below0 :=
  ⟨lists_1, trivial, launch0.admits_env _ _ _, launch0.least_env, fairChoices_fair.cas, fairChoices_fair.clock, w_frames, w_args, w_heap, w_applies, trivial, trivial, w_case⟩
end start1
theorem witness_1 : WitnessClaimed_1 := ⟨start1.p0, start1.e0, start1.about1, start1.theMethod, start1.args0, start1.below0, start1.atStart⟩
end Jvm.Pilot.@@N@@
