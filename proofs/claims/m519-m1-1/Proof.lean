import JvmDerived
import JvmDerived.Pilot.@@N@@Statement
import JvmDerived.Pilot.@@N@@Code
set_option linter.unusedVariables false
set_option linter.unusedSimpArgs false
namespace Jvm.RoadKit
open Sem ClassFile Op Lib Jvm.Stand Jvm.Free Jvm.LawKit
section New
variable {p : Program} {l : Launch} {e : Env} {R : Room} {s : State} {m : MethodId} {args : Array Value} {below : List Frame} {meth : Method} {c : Code} {T : State} {locs : List Loc} {cells slots : Nat}
theorem retI (X : Stand p l e R s m args below meth c T locs cells slots) (hx : p.tables.exec = Jvm.exec) {pc : Nat} {Ls : Array Slot} {z : Int32} {rest : List Value} (hret : meth.sig.returnType = some .int) (hd : decode c.code pc = .ok (.ireturn, 1)) {fs : List Frame}
    (hl : ∀ (f : JFrame) (acts : List Action), f.method = m → f.locked = none → f.entered = [] → (doReturn e (T.setTop f) acts (some (.int z))).1 = T.setFrames fs) : Steps p.tables e below (T.setTop (mkF m pc Ls (.int z :: rest))) (T.setFrames fs) := by
  have hm' : T.vm.method? m = some meth := X.method'
  have hn : narrow .int (.int z) = .int z := rfl
  show Steps p.tables e below (T.setTop { method := m, pc := pc, locals := Ls, stack := _ :: rest, locked := none }) _
  jvm_step X.here [X.here.top, hx, hd, hm', hret, hn]
  first | (intro acts; rw [hl _ acts rfl rfl rfl]) | rw [hl _ _ rfl rfl rfl]
  exact Steps.refl _
end New
end Jvm.RoadKit
namespace Jvm.Pilot.@@N@@
open Jvm Jvm.ClassFile Sem Op Lib Jvm.Free Jvm.Stand Jvm.LawKit Jvm.RoadKit Bundle Jvm.Pilot.@@N@@.Jvm.D
/-! the goal of a walk, gone through forwards: from the state A the run comes to an end that answers R -/
def own_G (tb : Tables) (e : Env) (below : List Frame) (R : State → Outcome → Prop) (A : State) : Prop := ∃ t o, Steps tb e below A t ∧ t.status = .running ∧ Ended t below o ∧ R t o
theorem own_in {tb : Tables} {e : Env} {below : List Frame} {R : State → Outcome → Prop} {A : State} (h : own_G tb e below R A) : ∃ t o, Steps tb e below A t ∧ t.status = .running ∧ Ended t below o ∧ R t o := h
theorem own_pre {tb : Tables} {e : Env} {below : List Frame} {R : State → Outcome → Prop} {A B : State} (k : ∀ t, Steps tb e below B t → Steps tb e below A t) (h : own_G tb e below R B) : own_G tb e below R A := by
  obtain ⟨t, o, h1, h2⟩ := h
  exact ⟨t, o, k t h1, h2⟩
/-! a part of a walk: from A the run comes to some state that answers P -/
def own_J (tb : Tables) (e : Env) (below : List Frame) (P : State → Prop) (A : State) : Prop := ∃ B, P B ∧ ∀ t, Steps tb e below B t → Steps tb e below A t
theorem own_preJ {tb : Tables} {e : Env} {below : List Frame} {P : State → Prop} {A B : State} (k : ∀ t, Steps tb e below B t → Steps tb e below A t) (h : own_J tb e below P B) : own_J tb e below P A := by
  obtain ⟨C, h1, h2⟩ := h
  exact ⟨C, h1, fun t q => k t (h2 t q)⟩
theorem own_more {p : Program} {l : Launch} {e : Env} {R : Room} {s : State} {m : MethodId} {args : Array Value} {below : List Frame} {meth : Method} {c : Code} {T : State} {locs : List Loc} {cells slots cells' slots' : Nat} (X : Stand p l e R s m args below meth c T locs cells slots) (h : cells ≤ cells') (h' : slots ≤ slots') : Stand p l e R s m args below meth c T locs cells' slots' :=
  { X with same := X.same.mono h h' }
theorem ow {d : Jvm.Cond} (i : Nat) (h : tables_1[i]? = some d) : d ∈ tables_1 := List.mem_of_getElem? h
theorem d1_0 : decode prog_60_method_2_code 0 = .ok (.lload_n 0, 1) := by decide +kernel
theorem d1_1 : decode prog_60_method_2_code 1 = .ok (.ldc2_w 9, 3) := by decide +kernel
theorem d1_4 : decode prog_60_method_2_code 4 = .ok (.lcmp, 1) := by decide +kernel
theorem d1_5 : decode prog_60_method_2_code 5 = .ok (.ifCond .lt 15, 3) := by decide +kernel
theorem d1_8 : decode prog_60_method_2_code 8 = .ok (.lload_n 0, 1) := by decide +kernel
theorem d1_9 : decode prog_60_method_2_code 9 = .ok (.ldc2_w 11, 3) := by decide +kernel
theorem d1_12 : decode prog_60_method_2_code 12 = .ok (.lcmp, 1) := by decide +kernel
theorem d1_13 : decode prog_60_method_2_code 13 = .ok (.ifCond .gt 7, 3) := by decide +kernel
theorem d1_16 : decode prog_60_method_2_code 16 = .ok (.iconst 1, 1) := by decide +kernel
theorem d1_17 : decode prog_60_method_2_code 17 = .ok (.goto 4, 3) := by decide +kernel
theorem d1_20 : decode prog_60_method_2_code 20 = .ok (.iconst 0, 1) := by decide +kernel
theorem d1_21 : decode prog_60_method_2_code 21 = .ok (.ireturn, 1) := by decide +kernel
theorem pn_1 : plainName "com/example/internode_coordination/internodecoordination/protocol/ClientProtocol" = true := by first | (simp [plainName, overriddenIn]; done) | decide +kernel
theorem ef_1 (m : MethodId) (x0 : Int64) : entryFrame m #[(.long x0)] 2 = mkF m 0 #[.val (.long x0), .second] [] := by first | (simp [entryFrame, mkF, argsToLocals, Value.category]; done) | rfl
def own_f1 (q1 : Int64) : Int32 := (if q1 < (1000 : Int64) then (0 : Int32) else (if (86400000 : Int64) < q1 then (0 : Int32) else (1 : Int32)))
def Q1 (Z : State) (q1 : Int64) (h0 : Heap) (n0 : Nat) (v : Option Value) (h : Heap) (L : List Loc) : Prop := v = some (.int (own_f1 q1)) ∧ Fr n0 L ∧ h = h0
set_option maxRecDepth 65536 in
set_option maxHeartbeats 40000000 in
theorem rm1 (l : Launch) (Z : State) (a0 : Array Value) (hw : ∀ d ∈ tables_1, d.before a0 Z = true) (ws : List Jvm.Cond) (q1 : Int64) (h0 : Heap) (n0 : Nat) (Z0 : n0 ≤ h0.size) :
    MetFree l (⟨"com/example/internode_coordination/internodecoordination/protocol/ClientProtocol", "isSessionTimeout", "(J)Z"⟩ : MethodName) (head1 (Jvm.Cond.code (⟨"com/example/internode_coordination/internodecoordination/protocol/ClientProtocol", "isSessionTimeout", "(J)Z"⟩ : MethodName) prog_60_method_2_code 2 (some .boolean) :: ws) ({ frames := 0, cells := 0, slots := 0, locals := 0 } : Room)) (fun a U => a = #[(.long q1)] ∧ Z.Warmed39 U.vm ∧ U.heap = h0) (fun _ _ _ _ _ => True) (fun _ U o U' => ∃ v L, o = .returned v ∧ Q1 Z q1 h0 n0 v U'.heap L ∧ FrameEnd U o U' L ({ frames := 0, cells := 0, slots := 0, locals := 0 } : Room).cells ({ frames := 0, cells := 0, slots := 0, locals := 0 } : Room).slots) := by
  refine MetFree.of_bodySF (plainFor_of_name pn_1) hisR ?_
  intro p e s m args below meth c s₁ Bd hml0 hP hK
  obtain ⟨rfl, hZ, hh⟩ := hP
  have hx := Bd.exec
  have hby := Bd.bytes
  have hml : c.maxLocals = 2 := hml0
  have hown : s.vm.findClass "com/example/internode_coordination/internodecoordination/protocol/ClientProtocol" = some m.cls := findClass_of_methodNamed Bd.named
  have hnm := (name_of_methodNamed Bd.named Bd.method).1
  have X0 : Stand p l e ({ frames := 0, cells := 0, slots := 0, locals := 0 } : Room) s m #[(.long q1)] below meth c s₁ [] 0 0 := Stand.of_body Bd
  have e0 : s₁.heap = h0 := by rw [← hh, Bd.state]; rfl
  have N0 := Fr.nil n0
  apply own_in
  refine own_pre (B := s₁.setTop (mkF m 0 #[.val (.long q1), .second] [])) (fun t k => castTop (ef_1 m q1) k) ?_
  refine own_pre (B := s₁.setTop (mkF m 1 #[.val (.long q1), .second] [(.long q1)])) (fun t k => XS.lloadN X0.here hx rfl (hb hby d1_0) rfl k) ?_
  refine own_pre (B := s₁.setTop (mkF m 4 #[.val (.long q1), .second] [(.long (1000 : Int64)), (.long q1)])) (fun t k => X0.ldc2Long hx hown (mvT hZ (hw _ (ow 5 rfl))) (g := (mkF m 1 #[.val (.long q1), .second] [(.long q1)])) rfl (hb hby d1_1) _ k) ?_
  refine own_pre (B := s₁.setTop (mkF m 5 #[.val (.long q1), .second] [(.int (lcmpW q1 (1000 : Int64)))])) (fun t k => XS.lcmp X0.here hx rfl (hb hby d1_4) rfl k) ?_
  by_cases hc5_2 : q1 < (1000 : Int64)
  · refine own_pre (B := s₁.setTop (mkF m 20 #[.val (.long q1), .second] [])) (fun t k => XS.ifYes X0.here hx rfl (pc0 := 5) (pc' := 20) rfl (hb hby d1_5) rfl ((if0 _ _).trans (tlt ((lw_lt q1 (1000 : Int64)).mpr hc5_2)).1) (by decide) (by decide) k) ?_
    refine own_pre (B := s₁.setTop (mkF m 21 #[.val (.long q1), .second] [(.int (0 : Int32))])) (fun t k => XS.iconst X0.here hx rfl (hb hby d1_20) k) ?_
    obtain ⟨fsr3, hrr3, hrunr3, hendedr3, hWr3, hsamer3⟩ := X0.leave (v := some (.int (0 : Int32))) (fun h => by rw [Bd.returns] at h; cases h)
    refine ⟨_, _, (retN X0 hx (t := .boolean) Bd.returns (by simp) (hb hby d1_21) hrr3), hrunr3, hendedr3, _, _, rfl, ?_, ⟨_, rfl⟩, hWr3, hsamer3.mono (by decide) (by decide)⟩
    show Q1 Z q1 h0 n0 _ s₁.heap _
    rw [e0]
    exact ⟨(by unfold own_f1; rw [if_pos hc5_2]), N0, rfl⟩
  · refine own_pre (B := s₁.setTop (mkF m 8 #[.val (.long q1), .second] [])) (fun t k => XS.ifNo X0.here hx rfl (hb hby d1_5) rfl ((if0 _ _).trans (flt (mt (lw_lt q1 (1000 : Int64)).mp hc5_2)).1) k) ?_
    refine own_pre (B := s₁.setTop (mkF m 9 #[.val (.long q1), .second] [(.long q1)])) (fun t k => XS.lloadN X0.here hx rfl (hb hby d1_8) rfl k) ?_
    refine own_pre (B := s₁.setTop (mkF m 12 #[.val (.long q1), .second] [(.long (86400000 : Int64)), (.long q1)])) (fun t k => X0.ldc2Long hx hown (mvT hZ (hw _ (ow 7 rfl))) (g := (mkF m 9 #[.val (.long q1), .second] [(.long q1)])) rfl (hb hby d1_9) _ k) ?_
    refine own_pre (B := s₁.setTop (mkF m 13 #[.val (.long q1), .second] [(.int (lcmpW q1 (86400000 : Int64)))])) (fun t k => XS.lcmp X0.here hx rfl (hb hby d1_12) rfl k) ?_
    by_cases hc13_4 : (86400000 : Int64) < q1
    · refine own_pre (B := s₁.setTop (mkF m 20 #[.val (.long q1), .second] [])) (fun t k => XS.ifYes X0.here hx rfl (pc0 := 13) (pc' := 20) rfl (hb hby d1_13) rfl ((if0 _ _).trans (tlt ((lw_gt q1 (86400000 : Int64)).mpr hc13_4)).2.2.1) (by decide) (by decide) k) ?_
      refine own_pre (B := s₁.setTop (mkF m 21 #[.val (.long q1), .second] [(.int (0 : Int32))])) (fun t k => XS.iconst X0.here hx rfl (hb hby d1_20) k) ?_
      obtain ⟨fsr5, hrr5, hrunr5, hendedr5, hWr5, hsamer5⟩ := X0.leave (v := some (.int (0 : Int32))) (fun h => by rw [Bd.returns] at h; cases h)
      refine ⟨_, _, (retN X0 hx (t := .boolean) Bd.returns (by simp) (hb hby d1_21) hrr5), hrunr5, hendedr5, _, _, rfl, ?_, ⟨_, rfl⟩, hWr5, hsamer5.mono (by decide) (by decide)⟩
      show Q1 Z q1 h0 n0 _ s₁.heap _
      rw [e0]
      exact ⟨(by unfold own_f1; rw [if_neg hc5_2, if_pos hc13_4]), N0, rfl⟩
    · refine own_pre (B := s₁.setTop (mkF m 16 #[.val (.long q1), .second] [])) (fun t k => XS.ifNo X0.here hx rfl (hb hby d1_13) rfl ((if0 _ _).trans (flt (mt (lw_gt q1 (86400000 : Int64)).mp hc13_4)).2.2.1) k) ?_
      refine own_pre (B := s₁.setTop (mkF m 17 #[.val (.long q1), .second] [(.int (1 : Int32))])) (fun t k => XS.iconst X0.here hx rfl (hb hby d1_16) k) ?_
      refine own_pre (B := s₁.setTop (mkF m 21 #[.val (.long q1), .second] [(.int (1 : Int32))])) (fun t k => XS.goto X0.here hx rfl (pc0 := 17) (pc' := 21) rfl (hb hby d1_17) (by decide) (by decide) k) ?_
      obtain ⟨fsr6, hrr6, hrunr6, hendedr6, hWr6, hsamer6⟩ := X0.leave (v := some (.int (1 : Int32))) (fun h => by rw [Bd.returns] at h; cases h)
      refine ⟨_, _, (retN X0 hx (t := .boolean) Bd.returns (by simp) (hb hby d1_21) hrr6), hrunr6, hendedr6, _, _, rfl, ?_, ⟨_, rfl⟩, hWr6, hsamer6.mono (by decide) (by decide)⟩
      show Q1 Z q1 h0 n0 _ s₁.heap _
      rw [e0]
      exact ⟨(by unfold own_f1; rw [if_neg hc5_2, if_neg hc13_4]), N0, rfl⟩
theorem d2_0 : decode jdk_29_method_70_code 0 = .ok (.lload_n 0, 1) := by decide +kernel
theorem d2_1 : decode jdk_29_method_70_code 1 = .ok (.lload_n 2, 1) := by decide +kernel
theorem d2_2 : decode jdk_29_method_70_code 2 = .ok (.lcmp, 1) := by decide +kernel
theorem d2_3 : decode jdk_29_method_70_code 3 = .ok (.ifCond .gt 7, 3) := by decide +kernel
theorem d2_6 : decode jdk_29_method_70_code 6 = .ok (.lload_n 0, 1) := by decide +kernel
theorem d2_7 : decode jdk_29_method_70_code 7 = .ok (.goto 4, 3) := by decide +kernel
theorem d2_10 : decode jdk_29_method_70_code 10 = .ok (.lload_n 2, 1) := by decide +kernel
theorem d2_11 : decode jdk_29_method_70_code 11 = .ok (.lreturn, 1) := by decide +kernel
theorem ef_2 (m : MethodId) (x0 : Int64) (x1 : Int64) : entryFrame m #[(.long x0), (.long x1)] 4 = mkF m 0 #[.val (.long x0), .second, .val (.long x1), .second] [] := by first | (simp [entryFrame, mkF, argsToLocals, Value.category]; done) | rfl
def own_f2 (q1 : Int64) (q2 : Int64) : Int64 := (if q2 < q1 then q2 else q1)
def Q2 (Z : State) (q1 : Int64) (q2 : Int64) (h0 : Heap) (n0 : Nat) (v : Option Value) (h : Heap) (L : List Loc) : Prop := v = some (.long (own_f2 q1 q2)) ∧ Fr n0 L ∧ h = h0
set_option maxRecDepth 65536 in
set_option maxHeartbeats 40000000 in
theorem rm2 (l : Launch) (Z : State) (a0 : Array Value) (hw : ∀ d ∈ tables_1, d.before a0 Z = true) (ws : List Jvm.Cond) (q1 : Int64) (q2 : Int64) (h0 : Heap) (n0 : Nat) (Z0 : n0 ≤ h0.size) :
    MetFree l (⟨"java/lang/Math", "min", "(JJ)J"⟩ : MethodName) (head1 (Jvm.Cond.code (⟨"java/lang/Math", "min", "(JJ)J"⟩ : MethodName) jdk_29_method_70_code 4 (some .long) :: ws) ({ frames := 0, cells := 0, slots := 0, locals := 0 } : Room)) (fun a U => a = #[(.long q1), (.long q2)] ∧ Z.Warmed39 U.vm ∧ U.heap = h0) (fun _ _ _ _ _ => True) (fun _ U o U' => ∃ v L, o = .returned v ∧ Q2 Z q1 q2 h0 n0 v U'.heap L ∧ FrameEnd U o U' L ({ frames := 0, cells := 0, slots := 0, locals := 0 } : Room).cells ({ frames := 0, cells := 0, slots := 0, locals := 0 } : Room).slots) := by
  refine MetFree.of_bodySF (Jvm.Free.JP.mathPlain rfl (by decide +kernel)) hisR ?_
  intro p e s m args below meth c s₁ Bd hml0 hP hK
  obtain ⟨rfl, hZ, hh⟩ := hP
  have hx := Bd.exec
  have hby := Bd.bytes
  have hml : c.maxLocals = 4 := hml0
  have hown : s.vm.findClass "java/lang/Math" = some m.cls := findClass_of_methodNamed Bd.named
  have hnm := (name_of_methodNamed Bd.named Bd.method).1
  have X0 : Stand p l e ({ frames := 0, cells := 0, slots := 0, locals := 0 } : Room) s m #[(.long q1), (.long q2)] below meth c s₁ [] 0 0 := Stand.of_body Bd
  have e0 : s₁.heap = h0 := by rw [← hh, Bd.state]; rfl
  have N0 := Fr.nil n0
  apply own_in
  refine own_pre (B := s₁.setTop (mkF m 0 #[.val (.long q1), .second, .val (.long q2), .second] [])) (fun t k => castTop (ef_2 m q1 q2) k) ?_
  refine own_pre (B := s₁.setTop (mkF m 1 #[.val (.long q1), .second, .val (.long q2), .second] [(.long q1)])) (fun t k => XS.lloadN X0.here hx rfl (hb hby d2_0) rfl k) ?_
  refine own_pre (B := s₁.setTop (mkF m 2 #[.val (.long q1), .second, .val (.long q2), .second] [(.long q2), (.long q1)])) (fun t k => XS.lloadN X0.here hx rfl (hb hby d2_1) rfl k) ?_
  refine own_pre (B := s₁.setTop (mkF m 3 #[.val (.long q1), .second, .val (.long q2), .second] [(.int (lcmpW q1 q2))])) (fun t k => XS.lcmp X0.here hx rfl (hb hby d2_2) rfl k) ?_
  by_cases hc3_3 : q2 < q1
  · refine own_pre (B := s₁.setTop (mkF m 10 #[.val (.long q1), .second, .val (.long q2), .second] [])) (fun t k => XS.ifYes X0.here hx rfl (pc0 := 3) (pc' := 10) rfl (hb hby d2_3) rfl ((if0 _ _).trans (tlt ((lw_gt q1 q2).mpr hc3_3)).2.2.1) (by decide) (by decide) k) ?_
    refine own_pre (B := s₁.setTop (mkF m 11 #[.val (.long q1), .second, .val (.long q2), .second] [(.long q2)])) (fun t k => XS.lloadN X0.here hx rfl (hb hby d2_10) rfl k) ?_
    obtain ⟨fsr4, hrr4, hrunr4, hendedr4, hWr4, hsamer4⟩ := X0.leave (v := some (.long q2)) (fun h => by rw [Bd.returns] at h; cases h)
    refine ⟨_, _, (retOut X0 hx (t := .long) (i := .lreturn) Bd.returns rfl (Or.inr (Or.inl ⟨rfl, rfl, _, rfl⟩)) (hb hby d2_11) hrr4), hrunr4, hendedr4, _, _, rfl, ?_, ⟨_, rfl⟩, hWr4, hsamer4.mono (by decide) (by decide)⟩
    show Q2 Z q1 q2 h0 n0 _ s₁.heap _
    rw [e0]
    exact ⟨(by unfold own_f2; rw [if_pos hc3_3]), N0, rfl⟩
  · refine own_pre (B := s₁.setTop (mkF m 6 #[.val (.long q1), .second, .val (.long q2), .second] [])) (fun t k => XS.ifNo X0.here hx rfl (hb hby d2_3) rfl ((if0 _ _).trans (flt (mt (lw_gt q1 q2).mp hc3_3)).2.2.1) k) ?_
    refine own_pre (B := s₁.setTop (mkF m 7 #[.val (.long q1), .second, .val (.long q2), .second] [(.long q1)])) (fun t k => XS.lloadN X0.here hx rfl (hb hby d2_6) rfl k) ?_
    refine own_pre (B := s₁.setTop (mkF m 11 #[.val (.long q1), .second, .val (.long q2), .second] [(.long q1)])) (fun t k => XS.goto X0.here hx rfl (pc0 := 7) (pc' := 11) rfl (hb hby d2_7) (by decide) (by decide) k) ?_
    obtain ⟨fsr5, hrr5, hrunr5, hendedr5, hWr5, hsamer5⟩ := X0.leave (v := some (.long q1)) (fun h => by rw [Bd.returns] at h; cases h)
    refine ⟨_, _, (retOut X0 hx (t := .long) (i := .lreturn) Bd.returns rfl (Or.inr (Or.inl ⟨rfl, rfl, _, rfl⟩)) (hb hby d2_11) hrr5), hrunr5, hendedr5, _, _, rfl, ?_, ⟨_, rfl⟩, hWr5, hsamer5.mono (by decide) (by decide)⟩
    show Q2 Z q1 q2 h0 n0 _ s₁.heap _
    rw [e0]
    exact ⟨(by unfold own_f2; rw [if_neg hc3_3]), N0, rfl⟩
theorem d3_0 : decode jdk_29_method_66_code 0 = .ok (.lload_n 0, 1) := by decide +kernel
theorem d3_1 : decode jdk_29_method_66_code 1 = .ok (.lload_n 2, 1) := by decide +kernel
theorem d3_2 : decode jdk_29_method_66_code 2 = .ok (.lcmp, 1) := by decide +kernel
theorem d3_3 : decode jdk_29_method_66_code 3 = .ok (.ifCond .lt 7, 3) := by decide +kernel
theorem d3_6 : decode jdk_29_method_66_code 6 = .ok (.lload_n 0, 1) := by decide +kernel
theorem d3_7 : decode jdk_29_method_66_code 7 = .ok (.goto 4, 3) := by decide +kernel
theorem d3_10 : decode jdk_29_method_66_code 10 = .ok (.lload_n 2, 1) := by decide +kernel
theorem d3_11 : decode jdk_29_method_66_code 11 = .ok (.lreturn, 1) := by decide +kernel
theorem ef_3 (m : MethodId) (x0 : Int64) (x1 : Int64) : entryFrame m #[(.long x0), (.long x1)] 4 = mkF m 0 #[.val (.long x0), .second, .val (.long x1), .second] [] := by first | (simp [entryFrame, mkF, argsToLocals, Value.category]; done) | rfl
def own_f3 (q1 : Int64) (q2 : Int64) : Int64 := (if q1 < q2 then q2 else q1)
def Q3 (Z : State) (q1 : Int64) (q2 : Int64) (h0 : Heap) (n0 : Nat) (v : Option Value) (h : Heap) (L : List Loc) : Prop := v = some (.long (own_f3 q1 q2)) ∧ Fr n0 L ∧ h = h0
set_option maxRecDepth 65536 in
set_option maxHeartbeats 40000000 in
theorem rm3 (l : Launch) (Z : State) (a0 : Array Value) (hw : ∀ d ∈ tables_1, d.before a0 Z = true) (ws : List Jvm.Cond) (q1 : Int64) (q2 : Int64) (h0 : Heap) (n0 : Nat) (Z0 : n0 ≤ h0.size) :
    MetFree l (⟨"java/lang/Math", "max", "(JJ)J"⟩ : MethodName) (head1 (Jvm.Cond.code (⟨"java/lang/Math", "max", "(JJ)J"⟩ : MethodName) jdk_29_method_66_code 4 (some .long) :: ws) ({ frames := 0, cells := 0, slots := 0, locals := 0 } : Room)) (fun a U => a = #[(.long q1), (.long q2)] ∧ Z.Warmed39 U.vm ∧ U.heap = h0) (fun _ _ _ _ _ => True) (fun _ U o U' => ∃ v L, o = .returned v ∧ Q3 Z q1 q2 h0 n0 v U'.heap L ∧ FrameEnd U o U' L ({ frames := 0, cells := 0, slots := 0, locals := 0 } : Room).cells ({ frames := 0, cells := 0, slots := 0, locals := 0 } : Room).slots) := by
  refine MetFree.of_bodySF (Jvm.Free.JP.mathPlain rfl (by decide +kernel)) hisR ?_
  intro p e s m args below meth c s₁ Bd hml0 hP hK
  obtain ⟨rfl, hZ, hh⟩ := hP
  have hx := Bd.exec
  have hby := Bd.bytes
  have hml : c.maxLocals = 4 := hml0
  have hown : s.vm.findClass "java/lang/Math" = some m.cls := findClass_of_methodNamed Bd.named
  have hnm := (name_of_methodNamed Bd.named Bd.method).1
  have X0 : Stand p l e ({ frames := 0, cells := 0, slots := 0, locals := 0 } : Room) s m #[(.long q1), (.long q2)] below meth c s₁ [] 0 0 := Stand.of_body Bd
  have e0 : s₁.heap = h0 := by rw [← hh, Bd.state]; rfl
  have N0 := Fr.nil n0
  apply own_in
  refine own_pre (B := s₁.setTop (mkF m 0 #[.val (.long q1), .second, .val (.long q2), .second] [])) (fun t k => castTop (ef_3 m q1 q2) k) ?_
  refine own_pre (B := s₁.setTop (mkF m 1 #[.val (.long q1), .second, .val (.long q2), .second] [(.long q1)])) (fun t k => XS.lloadN X0.here hx rfl (hb hby d3_0) rfl k) ?_
  refine own_pre (B := s₁.setTop (mkF m 2 #[.val (.long q1), .second, .val (.long q2), .second] [(.long q2), (.long q1)])) (fun t k => XS.lloadN X0.here hx rfl (hb hby d3_1) rfl k) ?_
  refine own_pre (B := s₁.setTop (mkF m 3 #[.val (.long q1), .second, .val (.long q2), .second] [(.int (lcmpW q1 q2))])) (fun t k => XS.lcmp X0.here hx rfl (hb hby d3_2) rfl k) ?_
  by_cases hc3_3 : q1 < q2
  · refine own_pre (B := s₁.setTop (mkF m 10 #[.val (.long q1), .second, .val (.long q2), .second] [])) (fun t k => XS.ifYes X0.here hx rfl (pc0 := 3) (pc' := 10) rfl (hb hby d3_3) rfl ((if0 _ _).trans (tlt ((lw_lt q1 q2).mpr hc3_3)).1) (by decide) (by decide) k) ?_
    refine own_pre (B := s₁.setTop (mkF m 11 #[.val (.long q1), .second, .val (.long q2), .second] [(.long q2)])) (fun t k => XS.lloadN X0.here hx rfl (hb hby d3_10) rfl k) ?_
    obtain ⟨fsr4, hrr4, hrunr4, hendedr4, hWr4, hsamer4⟩ := X0.leave (v := some (.long q2)) (fun h => by rw [Bd.returns] at h; cases h)
    refine ⟨_, _, (retOut X0 hx (t := .long) (i := .lreturn) Bd.returns rfl (Or.inr (Or.inl ⟨rfl, rfl, _, rfl⟩)) (hb hby d3_11) hrr4), hrunr4, hendedr4, _, _, rfl, ?_, ⟨_, rfl⟩, hWr4, hsamer4.mono (by decide) (by decide)⟩
    show Q3 Z q1 q2 h0 n0 _ s₁.heap _
    rw [e0]
    exact ⟨(by unfold own_f3; rw [if_pos hc3_3]), N0, rfl⟩
  · refine own_pre (B := s₁.setTop (mkF m 6 #[.val (.long q1), .second, .val (.long q2), .second] [])) (fun t k => XS.ifNo X0.here hx rfl (hb hby d3_3) rfl ((if0 _ _).trans (flt (mt (lw_lt q1 q2).mp hc3_3)).1) k) ?_
    refine own_pre (B := s₁.setTop (mkF m 7 #[.val (.long q1), .second, .val (.long q2), .second] [(.long q1)])) (fun t k => XS.lloadN X0.here hx rfl (hb hby d3_6) rfl k) ?_
    refine own_pre (B := s₁.setTop (mkF m 11 #[.val (.long q1), .second, .val (.long q2), .second] [(.long q1)])) (fun t k => XS.goto X0.here hx rfl (pc0 := 7) (pc' := 11) rfl (hb hby d3_7) (by decide) (by decide) k) ?_
    obtain ⟨fsr5, hrr5, hrunr5, hendedr5, hWr5, hsamer5⟩ := X0.leave (v := some (.long q1)) (fun h => by rw [Bd.returns] at h; cases h)
    refine ⟨_, _, (retOut X0 hx (t := .long) (i := .lreturn) Bd.returns rfl (Or.inr (Or.inl ⟨rfl, rfl, _, rfl⟩)) (hb hby d3_11) hrr5), hrunr5, hendedr5, _, _, rfl, ?_, ⟨_, rfl⟩, hWr5, hsamer5.mono (by decide) (by decide)⟩
    show Q3 Z q1 q2 h0 n0 _ s₁.heap _
    rw [e0]
    exact ⟨(by unfold own_f3; rw [if_neg hc3_3]), N0, rfl⟩
theorem own_is {x : Int64} : ¬ own_f1 x = 0 ↔ 1000 ≤ x.toInt ∧ x.toInt ≤ 86400000 := by
  have e1 : (1000 : Int64).toInt = 1000 := by decide
  have e2 : (86400000 : Int64).toInt = 86400000 := by decide
  unfold own_f1
  by_cases a : x < 1000
  · rw [if_pos a]; rw [Int64.lt_iff_toInt_lt] at a; constructor
    · intro h; exact absurd rfl h
    · omega
  · rw [if_neg a]; rw [Int64.lt_iff_toInt_lt] at a
    by_cases b : 86400000 < x
    · rw [if_pos b]; rw [Int64.lt_iff_toInt_lt] at b; constructor
      · intro h; exact absurd rfl h
      · omega
    · rw [if_neg b]; rw [Int64.lt_iff_toInt_lt] at b; constructor
      · intro _; omega
      · intro _; decide
theorem own_convex {lo hi x : Int64} (h1 : ¬ x < lo) (h2 : ¬ hi < x) (h3 : ¬ own_f1 lo = 0) (h4 : ¬ own_f1 hi = 0) (h5 : own_f1 x = 0) : False := by
  rw [own_is] at h3 h4
  rw [Int64.lt_iff_toInt_lt] at h1 h2
  exact absurd h5 (own_is.mpr ⟨by omega, by omega⟩)
theorem pd_0 : parseMethodDescriptor "(J)Z" = some ⟨[.long], some .boolean⟩ := by decide +kernel
theorem pd_1 : parseMethodDescriptor "(JJ)J" = some ⟨[.long, .long], some .long⟩ := by decide +kernel
theorem pn_0 : plainName "com/example/internode_coordination/internodecoordination/protocol/ClientProtocolIsSessionTimeoutPinLaw" = true := by first | (simp [plainName, overriddenIn]; done) | decide +kernel
theorem ef_0 (m : MethodId) (x0 : Int64) (x1 : Int64) (x2 : Int64) : entryFrame m #[(.long x0), (.long x1), (.long x2)] maxLocals = mkF m 0 #[.val (.long x0), .second, .val (.long x1), .second, .val (.long x2), .second, .unset, .unset, .unset, .unset, .unset, .unset] [] := by first | (simp [entryFrame, mkF, argsToLocals, Value.category, maxLocals]; done) | rfl
def Q0 (Z : State) (q1 : Int64) (q2 : Int64) (q3 : Int64) (h0 : Heap) (n0 : Nat) (v : Option Value) (h : Heap) (L : List Loc) : Prop := v = some (.int 1) ∧ Fr n0 L
set_option maxRecDepth 65536 in
set_option maxHeartbeats 40000000 in
theorem rm0 (l : Launch) (Z : State) (a0 : Array Value) (hw : ∀ d ∈ tables_1, d.before a0 Z = true) (ws : List Jvm.Cond) (q1 : Int64) (q2 : Int64) (q3 : Int64) (h0 : Heap) (n0 : Nat) (Z0 : n0 ≤ h0.size) :
    MetFree l x (head1 (Jvm.Cond.code x code maxLocals ret :: ws) room_1) (fun a U => a = #[(.long q1), (.long q2), (.long q3)] ∧ Z.Warmed39 U.vm ∧ U.heap = h0) (fun _ _ _ _ _ => True) (fun _ U o U' => ∃ v L, o = .returned v ∧ Q0 Z q1 q2 q3 h0 n0 v U'.heap L ∧ FrameEnd U o U' L 0 0) := by
  refine MetFree.of_bodySF (plainFor_of_name pn_0) hisR ?_
  intro p e s m args below meth c s₁ Bd hml0 hP hK
  obtain ⟨rfl, hZ, hh⟩ := hP
  have hx := Bd.exec
  have hby := Bd.bytes
  have hml : c.maxLocals = 12 := hml0
  have hown : s.vm.findClass "com/example/internode_coordination/internodecoordination/protocol/ClientProtocolIsSessionTimeoutPinLaw" = some m.cls := findClass_of_methodNamed Bd.named
  have hnm := (name_of_methodNamed Bd.named Bd.method).1
  have X0 : Stand p l e room_1 s m #[(.long q1), (.long q2), (.long q3)] below meth c s₁ [] 0 0 := Stand.of_body Bd
  have e0 : s₁.heap = h0 := by rw [← hh, Bd.state]; rfl
  have N0 := Fr.nil n0
  apply own_in
  refine own_pre (B := s₁.setTop (mkF m 0 #[.val (.long q1), .second, .val (.long q2), .second, .val (.long q3), .second, .unset, .unset, .unset, .unset, .unset, .unset] [])) (fun t k => castTop (ef_0 m q1 q2 q3) k) ?_
  refine own_pre (B := s₁.setTop (mkF m 3 #[.val (.long q1), .second, .val (.long q2), .second, .val (.long q3), .second, .unset, .unset, .unset, .unset, .unset, .unset] [(.long (999 : Int64))])) (fun t k => X0.ldc2Long hx hown (mvT hZ (hw _ (ow 0 rfl))) (g := (mkF m 0 #[.val (.long q1), .second, .val (.long q2), .second, .val (.long q3), .second, .unset, .unset, .unset, .unset, .unset, .unset] [])) rfl (hb hby at_0) _ k) ?_
  obtain ⟨_, _, ⟨T4, L4, k4, n4⟩, -, X4, ⟨Lc4, hQ4, l4, y4, z4⟩, st4⟩ := Jvm.LawKit.callS X0 hx (y := (⟨"com/example/internode_coordination/internodecoordination/protocol/ClientProtocol", "isSessionTimeout", "(J)Z"⟩ : MethodName)) hown (mvT hZ (hw _ (ow 1 rfl))) (mvT hZ (hw _ (ow 2 rfl))) (mvT hZ (hw _ (ow 3 rfl))) (mvT hZ (hw _ (ow 4 rfl))) (by decide) (backOf (W := 0) (rm1 l Z a0 hw [] (999 : Int64) h0 n0 Z0 ) hZ (hw _ (ow 4 rfl)) (hw _ (ow 3 rfl)) (by decide) (by decide)) (g := (mkF m 3 #[.val (.long q1), .second, .val (.long q2), .second, .val (.long q3), .second, .unset, .unset, .unset, .unset, .unset, .unset] [(.long (999 : Int64))])) rfl (by rw [hml]; rfl) (argsL := [(.long (999 : Int64))]) (rest := []) (lenOf pd_0 rfl) rfl (by show 2 * 0 + _ ≤ _; exact Nat.le_of_eq rfl) (hb hby at_3) (fun _ _ => ⟨rfl, e0, (by decide : 0 + 0 ≤ _), (by decide : 0 + 0 ≤ _)⟩)
  dsimp only [Pt.U, Pt.locs, Pt.cells, Pt.slots] at X4 l4 y4 z4 st4 hQ4
  subst l4 y4 z4
  obtain ⟨rfl, N4q, e4⟩ := hQ4
  have N4 := Fr.app N0 N4q
  refine own_pre (B := T4.setTop (mkF m 6 #[.val (.long q1), .second, .val (.long q2), .second, .val (.long q3), .second, .unset, .unset, .unset, .unset, .unset, .unset] [(.int (own_f1 (999 : Int64)))])) (fun t k => st4 t k) ?_
  refine own_pre (B := T4.setTop (mkF m 9 #[.val (.long q1), .second, .val (.long q2), .second, .val (.long q3), .second, .unset, .unset, .unset, .unset, .unset, .unset] [])) (fun t k => XS.ifNo X4.here hx rfl (hb hby at_6) rfl ((if0 _ _).trans (teq (by decide : (own_f1 (999 : Int64)) = (0 : Int32))).2) k) ?_
  refine own_pre (B := T4.setTop (mkF m 12 #[.val (.long q1), .second, .val (.long q2), .second, .val (.long q3), .second, .unset, .unset, .unset, .unset, .unset, .unset] [(.long (1000 : Int64))])) (fun t k => X4.ldc2Long hx hown (mvT hZ (hw _ (ow 6 rfl))) (g := (mkF m 9 #[.val (.long q1), .second, .val (.long q2), .second, .val (.long q3), .second, .unset, .unset, .unset, .unset, .unset, .unset] [])) rfl (hb hby at_9) _ k) ?_
  obtain ⟨_, _, ⟨T5, L5, k5, n5⟩, -, X5, ⟨Lc5, hQ5, l5, y5, z5⟩, st5⟩ := Jvm.LawKit.callS X4 hx (y := (⟨"com/example/internode_coordination/internodecoordination/protocol/ClientProtocol", "isSessionTimeout", "(J)Z"⟩ : MethodName)) hown (mvT hZ (hw _ (ow 1 rfl))) (mvT hZ (hw _ (ow 2 rfl))) (mvT hZ (hw _ (ow 3 rfl))) (mvT hZ (hw _ (ow 4 rfl))) (by decide) (backOf (W := 0) (rm1 l Z a0 hw [] (1000 : Int64) h0 n0 Z0 ) hZ (hw _ (ow 4 rfl)) (hw _ (ow 3 rfl)) (by decide) (by decide)) (g := (mkF m 12 #[.val (.long q1), .second, .val (.long q2), .second, .val (.long q3), .second, .unset, .unset, .unset, .unset, .unset, .unset] [(.long (1000 : Int64))])) rfl (by rw [hml]; rfl) (argsL := [(.long (1000 : Int64))]) (rest := []) (lenOf pd_0 rfl) rfl (by show 2 * 0 + _ ≤ _; exact Nat.le_of_eq rfl) (hb hby at_12) (fun _ _ => ⟨rfl, e4, (by decide : 0 + 0 ≤ _), (by decide : 0 + 0 ≤ _)⟩)
  dsimp only [Pt.U, Pt.locs, Pt.cells, Pt.slots] at X5 l5 y5 z5 st5 hQ5
  subst l5 y5 z5
  obtain ⟨rfl, N5q, e5⟩ := hQ5
  have N5 := Fr.app N4 N5q
  refine own_pre (B := T5.setTop (mkF m 15 #[.val (.long q1), .second, .val (.long q2), .second, .val (.long q3), .second, .unset, .unset, .unset, .unset, .unset, .unset] [(.int (own_f1 (1000 : Int64)))])) (fun t k => st5 t k) ?_
  refine own_pre (B := T5.setTop (mkF m 18 #[.val (.long q1), .second, .val (.long q2), .second, .val (.long q3), .second, .unset, .unset, .unset, .unset, .unset, .unset] [])) (fun t k => XS.ifNo X5.here hx rfl (hb hby at_15) rfl ((if0 _ _).trans (feq (by decide : ¬ ((own_f1 (1000 : Int64)) = (0 : Int32)))).1) k) ?_
  refine own_pre (B := T5.setTop (mkF m 21 #[.val (.long q1), .second, .val (.long q2), .second, .val (.long q3), .second, .unset, .unset, .unset, .unset, .unset, .unset] [(.long (86400000 : Int64))])) (fun t k => X5.ldc2Long hx hown (mvT hZ (hw _ (ow 8 rfl))) (g := (mkF m 18 #[.val (.long q1), .second, .val (.long q2), .second, .val (.long q3), .second, .unset, .unset, .unset, .unset, .unset, .unset] [])) rfl (hb hby at_18) _ k) ?_
  obtain ⟨_, _, ⟨T6, L6, k6, n6⟩, -, X6, ⟨Lc6, hQ6, l6, y6, z6⟩, st6⟩ := Jvm.LawKit.callS X5 hx (y := (⟨"com/example/internode_coordination/internodecoordination/protocol/ClientProtocol", "isSessionTimeout", "(J)Z"⟩ : MethodName)) hown (mvT hZ (hw _ (ow 1 rfl))) (mvT hZ (hw _ (ow 2 rfl))) (mvT hZ (hw _ (ow 3 rfl))) (mvT hZ (hw _ (ow 4 rfl))) (by decide) (backOf (W := 0) (rm1 l Z a0 hw [] (86400000 : Int64) h0 n0 Z0 ) hZ (hw _ (ow 4 rfl)) (hw _ (ow 3 rfl)) (by decide) (by decide)) (g := (mkF m 21 #[.val (.long q1), .second, .val (.long q2), .second, .val (.long q3), .second, .unset, .unset, .unset, .unset, .unset, .unset] [(.long (86400000 : Int64))])) rfl (by rw [hml]; rfl) (argsL := [(.long (86400000 : Int64))]) (rest := []) (lenOf pd_0 rfl) rfl (by show 2 * 0 + _ ≤ _; exact Nat.le_of_eq rfl) (hb hby at_21) (fun _ _ => ⟨rfl, e5, (by decide : 0 + 0 ≤ _), (by decide : 0 + 0 ≤ _)⟩)
  dsimp only [Pt.U, Pt.locs, Pt.cells, Pt.slots] at X6 l6 y6 z6 st6 hQ6
  subst l6 y6 z6
  obtain ⟨rfl, N6q, e6⟩ := hQ6
  have N6 := Fr.app N5 N6q
  refine own_pre (B := T6.setTop (mkF m 24 #[.val (.long q1), .second, .val (.long q2), .second, .val (.long q3), .second, .unset, .unset, .unset, .unset, .unset, .unset] [(.int (own_f1 (86400000 : Int64)))])) (fun t k => st6 t k) ?_
  refine own_pre (B := T6.setTop (mkF m 27 #[.val (.long q1), .second, .val (.long q2), .second, .val (.long q3), .second, .unset, .unset, .unset, .unset, .unset, .unset] [])) (fun t k => XS.ifNo X6.here hx rfl (hb hby at_24) rfl ((if0 _ _).trans (feq (by decide : ¬ ((own_f1 (86400000 : Int64)) = (0 : Int32)))).1) k) ?_
  refine own_pre (B := T6.setTop (mkF m 30 #[.val (.long q1), .second, .val (.long q2), .second, .val (.long q3), .second, .unset, .unset, .unset, .unset, .unset, .unset] [(.long (86400001 : Int64))])) (fun t k => X6.ldc2Long hx hown (mvT hZ (hw _ (ow 9 rfl))) (g := (mkF m 27 #[.val (.long q1), .second, .val (.long q2), .second, .val (.long q3), .second, .unset, .unset, .unset, .unset, .unset, .unset] [])) rfl (hb hby at_27) _ k) ?_
  obtain ⟨_, _, ⟨T7, L7, k7, n7⟩, -, X7, ⟨Lc7, hQ7, l7, y7, z7⟩, st7⟩ := Jvm.LawKit.callS X6 hx (y := (⟨"com/example/internode_coordination/internodecoordination/protocol/ClientProtocol", "isSessionTimeout", "(J)Z"⟩ : MethodName)) hown (mvT hZ (hw _ (ow 1 rfl))) (mvT hZ (hw _ (ow 2 rfl))) (mvT hZ (hw _ (ow 3 rfl))) (mvT hZ (hw _ (ow 4 rfl))) (by decide) (backOf (W := 0) (rm1 l Z a0 hw [] (86400001 : Int64) h0 n0 Z0 ) hZ (hw _ (ow 4 rfl)) (hw _ (ow 3 rfl)) (by decide) (by decide)) (g := (mkF m 30 #[.val (.long q1), .second, .val (.long q2), .second, .val (.long q3), .second, .unset, .unset, .unset, .unset, .unset, .unset] [(.long (86400001 : Int64))])) rfl (by rw [hml]; rfl) (argsL := [(.long (86400001 : Int64))]) (rest := []) (lenOf pd_0 rfl) rfl (by show 2 * 0 + _ ≤ _; exact Nat.le_of_eq rfl) (hb hby at_30) (fun _ _ => ⟨rfl, e6, (by decide : 0 + 0 ≤ _), (by decide : 0 + 0 ≤ _)⟩)
  dsimp only [Pt.U, Pt.locs, Pt.cells, Pt.slots] at X7 l7 y7 z7 st7 hQ7
  subst l7 y7 z7
  obtain ⟨rfl, N7q, e7⟩ := hQ7
  have N7 := Fr.app N6 N7q
  refine own_pre (B := T7.setTop (mkF m 33 #[.val (.long q1), .second, .val (.long q2), .second, .val (.long q3), .second, .unset, .unset, .unset, .unset, .unset, .unset] [(.int (own_f1 (86400001 : Int64)))])) (fun t k => st7 t k) ?_
  refine own_pre (B := T7.setTop (mkF m 36 #[.val (.long q1), .second, .val (.long q2), .second, .val (.long q3), .second, .unset, .unset, .unset, .unset, .unset, .unset] [])) (fun t k => XS.ifNo X7.here hx rfl (hb hby at_33) rfl ((if0 _ _).trans (teq (by decide : (own_f1 (86400001 : Int64)) = (0 : Int32))).2) k) ?_
  refine own_pre (B := T7.setTop (mkF m 37 #[.val (.long q1), .second, .val (.long q2), .second, .val (.long q3), .second, .unset, .unset, .unset, .unset, .unset, .unset] [(.int (1 : Int32))])) (fun t k => XS.iconst X7.here hx rfl (hb hby at_36) k) ?_
  refine own_pre (B := T7.setTop (mkF m 41 #[.val (.long q1), .second, .val (.long q2), .second, .val (.long q3), .second, .unset, .unset, .unset, .unset, .unset, .unset] [(.int (1 : Int32))])) (fun t k => XS.goto X7.here hx rfl (pc0 := 37) (pc' := 41) rfl (hb hby at_37) (by decide) (by decide) k) ?_
  refine own_pre (B := T7.setTop (mkF m 43 #[.val (.long q1), .second, .val (.long q2), .second, .val (.long q3), .second, .val (.int (1 : Int32)), .unset, .unset, .unset, .unset, .unset] [])) (fun t k => XS.istore X7.here hx rfl (hb hby at_41) rfl (l' := #[.val (.long q1), .second, .val (.long q2), .second, .val (.long q3), .second, .val (.int (1 : Int32)), .unset, .unset, .unset, .unset, .unset]) rfl k) ?_
  refine own_pre (B := T7.setTop (mkF m 44 #[.val (.long q1), .second, .val (.long q2), .second, .val (.long q3), .second, .val (.int (1 : Int32)), .unset, .unset, .unset, .unset, .unset] [(.long q1)])) (fun t k => XS.lloadN X7.here hx rfl (hb hby at_43) rfl k) ?_
  refine own_pre (B := T7.setTop (mkF m 46 #[.val (.long q1), .second, .val (.long q2), .second, .val (.long q3), .second, .val (.int (1 : Int32)), .unset, .unset, .unset, .unset, .unset] [(.long q3), (.long q1)])) (fun t k => XS.lload X7.here hx rfl (hb hby at_44) rfl k) ?_
  obtain ⟨_, _, ⟨T8, L8, k8, n8⟩, -, X8, ⟨Lc8, hQ8, l8, y8, z8⟩, st8⟩ := Jvm.LawKit.callS X7 hx (y := (⟨"java/lang/Math", "min", "(JJ)J"⟩ : MethodName)) hown (mvT hZ (hw _ (ow 10 rfl))) (mvT hZ (hw _ (ow 11 rfl))) (mvT hZ (hw _ (ow 12 rfl))) (mvT hZ (hw _ (ow 13 rfl))) (by decide) (backOf (W := 0) (rm2 l Z a0 hw [] q1 q3 h0 n0 Z0 ) hZ (hw _ (ow 13 rfl)) (hw _ (ow 12 rfl)) (by decide) (by decide)) (g := (mkF m 46 #[.val (.long q1), .second, .val (.long q2), .second, .val (.long q3), .second, .val (.int (1 : Int32)), .unset, .unset, .unset, .unset, .unset] [(.long q3), (.long q1)])) rfl (by rw [hml]; rfl) (argsL := [(.long q1), (.long q3)]) (rest := []) (lenOf pd_1 rfl) rfl (by show 2 * 0 + _ ≤ _; exact Nat.le_of_eq rfl) (hb hby at_46) (fun _ _ => ⟨rfl, e7, (by decide : 0 + 0 ≤ _), (by decide : 0 + 0 ≤ _)⟩)
  dsimp only [Pt.U, Pt.locs, Pt.cells, Pt.slots] at X8 l8 y8 z8 st8 hQ8
  subst l8 y8 z8
  obtain ⟨rfl, N8q, e8⟩ := hQ8
  have N8 := Fr.app N7 N8q
  refine own_pre (B := T8.setTop (mkF m 49 #[.val (.long q1), .second, .val (.long q2), .second, .val (.long q3), .second, .val (.int (1 : Int32)), .unset, .unset, .unset, .unset, .unset] [(.long (own_f2 q1 q3))])) (fun t k => st8 t k) ?_
  refine own_pre (B := T8.setTop (mkF m 51 #[.val (.long q1), .second, .val (.long q2), .second, .val (.long q3), .second, .val (.int (1 : Int32)), .val (.long (own_f2 q1 q3)), .second, .unset, .unset, .unset] [])) (fun t k => XS.lstore X8.here hx rfl (hb hby at_49) rfl (l' := #[.val (.long q1), .second, .val (.long q2), .second, .val (.long q3), .second, .val (.int (1 : Int32)), .val (.long (own_f2 q1 q3)), .second, .unset, .unset, .unset]) rfl k) ?_
  refine own_pre (B := T8.setTop (mkF m 52 #[.val (.long q1), .second, .val (.long q2), .second, .val (.long q3), .second, .val (.int (1 : Int32)), .val (.long (own_f2 q1 q3)), .second, .unset, .unset, .unset] [(.long q1)])) (fun t k => XS.lloadN X8.here hx rfl (hb hby at_51) rfl k) ?_
  refine own_pre (B := T8.setTop (mkF m 54 #[.val (.long q1), .second, .val (.long q2), .second, .val (.long q3), .second, .val (.int (1 : Int32)), .val (.long (own_f2 q1 q3)), .second, .unset, .unset, .unset] [(.long q3), (.long q1)])) (fun t k => XS.lload X8.here hx rfl (hb hby at_52) rfl k) ?_
  obtain ⟨_, _, ⟨T9, L9, k9, n9⟩, -, X9, ⟨Lc9, hQ9, l9, y9, z9⟩, st9⟩ := Jvm.LawKit.callS X8 hx (y := (⟨"java/lang/Math", "max", "(JJ)J"⟩ : MethodName)) hown (mvT hZ (hw _ (ow 14 rfl))) (mvT hZ (hw _ (ow 15 rfl))) (mvT hZ (hw _ (ow 12 rfl))) (mvT hZ (hw _ (ow 16 rfl))) (by decide) (backOf (W := 0) (rm3 l Z a0 hw [] q1 q3 h0 n0 Z0 ) hZ (hw _ (ow 16 rfl)) (hw _ (ow 12 rfl)) (by decide) (by decide)) (g := (mkF m 54 #[.val (.long q1), .second, .val (.long q2), .second, .val (.long q3), .second, .val (.int (1 : Int32)), .val (.long (own_f2 q1 q3)), .second, .unset, .unset, .unset] [(.long q3), (.long q1)])) rfl (by rw [hml]; rfl) (argsL := [(.long q1), (.long q3)]) (rest := []) (lenOf pd_1 rfl) rfl (by show 2 * 0 + _ ≤ _; exact Nat.le_of_eq rfl) (hb hby at_54) (fun _ _ => ⟨rfl, e8, (by decide : 0 + 0 ≤ _), (by decide : 0 + 0 ≤ _)⟩)
  dsimp only [Pt.U, Pt.locs, Pt.cells, Pt.slots] at X9 l9 y9 z9 st9 hQ9
  subst l9 y9 z9
  obtain ⟨rfl, N9q, e9⟩ := hQ9
  have N9 := Fr.app N8 N9q
  refine own_pre (B := T9.setTop (mkF m 57 #[.val (.long q1), .second, .val (.long q2), .second, .val (.long q3), .second, .val (.int (1 : Int32)), .val (.long (own_f2 q1 q3)), .second, .unset, .unset, .unset] [(.long (own_f3 q1 q3))])) (fun t k => st9 t k) ?_
  refine own_pre (B := T9.setTop (mkF m 59 #[.val (.long q1), .second, .val (.long q2), .second, .val (.long q3), .second, .val (.int (1 : Int32)), .val (.long (own_f2 q1 q3)), .second, .val (.long (own_f3 q1 q3)), .second, .unset] [])) (fun t k => XS.lstore X9.here hx rfl (hb hby at_57) rfl (l' := #[.val (.long q1), .second, .val (.long q2), .second, .val (.long q3), .second, .val (.int (1 : Int32)), .val (.long (own_f2 q1 q3)), .second, .val (.long (own_f3 q1 q3)), .second, .unset]) rfl k) ?_
  refine own_pre (B := T9.setTop (mkF m 60 #[.val (.long q1), .second, .val (.long q2), .second, .val (.long q3), .second, .val (.int (1 : Int32)), .val (.long (own_f2 q1 q3)), .second, .val (.long (own_f3 q1 q3)), .second, .unset] [(.int (1 : Int32))])) (fun t k => XS.iconst X9.here hx rfl (hb hby at_59) k) ?_
  refine own_pre (B := T9.setTop (mkF m 62 #[.val (.long q1), .second, .val (.long q2), .second, .val (.long q3), .second, .val (.int (1 : Int32)), .val (.long (own_f2 q1 q3)), .second, .val (.long (own_f3 q1 q3)), .second, .val (.int (1 : Int32))] [])) (fun t k => XS.istore X9.here hx rfl (hb hby at_60) rfl (l' := #[.val (.long q1), .second, .val (.long q2), .second, .val (.long q3), .second, .val (.int (1 : Int32)), .val (.long (own_f2 q1 q3)), .second, .val (.long (own_f3 q1 q3)), .second, .val (.int (1 : Int32))]) rfl k) ?_
  refine own_pre (B := T9.setTop (mkF m 64 #[.val (.long q1), .second, .val (.long q2), .second, .val (.long q3), .second, .val (.int (1 : Int32)), .val (.long (own_f2 q1 q3)), .second, .val (.long (own_f3 q1 q3)), .second, .val (.int (1 : Int32))] [(.long (own_f2 q1 q3))])) (fun t k => XS.lload X9.here hx rfl (hb hby at_62) rfl k) ?_
  refine own_pre (B := T9.setTop (mkF m 65 #[.val (.long q1), .second, .val (.long q2), .second, .val (.long q3), .second, .val (.int (1 : Int32)), .val (.long (own_f2 q1 q3)), .second, .val (.long (own_f3 q1 q3)), .second, .val (.int (1 : Int32))] [(.long q2), (.long (own_f2 q1 q3))])) (fun t k => XS.lloadN X9.here hx rfl (hb hby at_64) rfl k) ?_
  refine own_pre (B := T9.setTop (mkF m 66 #[.val (.long q1), .second, .val (.long q2), .second, .val (.long q3), .second, .val (.int (1 : Int32)), .val (.long (own_f2 q1 q3)), .second, .val (.long (own_f3 q1 q3)), .second, .val (.int (1 : Int32))] [(.int (lcmpW (own_f2 q1 q3) q2))])) (fun t k => XS.lcmp X9.here hx rfl (hb hby at_65) rfl k) ?_
  by_cases hc66_10 : q2 < (own_f2 q1 q3)
  · refine own_pre (B := T9.setTop (mkF m 98 #[.val (.long q1), .second, .val (.long q2), .second, .val (.long q3), .second, .val (.int (1 : Int32)), .val (.long (own_f2 q1 q3)), .second, .val (.long (own_f3 q1 q3)), .second, .val (.int (1 : Int32))] [])) (fun t k => XS.ifYes X9.here hx rfl (pc0 := 66) (pc' := 98) rfl (hb hby at_66) rfl ((if0 _ _).trans (tlt ((lw_gt (own_f2 q1 q3) q2).mpr hc66_10)).2.2.1) (by decide) (by decide) k) ?_
    refine own_pre (B := T9.setTop (mkF m 100 #[.val (.long q1), .second, .val (.long q2), .second, .val (.long q3), .second, .val (.int (1 : Int32)), .val (.long (own_f2 q1 q3)), .second, .val (.long (own_f3 q1 q3)), .second, .val (.int (1 : Int32))] [(.int (1 : Int32))])) (fun t k => XS.iload X9.here hx rfl (hb hby at_98) rfl k) ?_
    refine own_pre (B := T9.setTop (mkF m 103 #[.val (.long q1), .second, .val (.long q2), .second, .val (.long q3), .second, .val (.int (1 : Int32)), .val (.long (own_f2 q1 q3)), .second, .val (.long (own_f3 q1 q3)), .second, .val (.int (1 : Int32))] [])) (fun t k => XS.ifNo X9.here hx rfl (hb hby at_100) rfl ((if0 _ _).trans (feq (by decide : ¬ ((1 : Int32) = (0 : Int32)))).1) k) ?_
    refine own_pre (B := T9.setTop (mkF m 105 #[.val (.long q1), .second, .val (.long q2), .second, .val (.long q3), .second, .val (.int (1 : Int32)), .val (.long (own_f2 q1 q3)), .second, .val (.long (own_f3 q1 q3)), .second, .val (.int (1 : Int32))] [(.int (1 : Int32))])) (fun t k => XS.iload X9.here hx rfl (hb hby at_103) rfl k) ?_
    refine own_pre (B := T9.setTop (mkF m 108 #[.val (.long q1), .second, .val (.long q2), .second, .val (.long q3), .second, .val (.int (1 : Int32)), .val (.long (own_f2 q1 q3)), .second, .val (.long (own_f3 q1 q3)), .second, .val (.int (1 : Int32))] [])) (fun t k => XS.ifNo X9.here hx rfl (hb hby at_105) rfl ((if0 _ _).trans (feq (by decide : ¬ ((1 : Int32) = (0 : Int32)))).1) k) ?_
    refine own_pre (B := T9.setTop (mkF m 109 #[.val (.long q1), .second, .val (.long q2), .second, .val (.long q3), .second, .val (.int (1 : Int32)), .val (.long (own_f2 q1 q3)), .second, .val (.long (own_f3 q1 q3)), .second, .val (.int (1 : Int32))] [(.int (1 : Int32))])) (fun t k => XS.iconst X9.here hx rfl (hb hby at_108) k) ?_
    refine own_pre (B := T9.setTop (mkF m 113 #[.val (.long q1), .second, .val (.long q2), .second, .val (.long q3), .second, .val (.int (1 : Int32)), .val (.long (own_f2 q1 q3)), .second, .val (.long (own_f3 q1 q3)), .second, .val (.int (1 : Int32))] [(.int (1 : Int32))])) (fun t k => XS.goto X9.here hx rfl (pc0 := 109) (pc' := 113) rfl (hb hby at_109) (by decide) (by decide) k) ?_
    obtain ⟨fsr11, hrr11, hrunr11, hendedr11, hWr11, hsamer11⟩ := X9.leave (v := some (.int (1 : Int32))) (fun h => by rw [Bd.returns] at h; cases h)
    refine ⟨_, _, (retN X9 hx (t := .boolean) Bd.returns (by simp) (hb hby at_113) hrr11), hrunr11, hendedr11, _, _, rfl, ?_, ⟨_, rfl⟩, hWr11, hsamer11.mono (by decide) (by decide)⟩
    show Q0 Z q1 q2 q3 h0 n0 _ T9.heap _
    rw [e9]
    exact ⟨rfl, N9⟩
  · refine own_pre (B := T9.setTop (mkF m 69 #[.val (.long q1), .second, .val (.long q2), .second, .val (.long q3), .second, .val (.int (1 : Int32)), .val (.long (own_f2 q1 q3)), .second, .val (.long (own_f3 q1 q3)), .second, .val (.int (1 : Int32))] [])) (fun t k => XS.ifNo X9.here hx rfl (hb hby at_66) rfl ((if0 _ _).trans (flt (mt (lw_gt (own_f2 q1 q3) q2).mp hc66_10)).2.2.1) k) ?_
    refine own_pre (B := T9.setTop (mkF m 70 #[.val (.long q1), .second, .val (.long q2), .second, .val (.long q3), .second, .val (.int (1 : Int32)), .val (.long (own_f2 q1 q3)), .second, .val (.long (own_f3 q1 q3)), .second, .val (.int (1 : Int32))] [(.long q2)])) (fun t k => XS.lloadN X9.here hx rfl (hb hby at_69) rfl k) ?_
    refine own_pre (B := T9.setTop (mkF m 72 #[.val (.long q1), .second, .val (.long q2), .second, .val (.long q3), .second, .val (.int (1 : Int32)), .val (.long (own_f2 q1 q3)), .second, .val (.long (own_f3 q1 q3)), .second, .val (.int (1 : Int32))] [(.long (own_f3 q1 q3)), (.long q2)])) (fun t k => XS.lload X9.here hx rfl (hb hby at_70) rfl k) ?_
    refine own_pre (B := T9.setTop (mkF m 73 #[.val (.long q1), .second, .val (.long q2), .second, .val (.long q3), .second, .val (.int (1 : Int32)), .val (.long (own_f2 q1 q3)), .second, .val (.long (own_f3 q1 q3)), .second, .val (.int (1 : Int32))] [(.int (lcmpW q2 (own_f3 q1 q3)))])) (fun t k => XS.lcmp X9.here hx rfl (hb hby at_72) rfl k) ?_
    by_cases hc73_12 : (own_f3 q1 q3) < q2
    · refine own_pre (B := T9.setTop (mkF m 98 #[.val (.long q1), .second, .val (.long q2), .second, .val (.long q3), .second, .val (.int (1 : Int32)), .val (.long (own_f2 q1 q3)), .second, .val (.long (own_f3 q1 q3)), .second, .val (.int (1 : Int32))] [])) (fun t k => XS.ifYes X9.here hx rfl (pc0 := 73) (pc' := 98) rfl (hb hby at_73) rfl ((if0 _ _).trans (tlt ((lw_gt q2 (own_f3 q1 q3)).mpr hc73_12)).2.2.1) (by decide) (by decide) k) ?_
      refine own_pre (B := T9.setTop (mkF m 100 #[.val (.long q1), .second, .val (.long q2), .second, .val (.long q3), .second, .val (.int (1 : Int32)), .val (.long (own_f2 q1 q3)), .second, .val (.long (own_f3 q1 q3)), .second, .val (.int (1 : Int32))] [(.int (1 : Int32))])) (fun t k => XS.iload X9.here hx rfl (hb hby at_98) rfl k) ?_
      refine own_pre (B := T9.setTop (mkF m 103 #[.val (.long q1), .second, .val (.long q2), .second, .val (.long q3), .second, .val (.int (1 : Int32)), .val (.long (own_f2 q1 q3)), .second, .val (.long (own_f3 q1 q3)), .second, .val (.int (1 : Int32))] [])) (fun t k => XS.ifNo X9.here hx rfl (hb hby at_100) rfl ((if0 _ _).trans (feq (by decide : ¬ ((1 : Int32) = (0 : Int32)))).1) k) ?_
      refine own_pre (B := T9.setTop (mkF m 105 #[.val (.long q1), .second, .val (.long q2), .second, .val (.long q3), .second, .val (.int (1 : Int32)), .val (.long (own_f2 q1 q3)), .second, .val (.long (own_f3 q1 q3)), .second, .val (.int (1 : Int32))] [(.int (1 : Int32))])) (fun t k => XS.iload X9.here hx rfl (hb hby at_103) rfl k) ?_
      refine own_pre (B := T9.setTop (mkF m 108 #[.val (.long q1), .second, .val (.long q2), .second, .val (.long q3), .second, .val (.int (1 : Int32)), .val (.long (own_f2 q1 q3)), .second, .val (.long (own_f3 q1 q3)), .second, .val (.int (1 : Int32))] [])) (fun t k => XS.ifNo X9.here hx rfl (hb hby at_105) rfl ((if0 _ _).trans (feq (by decide : ¬ ((1 : Int32) = (0 : Int32)))).1) k) ?_
      refine own_pre (B := T9.setTop (mkF m 109 #[.val (.long q1), .second, .val (.long q2), .second, .val (.long q3), .second, .val (.int (1 : Int32)), .val (.long (own_f2 q1 q3)), .second, .val (.long (own_f3 q1 q3)), .second, .val (.int (1 : Int32))] [(.int (1 : Int32))])) (fun t k => XS.iconst X9.here hx rfl (hb hby at_108) k) ?_
      refine own_pre (B := T9.setTop (mkF m 113 #[.val (.long q1), .second, .val (.long q2), .second, .val (.long q3), .second, .val (.int (1 : Int32)), .val (.long (own_f2 q1 q3)), .second, .val (.long (own_f3 q1 q3)), .second, .val (.int (1 : Int32))] [(.int (1 : Int32))])) (fun t k => XS.goto X9.here hx rfl (pc0 := 109) (pc' := 113) rfl (hb hby at_109) (by decide) (by decide) k) ?_
      obtain ⟨fsr13, hrr13, hrunr13, hendedr13, hWr13, hsamer13⟩ := X9.leave (v := some (.int (1 : Int32))) (fun h => by rw [Bd.returns] at h; cases h)
      refine ⟨_, _, (retN X9 hx (t := .boolean) Bd.returns (by simp) (hb hby at_113) hrr13), hrunr13, hendedr13, _, _, rfl, ?_, ⟨_, rfl⟩, hWr13, hsamer13.mono (by decide) (by decide)⟩
      show Q0 Z q1 q2 q3 h0 n0 _ T9.heap _
      rw [e9]
      exact ⟨rfl, N9⟩
    · refine own_pre (B := T9.setTop (mkF m 76 #[.val (.long q1), .second, .val (.long q2), .second, .val (.long q3), .second, .val (.int (1 : Int32)), .val (.long (own_f2 q1 q3)), .second, .val (.long (own_f3 q1 q3)), .second, .val (.int (1 : Int32))] [])) (fun t k => XS.ifNo X9.here hx rfl (hb hby at_73) rfl ((if0 _ _).trans (flt (mt (lw_gt q2 (own_f3 q1 q3)).mp hc73_12)).2.2.1) k) ?_
      refine own_pre (B := T9.setTop (mkF m 78 #[.val (.long q1), .second, .val (.long q2), .second, .val (.long q3), .second, .val (.int (1 : Int32)), .val (.long (own_f2 q1 q3)), .second, .val (.long (own_f3 q1 q3)), .second, .val (.int (1 : Int32))] [(.long (own_f2 q1 q3))])) (fun t k => XS.lload X9.here hx rfl (hb hby at_76) rfl k) ?_
      obtain ⟨_, _, ⟨T14, L14, k14, n14⟩, -, X14, ⟨Lc14, hQ14, l14, y14, z14⟩, st14⟩ := Jvm.LawKit.callS X9 hx (y := (⟨"com/example/internode_coordination/internodecoordination/protocol/ClientProtocol", "isSessionTimeout", "(J)Z"⟩ : MethodName)) hown (mvT hZ (hw _ (ow 1 rfl))) (mvT hZ (hw _ (ow 2 rfl))) (mvT hZ (hw _ (ow 3 rfl))) (mvT hZ (hw _ (ow 4 rfl))) (by decide) (backOf (W := 0) (rm1 l Z a0 hw [] (own_f2 q1 q3) h0 n0 Z0 ) hZ (hw _ (ow 4 rfl)) (hw _ (ow 3 rfl)) (by decide) (by decide)) (g := (mkF m 78 #[.val (.long q1), .second, .val (.long q2), .second, .val (.long q3), .second, .val (.int (1 : Int32)), .val (.long (own_f2 q1 q3)), .second, .val (.long (own_f3 q1 q3)), .second, .val (.int (1 : Int32))] [(.long (own_f2 q1 q3))])) rfl (by rw [hml]; rfl) (argsL := [(.long (own_f2 q1 q3))]) (rest := []) (lenOf pd_0 rfl) rfl (by show 2 * 0 + _ ≤ _; exact Nat.le_of_eq rfl) (hb hby at_78) (fun _ _ => ⟨rfl, e9, (by decide : 0 + 0 ≤ _), (by decide : 0 + 0 ≤ _)⟩)
      dsimp only [Pt.U, Pt.locs, Pt.cells, Pt.slots] at X14 l14 y14 z14 st14 hQ14
      subst l14 y14 z14
      obtain ⟨rfl, N14q, e14⟩ := hQ14
      have N14 := Fr.app N9 N14q
      refine own_pre (B := T14.setTop (mkF m 81 #[.val (.long q1), .second, .val (.long q2), .second, .val (.long q3), .second, .val (.int (1 : Int32)), .val (.long (own_f2 q1 q3)), .second, .val (.long (own_f3 q1 q3)), .second, .val (.int (1 : Int32))] [(.int (own_f1 (own_f2 q1 q3)))])) (fun t k => st14 t k) ?_
      by_cases hc81_15 : (own_f1 (own_f2 q1 q3)) = (0 : Int32)
      · refine own_pre (B := T14.setTop (mkF m 98 #[.val (.long q1), .second, .val (.long q2), .second, .val (.long q3), .second, .val (.int (1 : Int32)), .val (.long (own_f2 q1 q3)), .second, .val (.long (own_f3 q1 q3)), .second, .val (.int (1 : Int32))] [])) (fun t k => XS.ifYes X14.here hx rfl (pc0 := 81) (pc' := 98) rfl (hb hby at_81) rfl ((if0 _ _).trans (teq hc81_15).1) (by decide) (by decide) k) ?_
        refine own_pre (B := T14.setTop (mkF m 100 #[.val (.long q1), .second, .val (.long q2), .second, .val (.long q3), .second, .val (.int (1 : Int32)), .val (.long (own_f2 q1 q3)), .second, .val (.long (own_f3 q1 q3)), .second, .val (.int (1 : Int32))] [(.int (1 : Int32))])) (fun t k => XS.iload X14.here hx rfl (hb hby at_98) rfl k) ?_
        refine own_pre (B := T14.setTop (mkF m 103 #[.val (.long q1), .second, .val (.long q2), .second, .val (.long q3), .second, .val (.int (1 : Int32)), .val (.long (own_f2 q1 q3)), .second, .val (.long (own_f3 q1 q3)), .second, .val (.int (1 : Int32))] [])) (fun t k => XS.ifNo X14.here hx rfl (hb hby at_100) rfl ((if0 _ _).trans (feq (by decide : ¬ ((1 : Int32) = (0 : Int32)))).1) k) ?_
        refine own_pre (B := T14.setTop (mkF m 105 #[.val (.long q1), .second, .val (.long q2), .second, .val (.long q3), .second, .val (.int (1 : Int32)), .val (.long (own_f2 q1 q3)), .second, .val (.long (own_f3 q1 q3)), .second, .val (.int (1 : Int32))] [(.int (1 : Int32))])) (fun t k => XS.iload X14.here hx rfl (hb hby at_103) rfl k) ?_
        refine own_pre (B := T14.setTop (mkF m 108 #[.val (.long q1), .second, .val (.long q2), .second, .val (.long q3), .second, .val (.int (1 : Int32)), .val (.long (own_f2 q1 q3)), .second, .val (.long (own_f3 q1 q3)), .second, .val (.int (1 : Int32))] [])) (fun t k => XS.ifNo X14.here hx rfl (hb hby at_105) rfl ((if0 _ _).trans (feq (by decide : ¬ ((1 : Int32) = (0 : Int32)))).1) k) ?_
        refine own_pre (B := T14.setTop (mkF m 109 #[.val (.long q1), .second, .val (.long q2), .second, .val (.long q3), .second, .val (.int (1 : Int32)), .val (.long (own_f2 q1 q3)), .second, .val (.long (own_f3 q1 q3)), .second, .val (.int (1 : Int32))] [(.int (1 : Int32))])) (fun t k => XS.iconst X14.here hx rfl (hb hby at_108) k) ?_
        refine own_pre (B := T14.setTop (mkF m 113 #[.val (.long q1), .second, .val (.long q2), .second, .val (.long q3), .second, .val (.int (1 : Int32)), .val (.long (own_f2 q1 q3)), .second, .val (.long (own_f3 q1 q3)), .second, .val (.int (1 : Int32))] [(.int (1 : Int32))])) (fun t k => XS.goto X14.here hx rfl (pc0 := 109) (pc' := 113) rfl (hb hby at_109) (by decide) (by decide) k) ?_
        obtain ⟨fsr16, hrr16, hrunr16, hendedr16, hWr16, hsamer16⟩ := X14.leave (v := some (.int (1 : Int32))) (fun h => by rw [Bd.returns] at h; cases h)
        refine ⟨_, _, (retN X14 hx (t := .boolean) Bd.returns (by simp) (hb hby at_113) hrr16), hrunr16, hendedr16, _, _, rfl, ?_, ⟨_, rfl⟩, hWr16, hsamer16.mono (by decide) (by decide)⟩
        show Q0 Z q1 q2 q3 h0 n0 _ T14.heap _
        rw [e14]
        exact ⟨rfl, N14⟩
      · refine own_pre (B := T14.setTop (mkF m 84 #[.val (.long q1), .second, .val (.long q2), .second, .val (.long q3), .second, .val (.int (1 : Int32)), .val (.long (own_f2 q1 q3)), .second, .val (.long (own_f3 q1 q3)), .second, .val (.int (1 : Int32))] [])) (fun t k => XS.ifNo X14.here hx rfl (hb hby at_81) rfl ((if0 _ _).trans (feq hc81_15).1) k) ?_
        refine own_pre (B := T14.setTop (mkF m 86 #[.val (.long q1), .second, .val (.long q2), .second, .val (.long q3), .second, .val (.int (1 : Int32)), .val (.long (own_f2 q1 q3)), .second, .val (.long (own_f3 q1 q3)), .second, .val (.int (1 : Int32))] [(.long (own_f3 q1 q3))])) (fun t k => XS.lload X14.here hx rfl (hb hby at_84) rfl k) ?_
        obtain ⟨_, _, ⟨T17, L17, k17, n17⟩, -, X17, ⟨Lc17, hQ17, l17, y17, z17⟩, st17⟩ := Jvm.LawKit.callS X14 hx (y := (⟨"com/example/internode_coordination/internodecoordination/protocol/ClientProtocol", "isSessionTimeout", "(J)Z"⟩ : MethodName)) hown (mvT hZ (hw _ (ow 1 rfl))) (mvT hZ (hw _ (ow 2 rfl))) (mvT hZ (hw _ (ow 3 rfl))) (mvT hZ (hw _ (ow 4 rfl))) (by decide) (backOf (W := 0) (rm1 l Z a0 hw [] (own_f3 q1 q3) h0 n0 Z0 ) hZ (hw _ (ow 4 rfl)) (hw _ (ow 3 rfl)) (by decide) (by decide)) (g := (mkF m 86 #[.val (.long q1), .second, .val (.long q2), .second, .val (.long q3), .second, .val (.int (1 : Int32)), .val (.long (own_f2 q1 q3)), .second, .val (.long (own_f3 q1 q3)), .second, .val (.int (1 : Int32))] [(.long (own_f3 q1 q3))])) rfl (by rw [hml]; rfl) (argsL := [(.long (own_f3 q1 q3))]) (rest := []) (lenOf pd_0 rfl) rfl (by show 2 * 0 + _ ≤ _; exact Nat.le_of_eq rfl) (hb hby at_86) (fun _ _ => ⟨rfl, e14, (by decide : 0 + 0 ≤ _), (by decide : 0 + 0 ≤ _)⟩)
        dsimp only [Pt.U, Pt.locs, Pt.cells, Pt.slots] at X17 l17 y17 z17 st17 hQ17
        subst l17 y17 z17
        obtain ⟨rfl, N17q, e17⟩ := hQ17
        have N17 := Fr.app N14 N17q
        refine own_pre (B := T17.setTop (mkF m 89 #[.val (.long q1), .second, .val (.long q2), .second, .val (.long q3), .second, .val (.int (1 : Int32)), .val (.long (own_f2 q1 q3)), .second, .val (.long (own_f3 q1 q3)), .second, .val (.int (1 : Int32))] [(.int (own_f1 (own_f3 q1 q3)))])) (fun t k => st17 t k) ?_
        by_cases hc89_18 : (own_f1 (own_f3 q1 q3)) = (0 : Int32)
        · refine own_pre (B := T17.setTop (mkF m 98 #[.val (.long q1), .second, .val (.long q2), .second, .val (.long q3), .second, .val (.int (1 : Int32)), .val (.long (own_f2 q1 q3)), .second, .val (.long (own_f3 q1 q3)), .second, .val (.int (1 : Int32))] [])) (fun t k => XS.ifYes X17.here hx rfl (pc0 := 89) (pc' := 98) rfl (hb hby at_89) rfl ((if0 _ _).trans (teq hc89_18).1) (by decide) (by decide) k) ?_
          refine own_pre (B := T17.setTop (mkF m 100 #[.val (.long q1), .second, .val (.long q2), .second, .val (.long q3), .second, .val (.int (1 : Int32)), .val (.long (own_f2 q1 q3)), .second, .val (.long (own_f3 q1 q3)), .second, .val (.int (1 : Int32))] [(.int (1 : Int32))])) (fun t k => XS.iload X17.here hx rfl (hb hby at_98) rfl k) ?_
          refine own_pre (B := T17.setTop (mkF m 103 #[.val (.long q1), .second, .val (.long q2), .second, .val (.long q3), .second, .val (.int (1 : Int32)), .val (.long (own_f2 q1 q3)), .second, .val (.long (own_f3 q1 q3)), .second, .val (.int (1 : Int32))] [])) (fun t k => XS.ifNo X17.here hx rfl (hb hby at_100) rfl ((if0 _ _).trans (feq (by decide : ¬ ((1 : Int32) = (0 : Int32)))).1) k) ?_
          refine own_pre (B := T17.setTop (mkF m 105 #[.val (.long q1), .second, .val (.long q2), .second, .val (.long q3), .second, .val (.int (1 : Int32)), .val (.long (own_f2 q1 q3)), .second, .val (.long (own_f3 q1 q3)), .second, .val (.int (1 : Int32))] [(.int (1 : Int32))])) (fun t k => XS.iload X17.here hx rfl (hb hby at_103) rfl k) ?_
          refine own_pre (B := T17.setTop (mkF m 108 #[.val (.long q1), .second, .val (.long q2), .second, .val (.long q3), .second, .val (.int (1 : Int32)), .val (.long (own_f2 q1 q3)), .second, .val (.long (own_f3 q1 q3)), .second, .val (.int (1 : Int32))] [])) (fun t k => XS.ifNo X17.here hx rfl (hb hby at_105) rfl ((if0 _ _).trans (feq (by decide : ¬ ((1 : Int32) = (0 : Int32)))).1) k) ?_
          refine own_pre (B := T17.setTop (mkF m 109 #[.val (.long q1), .second, .val (.long q2), .second, .val (.long q3), .second, .val (.int (1 : Int32)), .val (.long (own_f2 q1 q3)), .second, .val (.long (own_f3 q1 q3)), .second, .val (.int (1 : Int32))] [(.int (1 : Int32))])) (fun t k => XS.iconst X17.here hx rfl (hb hby at_108) k) ?_
          refine own_pre (B := T17.setTop (mkF m 113 #[.val (.long q1), .second, .val (.long q2), .second, .val (.long q3), .second, .val (.int (1 : Int32)), .val (.long (own_f2 q1 q3)), .second, .val (.long (own_f3 q1 q3)), .second, .val (.int (1 : Int32))] [(.int (1 : Int32))])) (fun t k => XS.goto X17.here hx rfl (pc0 := 109) (pc' := 113) rfl (hb hby at_109) (by decide) (by decide) k) ?_
          obtain ⟨fsr19, hrr19, hrunr19, hendedr19, hWr19, hsamer19⟩ := X17.leave (v := some (.int (1 : Int32))) (fun h => by rw [Bd.returns] at h; cases h)
          refine ⟨_, _, (retN X17 hx (t := .boolean) Bd.returns (by simp) (hb hby at_113) hrr19), hrunr19, hendedr19, _, _, rfl, ?_, ⟨_, rfl⟩, hWr19, hsamer19.mono (by decide) (by decide)⟩
          show Q0 Z q1 q2 q3 h0 n0 _ T17.heap _
          rw [e17]
          exact ⟨rfl, N17⟩
        · refine own_pre (B := T17.setTop (mkF m 92 #[.val (.long q1), .second, .val (.long q2), .second, .val (.long q3), .second, .val (.int (1 : Int32)), .val (.long (own_f2 q1 q3)), .second, .val (.long (own_f3 q1 q3)), .second, .val (.int (1 : Int32))] [])) (fun t k => XS.ifNo X17.here hx rfl (hb hby at_89) rfl ((if0 _ _).trans (feq hc89_18).1) k) ?_
          refine own_pre (B := T17.setTop (mkF m 93 #[.val (.long q1), .second, .val (.long q2), .second, .val (.long q3), .second, .val (.int (1 : Int32)), .val (.long (own_f2 q1 q3)), .second, .val (.long (own_f3 q1 q3)), .second, .val (.int (1 : Int32))] [(.long q2)])) (fun t k => XS.lloadN X17.here hx rfl (hb hby at_92) rfl k) ?_
          obtain ⟨_, _, ⟨T20, L20, k20, n20⟩, -, X20, ⟨Lc20, hQ20, l20, y20, z20⟩, st20⟩ := Jvm.LawKit.callS X17 hx (y := (⟨"com/example/internode_coordination/internodecoordination/protocol/ClientProtocol", "isSessionTimeout", "(J)Z"⟩ : MethodName)) hown (mvT hZ (hw _ (ow 1 rfl))) (mvT hZ (hw _ (ow 2 rfl))) (mvT hZ (hw _ (ow 3 rfl))) (mvT hZ (hw _ (ow 4 rfl))) (by decide) (backOf (W := 0) (rm1 l Z a0 hw [] q2 h0 n0 Z0 ) hZ (hw _ (ow 4 rfl)) (hw _ (ow 3 rfl)) (by decide) (by decide)) (g := (mkF m 93 #[.val (.long q1), .second, .val (.long q2), .second, .val (.long q3), .second, .val (.int (1 : Int32)), .val (.long (own_f2 q1 q3)), .second, .val (.long (own_f3 q1 q3)), .second, .val (.int (1 : Int32))] [(.long q2)])) rfl (by rw [hml]; rfl) (argsL := [(.long q2)]) (rest := []) (lenOf pd_0 rfl) rfl (by show 2 * 0 + _ ≤ _; exact Nat.le_of_eq rfl) (hb hby at_93) (fun _ _ => ⟨rfl, e17, (by decide : 0 + 0 ≤ _), (by decide : 0 + 0 ≤ _)⟩)
          dsimp only [Pt.U, Pt.locs, Pt.cells, Pt.slots] at X20 l20 y20 z20 st20 hQ20
          subst l20 y20 z20
          obtain ⟨rfl, N20q, e20⟩ := hQ20
          have N20 := Fr.app N17 N20q
          refine own_pre (B := T20.setTop (mkF m 96 #[.val (.long q1), .second, .val (.long q2), .second, .val (.long q3), .second, .val (.int (1 : Int32)), .val (.long (own_f2 q1 q3)), .second, .val (.long (own_f3 q1 q3)), .second, .val (.int (1 : Int32))] [(.int (own_f1 q2))])) (fun t k => st20 t k) ?_
          refine own_pre (B := T20.setTop (mkF m 98 #[.val (.long q1), .second, .val (.long q2), .second, .val (.long q3), .second, .val (.int (1 : Int32)), .val (.long (own_f2 q1 q3)), .second, .val (.long (own_f3 q1 q3)), .second, .val (.int (own_f1 q2))] [])) (fun t k => XS.istore X20.here hx rfl (hb hby at_96) rfl (l' := #[.val (.long q1), .second, .val (.long q2), .second, .val (.long q3), .second, .val (.int (1 : Int32)), .val (.long (own_f2 q1 q3)), .second, .val (.long (own_f3 q1 q3)), .second, .val (.int (own_f1 q2))]) rfl k) ?_
          refine own_pre (B := T20.setTop (mkF m 100 #[.val (.long q1), .second, .val (.long q2), .second, .val (.long q3), .second, .val (.int (1 : Int32)), .val (.long (own_f2 q1 q3)), .second, .val (.long (own_f3 q1 q3)), .second, .val (.int (own_f1 q2))] [(.int (1 : Int32))])) (fun t k => XS.iload X20.here hx rfl (hb hby at_98) rfl k) ?_
          refine own_pre (B := T20.setTop (mkF m 103 #[.val (.long q1), .second, .val (.long q2), .second, .val (.long q3), .second, .val (.int (1 : Int32)), .val (.long (own_f2 q1 q3)), .second, .val (.long (own_f3 q1 q3)), .second, .val (.int (own_f1 q2))] [])) (fun t k => XS.ifNo X20.here hx rfl (hb hby at_100) rfl ((if0 _ _).trans (feq (by decide : ¬ ((1 : Int32) = (0 : Int32)))).1) k) ?_
          refine own_pre (B := T20.setTop (mkF m 105 #[.val (.long q1), .second, .val (.long q2), .second, .val (.long q3), .second, .val (.int (1 : Int32)), .val (.long (own_f2 q1 q3)), .second, .val (.long (own_f3 q1 q3)), .second, .val (.int (own_f1 q2))] [(.int (own_f1 q2))])) (fun t k => XS.iload X20.here hx rfl (hb hby at_103) rfl k) ?_
          by_cases hc105_21 : (own_f1 q2) = (0 : Int32)
          · refine own_pre (B := T20.setTop (mkF m 112 #[.val (.long q1), .second, .val (.long q2), .second, .val (.long q3), .second, .val (.int (1 : Int32)), .val (.long (own_f2 q1 q3)), .second, .val (.long (own_f3 q1 q3)), .second, .val (.int (own_f1 q2))] [])) (fun t k => XS.ifYes X20.here hx rfl (pc0 := 105) (pc' := 112) rfl (hb hby at_105) rfl ((if0 _ _).trans (teq hc105_21).1) (by decide) (by decide) k) ?_
            refine own_pre (B := T20.setTop (mkF m 113 #[.val (.long q1), .second, .val (.long q2), .second, .val (.long q3), .second, .val (.int (1 : Int32)), .val (.long (own_f2 q1 q3)), .second, .val (.long (own_f3 q1 q3)), .second, .val (.int (own_f1 q2))] [(.int (0 : Int32))])) (fun t k => XS.iconst X20.here hx rfl (hb hby at_112) k) ?_
            exact (own_convex hc66_10 hc73_12 hc81_15 hc89_18 hc105_21).elim
          · refine own_pre (B := T20.setTop (mkF m 108 #[.val (.long q1), .second, .val (.long q2), .second, .val (.long q3), .second, .val (.int (1 : Int32)), .val (.long (own_f2 q1 q3)), .second, .val (.long (own_f3 q1 q3)), .second, .val (.int (own_f1 q2))] [])) (fun t k => XS.ifNo X20.here hx rfl (hb hby at_105) rfl ((if0 _ _).trans (feq hc105_21).1) k) ?_
            refine own_pre (B := T20.setTop (mkF m 109 #[.val (.long q1), .second, .val (.long q2), .second, .val (.long q3), .second, .val (.int (1 : Int32)), .val (.long (own_f2 q1 q3)), .second, .val (.long (own_f3 q1 q3)), .second, .val (.int (own_f1 q2))] [(.int (1 : Int32))])) (fun t k => XS.iconst X20.here hx rfl (hb hby at_108) k) ?_
            refine own_pre (B := T20.setTop (mkF m 113 #[.val (.long q1), .second, .val (.long q2), .second, .val (.long q3), .second, .val (.int (1 : Int32)), .val (.long (own_f2 q1 q3)), .second, .val (.long (own_f3 q1 q3)), .second, .val (.int (own_f1 q2))] [(.int (1 : Int32))])) (fun t k => XS.goto X20.here hx rfl (pc0 := 109) (pc' := 113) rfl (hb hby at_109) (by decide) (by decide) k) ?_
            obtain ⟨fsr22, hrr22, hrunr22, hendedr22, hWr22, hsamer22⟩ := X20.leave (v := some (.int (1 : Int32))) (fun h => by rw [Bd.returns] at h; cases h)
            refine ⟨_, _, (retN X20 hx (t := .boolean) Bd.returns (by simp) (hb hby at_113) hrr22), hrunr22, hendedr22, _, _, rfl, ?_, ⟨_, rfl⟩, hWr22, hsamer22.mono (by decide) (by decide)⟩
            show Q0 Z q1 q2 q3 h0 n0 _ T20.heap _
            rw [e20]
            exact ⟨rfl, N20⟩
set_option maxRecDepth 65536 in
set_option maxHeartbeats 40000000 in
theorem comes_1 {Post : Tables → Env → Array Value → State → Outcome → State → Prop} (hpost : ∀ tb e args s v u, (limb_1_1.after args s (.returned v) u = true ∧ limb_1_2.after args s (.returned v) u = true ∧ True) → FrameEnd s (.returned v) u (Jvm.fieldLocs frame_1_writes args s ++ Jvm.arrayLocs frame_1_arrays args s ++ Jvm.staticLocs frame_1_statics s) 0 0 → Post tb e args s (.returned v) u) :
    ArmFor flags0 classFile x code maxLocals ret World_1 tables_1 room_1 Calls_1 rest_1 Pre_1 Post := by
  intro l hfl _ _ p e ha hc hk s m args below hf hA hF happ hP
  obtain ⟨hcalls, hrest, hpre⟩ := hP
  obtain ⟨-, -, -, hnamed, -, -, -, hat⟩ := (Spec.applies_iff hf).mp happ
  obtain ⟨hg, hn⟩ := and_e (Cond.before_iff.mp (show (Jvm.Cond.and given_1 narrow_1).before args s = true from hpre))
  obtain ⟨g1, g2⟩ := and_e hg
  obtain ⟨g3, g4⟩ := and_e g2
  obtain ⟨g5, g6⟩ := and_e g4
  obtain ⟨w0, w1, w2, rfl⟩ : ∃ w0 w1 w2 : Value, args = #[w0, w1, w2] := by
    have hs : args.size = 3 := by simpa [Cond.value, given_1] using g1
    obtain ⟨L⟩ := args
    match L, hs with
    | [w0, w1, w2], _ => exact ⟨w0, w1, w2, rfl⟩
  have hw := fun d (hd : d ∈ tables_1) => atoms_spec (ws := Jvm.Cond.code x code maxLocals ret :: tables_1) hat d (List.mem_cons_of_mem _ hd)
  have hfit : Fit s := fun {y c} hc i hi => by
    obtain ⟨ha, rfl⟩ := Array.getElem?_eq_some_iff.mp hc
    have q := List.all_eq_true.mp ((Array.all_eq_true_iff_forall_mem.mp hF) _ (Array.getElem_mem ha)) i (List.mem_range.mpr hi)
    simpa [Array.getElem?_eq_getElem hi] using q
  obtain ⟨i0, ei0⟩ := isL_v g3
  obtain rfl : w0 = (.long i0) := Option.some.inj ei0
  obtain ⟨i1, ei1⟩ := isL_v g5
  obtain rfl : w1 = (.long i1) := Option.some.inj ei1
  obtain ⟨i2, ei2⟩ := isL_v g6
  obtain rfl : w2 = (.long i2) := Option.some.inj ei2
  obtain ⟨n, o, h1, h2, h3, _, L, rfl, ⟨rfl, N⟩, hq⟩ := rm0 l s _ hw tables_1 i0 i1 i2  s.heap s.heap.size (Nat.le_refl _)  p e ha hc hk s m _ below hf ((Spec.applies_iff_loose hf).mp happ).1 ⟨rfl, State.Warmed39.refl s, rfl⟩ trivial
  refine ⟨n, _, h1, h2, h3, hpost _ _ _ _ _ _ ⟨Cond.after_iff.mpr rfl, Cond.after_iff.mpr (eq_i res_at (Term.int_eval (1)) rfl), trivial⟩ ⟨hq.1, hq.2.1, (hq.2.2.sift fun y hy => Or.inr (N y hy)).mono (by decide) (by decide)⟩⟩
theorem main_1_1 : Claimed_1_1 := comes_1 fun _ _ _ _ _ _ h hF => ⟨h.1, hF⟩
theorem main_1_2 : Claimed_1_2 := comes_1 fun _ _ _ _ _ _ h hF => ⟨h.2.1, hF⟩
end Jvm.Pilot.@@N@@
namespace Jvm.Pilot.@@N@@
open Jvm Jvm.ClassFile Sem Op Lib Jvm.Free Jvm.Stand Jvm.Pilot.@@N@@.Jvm.D
/-! MADE BY PROGRAM (witnessworld.py) out of the Statement's table words and the real class files: 10 classes; the members and pool entries that the words name. The judged class is class 1, her method 1. -/
namespace start1
open Jvm.ClassFile
def u (s : String) : CpInfo := .utf8 (stringToUtf16 s)
/-- a pool by its gaps: so many unusable entries, then the entry; so many at the end -/
def gap : Nat → List CpInfo → List CpInfo
  | 0, r => r
  | n + 1, r => .unusable :: gap n r
def poolList (es : List (Nat × CpInfo)) (last : Nat) : List CpInfo := es.foldr (fun e r => gap e.1 (e.2 :: r)) (gap last [])
def pool (es : List (Nat × CpInfo)) (last : Nat) : Array CpInfo := ⟨poolList es last⟩
def fileOf (pool : Array CpInfo) (this : Nat) (attrs : Array Attribute := #[]) (ms : Array MethodInfo := #[]) (fl : Nat := 33) (sup : Nat := 0) (ifs : Array Nat := #[]) (fds : Array FieldInfo := #[]) : ClassFile where
  minorVersion := 0
  majorVersion := 65
  constantPool := pool
  accessFlags := fl
  thisClass := this
  superClass := sup
  interfaces := ifs
  fields := fds
  methods := ms
  attributes := attrs
def plain (name : String) (sup : Option ClassId) : Class where
  name := name
  kind := .ordinary
  loader := none
  accessFlags := 33
  super := sup
  interfaces := #[]
  cf := none
  fields := #[]
  methods := #[]
  instanceTypes := #[]
  staticTypes := #[]
  resolved := #[]
  callSites := []
  init := .initialized
  statics := none
  mirror := none

def pool0 : Array CpInfo := pool [(5, u "<init>"), (0, u "()V"), (1, .class_ 10), (1, u "java/lang/Object")] 113

def k0m0 : Method := { name := "<init>", desc := "()V", sig := { parameters := [], returnType := none }, accessFlags := 1, code := none }
/-- java/lang/Object -/
def k0 : Class := { plain "java/lang/Object" none with
  accessFlags := 33
  interfaces := #[]
  cf := some (fileOf pool0 8 #[] #[{ accessFlags := 1, nameIndex := 5, descriptorIndex := 6, attributes := #[] }] 33 0 #[] #[])
  fields := #[]
  methods := #[k0m0]
  instanceTypes := #[]
  staticTypes := #[]
  resolved := Array.replicate 124 none
  statics := none }

def pool1 : Array CpInfo := pool [(2, .class_ 4), (1, u "java/lang/Object"), (0, u "<init>"), (0, u "()V"), (0, .long 999), (1, .methodref 10 11), (0, .class_ 12), (0, .nameAndType 13 14), (0, u "com/example/internode_coordination/internodecoordination/protocol/ClientProtocol"), (0, u "isSessionTimeout"), (0, u "(J)Z"), (0, .long 1000), (1, .long 86400000), (1, .long 86400001), (1, .methodref 22 23), (0, .class_ 24), (0, .nameAndType 25 26), (0, u "java/lang/Math"), (0, u "min"), (0, u "(JJ)J"), (0, .methodref 22 28), (0, .nameAndType 29 26), (0, u "max"), (0, .class_ 31), (0, u "com/example/internode_coordination/internodecoordination/protocol/ClientProtocolIsSessionTimeoutPinLaw"), (2, u "law"), (0, u "(JJJ)Z")] 3

def k1m0 : Method := { name := "<init>", desc := "()V", sig := { parameters := [], returnType := none }, accessFlags := 1, code := none }
def k1c1 : Code := { maxStack := 4, maxLocals := 12, code := code, exceptionTable := #[], attributes := #[] }
def k1m1 : Method := { name := "law", desc := "(JJJ)Z", sig := { parameters := [.long, .long, .long], returnType := some .boolean }, accessFlags := 9, code := some k1c1 }
/-- com/example/internode_coordination/internodecoordination/protocol/ClientProtocolIsSessionTimeoutPinLaw -/
def k1 : Class := { plain "com/example/internode_coordination/internodecoordination/protocol/ClientProtocolIsSessionTimeoutPinLaw" (some 0) with
  accessFlags := 49
  interfaces := #[]
  cf := some (fileOf pool1 30 #[] #[{ accessFlags := 1, nameIndex := 5, descriptorIndex := 6, attributes := #[] }, { accessFlags := 9, nameIndex := 34, descriptorIndex := 35, attributes := #[] }] 49 2 #[] #[])
  fields := #[]
  methods := #[k1m0, k1m1]
  instanceTypes := #[]
  staticTypes := #[]
  resolved := Array.replicate 39 none
  statics := none }

def pool2 : Array CpInfo := pool [(1, .class_ 2), (0, u "com/example/internode_coordination/internodecoordination/protocol/ClientProtocol"), (1, .class_ 6), (1, u "java/lang/Object"), (0, u "<init>"), (0, u "()V"), (0, .long 1000), (1, .long 86400000), (3, u "VERSION"), (0, u "I"), (2, u "MAX_LINE_BYTES"), (1, u "CLIENT"), (0, u "Ljava/lang/String;"), (1, u "MEMBER"), (1, u "STATUS"), (1, u "OPEN"), (1, u "OPENED"), (1, u "RESUME"), (1, u "RESUMED"), (1, u "ENDED"), (1, u "CLOSE"), (1, u "RENEW"), (1, u "RENEWED"), (1, u "DEFAULT_SESSION_TIMEOUT_MILLIS"), (0, u "J"), (2, u "MIN_SESSION_TIMEOUT_MILLIS"), (0, u "MAX_SESSION_TIMEOUT_MILLIS"), (0, u "SESSION_TIMEOUT_RULE"), (2, u "ACQUIRE"), (1, u "MOST_URGENT_PRIORITY"), (1, u "LEAST_URGENT_PRIORITY"), (1, u "DEFAULT_PRIORITY"), (0, u "PRIORITY_RULE"), (2, u "GRANTED"), (1, u "TRY"), (1, u "BUSY"), (1, u "RELEASE"), (1, u "RELEASED"), (1, u "ERROR"), (3, u "isSessionTimeout"), (0, u "(J)Z")] 4

def k2m0 : Method := { name := "<init>", desc := "()V", sig := { parameters := [], returnType := none }, accessFlags := 2, code := none }
def k2c1 : Code := { maxStack := 4, maxLocals := 2, code := prog_60_method_2_code, exceptionTable := #[], attributes := #[] }
def k2m1 : Method := { name := "isSessionTimeout", desc := "(J)Z", sig := { parameters := [.long], returnType := some .boolean }, accessFlags := 9, code := some k2c1 }
/-- com/example/internode_coordination/internodecoordination/protocol/ClientProtocol -/
def k2 : Class := { plain "com/example/internode_coordination/internodecoordination/protocol/ClientProtocol" (some 0) with
  accessFlags := 49
  interfaces := #[]
  cf := some (fileOf pool2 1 #[] #[{ accessFlags := 2, nameIndex := 7, descriptorIndex := 8, attributes := #[] }, { accessFlags := 9, nameIndex := 77, descriptorIndex := 78, attributes := #[] }] 49 4 #[] #[{ accessFlags := 25, nameIndex := 15, descriptorIndex := 16, attributes := #[] }, { accessFlags := 25, nameIndex := 19, descriptorIndex := 16, attributes := #[] }, { accessFlags := 25, nameIndex := 21, descriptorIndex := 22, attributes := #[] }, { accessFlags := 25, nameIndex := 24, descriptorIndex := 22, attributes := #[] }, { accessFlags := 25, nameIndex := 26, descriptorIndex := 22, attributes := #[] }, { accessFlags := 25, nameIndex := 28, descriptorIndex := 22, attributes := #[] }, { accessFlags := 25, nameIndex := 30, descriptorIndex := 22, attributes := #[] }, { accessFlags := 25, nameIndex := 32, descriptorIndex := 22, attributes := #[] }, { accessFlags := 25, nameIndex := 34, descriptorIndex := 22, attributes := #[] }, { accessFlags := 25, nameIndex := 36, descriptorIndex := 22, attributes := #[] }, { accessFlags := 25, nameIndex := 38, descriptorIndex := 22, attributes := #[] }, { accessFlags := 25, nameIndex := 40, descriptorIndex := 22, attributes := #[] }, { accessFlags := 25, nameIndex := 42, descriptorIndex := 22, attributes := #[] }, { accessFlags := 25, nameIndex := 44, descriptorIndex := 45, attributes := #[] }, { accessFlags := 25, nameIndex := 48, descriptorIndex := 45, attributes := #[] }, { accessFlags := 25, nameIndex := 49, descriptorIndex := 45, attributes := #[] }, { accessFlags := 25, nameIndex := 50, descriptorIndex := 22, attributes := #[] }, { accessFlags := 25, nameIndex := 53, descriptorIndex := 22, attributes := #[] }, { accessFlags := 25, nameIndex := 55, descriptorIndex := 16, attributes := #[] }, { accessFlags := 25, nameIndex := 57, descriptorIndex := 16, attributes := #[] }, { accessFlags := 25, nameIndex := 59, descriptorIndex := 16, attributes := #[] }, { accessFlags := 25, nameIndex := 60, descriptorIndex := 22, attributes := #[] }, { accessFlags := 25, nameIndex := 63, descriptorIndex := 22, attributes := #[] }, { accessFlags := 25, nameIndex := 65, descriptorIndex := 22, attributes := #[] }, { accessFlags := 25, nameIndex := 67, descriptorIndex := 22, attributes := #[] }, { accessFlags := 25, nameIndex := 69, descriptorIndex := 22, attributes := #[] }, { accessFlags := 25, nameIndex := 71, descriptorIndex := 22, attributes := #[] }, { accessFlags := 25, nameIndex := 73, descriptorIndex := 22, attributes := #[] }])
  fields := #[{ name := "VERSION", type := .int, accessFlags := 25, slot := 0, constantValue := 0 }, { name := "MAX_LINE_BYTES", type := .int, accessFlags := 25, slot := 1, constantValue := 0 }, { name := "CLIENT", type := (.object "java/lang/String"), accessFlags := 25, slot := 2, constantValue := 0 }, { name := "MEMBER", type := (.object "java/lang/String"), accessFlags := 25, slot := 3, constantValue := 0 }, { name := "STATUS", type := (.object "java/lang/String"), accessFlags := 25, slot := 4, constantValue := 0 }, { name := "OPEN", type := (.object "java/lang/String"), accessFlags := 25, slot := 5, constantValue := 0 }, { name := "OPENED", type := (.object "java/lang/String"), accessFlags := 25, slot := 6, constantValue := 0 }, { name := "RESUME", type := (.object "java/lang/String"), accessFlags := 25, slot := 7, constantValue := 0 }, { name := "RESUMED", type := (.object "java/lang/String"), accessFlags := 25, slot := 8, constantValue := 0 }, { name := "ENDED", type := (.object "java/lang/String"), accessFlags := 25, slot := 9, constantValue := 0 }, { name := "CLOSE", type := (.object "java/lang/String"), accessFlags := 25, slot := 10, constantValue := 0 }, { name := "RENEW", type := (.object "java/lang/String"), accessFlags := 25, slot := 11, constantValue := 0 }, { name := "RENEWED", type := (.object "java/lang/String"), accessFlags := 25, slot := 12, constantValue := 0 }, { name := "DEFAULT_SESSION_TIMEOUT_MILLIS", type := .long, accessFlags := 25, slot := 13, constantValue := 0 }, { name := "MIN_SESSION_TIMEOUT_MILLIS", type := .long, accessFlags := 25, slot := 14, constantValue := 0 }, { name := "MAX_SESSION_TIMEOUT_MILLIS", type := .long, accessFlags := 25, slot := 15, constantValue := 0 }, { name := "SESSION_TIMEOUT_RULE", type := (.object "java/lang/String"), accessFlags := 25, slot := 16, constantValue := 0 }, { name := "ACQUIRE", type := (.object "java/lang/String"), accessFlags := 25, slot := 17, constantValue := 0 }, { name := "MOST_URGENT_PRIORITY", type := .int, accessFlags := 25, slot := 18, constantValue := 0 }, { name := "LEAST_URGENT_PRIORITY", type := .int, accessFlags := 25, slot := 19, constantValue := 0 }, { name := "DEFAULT_PRIORITY", type := .int, accessFlags := 25, slot := 20, constantValue := 0 }, { name := "PRIORITY_RULE", type := (.object "java/lang/String"), accessFlags := 25, slot := 21, constantValue := 0 }, { name := "GRANTED", type := (.object "java/lang/String"), accessFlags := 25, slot := 22, constantValue := 0 }, { name := "TRY", type := (.object "java/lang/String"), accessFlags := 25, slot := 23, constantValue := 0 }, { name := "BUSY", type := (.object "java/lang/String"), accessFlags := 25, slot := 24, constantValue := 0 }, { name := "RELEASE", type := (.object "java/lang/String"), accessFlags := 25, slot := 25, constantValue := 0 }, { name := "RELEASED", type := (.object "java/lang/String"), accessFlags := 25, slot := 26, constantValue := 0 }, { name := "ERROR", type := (.object "java/lang/String"), accessFlags := 25, slot := 27, constantValue := 0 }]
  methods := #[k2m0, k2m1]
  instanceTypes := #[]
  staticTypes := #[.int, .int, (.object "java/lang/String"), (.object "java/lang/String"), (.object "java/lang/String"), (.object "java/lang/String"), (.object "java/lang/String"), (.object "java/lang/String"), (.object "java/lang/String"), (.object "java/lang/String"), (.object "java/lang/String"), (.object "java/lang/String"), (.object "java/lang/String"), .long, .long, .long, (.object "java/lang/String"), (.object "java/lang/String"), .int, .int, .int, (.object "java/lang/String"), (.object "java/lang/String"), (.object "java/lang/String"), (.object "java/lang/String"), (.object "java/lang/String"), (.object "java/lang/String"), (.object "java/lang/String")]
  resolved := Array.replicate 83 none
  statics := none }

def pool3 : Array CpInfo := pool [(1, .class_ 2), (0, u "java/lang/Math"), (1, .class_ 6), (1, u "java/lang/Object"), (0, u "<init>"), (0, u "()V"), (89, .class_ 100), (1, u "java/lang/Math$RandomNumberGeneratorHolder"), (20, u "(JJ)J"), (50, u "negativeZeroFloatBits"), (0, u "J"), (2, u "negativeZeroDoubleBits"), (21, u "max"), (2, u "min"), (43, u "$assertionsDisabled"), (0, u "Z"), (91, u "twoToTheDoubleScaleDown"), (0, u "D"), (4, u "twoToTheDoubleScaleUp"), (9, u "E"), (3, u "PI"), (2, u "TAU"), (2, u "DEGREES_TO_RADIANS"), (0, u "RADIANS_TO_DEGREES")] 94

def k3m0 : Method := { name := "<init>", desc := "()V", sig := { parameters := [], returnType := none }, accessFlags := 2, code := none }
def k3c1 : Code := { maxStack := 4, maxLocals := 4, code := jdk_29_method_66_code, exceptionTable := #[], attributes := #[] }
def k3m1 : Method := { name := "max", desc := "(JJ)J", sig := { parameters := [.long, .long], returnType := some .long }, accessFlags := 9, code := some k3c1 }
def k3c2 : Code := { maxStack := 4, maxLocals := 4, code := jdk_29_method_70_code, exceptionTable := #[], attributes := #[] }
def k3m2 : Method := { name := "min", desc := "(JJ)J", sig := { parameters := [.long, .long], returnType := some .long }, accessFlags := 9, code := some k3c2 }
/-- java/lang/Math -/
def k3 : Class := { plain "java/lang/Math" (some 0) with
  accessFlags := 49
  interfaces := #[]
  cf := some (fileOf pool3 1 #[.nestMembers #[98]] #[{ accessFlags := 2, nameIndex := 7, descriptorIndex := 8, attributes := #[] }, { accessFlags := 9, nameIndex := 198, descriptorIndex := 121, attributes := #[] }, { accessFlags := 9, nameIndex := 201, descriptorIndex := 121, attributes := #[] }] 49 4 #[] #[{ accessFlags := 25, nameIndex := 354, descriptorIndex := 339, attributes := #[] }, { accessFlags := 25, nameIndex := 358, descriptorIndex := 339, attributes := #[] }, { accessFlags := 25, nameIndex := 361, descriptorIndex := 339, attributes := #[] }, { accessFlags := 26, nameIndex := 364, descriptorIndex := 339, attributes := #[] }, { accessFlags := 26, nameIndex := 365, descriptorIndex := 339, attributes := #[] }, { accessFlags := 26, nameIndex := 172, descriptorIndex := 173, attributes := #[] }, { accessFlags := 26, nameIndex := 176, descriptorIndex := 173, attributes := #[] }, { accessFlags := 8, nameIndex := 344, descriptorIndex := 339, attributes := #[] }, { accessFlags := 8, nameIndex := 338, descriptorIndex := 339, attributes := #[] }, { accessFlags := 4120, nameIndex := 245, descriptorIndex := 246, attributes := #[] }])
  fields := #[{ name := "E", type := .double, accessFlags := 25, slot := 0, constantValue := 0 }, { name := "PI", type := .double, accessFlags := 25, slot := 1, constantValue := 0 }, { name := "TAU", type := .double, accessFlags := 25, slot := 2, constantValue := 0 }, { name := "DEGREES_TO_RADIANS", type := .double, accessFlags := 26, slot := 3, constantValue := 0 }, { name := "RADIANS_TO_DEGREES", type := .double, accessFlags := 26, slot := 4, constantValue := 0 }, { name := "negativeZeroFloatBits", type := .long, accessFlags := 26, slot := 5, constantValue := 0 }, { name := "negativeZeroDoubleBits", type := .long, accessFlags := 26, slot := 6, constantValue := 0 }, { name := "twoToTheDoubleScaleUp", type := .double, accessFlags := 8, slot := 7, constantValue := 0 }, { name := "twoToTheDoubleScaleDown", type := .double, accessFlags := 8, slot := 8, constantValue := 0 }, { name := "$assertionsDisabled", type := .boolean, accessFlags := 4120, slot := 9, constantValue := 0 }]
  methods := #[k3m0, k3m1, k3m2]
  instanceTypes := #[]
  staticTypes := #[.double, .double, .double, .double, .double, .long, .long, .double, .double, .boolean]
  resolved := Array.replicate 460 none
  statics := none }

def pool4 : Array CpInfo := pool [(1, u "java/lang/Cloneable"), (0, .class_ 1), (0, u "java/lang/Object"), (0, .class_ 3)] 3

/-- java/lang/Cloneable -/
def k4 : Class := { plain "java/lang/Cloneable" (some 0) with
  accessFlags := 1537
  interfaces := #[]
  cf := some (fileOf pool4 2 #[] #[] 1537 4 #[] #[])
  fields := #[]
  methods := #[]
  instanceTypes := #[]
  staticTypes := #[]
  resolved := Array.replicate 8 none
  statics := none }

def pool5 : Array CpInfo := pool [(1, u "java/io/Serializable"), (0, .class_ 1), (0, u "java/lang/Object"), (0, .class_ 3)] 3

/-- java/io/Serializable -/
def k5 : Class := { plain "java/io/Serializable" (some 0) with
  accessFlags := 1537
  interfaces := #[]
  cf := some (fileOf pool5 2 #[] #[] 1537 4 #[] #[])
  fields := #[]
  methods := #[]
  instanceTypes := #[]
  staticTypes := #[]
  resolved := Array.replicate 8 none
  statics := none }

/-- the primitive byte -/
def k6 : Class := { plain "byte" none with kind := .primitive 'B', accessFlags := 0x411 }
/-- [B -/
def k7 : Class := { plain "[B" (some 0) with kind := .array 6 .byte, interfaces := #[4, 5], accessFlags := 1041 }

/-- the primitive int -/
def k8 : Class := { plain "int" none with kind := .primitive 'I', accessFlags := 0x411 }
/-- [I -/
def k9 : Class := { plain "[I" (some 0) with kind := .array 8 .int, interfaces := #[4, 5], accessFlags := 1041 }

def heap : Heap := #[]
def classes : Array Class := #[k0, k1, k2, k3, k4, k5, k6, k7, k8, k9]
def interned : List (Array UInt16 × Addr) := []
def slotsUsed : Nat := 0
def theMethod : MethodId := ⟨1, 1⟩
def args0 : Array Value := #[.long 1500, .long 2000, .long 3000]
def aboutOver (below : List Frame) : State where
  vm := { classes := classes, interned := interned.toArray }
  heap := heap
  slotsUsed := slotsUsed
  threads := #[{ frames := .invoking theMethod args0 :: below }]
def below0 : List Frame := [.native { method := ⟨0, 0⟩, args := #[] }]
def about1 : State := aboutOver below0
def p0 : Program := .bare "" "" ""
def e0 : Env := launch0.env 0 0 0
theorem w_frames : about1.frames = Frame.invoking theMethod args0 :: below0 := rfl
set_option maxRecDepth 65536 in
theorem w_args : argsFit about1.vm theMethod args0 = true := by decide +kernel
set_option maxRecDepth 65536 in
theorem w_heap : heapFits about1 = true := by decide +kernel
set_option maxRecDepth 65536 in
theorem w_runnable : about1.curStatus? = some .runnable := by decide +kernel
set_option maxRecDepth 65536 in
theorem w_alone : about1.alone = true := by decide +kernel
set_option maxRecDepth 65536 in
theorem w_named : about1.methodNamed? x = some theMethod := by decide +kernel
set_option maxRecDepth 65536 in
theorem w_hears : about1.hears theMethod below0 = true := by decide +kernel
set_option maxRecDepth 65536 in
theorem w_ripe : about1.ripe theMethod args0 below0 = true := by decide +kernel
theorem w_running : about1.status = .running := rfl
set_option maxRecDepth 65536 in
theorem w_room : about1.hasRoom e0.platform room_1 = true :=
  launch0.hasRoom_least _ room_1 (by decide +kernel) (by decide +kernel) (by decide +kernel) (by decide +kernel) (by decide +kernel) (by decide +kernel)
theorem allAtoms_all (ts : List Jvm.Cond) (a : Array Jvm.Value) (st : Jvm.State) : (allAtoms ts).before a st = ts.all (fun c => c.before a st) := by
  induction ts with
  | nil => rfl
  | cons c t ih =>
    show (Jvm.Cond.and c (allAtoms t)).before a st = _
    rw [Jvm.Cond.before_and, ih, List.all_cons]
def words1 : List Jvm.Cond := Jvm.Cond.code x code maxLocals ret :: tables_1
/-- a 'code' word, met by the world's own term for the bytes: nothing is compared byte by byte -/
theorem code_word {y : MethodName} {bytes : ByteArray} {mx : Nat} {rt : Option FieldType} {a : Array Value} {s : State} {m : MethodId} {meth : Method} {c : Code} (h1 : s.methodNamed? y = some m) (h2 : s.vm.method? m = some meth) (h3 : meth.code = some c) (h4 : c.code = bytes)
    (h5 : (c.maxLocals == mx && c.exceptionTable.isEmpty && decide (c.maxStack ≤ mostOperands) && decide (meth.sig.returnType = rt) && !meth.locks && decide (parseMethodDescriptor y.desc = some meth.sig)) = true) : (Jvm.Cond.code y bytes mx rt).before a s = true := by
  simp only [Bool.and_eq_true, beq_iff_eq, Bool.not_eq_true', decide_eq_true_eq] at h5
  obtain ⟨⟨⟨⟨⟨g1, g2⟩, g3⟩, g4⟩, g5⟩, g6⟩ := h5
  simp [Cond.before, Cond.holds, Cond.value, h1, h2, h3, h4, g1, g2, g3, g4, g5, g6]
def isCode : Jvm.Cond → Bool
  | .code _ _ _ _ => true
  | _ => false
theorem all_split {L : List Jvm.Cond} {P : Jvm.Cond → Bool} (h1 : L.all (fun c => isCode c || P c) = true) (h2 : ∀ c ∈ L.filter isCode, P c = true) : L.all P = true := by
  refine List.all_eq_true.mpr fun c hc => ?_
  have h := List.all_eq_true.mp h1 c hc
  rcases Bool.eq_false_or_eq_true (isCode c) with hi | hi
  · exact h2 c (List.mem_filter.mpr ⟨hc, hi⟩)
  · simpa [hi] using h
set_option maxRecDepth 65536 in
theorem w_c0 : (Jvm.Cond.code x code maxLocals ret).before args0 about1 = true := code_word (m := ⟨1, 1⟩) (meth := k1m1) (c := k1c1) (by decide +kernel) rfl rfl rfl (by decide +kernel)
set_option maxRecDepth 65536 in
theorem w_c1 : (Jvm.Cond.code ({ cls := "com/example/internode_coordination/internodecoordination/protocol/ClientProtocol", name := "isSessionTimeout", desc := "(J)Z" } : Jvm.MethodName) prog_60_method_2_code (2 : Nat) (Option.some Jvm.ClassFile.FieldType.boolean)).before args0 about1 = true := code_word (m := ⟨2, 1⟩) (meth := k2m1) (c := k2c1) (by decide +kernel) rfl rfl rfl (by decide +kernel)
set_option maxRecDepth 65536 in
theorem w_c2 : (Jvm.Cond.code ({ cls := "java/lang/Math", name := "min", desc := "(JJ)J" } : Jvm.MethodName) jdk_29_method_70_code (4 : Nat) (Option.some Jvm.ClassFile.FieldType.long)).before args0 about1 = true := code_word (m := ⟨3, 2⟩) (meth := k3m2) (c := k3c2) (by decide +kernel) rfl rfl rfl (by decide +kernel)
set_option maxRecDepth 65536 in
theorem w_c3 : (Jvm.Cond.code ({ cls := "java/lang/Math", name := "max", desc := "(JJ)J" } : Jvm.MethodName) jdk_29_method_66_code (4 : Nat) (Option.some Jvm.ClassFile.FieldType.long)).before args0 about1 = true := code_word (m := ⟨3, 1⟩) (meth := k3m1) (c := k3c1) (by decide +kernel) rfl rfl rfl (by decide +kernel)
def codes1 : List Jvm.Cond := [Jvm.Cond.code x code maxLocals ret, Jvm.Cond.code ({ cls := "com/example/internode_coordination/internodecoordination/protocol/ClientProtocol", name := "isSessionTimeout", desc := "(J)Z" } : Jvm.MethodName) prog_60_method_2_code (2 : Nat) (Option.some Jvm.ClassFile.FieldType.boolean), Jvm.Cond.code ({ cls := "java/lang/Math", name := "min", desc := "(JJ)J" } : Jvm.MethodName) jdk_29_method_70_code (4 : Nat) (Option.some Jvm.ClassFile.FieldType.long), Jvm.Cond.code ({ cls := "java/lang/Math", name := "max", desc := "(JJ)J" } : Jvm.MethodName) jdk_29_method_66_code (4 : Nat) (Option.some Jvm.ClassFile.FieldType.long)]
set_option maxRecDepth 65536 in
theorem codes_eq : words1.filter isCode = codes1 := rfl
theorem w_codes : ∀ c ∈ words1.filter isCode, c.before args0 about1 = true := by
  rw [codes_eq]
  intro c hc
  simp only [codes1, List.mem_cons, List.not_mem_nil, or_false] at hc
  rcases hc with rfl | rfl | rfl | rfl
  · exact w_c0
  · exact w_c1
  · exact w_c2
  · exact w_c3
set_option maxRecDepth 65536 in
theorem w_t1 : words1.all (fun c => isCode c || c.before args0 about1) = true := by decide +kernel
theorem w_tables : (allAtoms (Jvm.Cond.code x code maxLocals ret :: tables_1)).before args0 about1 = true := by
  rw [allAtoms_all]
  show words1.all (fun c => c.before args0 about1) = true
  refine all_split ?_ w_codes
  rw [w_t1]
set_option maxRecDepth 65536 in
theorem w_case : (Jvm.Cond.and given_1 narrow_1).before args0 about1 = true := by decide +kernel
theorem w_applies : (headSpec (Jvm.Cond.code x code maxLocals ret :: tables_1) room_1).applies x e0.platform about1 = true :=
  (Spec.applies_iff w_frames).mpr ⟨w_running, w_runnable, w_alone, w_named, w_hears, w_ripe, w_room, w_tables⟩
theorem atStart : AtStart classFile x code maxLocals ret World_1 tables_1 room_1 Calls_1 rest_1 Pre_1 launch0 p0 e0 about1 theMethod args0 below0 :=
  ⟨lists_1, trivial, launch0.admits_env _ _ _, launch0.least_env, fairChoices_fair.cas, fairChoices_fair.clock, w_frames, w_args, w_heap, w_applies, trivial, trivial, w_case⟩
end start1
theorem witness_1 : WitnessClaimed_1 := ⟨start1.p0, start1.e0, start1.about1, start1.theMethod, start1.args0, start1.below0, start1.atStart⟩
end Jvm.Pilot.@@N@@
