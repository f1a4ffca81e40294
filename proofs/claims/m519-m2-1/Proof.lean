import JvmDerived
import JvmDerived.Pilot.@@N@@Statement
import JvmDerived.Pilot.@@N@@Code
set_option linter.unusedVariables false
set_option linter.unusedSimpArgs false
namespace Jvm.RoadKit
open Sem ClassFile Op Lib Jvm.Stand Jvm.Free Jvm.LawKit
section New
variable {p : Program} {l : Launch} {e : Env} {R : Room} {s : State} {m : MethodId} {args : Array Value} {below : List Frame} {meth : Method} {c : Code} {T : State} {locs : List Loc} {cells slots : Nat}
theorem retI (X : Stand p l e R s m args below meth c T locs cells slots) (hx : p.tables.exec = Jvm.exec) {pc : Nat} {Ls : Array Slot} {z : Int32} {rest : List Value} (hret : meth.sig.returnType = some .int) (hd : decode c.code pc = .ok (.ireturn, 1)) {fs : List Frame}
    (hl : ∀ (f : JFrame) (acts : List Action), f.method = m → f.locked = none → f.entered = [] → (doReturn e (T.setTop f) acts (some (.int z))).1 = T.setFrames fs) : Steps p.tables e below (T.setTop (mkF m pc Ls (.int z :: rest))) (T.setFrames fs) := by
  have hm' : T.vm.method? m = some meth := X.method'
  have hn : narrow .int (.int z) = .int z := rfl
  show Steps p.tables e below (T.setTop { method := m, pc := pc, locals := Ls, stack := _ :: rest, locked := none }) _
  jvm_step X.here [X.here.top, hx, hd, hm', hret, hn]
  first | (intro acts; rw [hl _ acts rfl rfl rfl]) | rw [hl _ _ rfl rfl rfl]
  exact Steps.refl _
end New
end Jvm.RoadKit
namespace Jvm.Pilot.@@N@@
open Jvm Jvm.ClassFile Sem Op Lib Jvm.Free Jvm.Stand Jvm.LawKit Jvm.RoadKit Bundle Jvm.Pilot.@@N@@.Jvm.D
/-! the goal of a walk, gone through forwards: from the state A the run comes to an end that answers R -/
def own_G (tb : Tables) (e : Env) (below : List Frame) (R : State → Outcome → Prop) (A : State) : Prop := ∃ t o, Steps tb e below A t ∧ t.status = .running ∧ Ended t below o ∧ R t o
theorem own_in {tb : Tables} {e : Env} {below : List Frame} {R : State → Outcome → Prop} {A : State} (h : own_G tb e below R A) : ∃ t o, Steps tb e below A t ∧ t.status = .running ∧ Ended t below o ∧ R t o := h
theorem own_pre {tb : Tables} {e : Env} {below : List Frame} {R : State → Outcome → Prop} {A B : State} (k : ∀ t, Steps tb e below B t → Steps tb e below A t) (h : own_G tb e below R B) : own_G tb e below R A := by
  obtain ⟨t, o, h1, h2⟩ := h
  exact ⟨t, o, k t h1, h2⟩
/-! a part of a walk: from A the run comes to some state that answers P -/
def own_J (tb : Tables) (e : Env) (below : List Frame) (P : State → Prop) (A : State) : Prop := ∃ B, P B ∧ ∀ t, Steps tb e below B t → Steps tb e below A t
theorem own_preJ {tb : Tables} {e : Env} {below : List Frame} {P : State → Prop} {A B : State} (k : ∀ t, Steps tb e below B t → Steps tb e below A t) (h : own_J tb e below P B) : own_J tb e below P A := by
  obtain ⟨C, h1, h2⟩ := h
  exact ⟨C, h1, fun t q => k t (h2 t q)⟩
theorem own_more {p : Program} {l : Launch} {e : Env} {R : Room} {s : State} {m : MethodId} {args : Array Value} {below : List Frame} {meth : Method} {c : Code} {T : State} {locs : List Loc} {cells slots cells' slots' : Nat} (X : Stand p l e R s m args below meth c T locs cells slots) (h : cells ≤ cells') (h' : slots ≤ slots') : Stand p l e R s m args below meth c T locs cells' slots' :=
  { X with same := X.same.mono h h' }
theorem ow {d : Jvm.Cond} (i : Nat) (h : tables_1[i]? = some d) : d ∈ tables_1 := List.mem_of_getElem? h
theorem d2_0 : decode prog_60_method_3_code 0 = .ok (.lload_n 0, 1) := by decide +kernel
theorem d2_1 : decode prog_60_method_3_code 1 = .ok (.lconst 0, 1) := by decide +kernel
theorem d2_2 : decode prog_60_method_3_code 2 = .ok (.lcmp, 1) := by decide +kernel
theorem d2_3 : decode prog_60_method_3_code 3 = .ok (.ifCond .lt 15, 3) := by decide +kernel
theorem d2_6 : decode prog_60_method_3_code 6 = .ok (.lload_n 0, 1) := by decide +kernel
theorem d2_7 : decode prog_60_method_3_code 7 = .ok (.ldc2_w 13, 3) := by decide +kernel
theorem d2_10 : decode prog_60_method_3_code 10 = .ok (.lcmp, 1) := by decide +kernel
theorem d2_11 : decode prog_60_method_3_code 11 = .ok (.ifCond .gt 7, 3) := by decide +kernel
theorem d2_14 : decode prog_60_method_3_code 14 = .ok (.iconst 1, 1) := by decide +kernel
theorem d2_15 : decode prog_60_method_3_code 15 = .ok (.goto 4, 3) := by decide +kernel
theorem d2_18 : decode prog_60_method_3_code 18 = .ok (.iconst 0, 1) := by decide +kernel
theorem d2_19 : decode prog_60_method_3_code 19 = .ok (.ireturn, 1) := by decide +kernel
theorem pn_2 : plainName "com/example/internode_coordination/internodecoordination/protocol/ClientProtocol" = true := by first | (simp [plainName, overriddenIn]; done) | decide +kernel
theorem ef_2 (m : MethodId) (x0 : Int64) : entryFrame m #[(.long x0)] 2 = mkF m 0 #[.val (.long x0), .second] [] := by first | (simp [entryFrame, mkF, argsToLocals, Value.category]; done) | rfl
def own_f2 (q1 : Int64) : Int32 := (if q1 < (0 : Int64) then (0 : Int32) else (if (2 : Int64) < q1 then (0 : Int32) else (1 : Int32)))
def Q2 (Z : State) (q1 : Int64) (h0 : Heap) (n0 : Nat) (v : Option Value) (h : Heap) (L : List Loc) : Prop := v = some (.int (own_f2 q1)) ∧ Fr n0 L ∧ h = h0
set_option maxRecDepth 65536 in
set_option maxHeartbeats 40000000 in
theorem rm2 (l : Launch) (Z : State) (a0 : Array Value) (hw : ∀ d ∈ tables_1, d.before a0 Z = true) (ws : List Jvm.Cond) (q1 : Int64) (h0 : Heap) (n0 : Nat) (Z0 : n0 ≤ h0.size) :
    MetFree l (⟨"com/example/internode_coordination/internodecoordination/protocol/ClientProtocol", "isPriority", "(J)Z"⟩ : MethodName) (head1 (Jvm.Cond.code (⟨"com/example/internode_coordination/internodecoordination/protocol/ClientProtocol", "isPriority", "(J)Z"⟩ : MethodName) prog_60_method_3_code 2 (some .boolean) :: ws) ({ frames := 0, cells := 0, slots := 0, locals := 0 } : Room)) (fun a U => a = #[(.long q1)] ∧ Z.Warmed39 U.vm ∧ U.heap = h0) (fun _ _ _ _ _ => True) (fun _ U o U' => ∃ v L, o = .returned v ∧ Q2 Z q1 h0 n0 v U'.heap L ∧ FrameEnd U o U' L ({ frames := 0, cells := 0, slots := 0, locals := 0 } : Room).cells ({ frames := 0, cells := 0, slots := 0, locals := 0 } : Room).slots) := by
  refine MetFree.of_bodySF (plainFor_of_name pn_2) hisR ?_
  intro p e s m args below meth c s₁ Bd hml0 hP hK
  obtain ⟨rfl, hZ, hh⟩ := hP
  have hx := Bd.exec
  have hby := Bd.bytes
  have hml : c.maxLocals = 2 := hml0
  have hown : s.vm.findClass "com/example/internode_coordination/internodecoordination/protocol/ClientProtocol" = some m.cls := findClass_of_methodNamed Bd.named
  have hnm := (name_of_methodNamed Bd.named Bd.method).1
  have X0 : Stand p l e ({ frames := 0, cells := 0, slots := 0, locals := 0 } : Room) s m #[(.long q1)] below meth c s₁ [] 0 0 := Stand.of_body Bd
  have e0 : s₁.heap = h0 := by rw [← hh, Bd.state]; rfl
  have N0 := Fr.nil n0
  apply own_in
  refine own_pre (B := s₁.setTop (mkF m 0 #[.val (.long q1), .second] [])) (fun t k => castTop (ef_2 m q1) k) ?_
  refine own_pre (B := s₁.setTop (mkF m 1 #[.val (.long q1), .second] [(.long q1)])) (fun t k => XS.lloadN X0.here hx rfl (hb hby d2_0) rfl k) ?_
  refine own_pre (B := s₁.setTop (mkF m 2 #[.val (.long q1), .second] [(.long (0 : Int64)), (.long q1)])) (fun t k => XS.lconst X0.here hx rfl (hb hby d2_1) k) ?_
  refine own_pre (B := s₁.setTop (mkF m 3 #[.val (.long q1), .second] [(.int (lcmpW q1 (0 : Int64)))])) (fun t k => XS.lcmp X0.here hx rfl (hb hby d2_2) rfl k) ?_
  by_cases hc3_2 : q1 < (0 : Int64)
  · refine own_pre (B := s₁.setTop (mkF m 18 #[.val (.long q1), .second] [])) (fun t k => XS.ifYes X0.here hx rfl (pc0 := 3) (pc' := 18) rfl (hb hby d2_3) rfl ((if0 _ _).trans (tlt ((lw_lt q1 (0 : Int64)).mpr hc3_2)).1) (by decide) (by decide) k) ?_
    refine own_pre (B := s₁.setTop (mkF m 19 #[.val (.long q1), .second] [(.int (0 : Int32))])) (fun t k => XS.iconst X0.here hx rfl (hb hby d2_18) k) ?_
    obtain ⟨fsr3, hrr3, hrunr3, hendedr3, hWr3, hsamer3⟩ := X0.leave (v := some (.int (0 : Int32))) (fun h => by rw [Bd.returns] at h; cases h)
    refine ⟨_, _, (retN X0 hx (t := .boolean) Bd.returns (by simp) (hb hby d2_19) hrr3), hrunr3, hendedr3, _, _, rfl, ?_, ⟨_, rfl⟩, hWr3, hsamer3.mono (by decide) (by decide)⟩
    show Q2 Z q1 h0 n0 _ s₁.heap _
    rw [e0]
    exact ⟨(by unfold own_f2; rw [if_pos hc3_2]), N0, rfl⟩
  · refine own_pre (B := s₁.setTop (mkF m 6 #[.val (.long q1), .second] [])) (fun t k => XS.ifNo X0.here hx rfl (hb hby d2_3) rfl ((if0 _ _).trans (flt (mt (lw_lt q1 (0 : Int64)).mp hc3_2)).1) k) ?_
    refine own_pre (B := s₁.setTop (mkF m 7 #[.val (.long q1), .second] [(.long q1)])) (fun t k => XS.lloadN X0.here hx rfl (hb hby d2_6) rfl k) ?_
    refine own_pre (B := s₁.setTop (mkF m 10 #[.val (.long q1), .second] [(.long (2 : Int64)), (.long q1)])) (fun t k => X0.ldc2Long hx hown (mvT hZ (hw _ (ow 9 rfl))) (g := (mkF m 7 #[.val (.long q1), .second] [(.long q1)])) rfl (hb hby d2_7) _ k) ?_
    refine own_pre (B := s₁.setTop (mkF m 11 #[.val (.long q1), .second] [(.int (lcmpW q1 (2 : Int64)))])) (fun t k => XS.lcmp X0.here hx rfl (hb hby d2_10) rfl k) ?_
    by_cases hc11_4 : (2 : Int64) < q1
    · refine own_pre (B := s₁.setTop (mkF m 18 #[.val (.long q1), .second] [])) (fun t k => XS.ifYes X0.here hx rfl (pc0 := 11) (pc' := 18) rfl (hb hby d2_11) rfl ((if0 _ _).trans (tlt ((lw_gt q1 (2 : Int64)).mpr hc11_4)).2.2.1) (by decide) (by decide) k) ?_
      refine own_pre (B := s₁.setTop (mkF m 19 #[.val (.long q1), .second] [(.int (0 : Int32))])) (fun t k => XS.iconst X0.here hx rfl (hb hby d2_18) k) ?_
      obtain ⟨fsr5, hrr5, hrunr5, hendedr5, hWr5, hsamer5⟩ := X0.leave (v := some (.int (0 : Int32))) (fun h => by rw [Bd.returns] at h; cases h)
      refine ⟨_, _, (retN X0 hx (t := .boolean) Bd.returns (by simp) (hb hby d2_19) hrr5), hrunr5, hendedr5, _, _, rfl, ?_, ⟨_, rfl⟩, hWr5, hsamer5.mono (by decide) (by decide)⟩
      show Q2 Z q1 h0 n0 _ s₁.heap _
      rw [e0]
      exact ⟨(by unfold own_f2; rw [if_neg hc3_2, if_pos hc11_4]), N0, rfl⟩
    · refine own_pre (B := s₁.setTop (mkF m 14 #[.val (.long q1), .second] [])) (fun t k => XS.ifNo X0.here hx rfl (hb hby d2_11) rfl ((if0 _ _).trans (flt (mt (lw_gt q1 (2 : Int64)).mp hc11_4)).2.2.1) k) ?_
      refine own_pre (B := s₁.setTop (mkF m 15 #[.val (.long q1), .second] [(.int (1 : Int32))])) (fun t k => XS.iconst X0.here hx rfl (hb hby d2_14) k) ?_
      refine own_pre (B := s₁.setTop (mkF m 19 #[.val (.long q1), .second] [(.int (1 : Int32))])) (fun t k => XS.goto X0.here hx rfl (pc0 := 15) (pc' := 19) rfl (hb hby d2_15) (by decide) (by decide) k) ?_
      obtain ⟨fsr6, hrr6, hrunr6, hendedr6, hWr6, hsamer6⟩ := X0.leave (v := some (.int (1 : Int32))) (fun h => by rw [Bd.returns] at h; cases h)
      refine ⟨_, _, (retN X0 hx (t := .boolean) Bd.returns (by simp) (hb hby d2_19) hrr6), hrunr6, hendedr6, _, _, rfl, ?_, ⟨_, rfl⟩, hWr6, hsamer6.mono (by decide) (by decide)⟩
      show Q2 Z q1 h0 n0 _ s₁.heap _
      rw [e0]
      exact ⟨(by unfold own_f2; rw [if_neg hc3_2, if_neg hc11_4]), N0, rfl⟩
theorem pd_0 : parseMethodDescriptor "(J)Z" = some ⟨[.long], some .boolean⟩ := by decide +kernel
theorem d1_0 : decode method_2_code 0 = .ok (.lload_n 0, 1) := by decide +kernel
theorem d1_1 : decode method_2_code 1 = .ok (.lconst 0, 1) := by decide +kernel
theorem d1_2 : decode method_2_code 2 = .ok (.lcmp, 1) := by decide +kernel
theorem d1_3 : decode method_2_code 3 = .ok (.ifCond .eq 17, 3) := by decide +kernel
theorem d1_6 : decode method_2_code 6 = .ok (.lload_n 0, 1) := by decide +kernel
theorem d1_7 : decode method_2_code 7 = .ok (.lconst 1, 1) := by decide +kernel
theorem d1_8 : decode method_2_code 8 = .ok (.lcmp, 1) := by decide +kernel
theorem d1_9 : decode method_2_code 9 = .ok (.ifCond .eq 11, 3) := by decide +kernel
theorem d1_12 : decode method_2_code 12 = .ok (.lload_n 0, 1) := by decide +kernel
theorem d1_13 : decode method_2_code 13 = .ok (.ldc2_w 7, 3) := by decide +kernel
theorem d1_16 : decode method_2_code 16 = .ok (.lcmp, 1) := by decide +kernel
theorem d1_17 : decode method_2_code 17 = .ok (.ifCond .ne 7, 3) := by decide +kernel
theorem d1_20 : decode method_2_code 20 = .ok (.iconst 1, 1) := by decide +kernel
theorem d1_21 : decode method_2_code 21 = .ok (.goto 4, 3) := by decide +kernel
theorem d1_24 : decode method_2_code 24 = .ok (.iconst 0, 1) := by decide +kernel
theorem d1_25 : decode method_2_code 25 = .ok (.istore_n 2, 1) := by decide +kernel
theorem d1_26 : decode method_2_code 26 = .ok (.lload_n 0, 1) := by decide +kernel
theorem d1_27 : decode method_2_code 27 = .ok (.invokestatic 9, 3) := by decide +kernel
theorem d1_30 : decode method_2_code 30 = .ok (.iload_n 2, 1) := by decide +kernel
theorem d1_31 : decode method_2_code 31 = .ok (.if_icmp .ne 7, 3) := by decide +kernel
theorem d1_34 : decode method_2_code 34 = .ok (.iconst 1, 1) := by decide +kernel
theorem d1_35 : decode method_2_code 35 = .ok (.goto 4, 3) := by decide +kernel
theorem d1_38 : decode method_2_code 38 = .ok (.iconst 0, 1) := by decide +kernel
theorem d1_39 : decode method_2_code 39 = .ok (.ireturn, 1) := by decide +kernel
theorem pn_1 : plainName "com/example/internode_coordination/internodecoordination/protocol/ClientProtocolIsPriorityPinLaw" = true := by first | (simp [plainName, overriddenIn]; done) | decide +kernel
theorem ef_1 (m : MethodId) (x0 : Int64) : entryFrame m #[(.long x0)] 3 = mkF m 0 #[.val (.long x0), .second, .unset] [] := by first | (simp [entryFrame, mkF, argsToLocals, Value.category]; done) | rfl
def own_f1 (q1 : Int64) : Int32 := (if q1 = (0 : Int64) then (if (own_f2 q1) = (1 : Int32) then (1 : Int32) else (0 : Int32)) else (if q1 = (1 : Int64) then (if (own_f2 q1) = (1 : Int32) then (1 : Int32) else (0 : Int32)) else (if q1 = (2 : Int64) then (if (own_f2 q1) = (1 : Int32) then (1 : Int32) else (0 : Int32)) else (if (own_f2 q1) = (0 : Int32) then (1 : Int32) else (0 : Int32)))))
def Q1 (Z : State) (q1 : Int64) (h0 : Heap) (n0 : Nat) (v : Option Value) (h : Heap) (L : List Loc) : Prop := v = some (.int (own_f1 q1)) ∧ Fr n0 L ∧ h = h0
set_option maxRecDepth 65536 in
set_option maxHeartbeats 40000000 in
theorem rm1 (l : Launch) (Z : State) (a0 : Array Value) (hw : ∀ d ∈ tables_1, d.before a0 Z = true) (ws : List Jvm.Cond) (q1 : Int64) (h0 : Heap) (n0 : Nat) (Z0 : n0 ≤ h0.size) :
    MetFree l (⟨"com/example/internode_coordination/internodecoordination/protocol/ClientProtocolIsPriorityPinLaw", "agrees", "(J)Z"⟩ : MethodName) (head1 (Jvm.Cond.code (⟨"com/example/internode_coordination/internodecoordination/protocol/ClientProtocolIsPriorityPinLaw", "agrees", "(J)Z"⟩ : MethodName) method_2_code 3 (some .boolean) :: ws) ({ frames := 1, cells := 0, slots := 0, locals := 13 } : Room)) (fun a U => a = #[(.long q1)] ∧ Z.Warmed39 U.vm ∧ U.heap = h0) (fun _ _ _ _ _ => True) (fun _ U o U' => ∃ v L, o = .returned v ∧ Q1 Z q1 h0 n0 v U'.heap L ∧ FrameEnd U o U' L ({ frames := 1, cells := 0, slots := 0, locals := 13 } : Room).cells ({ frames := 1, cells := 0, slots := 0, locals := 13 } : Room).slots) := by
  refine MetFree.of_bodySF (plainFor_of_name pn_1) hisR ?_
  intro p e s m args below meth c s₁ Bd hml0 hP hK
  obtain ⟨rfl, hZ, hh⟩ := hP
  have hx := Bd.exec
  have hby := Bd.bytes
  have hml : c.maxLocals = 3 := hml0
  have hown : s.vm.findClass "com/example/internode_coordination/internodecoordination/protocol/ClientProtocolIsPriorityPinLaw" = some m.cls := findClass_of_methodNamed Bd.named
  have hnm := (name_of_methodNamed Bd.named Bd.method).1
  have X0 : Stand p l e ({ frames := 1, cells := 0, slots := 0, locals := 13 } : Room) s m #[(.long q1)] below meth c s₁ [] 0 0 := Stand.of_body Bd
  have e0 : s₁.heap = h0 := by rw [← hh, Bd.state]; rfl
  have N0 := Fr.nil n0
  apply own_in
  refine own_pre (B := s₁.setTop (mkF m 0 #[.val (.long q1), .second, .unset] [])) (fun t k => castTop (ef_1 m q1) k) ?_
  refine own_pre (B := s₁.setTop (mkF m 1 #[.val (.long q1), .second, .unset] [(.long q1)])) (fun t k => XS.lloadN X0.here hx rfl (hb hby d1_0) rfl k) ?_
  refine own_pre (B := s₁.setTop (mkF m 2 #[.val (.long q1), .second, .unset] [(.long (0 : Int64)), (.long q1)])) (fun t k => XS.lconst X0.here hx rfl (hb hby d1_1) k) ?_
  refine own_pre (B := s₁.setTop (mkF m 3 #[.val (.long q1), .second, .unset] [(.int (lcmpW q1 (0 : Int64)))])) (fun t k => XS.lcmp X0.here hx rfl (hb hby d1_2) rfl k) ?_
  by_cases hc3_2 : q1 = (0 : Int64)
  · refine own_pre (B := s₁.setTop (mkF m 20 #[.val (.long q1), .second, .unset] [])) (fun t k => XS.ifYes X0.here hx rfl (pc0 := 3) (pc' := 20) rfl (hb hby d1_3) rfl ((if0 _ _).trans (teq ((lw_eq q1 (0 : Int64)).mpr hc3_2)).1) (by decide) (by decide) k) ?_
    refine own_pre (B := s₁.setTop (mkF m 21 #[.val (.long q1), .second, .unset] [(.int (1 : Int32))])) (fun t k => XS.iconst X0.here hx rfl (hb hby d1_20) k) ?_
    refine own_pre (B := s₁.setTop (mkF m 25 #[.val (.long q1), .second, .unset] [(.int (1 : Int32))])) (fun t k => XS.goto X0.here hx rfl (pc0 := 21) (pc' := 25) rfl (hb hby d1_21) (by decide) (by decide) k) ?_
    refine own_pre (B := s₁.setTop (mkF m 26 #[.val (.long q1), .second, .val (.int (1 : Int32))] [])) (fun t k => XS.istoreN X0.here hx rfl (hb hby d1_25) rfl (l' := #[.val (.long q1), .second, .val (.int (1 : Int32))]) rfl k) ?_
    refine own_pre (B := s₁.setTop (mkF m 27 #[.val (.long q1), .second, .val (.int (1 : Int32))] [(.long q1)])) (fun t k => XS.lloadN X0.here hx rfl (hb hby d1_26) rfl k) ?_
    obtain ⟨_, _, ⟨T3, L3, k3, n3⟩, -, X3, ⟨Lc3, hQ3, l3, y3, z3⟩, st3⟩ := Jvm.LawKit.callS X0 hx (y := (⟨"com/example/internode_coordination/internodecoordination/protocol/ClientProtocol", "isPriority", "(J)Z"⟩ : MethodName)) hown (mvT hZ (hw _ (ow 5 rfl))) (mvT hZ (hw _ (ow 6 rfl))) (mvT hZ (hw _ (ow 7 rfl))) (mvT hZ (hw _ (ow 8 rfl))) (by decide) (backOf (W := 0) (rm2 l Z a0 hw [] q1 h0 n0 Z0 ) hZ (hw _ (ow 8 rfl)) (hw _ (ow 7 rfl)) (by decide) (by decide)) (g := (mkF m 27 #[.val (.long q1), .second, .val (.int (1 : Int32))] [(.long q1)])) rfl (by rw [hml]; rfl) (argsL := [(.long q1)]) (rest := []) (lenOf pd_0 rfl) rfl (by show 2 * 0 + _ ≤ _; exact Nat.le_of_eq rfl) (hb hby d1_27) (fun _ _ => ⟨rfl, e0, (by decide : 0 + 0 ≤ _), (by decide : 0 + 0 ≤ _)⟩)
    dsimp only [Pt.U, Pt.locs, Pt.cells, Pt.slots] at X3 l3 y3 z3 st3 hQ3
    subst l3 y3 z3
    obtain ⟨rfl, N3q, e3⟩ := hQ3
    have N3 := Fr.app N0 N3q
    refine own_pre (B := T3.setTop (mkF m 30 #[.val (.long q1), .second, .val (.int (1 : Int32))] [(.int (own_f2 q1))])) (fun t k => st3 t k) ?_
    refine own_pre (B := T3.setTop (mkF m 31 #[.val (.long q1), .second, .val (.int (1 : Int32))] [(.int (1 : Int32)), (.int (own_f2 q1))])) (fun t k => XS.iloadN X3.here hx rfl (hb hby d1_30) rfl k) ?_
    by_cases hc31_4 : (own_f2 q1) = (1 : Int32)
    · refine own_pre (B := T3.setTop (mkF m 34 #[.val (.long q1), .second, .val (.int (1 : Int32))] [])) (fun t k => XS.icmpNo X3.here hx rfl (hb hby d1_31) rfl (teq hc31_4).2 k) ?_
      refine own_pre (B := T3.setTop (mkF m 35 #[.val (.long q1), .second, .val (.int (1 : Int32))] [(.int (1 : Int32))])) (fun t k => XS.iconst X3.here hx rfl (hb hby d1_34) k) ?_
      refine own_pre (B := T3.setTop (mkF m 39 #[.val (.long q1), .second, .val (.int (1 : Int32))] [(.int (1 : Int32))])) (fun t k => XS.goto X3.here hx rfl (pc0 := 35) (pc' := 39) rfl (hb hby d1_35) (by decide) (by decide) k) ?_
      obtain ⟨fsr5, hrr5, hrunr5, hendedr5, hWr5, hsamer5⟩ := X3.leave (v := some (.int (1 : Int32))) (fun h => by rw [Bd.returns] at h; cases h)
      refine ⟨_, _, (retN X3 hx (t := .boolean) Bd.returns (by simp) (hb hby d1_39) hrr5), hrunr5, hendedr5, _, _, rfl, ?_, ⟨_, rfl⟩, hWr5, hsamer5.mono (by decide) (by decide)⟩
      show Q1 Z q1 h0 n0 _ T3.heap _
      rw [e3]
      exact ⟨(by unfold own_f1; rw [if_pos hc3_2, if_pos hc31_4]), N3, rfl⟩
    · refine own_pre (B := T3.setTop (mkF m 38 #[.val (.long q1), .second, .val (.int (1 : Int32))] [])) (fun t k => XS.icmpYes X3.here hx rfl (pc0 := 31) (pc' := 38) rfl (hb hby d1_31) rfl (feq hc31_4).2 (by decide) (by decide) k) ?_
      refine own_pre (B := T3.setTop (mkF m 39 #[.val (.long q1), .second, .val (.int (1 : Int32))] [(.int (0 : Int32))])) (fun t k => XS.iconst X3.here hx rfl (hb hby d1_38) k) ?_
      obtain ⟨fsr6, hrr6, hrunr6, hendedr6, hWr6, hsamer6⟩ := X3.leave (v := some (.int (0 : Int32))) (fun h => by rw [Bd.returns] at h; cases h)
      refine ⟨_, _, (retN X3 hx (t := .boolean) Bd.returns (by simp) (hb hby d1_39) hrr6), hrunr6, hendedr6, _, _, rfl, ?_, ⟨_, rfl⟩, hWr6, hsamer6.mono (by decide) (by decide)⟩
      show Q1 Z q1 h0 n0 _ T3.heap _
      rw [e3]
      exact ⟨(by unfold own_f1; rw [if_pos hc3_2, if_neg hc31_4]), N3, rfl⟩
  · refine own_pre (B := s₁.setTop (mkF m 6 #[.val (.long q1), .second, .unset] [])) (fun t k => XS.ifNo X0.here hx rfl (hb hby d1_3) rfl ((if0 _ _).trans (feq (mt (lw_eq q1 (0 : Int64)).mp hc3_2)).1) k) ?_
    refine own_pre (B := s₁.setTop (mkF m 7 #[.val (.long q1), .second, .unset] [(.long q1)])) (fun t k => XS.lloadN X0.here hx rfl (hb hby d1_6) rfl k) ?_
    refine own_pre (B := s₁.setTop (mkF m 8 #[.val (.long q1), .second, .unset] [(.long (1 : Int64)), (.long q1)])) (fun t k => XS.lconst X0.here hx rfl (hb hby d1_7) k) ?_
    refine own_pre (B := s₁.setTop (mkF m 9 #[.val (.long q1), .second, .unset] [(.int (lcmpW q1 (1 : Int64)))])) (fun t k => XS.lcmp X0.here hx rfl (hb hby d1_8) rfl k) ?_
    by_cases hc9_7 : q1 = (1 : Int64)
    · refine own_pre (B := s₁.setTop (mkF m 20 #[.val (.long q1), .second, .unset] [])) (fun t k => XS.ifYes X0.here hx rfl (pc0 := 9) (pc' := 20) rfl (hb hby d1_9) rfl ((if0 _ _).trans (teq ((lw_eq q1 (1 : Int64)).mpr hc9_7)).1) (by decide) (by decide) k) ?_
      refine own_pre (B := s₁.setTop (mkF m 21 #[.val (.long q1), .second, .unset] [(.int (1 : Int32))])) (fun t k => XS.iconst X0.here hx rfl (hb hby d1_20) k) ?_
      refine own_pre (B := s₁.setTop (mkF m 25 #[.val (.long q1), .second, .unset] [(.int (1 : Int32))])) (fun t k => XS.goto X0.here hx rfl (pc0 := 21) (pc' := 25) rfl (hb hby d1_21) (by decide) (by decide) k) ?_
      refine own_pre (B := s₁.setTop (mkF m 26 #[.val (.long q1), .second, .val (.int (1 : Int32))] [])) (fun t k => XS.istoreN X0.here hx rfl (hb hby d1_25) rfl (l' := #[.val (.long q1), .second, .val (.int (1 : Int32))]) rfl k) ?_
      refine own_pre (B := s₁.setTop (mkF m 27 #[.val (.long q1), .second, .val (.int (1 : Int32))] [(.long q1)])) (fun t k => XS.lloadN X0.here hx rfl (hb hby d1_26) rfl k) ?_
      obtain ⟨_, _, ⟨T8, L8, k8, n8⟩, -, X8, ⟨Lc8, hQ8, l8, y8, z8⟩, st8⟩ := Jvm.LawKit.callS X0 hx (y := (⟨"com/example/internode_coordination/internodecoordination/protocol/ClientProtocol", "isPriority", "(J)Z"⟩ : MethodName)) hown (mvT hZ (hw _ (ow 5 rfl))) (mvT hZ (hw _ (ow 6 rfl))) (mvT hZ (hw _ (ow 7 rfl))) (mvT hZ (hw _ (ow 8 rfl))) (by decide) (backOf (W := 0) (rm2 l Z a0 hw [] q1 h0 n0 Z0 ) hZ (hw _ (ow 8 rfl)) (hw _ (ow 7 rfl)) (by decide) (by decide)) (g := (mkF m 27 #[.val (.long q1), .second, .val (.int (1 : Int32))] [(.long q1)])) rfl (by rw [hml]; rfl) (argsL := [(.long q1)]) (rest := []) (lenOf pd_0 rfl) rfl (by show 2 * 0 + _ ≤ _; exact Nat.le_of_eq rfl) (hb hby d1_27) (fun _ _ => ⟨rfl, e0, (by decide : 0 + 0 ≤ _), (by decide : 0 + 0 ≤ _)⟩)
      dsimp only [Pt.U, Pt.locs, Pt.cells, Pt.slots] at X8 l8 y8 z8 st8 hQ8
      subst l8 y8 z8
      obtain ⟨rfl, N8q, e8⟩ := hQ8
      have N8 := Fr.app N0 N8q
      refine own_pre (B := T8.setTop (mkF m 30 #[.val (.long q1), .second, .val (.int (1 : Int32))] [(.int (own_f2 q1))])) (fun t k => st8 t k) ?_
      refine own_pre (B := T8.setTop (mkF m 31 #[.val (.long q1), .second, .val (.int (1 : Int32))] [(.int (1 : Int32)), (.int (own_f2 q1))])) (fun t k => XS.iloadN X8.here hx rfl (hb hby d1_30) rfl k) ?_
      by_cases hc31_9 : (own_f2 q1) = (1 : Int32)
      · refine own_pre (B := T8.setTop (mkF m 34 #[.val (.long q1), .second, .val (.int (1 : Int32))] [])) (fun t k => XS.icmpNo X8.here hx rfl (hb hby d1_31) rfl (teq hc31_9).2 k) ?_
        refine own_pre (B := T8.setTop (mkF m 35 #[.val (.long q1), .second, .val (.int (1 : Int32))] [(.int (1 : Int32))])) (fun t k => XS.iconst X8.here hx rfl (hb hby d1_34) k) ?_
        refine own_pre (B := T8.setTop (mkF m 39 #[.val (.long q1), .second, .val (.int (1 : Int32))] [(.int (1 : Int32))])) (fun t k => XS.goto X8.here hx rfl (pc0 := 35) (pc' := 39) rfl (hb hby d1_35) (by decide) (by decide) k) ?_
        obtain ⟨fsr10, hrr10, hrunr10, hendedr10, hWr10, hsamer10⟩ := X8.leave (v := some (.int (1 : Int32))) (fun h => by rw [Bd.returns] at h; cases h)
        refine ⟨_, _, (retN X8 hx (t := .boolean) Bd.returns (by simp) (hb hby d1_39) hrr10), hrunr10, hendedr10, _, _, rfl, ?_, ⟨_, rfl⟩, hWr10, hsamer10.mono (by decide) (by decide)⟩
        show Q1 Z q1 h0 n0 _ T8.heap _
        rw [e8]
        exact ⟨(by unfold own_f1; rw [if_neg hc3_2, if_pos hc9_7, if_pos hc31_9]), N8, rfl⟩
      · refine own_pre (B := T8.setTop (mkF m 38 #[.val (.long q1), .second, .val (.int (1 : Int32))] [])) (fun t k => XS.icmpYes X8.here hx rfl (pc0 := 31) (pc' := 38) rfl (hb hby d1_31) rfl (feq hc31_9).2 (by decide) (by decide) k) ?_
        refine own_pre (B := T8.setTop (mkF m 39 #[.val (.long q1), .second, .val (.int (1 : Int32))] [(.int (0 : Int32))])) (fun t k => XS.iconst X8.here hx rfl (hb hby d1_38) k) ?_
        obtain ⟨fsr11, hrr11, hrunr11, hendedr11, hWr11, hsamer11⟩ := X8.leave (v := some (.int (0 : Int32))) (fun h => by rw [Bd.returns] at h; cases h)
        refine ⟨_, _, (retN X8 hx (t := .boolean) Bd.returns (by simp) (hb hby d1_39) hrr11), hrunr11, hendedr11, _, _, rfl, ?_, ⟨_, rfl⟩, hWr11, hsamer11.mono (by decide) (by decide)⟩
        show Q1 Z q1 h0 n0 _ T8.heap _
        rw [e8]
        exact ⟨(by unfold own_f1; rw [if_neg hc3_2, if_pos hc9_7, if_neg hc31_9]), N8, rfl⟩
    · refine own_pre (B := s₁.setTop (mkF m 12 #[.val (.long q1), .second, .unset] [])) (fun t k => XS.ifNo X0.here hx rfl (hb hby d1_9) rfl ((if0 _ _).trans (feq (mt (lw_eq q1 (1 : Int64)).mp hc9_7)).1) k) ?_
      refine own_pre (B := s₁.setTop (mkF m 13 #[.val (.long q1), .second, .unset] [(.long q1)])) (fun t k => XS.lloadN X0.here hx rfl (hb hby d1_12) rfl k) ?_
      refine own_pre (B := s₁.setTop (mkF m 16 #[.val (.long q1), .second, .unset] [(.long (2 : Int64)), (.long q1)])) (fun t k => X0.ldc2Long hx hown (mvT hZ (hw _ (ow 4 rfl))) (g := (mkF m 13 #[.val (.long q1), .second, .unset] [(.long q1)])) rfl (hb hby d1_13) _ k) ?_
      refine own_pre (B := s₁.setTop (mkF m 17 #[.val (.long q1), .second, .unset] [(.int (lcmpW q1 (2 : Int64)))])) (fun t k => XS.lcmp X0.here hx rfl (hb hby d1_16) rfl k) ?_
      by_cases hc17_12 : q1 = (2 : Int64)
      · refine own_pre (B := s₁.setTop (mkF m 20 #[.val (.long q1), .second, .unset] [])) (fun t k => XS.ifNo X0.here hx rfl (hb hby d1_17) rfl ((if0 _ _).trans (teq ((lw_eq q1 (2 : Int64)).mpr hc17_12)).2) k) ?_
        refine own_pre (B := s₁.setTop (mkF m 21 #[.val (.long q1), .second, .unset] [(.int (1 : Int32))])) (fun t k => XS.iconst X0.here hx rfl (hb hby d1_20) k) ?_
        refine own_pre (B := s₁.setTop (mkF m 25 #[.val (.long q1), .second, .unset] [(.int (1 : Int32))])) (fun t k => XS.goto X0.here hx rfl (pc0 := 21) (pc' := 25) rfl (hb hby d1_21) (by decide) (by decide) k) ?_
        refine own_pre (B := s₁.setTop (mkF m 26 #[.val (.long q1), .second, .val (.int (1 : Int32))] [])) (fun t k => XS.istoreN X0.here hx rfl (hb hby d1_25) rfl (l' := #[.val (.long q1), .second, .val (.int (1 : Int32))]) rfl k) ?_
        refine own_pre (B := s₁.setTop (mkF m 27 #[.val (.long q1), .second, .val (.int (1 : Int32))] [(.long q1)])) (fun t k => XS.lloadN X0.here hx rfl (hb hby d1_26) rfl k) ?_
        obtain ⟨_, _, ⟨T13, L13, k13, n13⟩, -, X13, ⟨Lc13, hQ13, l13, y13, z13⟩, st13⟩ := Jvm.LawKit.callS X0 hx (y := (⟨"com/example/internode_coordination/internodecoordination/protocol/ClientProtocol", "isPriority", "(J)Z"⟩ : MethodName)) hown (mvT hZ (hw _ (ow 5 rfl))) (mvT hZ (hw _ (ow 6 rfl))) (mvT hZ (hw _ (ow 7 rfl))) (mvT hZ (hw _ (ow 8 rfl))) (by decide) (backOf (W := 0) (rm2 l Z a0 hw [] q1 h0 n0 Z0 ) hZ (hw _ (ow 8 rfl)) (hw _ (ow 7 rfl)) (by decide) (by decide)) (g := (mkF m 27 #[.val (.long q1), .second, .val (.int (1 : Int32))] [(.long q1)])) rfl (by rw [hml]; rfl) (argsL := [(.long q1)]) (rest := []) (lenOf pd_0 rfl) rfl (by show 2 * 0 + _ ≤ _; exact Nat.le_of_eq rfl) (hb hby d1_27) (fun _ _ => ⟨rfl, e0, (by decide : 0 + 0 ≤ _), (by decide : 0 + 0 ≤ _)⟩)
        dsimp only [Pt.U, Pt.locs, Pt.cells, Pt.slots] at X13 l13 y13 z13 st13 hQ13
        subst l13 y13 z13
        obtain ⟨rfl, N13q, e13⟩ := hQ13
        have N13 := Fr.app N0 N13q
        refine own_pre (B := T13.setTop (mkF m 30 #[.val (.long q1), .second, .val (.int (1 : Int32))] [(.int (own_f2 q1))])) (fun t k => st13 t k) ?_
        refine own_pre (B := T13.setTop (mkF m 31 #[.val (.long q1), .second, .val (.int (1 : Int32))] [(.int (1 : Int32)), (.int (own_f2 q1))])) (fun t k => XS.iloadN X13.here hx rfl (hb hby d1_30) rfl k) ?_
        by_cases hc31_14 : (own_f2 q1) = (1 : Int32)
        · refine own_pre (B := T13.setTop (mkF m 34 #[.val (.long q1), .second, .val (.int (1 : Int32))] [])) (fun t k => XS.icmpNo X13.here hx rfl (hb hby d1_31) rfl (teq hc31_14).2 k) ?_
          refine own_pre (B := T13.setTop (mkF m 35 #[.val (.long q1), .second, .val (.int (1 : Int32))] [(.int (1 : Int32))])) (fun t k => XS.iconst X13.here hx rfl (hb hby d1_34) k) ?_
          refine own_pre (B := T13.setTop (mkF m 39 #[.val (.long q1), .second, .val (.int (1 : Int32))] [(.int (1 : Int32))])) (fun t k => XS.goto X13.here hx rfl (pc0 := 35) (pc' := 39) rfl (hb hby d1_35) (by decide) (by decide) k) ?_
          obtain ⟨fsr15, hrr15, hrunr15, hendedr15, hWr15, hsamer15⟩ := X13.leave (v := some (.int (1 : Int32))) (fun h => by rw [Bd.returns] at h; cases h)
          refine ⟨_, _, (retN X13 hx (t := .boolean) Bd.returns (by simp) (hb hby d1_39) hrr15), hrunr15, hendedr15, _, _, rfl, ?_, ⟨_, rfl⟩, hWr15, hsamer15.mono (by decide) (by decide)⟩
          show Q1 Z q1 h0 n0 _ T13.heap _
          rw [e13]
          exact ⟨(by unfold own_f1; rw [if_neg hc3_2, if_neg hc9_7, if_pos hc17_12, if_pos hc31_14]), N13, rfl⟩
        · refine own_pre (B := T13.setTop (mkF m 38 #[.val (.long q1), .second, .val (.int (1 : Int32))] [])) (fun t k => XS.icmpYes X13.here hx rfl (pc0 := 31) (pc' := 38) rfl (hb hby d1_31) rfl (feq hc31_14).2 (by decide) (by decide) k) ?_
          refine own_pre (B := T13.setTop (mkF m 39 #[.val (.long q1), .second, .val (.int (1 : Int32))] [(.int (0 : Int32))])) (fun t k => XS.iconst X13.here hx rfl (hb hby d1_38) k) ?_
          obtain ⟨fsr16, hrr16, hrunr16, hendedr16, hWr16, hsamer16⟩ := X13.leave (v := some (.int (0 : Int32))) (fun h => by rw [Bd.returns] at h; cases h)
          refine ⟨_, _, (retN X13 hx (t := .boolean) Bd.returns (by simp) (hb hby d1_39) hrr16), hrunr16, hendedr16, _, _, rfl, ?_, ⟨_, rfl⟩, hWr16, hsamer16.mono (by decide) (by decide)⟩
          show Q1 Z q1 h0 n0 _ T13.heap _
          rw [e13]
          exact ⟨(by unfold own_f1; rw [if_neg hc3_2, if_neg hc9_7, if_pos hc17_12, if_neg hc31_14]), N13, rfl⟩
      · refine own_pre (B := s₁.setTop (mkF m 24 #[.val (.long q1), .second, .unset] [])) (fun t k => XS.ifYes X0.here hx rfl (pc0 := 17) (pc' := 24) rfl (hb hby d1_17) rfl ((if0 _ _).trans (feq (mt (lw_eq q1 (2 : Int64)).mp hc17_12)).2) (by decide) (by decide) k) ?_
        refine own_pre (B := s₁.setTop (mkF m 25 #[.val (.long q1), .second, .unset] [(.int (0 : Int32))])) (fun t k => XS.iconst X0.here hx rfl (hb hby d1_24) k) ?_
        refine own_pre (B := s₁.setTop (mkF m 26 #[.val (.long q1), .second, .val (.int (0 : Int32))] [])) (fun t k => XS.istoreN X0.here hx rfl (hb hby d1_25) rfl (l' := #[.val (.long q1), .second, .val (.int (0 : Int32))]) rfl k) ?_
        refine own_pre (B := s₁.setTop (mkF m 27 #[.val (.long q1), .second, .val (.int (0 : Int32))] [(.long q1)])) (fun t k => XS.lloadN X0.here hx rfl (hb hby d1_26) rfl k) ?_
        obtain ⟨_, _, ⟨T17, L17, k17, n17⟩, -, X17, ⟨Lc17, hQ17, l17, y17, z17⟩, st17⟩ := Jvm.LawKit.callS X0 hx (y := (⟨"com/example/internode_coordination/internodecoordination/protocol/ClientProtocol", "isPriority", "(J)Z"⟩ : MethodName)) hown (mvT hZ (hw _ (ow 5 rfl))) (mvT hZ (hw _ (ow 6 rfl))) (mvT hZ (hw _ (ow 7 rfl))) (mvT hZ (hw _ (ow 8 rfl))) (by decide) (backOf (W := 0) (rm2 l Z a0 hw [] q1 h0 n0 Z0 ) hZ (hw _ (ow 8 rfl)) (hw _ (ow 7 rfl)) (by decide) (by decide)) (g := (mkF m 27 #[.val (.long q1), .second, .val (.int (0 : Int32))] [(.long q1)])) rfl (by rw [hml]; rfl) (argsL := [(.long q1)]) (rest := []) (lenOf pd_0 rfl) rfl (by show 2 * 0 + _ ≤ _; exact Nat.le_of_eq rfl) (hb hby d1_27) (fun _ _ => ⟨rfl, e0, (by decide : 0 + 0 ≤ _), (by decide : 0 + 0 ≤ _)⟩)
        dsimp only [Pt.U, Pt.locs, Pt.cells, Pt.slots] at X17 l17 y17 z17 st17 hQ17
        subst l17 y17 z17
        obtain ⟨rfl, N17q, e17⟩ := hQ17
        have N17 := Fr.app N0 N17q
        refine own_pre (B := T17.setTop (mkF m 30 #[.val (.long q1), .second, .val (.int (0 : Int32))] [(.int (own_f2 q1))])) (fun t k => st17 t k) ?_
        refine own_pre (B := T17.setTop (mkF m 31 #[.val (.long q1), .second, .val (.int (0 : Int32))] [(.int (0 : Int32)), (.int (own_f2 q1))])) (fun t k => XS.iloadN X17.here hx rfl (hb hby d1_30) rfl k) ?_
        by_cases hc31_18 : (own_f2 q1) = (0 : Int32)
        · refine own_pre (B := T17.setTop (mkF m 34 #[.val (.long q1), .second, .val (.int (0 : Int32))] [])) (fun t k => XS.icmpNo X17.here hx rfl (hb hby d1_31) rfl (teq hc31_18).2 k) ?_
          refine own_pre (B := T17.setTop (mkF m 35 #[.val (.long q1), .second, .val (.int (0 : Int32))] [(.int (1 : Int32))])) (fun t k => XS.iconst X17.here hx rfl (hb hby d1_34) k) ?_
          refine own_pre (B := T17.setTop (mkF m 39 #[.val (.long q1), .second, .val (.int (0 : Int32))] [(.int (1 : Int32))])) (fun t k => XS.goto X17.here hx rfl (pc0 := 35) (pc' := 39) rfl (hb hby d1_35) (by decide) (by decide) k) ?_
          obtain ⟨fsr19, hrr19, hrunr19, hendedr19, hWr19, hsamer19⟩ := X17.leave (v := some (.int (1 : Int32))) (fun h => by rw [Bd.returns] at h; cases h)
          refine ⟨_, _, (retN X17 hx (t := .boolean) Bd.returns (by simp) (hb hby d1_39) hrr19), hrunr19, hendedr19, _, _, rfl, ?_, ⟨_, rfl⟩, hWr19, hsamer19.mono (by decide) (by decide)⟩
          show Q1 Z q1 h0 n0 _ T17.heap _
          rw [e17]
          exact ⟨(by unfold own_f1; rw [if_neg hc3_2, if_neg hc9_7, if_neg hc17_12, if_pos hc31_18]), N17, rfl⟩
        · refine own_pre (B := T17.setTop (mkF m 38 #[.val (.long q1), .second, .val (.int (0 : Int32))] [])) (fun t k => XS.icmpYes X17.here hx rfl (pc0 := 31) (pc' := 38) rfl (hb hby d1_31) rfl (feq hc31_18).2 (by decide) (by decide) k) ?_
          refine own_pre (B := T17.setTop (mkF m 39 #[.val (.long q1), .second, .val (.int (0 : Int32))] [(.int (0 : Int32))])) (fun t k => XS.iconst X17.here hx rfl (hb hby d1_38) k) ?_
          obtain ⟨fsr20, hrr20, hrunr20, hendedr20, hWr20, hsamer20⟩ := X17.leave (v := some (.int (0 : Int32))) (fun h => by rw [Bd.returns] at h; cases h)
          refine ⟨_, _, (retN X17 hx (t := .boolean) Bd.returns (by simp) (hb hby d1_39) hrr20), hrunr20, hendedr20, _, _, rfl, ?_, ⟨_, rfl⟩, hWr20, hsamer20.mono (by decide) (by decide)⟩
          show Q1 Z q1 h0 n0 _ T17.heap _
          rw [e17]
          exact ⟨(by unfold own_f1; rw [if_neg hc3_2, if_neg hc9_7, if_neg hc17_12, if_neg hc31_18]), N17, rfl⟩
theorem own_law (x : Int64) : own_f1 x = 1 := by
  by_cases h0 : x = 0
  · subst h0; decide
  by_cases h1 : x = 1
  · subst h1; decide
  by_cases h2 : x = 2
  · subst h2; decide
  have e0 : (0 : Int64).toInt = 0 := by decide
  have e2 : (2 : Int64).toInt = 2 := by decide
  have e1 : (1 : Int64).toInt = 1 := by decide
  have hz : own_f2 x = 0 := by
    unfold own_f2
    by_cases a : x < 0
    · rw [if_pos a]
    · rw [if_neg a]
      by_cases b : 2 < x
      · rw [if_pos b]
      · exfalso
        rw [Int64.lt_iff_toInt_lt] at a b
        rw [← Int64.toInt_inj] at h0 h1 h2
        omega
  unfold own_f1
  rw [if_neg h0, if_neg h1, if_neg h2, hz]
  rfl
theorem own_no (x : Int64) : ¬ own_f1 x = 0 := by rw [own_law]; decide
theorem pn_0 : plainName "com/example/internode_coordination/internodecoordination/protocol/ClientProtocolIsPriorityPinLaw" = true := by first | (simp [plainName, overriddenIn]; done) | decide +kernel
theorem ef_0 (m : MethodId) (x0 : Int64) (x1 : Int32) : entryFrame m #[(.long x0), (.int x1)] maxLocals = mkF m 0 #[.val (.long x0), .second, .val (.int x1), .unset, .unset] [] := by first | (simp [entryFrame, mkF, argsToLocals, Value.category, maxLocals]; done) | rfl
def Q0 (Z : State) (q1 : Int64) (p2 : Int32) (h0 : Heap) (n0 : Nat) (v : Option Value) (h : Heap) (L : List Loc) : Prop := v = some (.int 1) ∧ Fr n0 L
set_option maxRecDepth 65536 in
set_option maxHeartbeats 40000000 in
theorem rm0 (l : Launch) (Z : State) (a0 : Array Value) (hw : ∀ d ∈ tables_1, d.before a0 Z = true) (ws : List Jvm.Cond) (q1 : Int64) (p2 : Int32) (h0 : Heap) (n0 : Nat) (Z0 : n0 ≤ h0.size) :
    MetFree l x (head1 (Jvm.Cond.code x code maxLocals ret :: ws) room_1) (fun a U => a = #[(.long q1), (.int p2)] ∧ Z.Warmed39 U.vm ∧ U.heap = h0) (fun _ _ _ _ _ => True) (fun _ U o U' => ∃ v L, o = .returned v ∧ Q0 Z q1 p2 h0 n0 v U'.heap L ∧ FrameEnd U o U' L 0 0) := by
  refine MetFree.of_bodySF (plainFor_of_name pn_0) hisR ?_
  intro p e s m args below meth c s₁ Bd hml0 hP hK
  obtain ⟨rfl, hZ, hh⟩ := hP
  have hx := Bd.exec
  have hby := Bd.bytes
  have hml : c.maxLocals = 5 := hml0
  have hown : s.vm.findClass "com/example/internode_coordination/internodecoordination/protocol/ClientProtocolIsPriorityPinLaw" = some m.cls := findClass_of_methodNamed Bd.named
  have hnm := (name_of_methodNamed Bd.named Bd.method).1
  have X0 : Stand p l e room_1 s m #[(.long q1), (.int p2)] below meth c s₁ [] 0 0 := Stand.of_body Bd
  have e0 : s₁.heap = h0 := by rw [← hh, Bd.state]; rfl
  have N0 := Fr.nil n0
  apply own_in
  refine own_pre (B := s₁.setTop (mkF m 0 #[.val (.long q1), .second, .val (.int p2), .unset, .unset] [])) (fun t k => castTop (ef_0 m q1 p2) k) ?_
  refine own_pre (B := s₁.setTop (mkF m 1 #[.val (.long q1), .second, .val (.int p2), .unset, .unset] [(.int p2)])) (fun t k => XS.iloadN X0.here hx rfl (hb hby at_0) rfl k) ?_
  refine own_pre (B := s₁.setTop (mkF m 3 #[.val (.long q1), .second, .val (.int p2), .unset, .unset] [(.int (7 : Int32)), (.int p2)])) (fun t k => XS.bipush X0.here hx rfl (hb hby at_1) k) ?_
  refine own_pre (B := s₁.setTop (mkF m 4 #[.val (.long q1), .second, .val (.int p2), .unset, .unset] [(.int (p2 &&& (7 : Int32)))])) (fun t k => XS.iand X0.here hx rfl (hb hby at_3) rfl k) ?_
  refine own_pre (B := s₁.setTop (mkF m 5 #[.val (.long q1), .second, .val (.int p2), .unset, .unset] [(.int (3 : Int32)), (.int (p2 &&& (7 : Int32)))])) (fun t k => XS.iconst X0.here hx rfl (hb hby at_4) k) ?_
  refine own_pre (B := s₁.setTop (mkF m 6 #[.val (.long q1), .second, .val (.int p2), .unset, .unset] [(.int ((p2 &&& (7 : Int32)) - (3 : Int32)))])) (fun t k => XS.isub X0.here hx rfl (hb hby at_5) rfl k) ?_
  refine own_pre (B := s₁.setTop (mkF m 7 #[.val (.long q1), .second, .val (.int p2), .unset, .unset] [(.long (((p2 &&& (7 : Int32)) - (3 : Int32)).toInt64))])) (fun t k => XS.i2l X0.here hx rfl (hb hby at_6) rfl k) ?_
  refine own_pre (B := s₁.setTop (mkF m 8 #[.val (.long q1), .second, .val (.int p2), .val (.long (((p2 &&& (7 : Int32)) - (3 : Int32)).toInt64)), .second] [])) (fun t k => XS.lstoreN X0.here hx rfl (hb hby at_7) rfl (l' := #[.val (.long q1), .second, .val (.int p2), .val (.long (((p2 &&& (7 : Int32)) - (3 : Int32)).toInt64)), .second]) rfl k) ?_
  refine own_pre (B := s₁.setTop (mkF m 9 #[.val (.long q1), .second, .val (.int p2), .val (.long (((p2 &&& (7 : Int32)) - (3 : Int32)).toInt64)), .second] [(.long q1)])) (fun t k => XS.lloadN X0.here hx rfl (hb hby at_8) rfl k) ?_
  obtain ⟨_, _, ⟨T3, L3, k3, n3⟩, -, X3, ⟨Lc3, hQ3, l3, y3, z3⟩, st3⟩ := Jvm.LawKit.callS X0 hx (y := (⟨"com/example/internode_coordination/internodecoordination/protocol/ClientProtocolIsPriorityPinLaw", "agrees", "(J)Z"⟩ : MethodName)) hown (mvT hZ (hw _ (ow 0 rfl))) (mvT hZ (hw _ (ow 1 rfl))) (mvT hZ (hw _ (ow 2 rfl))) (mvT hZ (hw _ (ow 3 rfl))) (by decide) (backOf (W := 0) (rm1 l Z a0 hw [] q1 h0 n0 Z0 ) hZ (hw _ (ow 3 rfl)) (hw _ (ow 2 rfl)) (by decide) (by decide)) (g := (mkF m 9 #[.val (.long q1), .second, .val (.int p2), .val (.long (((p2 &&& (7 : Int32)) - (3 : Int32)).toInt64)), .second] [(.long q1)])) rfl (by rw [hml]; rfl) (argsL := [(.long q1)]) (rest := []) (lenOf pd_0 rfl) rfl (by show 2 * 0 + _ ≤ _; exact Nat.le_of_eq rfl) (hb hby at_9) (fun _ _ => ⟨rfl, e0, (by decide : 0 + 0 ≤ _), (by decide : 0 + 0 ≤ _)⟩)
  dsimp only [Pt.U, Pt.locs, Pt.cells, Pt.slots] at X3 l3 y3 z3 st3 hQ3
  subst l3 y3 z3
  obtain ⟨rfl, N3q, e3⟩ := hQ3
  have N3 := Fr.app N0 N3q
  refine own_pre (B := T3.setTop (mkF m 12 #[.val (.long q1), .second, .val (.int p2), .val (.long (((p2 &&& (7 : Int32)) - (3 : Int32)).toInt64)), .second] [(.int (own_f1 q1))])) (fun t k => st3 t k) ?_
  refine own_pre (B := T3.setTop (mkF m 15 #[.val (.long q1), .second, .val (.int p2), .val (.long (((p2 &&& (7 : Int32)) - (3 : Int32)).toInt64)), .second] [])) (fun t k => XS.ifNo X3.here hx rfl (hb hby at_12) rfl ((if0 _ _).trans (feq (own_no _)).1) k) ?_
  refine own_pre (B := T3.setTop (mkF m 16 #[.val (.long q1), .second, .val (.int p2), .val (.long (((p2 &&& (7 : Int32)) - (3 : Int32)).toInt64)), .second] [(.long (((p2 &&& (7 : Int32)) - (3 : Int32)).toInt64))])) (fun t k => XS.lloadN X3.here hx rfl (hb hby at_15) rfl k) ?_
  obtain ⟨_, _, ⟨T4, L4, k4, n4⟩, -, X4, ⟨Lc4, hQ4, l4, y4, z4⟩, st4⟩ := Jvm.LawKit.callS X3 hx (y := (⟨"com/example/internode_coordination/internodecoordination/protocol/ClientProtocolIsPriorityPinLaw", "agrees", "(J)Z"⟩ : MethodName)) hown (mvT hZ (hw _ (ow 0 rfl))) (mvT hZ (hw _ (ow 1 rfl))) (mvT hZ (hw _ (ow 2 rfl))) (mvT hZ (hw _ (ow 3 rfl))) (by decide) (backOf (W := 0) (rm1 l Z a0 hw [] (((p2 &&& (7 : Int32)) - (3 : Int32)).toInt64) h0 n0 Z0 ) hZ (hw _ (ow 3 rfl)) (hw _ (ow 2 rfl)) (by decide) (by decide)) (g := (mkF m 16 #[.val (.long q1), .second, .val (.int p2), .val (.long (((p2 &&& (7 : Int32)) - (3 : Int32)).toInt64)), .second] [(.long (((p2 &&& (7 : Int32)) - (3 : Int32)).toInt64))])) rfl (by rw [hml]; rfl) (argsL := [(.long (((p2 &&& (7 : Int32)) - (3 : Int32)).toInt64))]) (rest := []) (lenOf pd_0 rfl) rfl (by show 2 * 0 + _ ≤ _; exact Nat.le_of_eq rfl) (hb hby at_16) (fun _ _ => ⟨rfl, e3, (by decide : 0 + 0 ≤ _), (by decide : 0 + 0 ≤ _)⟩)
  dsimp only [Pt.U, Pt.locs, Pt.cells, Pt.slots] at X4 l4 y4 z4 st4 hQ4
  subst l4 y4 z4
  obtain ⟨rfl, N4q, e4⟩ := hQ4
  have N4 := Fr.app N3 N4q
  refine own_pre (B := T4.setTop (mkF m 19 #[.val (.long q1), .second, .val (.int p2), .val (.long (((p2 &&& (7 : Int32)) - (3 : Int32)).toInt64)), .second] [(.int (own_f1 (((p2 &&& (7 : Int32)) - (3 : Int32)).toInt64)))])) (fun t k => st4 t k) ?_
  refine own_pre (B := T4.setTop (mkF m 22 #[.val (.long q1), .second, .val (.int p2), .val (.long (((p2 &&& (7 : Int32)) - (3 : Int32)).toInt64)), .second] [])) (fun t k => XS.ifNo X4.here hx rfl (hb hby at_19) rfl ((if0 _ _).trans (feq (own_no _)).1) k) ?_
  refine own_pre (B := T4.setTop (mkF m 23 #[.val (.long q1), .second, .val (.int p2), .val (.long (((p2 &&& (7 : Int32)) - (3 : Int32)).toInt64)), .second] [(.int (1 : Int32))])) (fun t k => XS.iconst X4.here hx rfl (hb hby at_22) k) ?_
  refine own_pre (B := T4.setTop (mkF m 27 #[.val (.long q1), .second, .val (.int p2), .val (.long (((p2 &&& (7 : Int32)) - (3 : Int32)).toInt64)), .second] [(.int (1 : Int32))])) (fun t k => XS.goto X4.here hx rfl (pc0 := 23) (pc' := 27) rfl (hb hby at_23) (by decide) (by decide) k) ?_
  obtain ⟨fsr5, hrr5, hrunr5, hendedr5, hWr5, hsamer5⟩ := X4.leave (v := some (.int (1 : Int32))) (fun h => by rw [Bd.returns] at h; cases h)
  refine ⟨_, _, (retN X4 hx (t := .boolean) Bd.returns (by simp) (hb hby at_27) hrr5), hrunr5, hendedr5, _, _, rfl, ?_, ⟨_, rfl⟩, hWr5, hsamer5.mono (by decide) (by decide)⟩
  show Q0 Z q1 p2 h0 n0 _ T4.heap _
  rw [e4]
  exact ⟨rfl, N4⟩
set_option maxRecDepth 65536 in
set_option maxHeartbeats 40000000 in
theorem comes_1 {Post : Tables → Env → Array Value → State → Outcome → State → Prop} (hpost : ∀ tb e args s v u, (limb_1_1.after args s (.returned v) u = true ∧ limb_1_2.after args s (.returned v) u = true ∧ True) → FrameEnd s (.returned v) u (Jvm.fieldLocs frame_1_writes args s ++ Jvm.arrayLocs frame_1_arrays args s ++ Jvm.staticLocs frame_1_statics s) 0 0 → Post tb e args s (.returned v) u) :
    ArmFor flags0 classFile x code maxLocals ret World_1 tables_1 room_1 Calls_1 rest_1 Pre_1 Post := by
  intro l hfl _ _ p e ha hc hk s m args below hf hA hF happ hP
  obtain ⟨hcalls, hrest, hpre⟩ := hP
  obtain ⟨-, -, -, hnamed, -, -, -, hat⟩ := (Spec.applies_iff hf).mp happ
  obtain ⟨hg, hn⟩ := and_e (Cond.before_iff.mp (show (Jvm.Cond.and given_1 narrow_1).before args s = true from hpre))
  obtain ⟨g1, g2⟩ := and_e hg
  obtain ⟨g3, g4⟩ := and_e g2
  obtain ⟨w0, w1, rfl⟩ : ∃ w0 w1 : Value, args = #[w0, w1] := by
    have hs : args.size = 2 := by simpa [Cond.value, given_1] using g1
    obtain ⟨L⟩ := args
    match L, hs with
    | [w0, w1], _ => exact ⟨w0, w1, rfl⟩
  have hw := fun d (hd : d ∈ tables_1) => atoms_spec (ws := Jvm.Cond.code x code maxLocals ret :: tables_1) hat d (List.mem_cons_of_mem _ hd)
  have hfit : Fit s := fun {y c} hc i hi => by
    obtain ⟨ha, rfl⟩ := Array.getElem?_eq_some_iff.mp hc
    have q := List.all_eq_true.mp ((Array.all_eq_true_iff_forall_mem.mp hF) _ (Array.getElem_mem ha)) i (List.mem_range.mpr hi)
    simpa [Array.getElem?_eq_getElem hi] using q
  obtain ⟨i0, ei0⟩ := isL_v g3
  obtain rfl : w0 = (.long i0) := Option.some.inj ei0
  obtain ⟨i1, ei1⟩ := is_v g4
  obtain rfl : w1 = (.int i1) := Option.some.inj ei1
  obtain ⟨n, o, h1, h2, h3, _, L, rfl, ⟨rfl, N⟩, hq⟩ := rm0 l s _ hw tables_1 i0 i1  s.heap s.heap.size (Nat.le_refl _)  p e ha hc hk s m _ below hf ((Spec.applies_iff_loose hf).mp happ).1 ⟨rfl, State.Warmed39.refl s, rfl⟩ trivial
  refine ⟨n, _, h1, h2, h3, hpost _ _ _ _ _ _ ⟨Cond.after_iff.mpr rfl, Cond.after_iff.mpr (eq_i res_at (Term.int_eval (1)) rfl), trivial⟩ ⟨hq.1, hq.2.1, (hq.2.2.sift fun y hy => Or.inr (N y hy)).mono (by decide) (by decide)⟩⟩
theorem main_1_1 : Claimed_1_1 := comes_1 fun _ _ _ _ _ _ h hF => ⟨h.1, hF⟩
theorem main_1_2 : Claimed_1_2 := comes_1 fun _ _ _ _ _ _ h hF => ⟨h.2.1, hF⟩
end Jvm.Pilot.@@N@@
namespace Jvm.Pilot.@@N@@
open Jvm Jvm.ClassFile Sem Op Lib Jvm.Free Jvm.Stand Jvm.Pilot.@@N@@.Jvm.D
/-! MADE BY PROGRAM (witnessworld.py) out of the Statement's table words and the real class files: 9 classes; the members and pool entries that the words name. The judged class is class 1, her method 2. -/
namespace start1
open Jvm.ClassFile
def u (s : String) : CpInfo := .utf8 (stringToUtf16 s)
/-- a pool by its gaps: so many unusable entries, then the entry; so many at the end -/
def gap : Nat → List CpInfo → List CpInfo
  | 0, r => r
  | n + 1, r => .unusable :: gap n r
def poolList (es : List (Nat × CpInfo)) (last : Nat) : List CpInfo := es.foldr (fun e r => gap e.1 (e.2 :: r)) (gap last [])
def pool (es : List (Nat × CpInfo)) (last : Nat) : Array CpInfo := ⟨poolList es last⟩
def fileOf (pool : Array CpInfo) (this : Nat) (attrs : Array Attribute := #[]) (ms : Array MethodInfo := #[]) (fl : Nat := 33) (sup : Nat := 0) (ifs : Array Nat := #[]) (fds : Array FieldInfo := #[]) : ClassFile where
  minorVersion := 0
  majorVersion := 65
  constantPool := pool
  accessFlags := fl
  thisClass := this
  superClass := sup
  interfaces := ifs
  fields := fds
  methods := ms
  attributes := attrs
def plain (name : String) (sup : Option ClassId) : Class where
  name := name
  kind := .ordinary
  loader := none
  accessFlags := 33
  super := sup
  interfaces := #[]
  cf := none
  fields := #[]
  methods := #[]
  instanceTypes := #[]
  staticTypes := #[]
  resolved := #[]
  callSites := []
  init := .initialized
  statics := none
  mirror := none

def pool0 : Array CpInfo := pool [(5, u "<init>"), (0, u "()V"), (1, .class_ 10), (1, u "java/lang/Object")] 113

def k0m0 : Method := { name := "<init>", desc := "()V", sig := { parameters := [], returnType := none }, accessFlags := 1, code := none }
/-- java/lang/Object -/
def k0 : Class := { plain "java/lang/Object" none with
  accessFlags := 33
  interfaces := #[]
  cf := some (fileOf pool0 8 #[] #[{ accessFlags := 1, nameIndex := 5, descriptorIndex := 6, attributes := #[] }] 33 0 #[] #[])
  fields := #[]
  methods := #[k0m0]
  instanceTypes := #[]
  staticTypes := #[]
  resolved := Array.replicate 124 none
  statics := none }

def pool1 : Array CpInfo := pool [(2, .class_ 4), (1, u "java/lang/Object"), (0, u "<init>"), (0, u "()V"), (0, .long 2), (1, .methodref 10 11), (0, .class_ 12), (0, .nameAndType 13 14), (0, u "com/example/internode_coordination/internodecoordination/protocol/ClientProtocol"), (0, u "isPriority"), (0, u "(J)Z"), (0, .methodref 16 17), (0, .class_ 18), (0, .nameAndType 19 14), (0, u "com/example/internode_coordination/internodecoordination/protocol/ClientProtocolIsPriorityPinLaw"), (0, u "agrees"), (3, u "law"), (0, u "(JI)Z")] 2

def k1m0 : Method := { name := "<init>", desc := "()V", sig := { parameters := [], returnType := none }, accessFlags := 2, code := none }
def k1c1 : Code := { maxStack := 4, maxLocals := 3, code := method_2_code, exceptionTable := #[], attributes := #[] }
def k1m1 : Method := { name := "agrees", desc := "(J)Z", sig := { parameters := [.long], returnType := some .boolean }, accessFlags := 10, code := some k1c1 }
def k1c2 : Code := { maxStack := 2, maxLocals := 5, code := code, exceptionTable := #[], attributes := #[] }
def k1m2 : Method := { name := "law", desc := "(JI)Z", sig := { parameters := [.long, .int], returnType := some .boolean }, accessFlags := 9, code := some k1c2 }
/-- com/example/internode_coordination/internodecoordination/protocol/ClientProtocolIsPriorityPinLaw -/
def k1 : Class := { plain "com/example/internode_coordination/internodecoordination/protocol/ClientProtocolIsPriorityPinLaw" (some 0) with
  accessFlags := 49
  interfaces := #[]
  cf := some (fileOf pool1 16 #[] #[{ accessFlags := 2, nameIndex := 5, descriptorIndex := 6, attributes := #[] }, { accessFlags := 10, nameIndex := 19, descriptorIndex := 14, attributes := #[] }, { accessFlags := 9, nameIndex := 23, descriptorIndex := 24, attributes := #[] }] 49 2 #[] #[])
  fields := #[]
  methods := #[k1m0, k1m1, k1m2]
  instanceTypes := #[]
  staticTypes := #[]
  resolved := Array.replicate 27 none
  statics := none }

def pool2 : Array CpInfo := pool [(1, .class_ 2), (0, u "com/example/internode_coordination/internodecoordination/protocol/ClientProtocol"), (1, .class_ 6), (1, u "java/lang/Object"), (0, u "<init>"), (0, u "()V"), (4, .long 2), (1, u "VERSION"), (0, u "I"), (2, u "MAX_LINE_BYTES"), (1, u "CLIENT"), (0, u "Ljava/lang/String;"), (1, u "MEMBER"), (1, u "STATUS"), (1, u "OPEN"), (1, u "OPENED"), (1, u "RESUME"), (1, u "RESUMED"), (1, u "ENDED"), (1, u "CLOSE"), (1, u "RENEW"), (1, u "RENEWED"), (1, u "DEFAULT_SESSION_TIMEOUT_MILLIS"), (0, u "J"), (2, u "MIN_SESSION_TIMEOUT_MILLIS"), (0, u "MAX_SESSION_TIMEOUT_MILLIS"), (0, u "SESSION_TIMEOUT_RULE"), (2, u "ACQUIRE"), (1, u "MOST_URGENT_PRIORITY"), (1, u "LEAST_URGENT_PRIORITY"), (1, u "DEFAULT_PRIORITY"), (0, u "PRIORITY_RULE"), (2, u "GRANTED"), (1, u "TRY"), (1, u "BUSY"), (1, u "RELEASE"), (1, u "RELEASED"), (1, u "ERROR"), (4, u "(J)Z"), (1, u "isPriority")] 2

def k2m0 : Method := { name := "<init>", desc := "()V", sig := { parameters := [], returnType := none }, accessFlags := 2, code := none }
def k2c1 : Code := { maxStack := 4, maxLocals := 2, code := prog_60_method_3_code, exceptionTable := #[], attributes := #[] }
def k2m1 : Method := { name := "isPriority", desc := "(J)Z", sig := { parameters := [.long], returnType := some .boolean }, accessFlags := 9, code := some k2c1 }
/-- com/example/internode_coordination/internodecoordination/protocol/ClientProtocol -/
def k2 : Class := { plain "com/example/internode_coordination/internodecoordination/protocol/ClientProtocol" (some 0) with
  accessFlags := 49
  interfaces := #[]
  cf := some (fileOf pool2 1 #[] #[{ accessFlags := 2, nameIndex := 7, descriptorIndex := 8, attributes := #[] }, { accessFlags := 9, nameIndex := 80, descriptorIndex := 78, attributes := #[] }] 49 4 #[] #[{ accessFlags := 25, nameIndex := 15, descriptorIndex := 16, attributes := #[] }, { accessFlags := 25, nameIndex := 19, descriptorIndex := 16, attributes := #[] }, { accessFlags := 25, nameIndex := 21, descriptorIndex := 22, attributes := #[] }, { accessFlags := 25, nameIndex := 24, descriptorIndex := 22, attributes := #[] }, { accessFlags := 25, nameIndex := 26, descriptorIndex := 22, attributes := #[] }, { accessFlags := 25, nameIndex := 28, descriptorIndex := 22, attributes := #[] }, { accessFlags := 25, nameIndex := 30, descriptorIndex := 22, attributes := #[] }, { accessFlags := 25, nameIndex := 32, descriptorIndex := 22, attributes := #[] }, { accessFlags := 25, nameIndex := 34, descriptorIndex := 22, attributes := #[] }, { accessFlags := 25, nameIndex := 36, descriptorIndex := 22, attributes := #[] }, { accessFlags := 25, nameIndex := 38, descriptorIndex := 22, attributes := #[] }, { accessFlags := 25, nameIndex := 40, descriptorIndex := 22, attributes := #[] }, { accessFlags := 25, nameIndex := 42, descriptorIndex := 22, attributes := #[] }, { accessFlags := 25, nameIndex := 44, descriptorIndex := 45, attributes := #[] }, { accessFlags := 25, nameIndex := 48, descriptorIndex := 45, attributes := #[] }, { accessFlags := 25, nameIndex := 49, descriptorIndex := 45, attributes := #[] }, { accessFlags := 25, nameIndex := 50, descriptorIndex := 22, attributes := #[] }, { accessFlags := 25, nameIndex := 53, descriptorIndex := 22, attributes := #[] }, { accessFlags := 25, nameIndex := 55, descriptorIndex := 16, attributes := #[] }, { accessFlags := 25, nameIndex := 57, descriptorIndex := 16, attributes := #[] }, { accessFlags := 25, nameIndex := 59, descriptorIndex := 16, attributes := #[] }, { accessFlags := 25, nameIndex := 60, descriptorIndex := 22, attributes := #[] }, { accessFlags := 25, nameIndex := 63, descriptorIndex := 22, attributes := #[] }, { accessFlags := 25, nameIndex := 65, descriptorIndex := 22, attributes := #[] }, { accessFlags := 25, nameIndex := 67, descriptorIndex := 22, attributes := #[] }, { accessFlags := 25, nameIndex := 69, descriptorIndex := 22, attributes := #[] }, { accessFlags := 25, nameIndex := 71, descriptorIndex := 22, attributes := #[] }, { accessFlags := 25, nameIndex := 73, descriptorIndex := 22, attributes := #[] }])
  fields := #[{ name := "VERSION", type := .int, accessFlags := 25, slot := 0, constantValue := 0 }, { name := "MAX_LINE_BYTES", type := .int, accessFlags := 25, slot := 1, constantValue := 0 }, { name := "CLIENT", type := (.object "java/lang/String"), accessFlags := 25, slot := 2, constantValue := 0 }, { name := "MEMBER", type := (.object "java/lang/String"), accessFlags := 25, slot := 3, constantValue := 0 }, { name := "STATUS", type := (.object "java/lang/String"), accessFlags := 25, slot := 4, constantValue := 0 }, { name := "OPEN", type := (.object "java/lang/String"), accessFlags := 25, slot := 5, constantValue := 0 }, { name := "OPENED", type := (.object "java/lang/String"), accessFlags := 25, slot := 6, constantValue := 0 }, { name := "RESUME", type := (.object "java/lang/String"), accessFlags := 25, slot := 7, constantValue := 0 }, { name := "RESUMED", type := (.object "java/lang/String"), accessFlags := 25, slot := 8, constantValue := 0 }, { name := "ENDED", type := (.object "java/lang/String"), accessFlags := 25, slot := 9, constantValue := 0 }, { name := "CLOSE", type := (.object "java/lang/String"), accessFlags := 25, slot := 10, constantValue := 0 }, { name := "RENEW", type := (.object "java/lang/String"), accessFlags := 25, slot := 11, constantValue := 0 }, { name := "RENEWED", type := (.object "java/lang/String"), accessFlags := 25, slot := 12, constantValue := 0 }, { name := "DEFAULT_SESSION_TIMEOUT_MILLIS", type := .long, accessFlags := 25, slot := 13, constantValue := 0 }, { name := "MIN_SESSION_TIMEOUT_MILLIS", type := .long, accessFlags := 25, slot := 14, constantValue := 0 }, { name := "MAX_SESSION_TIMEOUT_MILLIS", type := .long, accessFlags := 25, slot := 15, constantValue := 0 }, { name := "SESSION_TIMEOUT_RULE", type := (.object "java/lang/String"), accessFlags := 25, slot := 16, constantValue := 0 }, { name := "ACQUIRE", type := (.object "java/lang/String"), accessFlags := 25, slot := 17, constantValue := 0 }, { name := "MOST_URGENT_PRIORITY", type := .int, accessFlags := 25, slot := 18, constantValue := 0 }, { name := "LEAST_URGENT_PRIORITY", type := .int, accessFlags := 25, slot := 19, constantValue := 0 }, { name := "DEFAULT_PRIORITY", type := .int, accessFlags := 25, slot := 20, constantValue := 0 }, { name := "PRIORITY_RULE", type := (.object "java/lang/String"), accessFlags := 25, slot := 21, constantValue := 0 }, { name := "GRANTED", type := (.object "java/lang/String"), accessFlags := 25, slot := 22, constantValue := 0 }, { name := "TRY", type := (.object "java/lang/String"), accessFlags := 25, slot := 23, constantValue := 0 }, { name := "BUSY", type := (.object "java/lang/String"), accessFlags := 25, slot := 24, constantValue := 0 }, { name := "RELEASE", type := (.object "java/lang/String"), accessFlags := 25, slot := 25, constantValue := 0 }, { name := "RELEASED", type := (.object "java/lang/String"), accessFlags := 25, slot := 26, constantValue := 0 }, { name := "ERROR", type := (.object "java/lang/String"), accessFlags := 25, slot := 27, constantValue := 0 }]
  methods := #[k2m0, k2m1]
  instanceTypes := #[]
  staticTypes := #[.int, .int, (.object "java/lang/String"), (.object "java/lang/String"), (.object "java/lang/String"), (.object "java/lang/String"), (.object "java/lang/String"), (.object "java/lang/String"), (.object "java/lang/String"), (.object "java/lang/String"), (.object "java/lang/String"), (.object "java/lang/String"), (.object "java/lang/String"), .long, .long, .long, (.object "java/lang/String"), (.object "java/lang/String"), .int, .int, .int, (.object "java/lang/String"), (.object "java/lang/String"), (.object "java/lang/String"), (.object "java/lang/String"), (.object "java/lang/String"), (.object "java/lang/String"), (.object "java/lang/String")]
  resolved := Array.replicate 83 none
  statics := none }

def pool3 : Array CpInfo := pool [(1, u "java/lang/Cloneable"), (0, .class_ 1), (0, u "java/lang/Object"), (0, .class_ 3)] 3

/-- java/lang/Cloneable -/
def k3 : Class := { plain "java/lang/Cloneable" (some 0) with
  accessFlags := 1537
  interfaces := #[]
  cf := some (fileOf pool3 2 #[] #[] 1537 4 #[] #[])
  fields := #[]
  methods := #[]
  instanceTypes := #[]
  staticTypes := #[]
  resolved := Array.replicate 8 none
  statics := none }

def pool4 : Array CpInfo := pool [(1, u "java/io/Serializable"), (0, .class_ 1), (0, u "java/lang/Object"), (0, .class_ 3)] 3

/-- java/io/Serializable -/
def k4 : Class := { plain "java/io/Serializable" (some 0) with
  accessFlags := 1537
  interfaces := #[]
  cf := some (fileOf pool4 2 #[] #[] 1537 4 #[] #[])
  fields := #[]
  methods := #[]
  instanceTypes := #[]
  staticTypes := #[]
  resolved := Array.replicate 8 none
  statics := none }

/-- the primitive byte -/
def k5 : Class := { plain "byte" none with kind := .primitive 'B', accessFlags := 0x411 }
/-- [B -/
def k6 : Class := { plain "[B" (some 0) with kind := .array 5 .byte, interfaces := #[3, 4], accessFlags := 1041 }

/-- the primitive int -/
def k7 : Class := { plain "int" none with kind := .primitive 'I', accessFlags := 0x411 }
/-- [I -/
def k8 : Class := { plain "[I" (some 0) with kind := .array 7 .int, interfaces := #[3, 4], accessFlags := 1041 }

def heap : Heap := #[]
def classes : Array Class := #[k0, k1, k2, k3, k4, k5, k6, k7, k8]
def interned : List (Array UInt16 × Addr) := []
def slotsUsed : Nat := 0
def theMethod : MethodId := ⟨1, 2⟩
def args0 : Array Value := #[.long 1, .int 5]
def aboutOver (below : List Frame) : State where
  vm := { classes := classes, interned := interned.toArray }
  heap := heap
  slotsUsed := slotsUsed
  threads := #[{ frames := .invoking theMethod args0 :: below }]
def below0 : List Frame := [.native { method := ⟨0, 0⟩, args := #[] }]
def about1 : State := aboutOver below0
def p0 : Program := .bare "" "" ""
def e0 : Env := launch0.env 0 0 0
theorem w_frames : about1.frames = Frame.invoking theMethod args0 :: below0 := rfl
set_option maxRecDepth 65536 in
theorem w_args : argsFit about1.vm theMethod args0 = true := by decide +kernel
set_option maxRecDepth 65536 in
theorem w_heap : heapFits about1 = true := by decide +kernel
set_option maxRecDepth 65536 in
theorem w_runnable : about1.curStatus? = some .runnable := by decide +kernel
set_option maxRecDepth 65536 in
theorem w_alone : about1.alone = true := by decide +kernel
set_option maxRecDepth 65536 in
theorem w_named : about1.methodNamed? x = some theMethod := by decide +kernel
set_option maxRecDepth 65536 in
theorem w_hears : about1.hears theMethod below0 = true := by decide +kernel
set_option maxRecDepth 65536 in
theorem w_ripe : about1.ripe theMethod args0 below0 = true := by decide +kernel
theorem w_running : about1.status = .running := rfl
set_option maxRecDepth 65536 in
theorem w_room : about1.hasRoom e0.platform room_1 = true :=
  launch0.hasRoom_least _ room_1 (by decide +kernel) (by decide +kernel) (by decide +kernel) (by decide +kernel) (by decide +kernel) (by decide +kernel)
theorem allAtoms_all (ts : List Jvm.Cond) (a : Array Jvm.Value) (st : Jvm.State) : (allAtoms ts).before a st = ts.all (fun c => c.before a st) := by
  induction ts with
  | nil => rfl
  | cons c t ih =>
    show (Jvm.Cond.and c (allAtoms t)).before a st = _
    rw [Jvm.Cond.before_and, ih, List.all_cons]
def words1 : List Jvm.Cond := Jvm.Cond.code x code maxLocals ret :: tables_1
/-- a 'code' word, met by the world's own term for the bytes: nothing is compared byte by byte -/
theorem code_word {y : MethodName} {bytes : ByteArray} {mx : Nat} {rt : Option FieldType} {a : Array Value} {s : State} {m : MethodId} {meth : Method} {c : Code} (h1 : s.methodNamed? y = some m) (h2 : s.vm.method? m = some meth) (h3 : meth.code = some c) (h4 : c.code = bytes)
    (h5 : (c.maxLocals == mx && c.exceptionTable.isEmpty && decide (c.maxStack ≤ mostOperands) && decide (meth.sig.returnType = rt) && !meth.locks && decide (parseMethodDescriptor y.desc = some meth.sig)) = true) : (Jvm.Cond.code y bytes mx rt).before a s = true := by
  simp only [Bool.and_eq_true, beq_iff_eq, Bool.not_eq_true', decide_eq_true_eq] at h5
  obtain ⟨⟨⟨⟨⟨g1, g2⟩, g3⟩, g4⟩, g5⟩, g6⟩ := h5
  simp [Cond.before, Cond.holds, Cond.value, h1, h2, h3, h4, g1, g2, g3, g4, g5, g6]
def isCode : Jvm.Cond → Bool
  | .code _ _ _ _ => true
  | _ => false
theorem all_split {L : List Jvm.Cond} {P : Jvm.Cond → Bool} (h1 : L.all (fun c => isCode c || P c) = true) (h2 : ∀ c ∈ L.filter isCode, P c = true) : L.all P = true := by
  refine List.all_eq_true.mpr fun c hc => ?_
  have h := List.all_eq_true.mp h1 c hc
  rcases Bool.eq_false_or_eq_true (isCode c) with hi | hi
  · exact h2 c (List.mem_filter.mpr ⟨hc, hi⟩)
  · simpa [hi] using h
set_option maxRecDepth 65536 in
theorem w_c0 : (Jvm.Cond.code x code maxLocals ret).before args0 about1 = true := code_word (m := ⟨1, 2⟩) (meth := k1m2) (c := k1c2) (by decide +kernel) rfl rfl rfl (by decide +kernel)
set_option maxRecDepth 65536 in
theorem w_c1 : (Jvm.Cond.code ({ cls := "com/example/internode_coordination/internodecoordination/protocol/ClientProtocolIsPriorityPinLaw", name := "agrees", desc := "(J)Z" } : Jvm.MethodName) method_2_code (3 : Nat) (Option.some Jvm.ClassFile.FieldType.boolean)).before args0 about1 = true := code_word (m := ⟨1, 1⟩) (meth := k1m1) (c := k1c1) (by decide +kernel) rfl rfl rfl (by decide +kernel)
set_option maxRecDepth 65536 in
theorem w_c2 : (Jvm.Cond.code ({ cls := "com/example/internode_coordination/internodecoordination/protocol/ClientProtocol", name := "isPriority", desc := "(J)Z" } : Jvm.MethodName) prog_60_method_3_code (2 : Nat) (Option.some Jvm.ClassFile.FieldType.boolean)).before args0 about1 = true := code_word (m := ⟨2, 1⟩) (meth := k2m1) (c := k2c1) (by decide +kernel) rfl rfl rfl (by decide +kernel)
def codes1 : List Jvm.Cond := [Jvm.Cond.code x code maxLocals ret, Jvm.Cond.code ({ cls := "com/example/internode_coordination/internodecoordination/protocol/ClientProtocolIsPriorityPinLaw", name := "agrees", desc := "(J)Z" } : Jvm.MethodName) method_2_code (3 : Nat) (Option.some Jvm.ClassFile.FieldType.boolean), Jvm.Cond.code ({ cls := "com/example/internode_coordination/internodecoordination/protocol/ClientProtocol", name := "isPriority", desc := "(J)Z" } : Jvm.MethodName) prog_60_method_3_code (2 : Nat) (Option.some Jvm.ClassFile.FieldType.boolean)]
set_option maxRecDepth 65536 in
theorem codes_eq : words1.filter isCode = codes1 := rfl
theorem w_codes : ∀ c ∈ words1.filter isCode, c.before args0 about1 = true := by
  rw [codes_eq]
  intro c hc
  simp only [codes1, List.mem_cons, List.not_mem_nil, or_false] at hc
  rcases hc with rfl | rfl | rfl
  · exact w_c0
  · exact w_c1
  · exact w_c2
set_option maxRecDepth 65536 in
theorem w_t1 : words1.all (fun c => isCode c || c.before args0 about1) = true := by decide +kernel
theorem w_tables : (allAtoms (Jvm.Cond.code x code maxLocals ret :: tables_1)).before args0 about1 = true := by
  rw [allAtoms_all]
  show words1.all (fun c => c.before args0 about1) = true
  refine all_split ?_ w_codes
  rw [w_t1]
set_option maxRecDepth 65536 in
theorem w_case : (Jvm.Cond.and given_1 narrow_1).before args0 about1 = true := by decide +kernel
theorem w_applies : (headSpec (Jvm.Cond.code x code maxLocals ret :: tables_1) room_1).applies x e0.platform about1 = true :=
  (Spec.applies_iff w_frames).mpr ⟨w_running, w_runnable, w_alone, w_named, w_hears, w_ripe, w_room, w_tables⟩
theorem atStart : AtStart classFile x code maxLocals ret World_1 tables_1 room_1 Calls_1 rest_1 Pre_1 launch0 p0 e0 about1 theMethod args0 below0 :=
  ⟨lists_1, trivial, launch0.admits_env _ _ _, launch0.least_env, fairChoices_fair.cas, fairChoices_fair.clock, w_frames, w_args, w_heap, w_applies, trivial, trivial, w_case⟩
end start1
theorem witness_1 : WitnessClaimed_1 := ⟨start1.p0, start1.e0, start1.about1, start1.theMethod, start1.args0, start1.below0, start1.atStart⟩
end Jvm.Pilot.@@N@@
