import JvmDerived
import JvmDerived.Pilot.@@N@@Statement
import JvmDerived.Pilot.@@N@@Code
set_option linter.unusedVariables false
set_option linter.unusedSimpArgs false
namespace Jvm.RoadKit
open Sem ClassFile Op Lib Jvm.Stand Jvm.Free Jvm.LawKit
section New
variable {p : Program} {l : Launch} {e : Env} {R : Room} {s : State} {m : MethodId} {args : Array Value} {below : List Frame} {meth : Method} {c : Code} {T : State} {locs : List Loc} {cells slots : Nat}
theorem retI (X : Stand p l e R s m args below meth c T locs cells slots) (hx : p.tables.exec = Jvm.exec) {pc : Nat} {Ls : Array Slot} {z : Int32} {rest : List Value} (hret : meth.sig.returnType = some .int) (hd : decode c.code pc = .ok (.ireturn, 1)) {fs : List Frame}
    (hl : ∀ (f : JFrame) (acts : List Action), f.method = m → f.locked = none → f.entered = [] → (doReturn e (T.setTop f) acts (some (.int z))).1 = T.setFrames fs) : Steps p.tables e below (T.setTop (mkF m pc Ls (.int z :: rest))) (T.setFrames fs) := by
  have hm' : T.vm.method? m = some meth := X.method'
  have hn : narrow .int (.int z) = .int z := rfl
  show Steps p.tables e below (T.setTop { method := m, pc := pc, locals := Ls, stack := _ :: rest, locked := none }) _
  jvm_step X.here [X.here.top, hx, hd, hm', hret, hn]
  first | (intro acts; rw [hl _ acts rfl rfl rfl]) | rw [hl _ _ rfl rfl rfl]
  exact Steps.refl _
end New
end Jvm.RoadKit
namespace Jvm.Pilot.@@N@@
open Jvm Jvm.ClassFile Sem Op Lib Jvm.Free Jvm.Stand Jvm.LawKit Jvm.RoadKit Bundle Jvm.Pilot.@@N@@.Jvm.D
/-! the goal of a walk, gone through forwards: from the state A the run comes to an end that answers R -/
def own_G (tb : Tables) (e : Env) (below : List Frame) (R : State → Outcome → Prop) (A : State) : Prop := ∃ t o, Steps tb e below A t ∧ t.status = .running ∧ Ended t below o ∧ R t o
theorem own_in {tb : Tables} {e : Env} {below : List Frame} {R : State → Outcome → Prop} {A : State} (h : own_G tb e below R A) : ∃ t o, Steps tb e below A t ∧ t.status = .running ∧ Ended t below o ∧ R t o := h
theorem own_pre {tb : Tables} {e : Env} {below : List Frame} {R : State → Outcome → Prop} {A B : State} (k : ∀ t, Steps tb e below B t → Steps tb e below A t) (h : own_G tb e below R B) : own_G tb e below R A := by
  obtain ⟨t, o, h1, h2⟩ := h
  exact ⟨t, o, k t h1, h2⟩
/-! a part of a walk: from A the run comes to some state that answers P -/
def own_J (tb : Tables) (e : Env) (below : List Frame) (P : State → Prop) (A : State) : Prop := ∃ B, P B ∧ ∀ t, Steps tb e below B t → Steps tb e below A t
theorem own_preJ {tb : Tables} {e : Env} {below : List Frame} {P : State → Prop} {A B : State} (k : ∀ t, Steps tb e below B t → Steps tb e below A t) (h : own_J tb e below P B) : own_J tb e below P A := by
  obtain ⟨C, h1, h2⟩ := h
  exact ⟨C, h1, fun t q => k t (h2 t q)⟩
theorem own_more {p : Program} {l : Launch} {e : Env} {R : Room} {s : State} {m : MethodId} {args : Array Value} {below : List Frame} {meth : Method} {c : Code} {T : State} {locs : List Loc} {cells slots cells' slots' : Nat} (X : Stand p l e R s m args below meth c T locs cells slots) (h : cells ≤ cells') (h' : slots ≤ slots') : Stand p l e R s m args below meth c T locs cells' slots' :=
  { X with same := X.same.mono h h' }
theorem ow {d : Jvm.Cond} (i : Nat) (h : tables_1[i]? = some d) : d ∈ tables_1 := List.mem_of_getElem? h
theorem d1_0 : decode prog_21_method_6_code 0 = .ok (.iload_n 0, 1) := by decide +kernel
theorem d1_1 : decode prog_21_method_6_code 1 = .ok (.bipush 103, 2) := by decide +kernel
theorem d1_3 : decode prog_21_method_6_code 3 = .ok (.if_icmp .lt 17, 3) := by decide +kernel
theorem d1_6 : decode prog_21_method_6_code 6 = .ok (.iload_n 0, 1) := by decide +kernel
theorem d1_7 : decode prog_21_method_6_code 7 = .ok (.bipush 119, 2) := by decide +kernel
theorem d1_9 : decode prog_21_method_6_code 9 = .ok (.if_icmp .ge 11, 3) := by decide +kernel
theorem d1_12 : decode prog_21_method_6_code 12 = .ok (.iload_n 0, 1) := by decide +kernel
theorem d1_13 : decode prog_21_method_6_code 13 = .ok (.bipush 103, 2) := by decide +kernel
theorem d1_15 : decode prog_21_method_6_code 15 = .ok (.isub, 1) := by decide +kernel
theorem d1_16 : decode prog_21_method_6_code 16 = .ok (.istore_n 1, 1) := by decide +kernel
theorem d1_17 : decode prog_21_method_6_code 17 = .ok (.goto 25, 3) := by decide +kernel
theorem d1_20 : decode prog_21_method_6_code 20 = .ok (.iload_n 0, 1) := by decide +kernel
theorem d1_21 : decode prog_21_method_6_code 21 = .ok (.bipush 71, 2) := by decide +kernel
theorem d1_23 : decode prog_21_method_6_code 23 = .ok (.if_icmp .lt 17, 3) := by decide +kernel
theorem d1_26 : decode prog_21_method_6_code 26 = .ok (.iload_n 0, 1) := by decide +kernel
theorem d1_27 : decode prog_21_method_6_code 27 = .ok (.bipush 87, 2) := by decide +kernel
theorem d1_29 : decode prog_21_method_6_code 29 = .ok (.if_icmp .ge 11, 3) := by decide +kernel
theorem d1_32 : decode prog_21_method_6_code 32 = .ok (.iload_n 0, 1) := by decide +kernel
theorem d1_33 : decode prog_21_method_6_code 33 = .ok (.bipush 71, 2) := by decide +kernel
theorem d1_35 : decode prog_21_method_6_code 35 = .ok (.isub, 1) := by decide +kernel
theorem d1_36 : decode prog_21_method_6_code 36 = .ok (.istore_n 1, 1) := by decide +kernel
theorem d1_37 : decode prog_21_method_6_code 37 = .ok (.goto 5, 3) := by decide +kernel
theorem d1_40 : decode prog_21_method_6_code 40 = .ok (.iconst (-1), 1) := by decide +kernel
theorem d1_41 : decode prog_21_method_6_code 41 = .ok (.istore_n 1, 1) := by decide +kernel
theorem d1_42 : decode prog_21_method_6_code 42 = .ok (.iload_n 1, 1) := by decide +kernel
theorem d1_43 : decode prog_21_method_6_code 43 = .ok (.ireturn, 1) := by decide +kernel
theorem pn_1 : plainName "com/example/anableps/anableps/codec/LetterHex" = true := by first | (simp [plainName, overriddenIn]; done) | decide +kernel
theorem ef_1 (m : MethodId) (x0 : Int32) : entryFrame m #[(.int x0)] 2 = mkF m 0 #[.val (.int x0), .unset] [] := by first | (simp [entryFrame, mkF, argsToLocals, Value.category]; done) | rfl
def own_f1 (p1 : Int32) : Int32 := (if p1 < (103 : Int32) then (if p1 < (71 : Int32) then (-1 : Int32) else (if p1 < (87 : Int32) then (p1 - (71 : Int32)) else (-1 : Int32))) else (if p1 < (119 : Int32) then (p1 - (103 : Int32)) else (if p1 < (71 : Int32) then (-1 : Int32) else (if p1 < (87 : Int32) then (p1 - (71 : Int32)) else (-1 : Int32)))))
def Q1 (Z : State) (p1 : Int32) (h0 : Heap) (n0 : Nat) (v : Option Value) (h : Heap) (L : List Loc) : Prop := v = some (.int (own_f1 p1)) ∧ Fr n0 L ∧ h = h0
set_option maxRecDepth 65536 in
set_option maxHeartbeats 40000000 in
theorem rm1 (l : Launch) (Z : State) (a0 : Array Value) (hw : ∀ d ∈ tables_1, d.before a0 Z = true) (ws : List Jvm.Cond) (p1 : Int32) (h0 : Heap) (n0 : Nat) (Z0 : n0 ≤ h0.size) :
    MetFree l (⟨"com/example/anableps/anableps/codec/LetterHex", "letterValue", "(C)I"⟩ : MethodName) (head1 (Jvm.Cond.code (⟨"com/example/anableps/anableps/codec/LetterHex", "letterValue", "(C)I"⟩ : MethodName) prog_21_method_6_code 2 (some .int) :: ws) ({ frames := 0, cells := 0, slots := 0, locals := 0 } : Room)) (fun a U => a = #[(.int p1)] ∧ Z.Warmed39 U.vm ∧ U.heap = h0) (fun _ _ _ _ _ => True) (fun _ U o U' => ∃ v L, o = .returned v ∧ Q1 Z p1 h0 n0 v U'.heap L ∧ FrameEnd U o U' L ({ frames := 0, cells := 0, slots := 0, locals := 0 } : Room).cells ({ frames := 0, cells := 0, slots := 0, locals := 0 } : Room).slots) := by
  refine MetFree.of_bodySF (plainFor_of_name pn_1) hisR ?_
  intro p e s m args below meth c s₁ Bd hml0 hP hK
  obtain ⟨rfl, hZ, hh⟩ := hP
  have hx := Bd.exec
  have hby := Bd.bytes
  have hml : c.maxLocals = 2 := hml0
  have hown : s.vm.findClass "com/example/anableps/anableps/codec/LetterHex" = some m.cls := findClass_of_methodNamed Bd.named
  have hnm := (name_of_methodNamed Bd.named Bd.method).1
  have X0 : Stand p l e ({ frames := 0, cells := 0, slots := 0, locals := 0 } : Room) s m #[(.int p1)] below meth c s₁ [] 0 0 := Stand.of_body Bd
  have e0 : s₁.heap = h0 := by rw [← hh, Bd.state]; rfl
  have N0 := Fr.nil n0
  apply own_in
  refine own_pre (B := s₁.setTop (mkF m 0 #[.val (.int p1), .unset] [])) (fun t k => castTop (ef_1 m p1) k) ?_
  refine own_pre (B := s₁.setTop (mkF m 1 #[.val (.int p1), .unset] [(.int p1)])) (fun t k => XS.iloadN X0.here hx rfl (hb hby d1_0) rfl k) ?_
  refine own_pre (B := s₁.setTop (mkF m 3 #[.val (.int p1), .unset] [(.int (103 : Int32)), (.int p1)])) (fun t k => XS.bipush X0.here hx rfl (hb hby d1_1) k) ?_
  by_cases hc3_2 : p1 < (103 : Int32)
  · refine own_pre (B := s₁.setTop (mkF m 20 #[.val (.int p1), .unset] [])) (fun t k => XS.icmpYes X0.here hx rfl (pc0 := 3) (pc' := 20) rfl (hb hby d1_3) rfl (tlt hc3_2).1 (by decide) (by decide) k) ?_
    refine own_pre (B := s₁.setTop (mkF m 21 #[.val (.int p1), .unset] [(.int p1)])) (fun t k => XS.iloadN X0.here hx rfl (hb hby d1_20) rfl k) ?_
    refine own_pre (B := s₁.setTop (mkF m 23 #[.val (.int p1), .unset] [(.int (71 : Int32)), (.int p1)])) (fun t k => XS.bipush X0.here hx rfl (hb hby d1_21) k) ?_
    by_cases hc23_3 : p1 < (71 : Int32)
    · refine own_pre (B := s₁.setTop (mkF m 40 #[.val (.int p1), .unset] [])) (fun t k => XS.icmpYes X0.here hx rfl (pc0 := 23) (pc' := 40) rfl (hb hby d1_23) rfl (tlt hc23_3).1 (by decide) (by decide) k) ?_
      refine own_pre (B := s₁.setTop (mkF m 41 #[.val (.int p1), .unset] [(.int (-1 : Int32))])) (fun t k => XS.iconst X0.here hx rfl (hb hby d1_40) k) ?_
      refine own_pre (B := s₁.setTop (mkF m 42 #[.val (.int p1), .val (.int (-1 : Int32))] [])) (fun t k => XS.istoreN X0.here hx rfl (hb hby d1_41) rfl (l' := #[.val (.int p1), .val (.int (-1 : Int32))]) rfl k) ?_
      refine own_pre (B := s₁.setTop (mkF m 43 #[.val (.int p1), .val (.int (-1 : Int32))] [(.int (-1 : Int32))])) (fun t k => XS.iloadN X0.here hx rfl (hb hby d1_42) rfl k) ?_
      obtain ⟨fsr4, hrr4, hrunr4, hendedr4, hWr4, hsamer4⟩ := X0.leave (v := some (.int (-1 : Int32))) (fun h => by rw [Bd.returns] at h; cases h)
      refine ⟨_, _, (retI X0 hx Bd.returns (hb hby d1_43) hrr4), hrunr4, hendedr4, _, _, rfl, ?_, ⟨_, rfl⟩, hWr4, hsamer4.mono (by decide) (by decide)⟩
      show Q1 Z p1 h0 n0 _ s₁.heap _
      rw [e0]
      exact ⟨(by unfold own_f1; rw [if_pos hc3_2, if_pos hc23_3]), N0, rfl⟩
    · refine own_pre (B := s₁.setTop (mkF m 26 #[.val (.int p1), .unset] [])) (fun t k => XS.icmpNo X0.here hx rfl (hb hby d1_23) rfl (flt hc23_3).1 k) ?_
      refine own_pre (B := s₁.setTop (mkF m 27 #[.val (.int p1), .unset] [(.int p1)])) (fun t k => XS.iloadN X0.here hx rfl (hb hby d1_26) rfl k) ?_
      refine own_pre (B := s₁.setTop (mkF m 29 #[.val (.int p1), .unset] [(.int (87 : Int32)), (.int p1)])) (fun t k => XS.bipush X0.here hx rfl (hb hby d1_27) k) ?_
      by_cases hc29_5 : p1 < (87 : Int32)
      · refine own_pre (B := s₁.setTop (mkF m 32 #[.val (.int p1), .unset] [])) (fun t k => XS.icmpNo X0.here hx rfl (hb hby d1_29) rfl (tlt hc29_5).2.1 k) ?_
        refine own_pre (B := s₁.setTop (mkF m 33 #[.val (.int p1), .unset] [(.int p1)])) (fun t k => XS.iloadN X0.here hx rfl (hb hby d1_32) rfl k) ?_
        refine own_pre (B := s₁.setTop (mkF m 35 #[.val (.int p1), .unset] [(.int (71 : Int32)), (.int p1)])) (fun t k => XS.bipush X0.here hx rfl (hb hby d1_33) k) ?_
        refine own_pre (B := s₁.setTop (mkF m 36 #[.val (.int p1), .unset] [(.int (p1 - (71 : Int32)))])) (fun t k => XS.isub X0.here hx rfl (hb hby d1_35) rfl k) ?_
        refine own_pre (B := s₁.setTop (mkF m 37 #[.val (.int p1), .val (.int (p1 - (71 : Int32)))] [])) (fun t k => XS.istoreN X0.here hx rfl (hb hby d1_36) rfl (l' := #[.val (.int p1), .val (.int (p1 - (71 : Int32)))]) rfl k) ?_
        refine own_pre (B := s₁.setTop (mkF m 42 #[.val (.int p1), .val (.int (p1 - (71 : Int32)))] [])) (fun t k => XS.goto X0.here hx rfl (pc0 := 37) (pc' := 42) rfl (hb hby d1_37) (by decide) (by decide) k) ?_
        refine own_pre (B := s₁.setTop (mkF m 43 #[.val (.int p1), .val (.int (p1 - (71 : Int32)))] [(.int (p1 - (71 : Int32)))])) (fun t k => XS.iloadN X0.here hx rfl (hb hby d1_42) rfl k) ?_
        obtain ⟨fsr6, hrr6, hrunr6, hendedr6, hWr6, hsamer6⟩ := X0.leave (v := some (.int (p1 - (71 : Int32)))) (fun h => by rw [Bd.returns] at h; cases h)
        refine ⟨_, _, (retI X0 hx Bd.returns (hb hby d1_43) hrr6), hrunr6, hendedr6, _, _, rfl, ?_, ⟨_, rfl⟩, hWr6, hsamer6.mono (by decide) (by decide)⟩
        show Q1 Z p1 h0 n0 _ s₁.heap _
        rw [e0]
        exact ⟨(by unfold own_f1; rw [if_pos hc3_2, if_neg hc23_3, if_pos hc29_5]), N0, rfl⟩
      · refine own_pre (B := s₁.setTop (mkF m 40 #[.val (.int p1), .unset] [])) (fun t k => XS.icmpYes X0.here hx rfl (pc0 := 29) (pc' := 40) rfl (hb hby d1_29) rfl (flt hc29_5).2.1 (by decide) (by decide) k) ?_
        refine own_pre (B := s₁.setTop (mkF m 41 #[.val (.int p1), .unset] [(.int (-1 : Int32))])) (fun t k => XS.iconst X0.here hx rfl (hb hby d1_40) k) ?_
        refine own_pre (B := s₁.setTop (mkF m 42 #[.val (.int p1), .val (.int (-1 : Int32))] [])) (fun t k => XS.istoreN X0.here hx rfl (hb hby d1_41) rfl (l' := #[.val (.int p1), .val (.int (-1 : Int32))]) rfl k) ?_
        refine own_pre (B := s₁.setTop (mkF m 43 #[.val (.int p1), .val (.int (-1 : Int32))] [(.int (-1 : Int32))])) (fun t k => XS.iloadN X0.here hx rfl (hb hby d1_42) rfl k) ?_
        obtain ⟨fsr7, hrr7, hrunr7, hendedr7, hWr7, hsamer7⟩ := X0.leave (v := some (.int (-1 : Int32))) (fun h => by rw [Bd.returns] at h; cases h)
        refine ⟨_, _, (retI X0 hx Bd.returns (hb hby d1_43) hrr7), hrunr7, hendedr7, _, _, rfl, ?_, ⟨_, rfl⟩, hWr7, hsamer7.mono (by decide) (by decide)⟩
        show Q1 Z p1 h0 n0 _ s₁.heap _
        rw [e0]
        exact ⟨(by unfold own_f1; rw [if_pos hc3_2, if_neg hc23_3, if_neg hc29_5]), N0, rfl⟩
  · refine own_pre (B := s₁.setTop (mkF m 6 #[.val (.int p1), .unset] [])) (fun t k => XS.icmpNo X0.here hx rfl (hb hby d1_3) rfl (flt hc3_2).1 k) ?_
    refine own_pre (B := s₁.setTop (mkF m 7 #[.val (.int p1), .unset] [(.int p1)])) (fun t k => XS.iloadN X0.here hx rfl (hb hby d1_6) rfl k) ?_
    refine own_pre (B := s₁.setTop (mkF m 9 #[.val (.int p1), .unset] [(.int (119 : Int32)), (.int p1)])) (fun t k => XS.bipush X0.here hx rfl (hb hby d1_7) k) ?_
    by_cases hc9_8 : p1 < (119 : Int32)
    · refine own_pre (B := s₁.setTop (mkF m 12 #[.val (.int p1), .unset] [])) (fun t k => XS.icmpNo X0.here hx rfl (hb hby d1_9) rfl (tlt hc9_8).2.1 k) ?_
      refine own_pre (B := s₁.setTop (mkF m 13 #[.val (.int p1), .unset] [(.int p1)])) (fun t k => XS.iloadN X0.here hx rfl (hb hby d1_12) rfl k) ?_
      refine own_pre (B := s₁.setTop (mkF m 15 #[.val (.int p1), .unset] [(.int (103 : Int32)), (.int p1)])) (fun t k => XS.bipush X0.here hx rfl (hb hby d1_13) k) ?_
      refine own_pre (B := s₁.setTop (mkF m 16 #[.val (.int p1), .unset] [(.int (p1 - (103 : Int32)))])) (fun t k => XS.isub X0.here hx rfl (hb hby d1_15) rfl k) ?_
      refine own_pre (B := s₁.setTop (mkF m 17 #[.val (.int p1), .val (.int (p1 - (103 : Int32)))] [])) (fun t k => XS.istoreN X0.here hx rfl (hb hby d1_16) rfl (l' := #[.val (.int p1), .val (.int (p1 - (103 : Int32)))]) rfl k) ?_
      refine own_pre (B := s₁.setTop (mkF m 42 #[.val (.int p1), .val (.int (p1 - (103 : Int32)))] [])) (fun t k => XS.goto X0.here hx rfl (pc0 := 17) (pc' := 42) rfl (hb hby d1_17) (by decide) (by decide) k) ?_
      refine own_pre (B := s₁.setTop (mkF m 43 #[.val (.int p1), .val (.int (p1 - (103 : Int32)))] [(.int (p1 - (103 : Int32)))])) (fun t k => XS.iloadN X0.here hx rfl (hb hby d1_42) rfl k) ?_
      obtain ⟨fsr9, hrr9, hrunr9, hendedr9, hWr9, hsamer9⟩ := X0.leave (v := some (.int (p1 - (103 : Int32)))) (fun h => by rw [Bd.returns] at h; cases h)
      refine ⟨_, _, (retI X0 hx Bd.returns (hb hby d1_43) hrr9), hrunr9, hendedr9, _, _, rfl, ?_, ⟨_, rfl⟩, hWr9, hsamer9.mono (by decide) (by decide)⟩
      show Q1 Z p1 h0 n0 _ s₁.heap _
      rw [e0]
      exact ⟨(by unfold own_f1; rw [if_neg hc3_2, if_pos hc9_8]), N0, rfl⟩
    · refine own_pre (B := s₁.setTop (mkF m 20 #[.val (.int p1), .unset] [])) (fun t k => XS.icmpYes X0.here hx rfl (pc0 := 9) (pc' := 20) rfl (hb hby d1_9) rfl (flt hc9_8).2.1 (by decide) (by decide) k) ?_
      refine own_pre (B := s₁.setTop (mkF m 21 #[.val (.int p1), .unset] [(.int p1)])) (fun t k => XS.iloadN X0.here hx rfl (hb hby d1_20) rfl k) ?_
      refine own_pre (B := s₁.setTop (mkF m 23 #[.val (.int p1), .unset] [(.int (71 : Int32)), (.int p1)])) (fun t k => XS.bipush X0.here hx rfl (hb hby d1_21) k) ?_
      by_cases hc23_10 : p1 < (71 : Int32)
      · refine own_pre (B := s₁.setTop (mkF m 40 #[.val (.int p1), .unset] [])) (fun t k => XS.icmpYes X0.here hx rfl (pc0 := 23) (pc' := 40) rfl (hb hby d1_23) rfl (tlt hc23_10).1 (by decide) (by decide) k) ?_
        refine own_pre (B := s₁.setTop (mkF m 41 #[.val (.int p1), .unset] [(.int (-1 : Int32))])) (fun t k => XS.iconst X0.here hx rfl (hb hby d1_40) k) ?_
        refine own_pre (B := s₁.setTop (mkF m 42 #[.val (.int p1), .val (.int (-1 : Int32))] [])) (fun t k => XS.istoreN X0.here hx rfl (hb hby d1_41) rfl (l' := #[.val (.int p1), .val (.int (-1 : Int32))]) rfl k) ?_
        refine own_pre (B := s₁.setTop (mkF m 43 #[.val (.int p1), .val (.int (-1 : Int32))] [(.int (-1 : Int32))])) (fun t k => XS.iloadN X0.here hx rfl (hb hby d1_42) rfl k) ?_
        obtain ⟨fsr11, hrr11, hrunr11, hendedr11, hWr11, hsamer11⟩ := X0.leave (v := some (.int (-1 : Int32))) (fun h => by rw [Bd.returns] at h; cases h)
        refine ⟨_, _, (retI X0 hx Bd.returns (hb hby d1_43) hrr11), hrunr11, hendedr11, _, _, rfl, ?_, ⟨_, rfl⟩, hWr11, hsamer11.mono (by decide) (by decide)⟩
        show Q1 Z p1 h0 n0 _ s₁.heap _
        rw [e0]
        exact ⟨(by unfold own_f1; rw [if_neg hc3_2, if_neg hc9_8, if_pos hc23_10]), N0, rfl⟩
      · refine own_pre (B := s₁.setTop (mkF m 26 #[.val (.int p1), .unset] [])) (fun t k => XS.icmpNo X0.here hx rfl (hb hby d1_23) rfl (flt hc23_10).1 k) ?_
        refine own_pre (B := s₁.setTop (mkF m 27 #[.val (.int p1), .unset] [(.int p1)])) (fun t k => XS.iloadN X0.here hx rfl (hb hby d1_26) rfl k) ?_
        refine own_pre (B := s₁.setTop (mkF m 29 #[.val (.int p1), .unset] [(.int (87 : Int32)), (.int p1)])) (fun t k => XS.bipush X0.here hx rfl (hb hby d1_27) k) ?_
        by_cases hc29_12 : p1 < (87 : Int32)
        · refine own_pre (B := s₁.setTop (mkF m 32 #[.val (.int p1), .unset] [])) (fun t k => XS.icmpNo X0.here hx rfl (hb hby d1_29) rfl (tlt hc29_12).2.1 k) ?_
          refine own_pre (B := s₁.setTop (mkF m 33 #[.val (.int p1), .unset] [(.int p1)])) (fun t k => XS.iloadN X0.here hx rfl (hb hby d1_32) rfl k) ?_
          refine own_pre (B := s₁.setTop (mkF m 35 #[.val (.int p1), .unset] [(.int (71 : Int32)), (.int p1)])) (fun t k => XS.bipush X0.here hx rfl (hb hby d1_33) k) ?_
          refine own_pre (B := s₁.setTop (mkF m 36 #[.val (.int p1), .unset] [(.int (p1 - (71 : Int32)))])) (fun t k => XS.isub X0.here hx rfl (hb hby d1_35) rfl k) ?_
          refine own_pre (B := s₁.setTop (mkF m 37 #[.val (.int p1), .val (.int (p1 - (71 : Int32)))] [])) (fun t k => XS.istoreN X0.here hx rfl (hb hby d1_36) rfl (l' := #[.val (.int p1), .val (.int (p1 - (71 : Int32)))]) rfl k) ?_
          refine own_pre (B := s₁.setTop (mkF m 42 #[.val (.int p1), .val (.int (p1 - (71 : Int32)))] [])) (fun t k => XS.goto X0.here hx rfl (pc0 := 37) (pc' := 42) rfl (hb hby d1_37) (by decide) (by decide) k) ?_
          refine own_pre (B := s₁.setTop (mkF m 43 #[.val (.int p1), .val (.int (p1 - (71 : Int32)))] [(.int (p1 - (71 : Int32)))])) (fun t k => XS.iloadN X0.here hx rfl (hb hby d1_42) rfl k) ?_
          obtain ⟨fsr13, hrr13, hrunr13, hendedr13, hWr13, hsamer13⟩ := X0.leave (v := some (.int (p1 - (71 : Int32)))) (fun h => by rw [Bd.returns] at h; cases h)
          refine ⟨_, _, (retI X0 hx Bd.returns (hb hby d1_43) hrr13), hrunr13, hendedr13, _, _, rfl, ?_, ⟨_, rfl⟩, hWr13, hsamer13.mono (by decide) (by decide)⟩
          show Q1 Z p1 h0 n0 _ s₁.heap _
          rw [e0]
          exact ⟨(by unfold own_f1; rw [if_neg hc3_2, if_neg hc9_8, if_neg hc23_10, if_pos hc29_12]), N0, rfl⟩
        · refine own_pre (B := s₁.setTop (mkF m 40 #[.val (.int p1), .unset] [])) (fun t k => XS.icmpYes X0.here hx rfl (pc0 := 29) (pc' := 40) rfl (hb hby d1_29) rfl (flt hc29_12).2.1 (by decide) (by decide) k) ?_
          refine own_pre (B := s₁.setTop (mkF m 41 #[.val (.int p1), .unset] [(.int (-1 : Int32))])) (fun t k => XS.iconst X0.here hx rfl (hb hby d1_40) k) ?_
          refine own_pre (B := s₁.setTop (mkF m 42 #[.val (.int p1), .val (.int (-1 : Int32))] [])) (fun t k => XS.istoreN X0.here hx rfl (hb hby d1_41) rfl (l' := #[.val (.int p1), .val (.int (-1 : Int32))]) rfl k) ?_
          refine own_pre (B := s₁.setTop (mkF m 43 #[.val (.int p1), .val (.int (-1 : Int32))] [(.int (-1 : Int32))])) (fun t k => XS.iloadN X0.here hx rfl (hb hby d1_42) rfl k) ?_
          obtain ⟨fsr14, hrr14, hrunr14, hendedr14, hWr14, hsamer14⟩ := X0.leave (v := some (.int (-1 : Int32))) (fun h => by rw [Bd.returns] at h; cases h)
          refine ⟨_, _, (retI X0 hx Bd.returns (hb hby d1_43) hrr14), hrunr14, hendedr14, _, _, rfl, ?_, ⟨_, rfl⟩, hWr14, hsamer14.mono (by decide) (by decide)⟩
          show Q1 Z p1 h0 n0 _ s₁.heap _
          rw [e0]
          exact ⟨(by unfold own_f1; rw [if_neg hc3_2, if_neg hc9_8, if_neg hc23_10, if_neg hc29_12]), N0, rfl⟩
theorem own_f1_int (c : Int32) : (103 ≤ c.toInt → c.toInt ≤ 118 → (own_f1 c).toInt = c.toInt - 103) ∧ (71 ≤ c.toInt → c.toInt ≤ 86 → (own_f1 c).toInt = c.toInt - 71) ∧ (c.toInt < 71 ∨ (86 < c.toInt ∧ c.toInt < 103) ∨ 118 < c.toInt → (own_f1 c).toInt = -1) := by
  have e1 : (103 : Int32).toInt = 103 := by decide
  have e2 : (119 : Int32).toInt = 119 := by decide
  have e3 : (71 : Int32).toInt = 71 := by decide
  have e4 : (87 : Int32).toInt = 87 := by decide
  have e5 : (-1 : Int32).toInt = -1 := by decide
  have s1 := c_isub c 103
  have s2 := c_isub c 71
  have r0 := rng32 c
  have r1 := rng32 (c - 103)
  have r2 := rng32 (c - 71)
  unfold own_f1
  simp only [Int32.lt_iff_toInt_lt]
  refine ⟨fun a b => ?_, fun a b => ?_, fun a => ?_⟩ <;> repeat' split
  all_goals omega
theorem own_exp {c z1 z2 : Int32} (h0 : 0 ≤ c.toInt) (h9 : c.toInt < 65536) (hz1 : z1 = (if c < (65 : Int32) then c else (if (90 : Int32) < c then c else (c + (32 : Int32))))) (hz2 : z2 = (if z1 < (103 : Int32) then (-1 : Int32) else (if (118 : Int32) < z1 then (-1 : Int32) else (z1 - (103 : Int32))))) : own_f1 c = z2 := by
  obtain ⟨f1, f2, f3⟩ := own_f1_int c
  have e1 : (103 : Int32).toInt = 103 := by decide
  have e2 : (118 : Int32).toInt = 118 := by decide
  have e3 : (65 : Int32).toInt = 65 := by decide
  have e4 : (90 : Int32).toInt = 90 := by decide
  have e5 : (-1 : Int32).toInt = -1 := by decide
  have e6 : (32 : Int32).toInt = 32 := by decide
  have s1 := c_iadd c 32
  have s2 := c_isub z1 103
  have r0 := rng32 c
  have r1 := rng32 (c + 32)
  have r2 := rng32 (z1 - 103)
  have hz1' : z1.toInt = if 65 ≤ c.toInt ∧ c.toInt ≤ 90 then c.toInt + 32 else c.toInt := by
    rw [hz1]; simp only [Int32.lt_iff_toInt_lt]; repeat' split
    all_goals omega
  rw [← Int32.toInt_inj, hz2]; simp only [Int32.lt_iff_toInt_lt]
  split at hz1' <;> repeat' split
  all_goals omega
theorem own_round {d : Int32} (h0 : 0 ≤ d.toInt) (h9 : d.toInt < 16) : own_f1 ((103 : Int32) + d).toUInt32.toUInt16.toUInt32.toInt32 = d ∧ own_f1 ((71 : Int32) + d).toUInt32.toUInt16.toUInt32.toInt32 = d := by
  have e1 : (103 : Int32).toInt = 103 := by decide
  have e3 : (71 : Int32).toInt = 71 := by decide
  have a1 := c_iadd 103 d
  have a2 := c_iadd 71 d
  have r1 := rng32 (103 + d)
  have r2 := rng32 (71 + d)
  have b1 := c_i2c (103 + d)
  have b2 := c_i2c (71 + d)
  obtain ⟨f1, f2, f3⟩ := own_f1_int ((103 : Int32) + d).toUInt32.toUInt16.toUInt32.toInt32
  obtain ⟨f4, f5, f6⟩ := own_f1_int ((71 : Int32) + d).toUInt32.toUInt16.toUInt32.toInt32
  rw [← Int32.toInt_inj, ← Int32.toInt_inj]
  omega
theorem own_d (y : Int32) : 0 ≤ (y &&& 15).toInt ∧ (y &&& 15).toInt < 16 := by
  have := c_mask y 15 4 (by decide) (by decide)
  omega
theorem pd_0 : parseMethodDescriptor "(C)I" = some ⟨[.char], some .int⟩ := by decide +kernel
theorem pn_0 : plainName "com/example/anableps/anableps/codec/LetterHexLetterValuePinLaw" = true := by first | (simp [plainName, overriddenIn]; done) | decide +kernel
theorem ef_0 (m : MethodId) (x0 : Int32) (x1 : Int32) : entryFrame m #[(.int x0), (.int x1)] maxLocals = mkF m 0 #[.val (.int x0), .val (.int x1), .unset, .unset, .unset, .unset, .unset, .unset] [] := by first | (simp [entryFrame, mkF, argsToLocals, Value.category, maxLocals]; done) | rfl
def Q0 (Z : State) (p1 : Int32) (p2 : Int32) (h0 : Heap) (n0 : Nat) (v : Option Value) (h : Heap) (L : List Loc) : Prop := v = some (.int 1) ∧ Fr n0 L
set_option maxRecDepth 65536 in
set_option maxHeartbeats 40000000 in
theorem rm0 (l : Launch) (Z : State) (a0 : Array Value) (hw : ∀ d ∈ tables_1, d.before a0 Z = true) (ws : List Jvm.Cond) (p1 : Int32) (p2 : Int32) (h0 : Heap) (n0 : Nat) (Z0 : n0 ≤ h0.size) :
    MetFree l x (head1 (Jvm.Cond.code x code maxLocals ret :: ws) room_1) (fun a U => a = #[(.int p1), (.int p2)] ∧ Z.Warmed39 U.vm ∧ U.heap = h0) (fun _ _ _ _ _ => True) (fun _ U o U' => ∃ v L, o = .returned v ∧ Q0 Z p1 p2 h0 n0 v U'.heap L ∧ FrameEnd U o U' L 0 0) := by
  refine MetFree.of_bodySF (plainFor_of_name pn_0) hisR ?_
  intro p e s m args below meth c s₁ Bd hml0 hP hK
  obtain ⟨rfl, hZ, hh⟩ := hP
  have hx := Bd.exec
  have hby := Bd.bytes
  have hml : c.maxLocals = 8 := hml0
  have hown : s.vm.findClass "com/example/anableps/anableps/codec/LetterHexLetterValuePinLaw" = some m.cls := findClass_of_methodNamed Bd.named
  have hnm := (name_of_methodNamed Bd.named Bd.method).1
  have X0 : Stand p l e room_1 s m #[(.int p1), (.int p2)] below meth c s₁ [] 0 0 := Stand.of_body Bd
  have e0 : s₁.heap = h0 := by rw [← hh, Bd.state]; rfl
  have N0 := Fr.nil n0
  apply own_in
  refine own_pre (B := s₁.setTop (mkF m 0 #[.val (.int p1), .val (.int p2), .unset, .unset, .unset, .unset, .unset, .unset] [])) (fun t k => castTop (ef_0 m p1 p2) k) ?_
  refine own_pre (B := s₁.setTop (mkF m 1 #[.val (.int p1), .val (.int p2), .unset, .unset, .unset, .unset, .unset, .unset] [(.int p1)])) (fun t k => XS.iloadN X0.here hx rfl (hb hby at_0) rfl k) ?_
  refine own_pre (B := s₁.setTop (mkF m 3 #[.val (.int p1), .val (.int p2), .unset, .unset, .unset, .unset, .unset, .unset] [(.int (65535 : Int32)), (.int p1)])) (fun t k => X0.ldcInt hx hown (mvT hZ (hw _ (ow 0 rfl))) (g := (mkF m 1 #[.val (.int p1), .val (.int p2), .unset, .unset, .unset, .unset, .unset, .unset] [(.int p1)])) rfl (hb hby at_1) _ k) ?_
  refine own_pre (B := s₁.setTop (mkF m 4 #[.val (.int p1), .val (.int p2), .unset, .unset, .unset, .unset, .unset, .unset] [(.int (p1 &&& (65535 : Int32)))])) (fun t k => XS.iand X0.here hx rfl (hb hby at_3) rfl k) ?_
  refine own_pre (B := s₁.setTop (mkF m 5 #[.val (.int p1), .val (.int p2), .unset, .unset, .unset, .unset, .unset, .unset] [(.int ((p1 &&& (65535 : Int32)).toUInt32.toUInt16.toUInt32.toInt32))])) (fun t k => XS.i2c X0.here hx rfl (hb hby at_4) rfl k) ?_
  refine own_pre (B := s₁.setTop (mkF m 6 #[.val (.int p1), .val (.int p2), .val (.int ((p1 &&& (65535 : Int32)).toUInt32.toUInt16.toUInt32.toInt32)), .unset, .unset, .unset, .unset, .unset] [])) (fun t k => XS.istoreN X0.here hx rfl (hb hby at_5) rfl (l' := #[.val (.int p1), .val (.int p2), .val (.int ((p1 &&& (65535 : Int32)).toUInt32.toUInt16.toUInt32.toInt32)), .unset, .unset, .unset, .unset, .unset]) rfl k) ?_
  refine own_pre (B := s₁.setTop (mkF m 7 #[.val (.int p1), .val (.int p2), .val (.int ((p1 &&& (65535 : Int32)).toUInt32.toUInt16.toUInt32.toInt32)), .unset, .unset, .unset, .unset, .unset] [(.int ((p1 &&& (65535 : Int32)).toUInt32.toUInt16.toUInt32.toInt32))])) (fun t k => XS.iloadN X0.here hx rfl (hb hby at_6) rfl k) ?_
  refine own_pre (B := s₁.setTop (mkF m 9 #[.val (.int p1), .val (.int p2), .val (.int ((p1 &&& (65535 : Int32)).toUInt32.toUInt16.toUInt32.toInt32)), .unset, .unset, .unset, .unset, .unset] [(.int (65 : Int32)), (.int ((p1 &&& (65535 : Int32)).toUInt32.toUInt16.toUInt32.toInt32))])) (fun t k => XS.bipush X0.here hx rfl (hb hby at_7) k) ?_
  obtain ⟨z3, hz3⟩ : ∃ z : Int32, z = (if ((p1 &&& (65535 : Int32)).toUInt32.toUInt16.toUInt32.toInt32) < (65 : Int32) then ((p1 &&& (65535 : Int32)).toUInt32.toUInt16.toUInt32.toInt32) else (if (90 : Int32) < ((p1 &&& (65535 : Int32)).toUInt32.toUInt16.toUInt32.toInt32) then ((p1 &&& (65535 : Int32)).toUInt32.toUInt16.toUInt32.toInt32) else (((p1 &&& (65535 : Int32)).toUInt32.toUInt16.toUInt32.toInt32) + (32 : Int32)))) := ⟨_, rfl⟩
  refine own_pre (B := s₁.setTop (mkF m 26 #[.val (.int p1), .val (.int p2), .val (.int ((p1 &&& (65535 : Int32)).toUInt32.toUInt16.toUInt32.toInt32)), .unset, .unset, .unset, .unset, .unset] [(.int z3)])) (fun t k => ?_) ?_
  · by_cases hc9_4 : ((p1 &&& (65535 : Int32)).toUInt32.toUInt16.toUInt32.toInt32) < (65 : Int32)
    · refine XS.icmpYes X0.here hx rfl (pc0 := 9) (pc' := 25) rfl (hb hby at_9) rfl (tlt hc9_4).1 (by decide) (by decide) ?_
      show Steps p.tables e below (s₁.setTop (mkF m 25 #[.val (.int p1), .val (.int p2), .val (.int ((p1 &&& (65535 : Int32)).toUInt32.toUInt16.toUInt32.toInt32)), .unset, .unset, .unset, .unset, .unset] [])) _
      refine XS.iloadN X0.here hx rfl (hb hby at_25) rfl ?_
      show Steps p.tables e below (s₁.setTop (mkF m 26 #[.val (.int p1), .val (.int p2), .val (.int ((p1 &&& (65535 : Int32)).toUInt32.toUInt16.toUInt32.toInt32)), .unset, .unset, .unset, .unset, .unset] [(.int ((p1 &&& (65535 : Int32)).toUInt32.toUInt16.toUInt32.toInt32))])) _
      rw [if_pos hc9_4] at hz3
      subst hz3
      exact k
    · refine XS.icmpNo X0.here hx rfl (hb hby at_9) rfl (flt hc9_4).1 ?_
      show Steps p.tables e below (s₁.setTop (mkF m 12 #[.val (.int p1), .val (.int p2), .val (.int ((p1 &&& (65535 : Int32)).toUInt32.toUInt16.toUInt32.toInt32)), .unset, .unset, .unset, .unset, .unset] [])) _
      refine XS.iloadN X0.here hx rfl (hb hby at_12) rfl ?_
      show Steps p.tables e below (s₁.setTop (mkF m 13 #[.val (.int p1), .val (.int p2), .val (.int ((p1 &&& (65535 : Int32)).toUInt32.toUInt16.toUInt32.toInt32)), .unset, .unset, .unset, .unset, .unset] [(.int ((p1 &&& (65535 : Int32)).toUInt32.toUInt16.toUInt32.toInt32))])) _
      refine XS.bipush X0.here hx rfl (hb hby at_13) ?_
      show Steps p.tables e below (s₁.setTop (mkF m 15 #[.val (.int p1), .val (.int p2), .val (.int ((p1 &&& (65535 : Int32)).toUInt32.toUInt16.toUInt32.toInt32)), .unset, .unset, .unset, .unset, .unset] [(.int (90 : Int32)), (.int ((p1 &&& (65535 : Int32)).toUInt32.toUInt16.toUInt32.toInt32))])) _
      by_cases hc15_5 : (90 : Int32) < ((p1 &&& (65535 : Int32)).toUInt32.toUInt16.toUInt32.toInt32)
      · refine XS.icmpYes X0.here hx rfl (pc0 := 15) (pc' := 25) rfl (hb hby at_15) rfl (tlt hc15_5).2.2.1 (by decide) (by decide) ?_
        show Steps p.tables e below (s₁.setTop (mkF m 25 #[.val (.int p1), .val (.int p2), .val (.int ((p1 &&& (65535 : Int32)).toUInt32.toUInt16.toUInt32.toInt32)), .unset, .unset, .unset, .unset, .unset] [])) _
        refine XS.iloadN X0.here hx rfl (hb hby at_25) rfl ?_
        show Steps p.tables e below (s₁.setTop (mkF m 26 #[.val (.int p1), .val (.int p2), .val (.int ((p1 &&& (65535 : Int32)).toUInt32.toUInt16.toUInt32.toInt32)), .unset, .unset, .unset, .unset, .unset] [(.int ((p1 &&& (65535 : Int32)).toUInt32.toUInt16.toUInt32.toInt32))])) _
        rw [if_neg hc9_4, if_pos hc15_5] at hz3
        subst hz3
        exact k
      · refine XS.icmpNo X0.here hx rfl (hb hby at_15) rfl (flt hc15_5).2.2.1 ?_
        show Steps p.tables e below (s₁.setTop (mkF m 18 #[.val (.int p1), .val (.int p2), .val (.int ((p1 &&& (65535 : Int32)).toUInt32.toUInt16.toUInt32.toInt32)), .unset, .unset, .unset, .unset, .unset] [])) _
        refine XS.iloadN X0.here hx rfl (hb hby at_18) rfl ?_
        show Steps p.tables e below (s₁.setTop (mkF m 19 #[.val (.int p1), .val (.int p2), .val (.int ((p1 &&& (65535 : Int32)).toUInt32.toUInt16.toUInt32.toInt32)), .unset, .unset, .unset, .unset, .unset] [(.int ((p1 &&& (65535 : Int32)).toUInt32.toUInt16.toUInt32.toInt32))])) _
        refine XS.bipush X0.here hx rfl (hb hby at_19) ?_
        show Steps p.tables e below (s₁.setTop (mkF m 21 #[.val (.int p1), .val (.int p2), .val (.int ((p1 &&& (65535 : Int32)).toUInt32.toUInt16.toUInt32.toInt32)), .unset, .unset, .unset, .unset, .unset] [(.int (32 : Int32)), (.int ((p1 &&& (65535 : Int32)).toUInt32.toUInt16.toUInt32.toInt32))])) _
        refine XS.iadd X0.here hx rfl (hb hby at_21) rfl ?_
        show Steps p.tables e below (s₁.setTop (mkF m 22 #[.val (.int p1), .val (.int p2), .val (.int ((p1 &&& (65535 : Int32)).toUInt32.toUInt16.toUInt32.toInt32)), .unset, .unset, .unset, .unset, .unset] [(.int (((p1 &&& (65535 : Int32)).toUInt32.toUInt16.toUInt32.toInt32) + (32 : Int32)))])) _
        refine XS.goto X0.here hx rfl (pc0 := 22) (pc' := 26) rfl (hb hby at_22) (by decide) (by decide) ?_
        show Steps p.tables e below (s₁.setTop (mkF m 26 #[.val (.int p1), .val (.int p2), .val (.int ((p1 &&& (65535 : Int32)).toUInt32.toUInt16.toUInt32.toInt32)), .unset, .unset, .unset, .unset, .unset] [(.int (((p1 &&& (65535 : Int32)).toUInt32.toUInt16.toUInt32.toInt32) + (32 : Int32)))])) _
        rw [if_neg hc9_4, if_neg hc15_5] at hz3
        subst hz3
        exact k
  refine own_pre (B := s₁.setTop (mkF m 27 #[.val (.int p1), .val (.int p2), .val (.int ((p1 &&& (65535 : Int32)).toUInt32.toUInt16.toUInt32.toInt32)), .val (.int z3), .unset, .unset, .unset, .unset] [])) (fun t k => XS.istoreN X0.here hx rfl (hb hby at_26) rfl (l' := #[.val (.int p1), .val (.int p2), .val (.int ((p1 &&& (65535 : Int32)).toUInt32.toUInt16.toUInt32.toInt32)), .val (.int z3), .unset, .unset, .unset, .unset]) rfl k) ?_
  refine own_pre (B := s₁.setTop (mkF m 28 #[.val (.int p1), .val (.int p2), .val (.int ((p1 &&& (65535 : Int32)).toUInt32.toUInt16.toUInt32.toInt32)), .val (.int z3), .unset, .unset, .unset, .unset] [(.int z3)])) (fun t k => XS.iloadN X0.here hx rfl (hb hby at_27) rfl k) ?_
  refine own_pre (B := s₁.setTop (mkF m 30 #[.val (.int p1), .val (.int p2), .val (.int ((p1 &&& (65535 : Int32)).toUInt32.toUInt16.toUInt32.toInt32)), .val (.int z3), .unset, .unset, .unset, .unset] [(.int (103 : Int32)), (.int z3)])) (fun t k => XS.bipush X0.here hx rfl (hb hby at_28) k) ?_
  obtain ⟨z6, hz6⟩ : ∃ z : Int32, z = (if z3 < (103 : Int32) then (-1 : Int32) else (if (118 : Int32) < z3 then (-1 : Int32) else (z3 - (103 : Int32)))) := ⟨_, rfl⟩
  refine own_pre (B := s₁.setTop (mkF m 47 #[.val (.int p1), .val (.int p2), .val (.int ((p1 &&& (65535 : Int32)).toUInt32.toUInt16.toUInt32.toInt32)), .val (.int z3), .unset, .unset, .unset, .unset] [(.int z6)])) (fun t k => ?_) ?_
  · by_cases hc30_7 : z3 < (103 : Int32)
    · refine XS.icmpYes X0.here hx rfl (pc0 := 30) (pc' := 46) rfl (hb hby at_30) rfl (tlt hc30_7).1 (by decide) (by decide) ?_
      show Steps p.tables e below (s₁.setTop (mkF m 46 #[.val (.int p1), .val (.int p2), .val (.int ((p1 &&& (65535 : Int32)).toUInt32.toUInt16.toUInt32.toInt32)), .val (.int z3), .unset, .unset, .unset, .unset] [])) _
      refine XS.iconst X0.here hx rfl (hb hby at_46) ?_
      show Steps p.tables e below (s₁.setTop (mkF m 47 #[.val (.int p1), .val (.int p2), .val (.int ((p1 &&& (65535 : Int32)).toUInt32.toUInt16.toUInt32.toInt32)), .val (.int z3), .unset, .unset, .unset, .unset] [(.int (-1 : Int32))])) _
      rw [if_pos hc30_7] at hz6
      subst hz6
      exact k
    · refine XS.icmpNo X0.here hx rfl (hb hby at_30) rfl (flt hc30_7).1 ?_
      show Steps p.tables e below (s₁.setTop (mkF m 33 #[.val (.int p1), .val (.int p2), .val (.int ((p1 &&& (65535 : Int32)).toUInt32.toUInt16.toUInt32.toInt32)), .val (.int z3), .unset, .unset, .unset, .unset] [])) _
      refine XS.iloadN X0.here hx rfl (hb hby at_33) rfl ?_
      show Steps p.tables e below (s₁.setTop (mkF m 34 #[.val (.int p1), .val (.int p2), .val (.int ((p1 &&& (65535 : Int32)).toUInt32.toUInt16.toUInt32.toInt32)), .val (.int z3), .unset, .unset, .unset, .unset] [(.int z3)])) _
      refine XS.bipush X0.here hx rfl (hb hby at_34) ?_
      show Steps p.tables e below (s₁.setTop (mkF m 36 #[.val (.int p1), .val (.int p2), .val (.int ((p1 &&& (65535 : Int32)).toUInt32.toUInt16.toUInt32.toInt32)), .val (.int z3), .unset, .unset, .unset, .unset] [(.int (118 : Int32)), (.int z3)])) _
      by_cases hc36_8 : (118 : Int32) < z3
      · refine XS.icmpYes X0.here hx rfl (pc0 := 36) (pc' := 46) rfl (hb hby at_36) rfl (tlt hc36_8).2.2.1 (by decide) (by decide) ?_
        show Steps p.tables e below (s₁.setTop (mkF m 46 #[.val (.int p1), .val (.int p2), .val (.int ((p1 &&& (65535 : Int32)).toUInt32.toUInt16.toUInt32.toInt32)), .val (.int z3), .unset, .unset, .unset, .unset] [])) _
        refine XS.iconst X0.here hx rfl (hb hby at_46) ?_
        show Steps p.tables e below (s₁.setTop (mkF m 47 #[.val (.int p1), .val (.int p2), .val (.int ((p1 &&& (65535 : Int32)).toUInt32.toUInt16.toUInt32.toInt32)), .val (.int z3), .unset, .unset, .unset, .unset] [(.int (-1 : Int32))])) _
        rw [if_neg hc30_7, if_pos hc36_8] at hz6
        subst hz6
        exact k
      · refine XS.icmpNo X0.here hx rfl (hb hby at_36) rfl (flt hc36_8).2.2.1 ?_
        show Steps p.tables e below (s₁.setTop (mkF m 39 #[.val (.int p1), .val (.int p2), .val (.int ((p1 &&& (65535 : Int32)).toUInt32.toUInt16.toUInt32.toInt32)), .val (.int z3), .unset, .unset, .unset, .unset] [])) _
        refine XS.iloadN X0.here hx rfl (hb hby at_39) rfl ?_
        show Steps p.tables e below (s₁.setTop (mkF m 40 #[.val (.int p1), .val (.int p2), .val (.int ((p1 &&& (65535 : Int32)).toUInt32.toUInt16.toUInt32.toInt32)), .val (.int z3), .unset, .unset, .unset, .unset] [(.int z3)])) _
        refine XS.bipush X0.here hx rfl (hb hby at_40) ?_
        show Steps p.tables e below (s₁.setTop (mkF m 42 #[.val (.int p1), .val (.int p2), .val (.int ((p1 &&& (65535 : Int32)).toUInt32.toUInt16.toUInt32.toInt32)), .val (.int z3), .unset, .unset, .unset, .unset] [(.int (103 : Int32)), (.int z3)])) _
        refine XS.isub X0.here hx rfl (hb hby at_42) rfl ?_
        show Steps p.tables e below (s₁.setTop (mkF m 43 #[.val (.int p1), .val (.int p2), .val (.int ((p1 &&& (65535 : Int32)).toUInt32.toUInt16.toUInt32.toInt32)), .val (.int z3), .unset, .unset, .unset, .unset] [(.int (z3 - (103 : Int32)))])) _
        refine XS.goto X0.here hx rfl (pc0 := 43) (pc' := 47) rfl (hb hby at_43) (by decide) (by decide) ?_
        show Steps p.tables e below (s₁.setTop (mkF m 47 #[.val (.int p1), .val (.int p2), .val (.int ((p1 &&& (65535 : Int32)).toUInt32.toUInt16.toUInt32.toInt32)), .val (.int z3), .unset, .unset, .unset, .unset] [(.int (z3 - (103 : Int32)))])) _
        rw [if_neg hc30_7, if_neg hc36_8] at hz6
        subst hz6
        exact k
  refine own_pre (B := s₁.setTop (mkF m 49 #[.val (.int p1), .val (.int p2), .val (.int ((p1 &&& (65535 : Int32)).toUInt32.toUInt16.toUInt32.toInt32)), .val (.int z3), .val (.int z6), .unset, .unset, .unset] [])) (fun t k => XS.istore X0.here hx rfl (hb hby at_47) rfl (l' := #[.val (.int p1), .val (.int p2), .val (.int ((p1 &&& (65535 : Int32)).toUInt32.toUInt16.toUInt32.toInt32)), .val (.int z3), .val (.int z6), .unset, .unset, .unset]) rfl k) ?_
  refine own_pre (B := s₁.setTop (mkF m 50 #[.val (.int p1), .val (.int p2), .val (.int ((p1 &&& (65535 : Int32)).toUInt32.toUInt16.toUInt32.toInt32)), .val (.int z3), .val (.int z6), .unset, .unset, .unset] [(.int p2)])) (fun t k => XS.iloadN X0.here hx rfl (hb hby at_49) rfl k) ?_
  refine own_pre (B := s₁.setTop (mkF m 52 #[.val (.int p1), .val (.int p2), .val (.int ((p1 &&& (65535 : Int32)).toUInt32.toUInt16.toUInt32.toInt32)), .val (.int z3), .val (.int z6), .unset, .unset, .unset] [(.int (15 : Int32)), (.int p2)])) (fun t k => XS.bipush X0.here hx rfl (hb hby at_50) k) ?_
  refine own_pre (B := s₁.setTop (mkF m 53 #[.val (.int p1), .val (.int p2), .val (.int ((p1 &&& (65535 : Int32)).toUInt32.toUInt16.toUInt32.toInt32)), .val (.int z3), .val (.int z6), .unset, .unset, .unset] [(.int (p2 &&& (15 : Int32)))])) (fun t k => XS.iand X0.here hx rfl (hb hby at_52) rfl k) ?_
  refine own_pre (B := s₁.setTop (mkF m 55 #[.val (.int p1), .val (.int p2), .val (.int ((p1 &&& (65535 : Int32)).toUInt32.toUInt16.toUInt32.toInt32)), .val (.int z3), .val (.int z6), .val (.int (p2 &&& (15 : Int32))), .unset, .unset] [])) (fun t k => XS.istore X0.here hx rfl (hb hby at_53) rfl (l' := #[.val (.int p1), .val (.int p2), .val (.int ((p1 &&& (65535 : Int32)).toUInt32.toUInt16.toUInt32.toInt32)), .val (.int z3), .val (.int z6), .val (.int (p2 &&& (15 : Int32))), .unset, .unset]) rfl k) ?_
  refine own_pre (B := s₁.setTop (mkF m 57 #[.val (.int p1), .val (.int p2), .val (.int ((p1 &&& (65535 : Int32)).toUInt32.toUInt16.toUInt32.toInt32)), .val (.int z3), .val (.int z6), .val (.int (p2 &&& (15 : Int32))), .unset, .unset] [(.int (103 : Int32))])) (fun t k => XS.bipush X0.here hx rfl (hb hby at_55) k) ?_
  refine own_pre (B := s₁.setTop (mkF m 59 #[.val (.int p1), .val (.int p2), .val (.int ((p1 &&& (65535 : Int32)).toUInt32.toUInt16.toUInt32.toInt32)), .val (.int z3), .val (.int z6), .val (.int (p2 &&& (15 : Int32))), .unset, .unset] [(.int (p2 &&& (15 : Int32))), (.int (103 : Int32))])) (fun t k => XS.iload X0.here hx rfl (hb hby at_57) rfl k) ?_
  refine own_pre (B := s₁.setTop (mkF m 60 #[.val (.int p1), .val (.int p2), .val (.int ((p1 &&& (65535 : Int32)).toUInt32.toUInt16.toUInt32.toInt32)), .val (.int z3), .val (.int z6), .val (.int (p2 &&& (15 : Int32))), .unset, .unset] [(.int ((103 : Int32) + (p2 &&& (15 : Int32))))])) (fun t k => XS.iadd X0.here hx rfl (hb hby at_59) rfl k) ?_
  refine own_pre (B := s₁.setTop (mkF m 61 #[.val (.int p1), .val (.int p2), .val (.int ((p1 &&& (65535 : Int32)).toUInt32.toUInt16.toUInt32.toInt32)), .val (.int z3), .val (.int z6), .val (.int (p2 &&& (15 : Int32))), .unset, .unset] [(.int (((103 : Int32) + (p2 &&& (15 : Int32))).toUInt32.toUInt16.toUInt32.toInt32))])) (fun t k => XS.i2c X0.here hx rfl (hb hby at_60) rfl k) ?_
  refine own_pre (B := s₁.setTop (mkF m 63 #[.val (.int p1), .val (.int p2), .val (.int ((p1 &&& (65535 : Int32)).toUInt32.toUInt16.toUInt32.toInt32)), .val (.int z3), .val (.int z6), .val (.int (p2 &&& (15 : Int32))), .val (.int (((103 : Int32) + (p2 &&& (15 : Int32))).toUInt32.toUInt16.toUInt32.toInt32)), .unset] [])) (fun t k => XS.istore X0.here hx rfl (hb hby at_61) rfl (l' := #[.val (.int p1), .val (.int p2), .val (.int ((p1 &&& (65535 : Int32)).toUInt32.toUInt16.toUInt32.toInt32)), .val (.int z3), .val (.int z6), .val (.int (p2 &&& (15 : Int32))), .val (.int (((103 : Int32) + (p2 &&& (15 : Int32))).toUInt32.toUInt16.toUInt32.toInt32)), .unset]) rfl k) ?_
  refine own_pre (B := s₁.setTop (mkF m 65 #[.val (.int p1), .val (.int p2), .val (.int ((p1 &&& (65535 : Int32)).toUInt32.toUInt16.toUInt32.toInt32)), .val (.int z3), .val (.int z6), .val (.int (p2 &&& (15 : Int32))), .val (.int (((103 : Int32) + (p2 &&& (15 : Int32))).toUInt32.toUInt16.toUInt32.toInt32)), .unset] [(.int (71 : Int32))])) (fun t k => XS.bipush X0.here hx rfl (hb hby at_63) k) ?_
  refine own_pre (B := s₁.setTop (mkF m 67 #[.val (.int p1), .val (.int p2), .val (.int ((p1 &&& (65535 : Int32)).toUInt32.toUInt16.toUInt32.toInt32)), .val (.int z3), .val (.int z6), .val (.int (p2 &&& (15 : Int32))), .val (.int (((103 : Int32) + (p2 &&& (15 : Int32))).toUInt32.toUInt16.toUInt32.toInt32)), .unset] [(.int (p2 &&& (15 : Int32))), (.int (71 : Int32))])) (fun t k => XS.iload X0.here hx rfl (hb hby at_65) rfl k) ?_
  refine own_pre (B := s₁.setTop (mkF m 68 #[.val (.int p1), .val (.int p2), .val (.int ((p1 &&& (65535 : Int32)).toUInt32.toUInt16.toUInt32.toInt32)), .val (.int z3), .val (.int z6), .val (.int (p2 &&& (15 : Int32))), .val (.int (((103 : Int32) + (p2 &&& (15 : Int32))).toUInt32.toUInt16.toUInt32.toInt32)), .unset] [(.int ((71 : Int32) + (p2 &&& (15 : Int32))))])) (fun t k => XS.iadd X0.here hx rfl (hb hby at_67) rfl k) ?_
  refine own_pre (B := s₁.setTop (mkF m 69 #[.val (.int p1), .val (.int p2), .val (.int ((p1 &&& (65535 : Int32)).toUInt32.toUInt16.toUInt32.toInt32)), .val (.int z3), .val (.int z6), .val (.int (p2 &&& (15 : Int32))), .val (.int (((103 : Int32) + (p2 &&& (15 : Int32))).toUInt32.toUInt16.toUInt32.toInt32)), .unset] [(.int (((71 : Int32) + (p2 &&& (15 : Int32))).toUInt32.toUInt16.toUInt32.toInt32))])) (fun t k => XS.i2c X0.here hx rfl (hb hby at_68) rfl k) ?_
  refine own_pre (B := s₁.setTop (mkF m 71 #[.val (.int p1), .val (.int p2), .val (.int ((p1 &&& (65535 : Int32)).toUInt32.toUInt16.toUInt32.toInt32)), .val (.int z3), .val (.int z6), .val (.int (p2 &&& (15 : Int32))), .val (.int (((103 : Int32) + (p2 &&& (15 : Int32))).toUInt32.toUInt16.toUInt32.toInt32)), .val (.int (((71 : Int32) + (p2 &&& (15 : Int32))).toUInt32.toUInt16.toUInt32.toInt32))] [])) (fun t k => XS.istore X0.here hx rfl (hb hby at_69) rfl (l' := #[.val (.int p1), .val (.int p2), .val (.int ((p1 &&& (65535 : Int32)).toUInt32.toUInt16.toUInt32.toInt32)), .val (.int z3), .val (.int z6), .val (.int (p2 &&& (15 : Int32))), .val (.int (((103 : Int32) + (p2 &&& (15 : Int32))).toUInt32.toUInt16.toUInt32.toInt32)), .val (.int (((71 : Int32) + (p2 &&& (15 : Int32))).toUInt32.toUInt16.toUInt32.toInt32))]) rfl k) ?_
  refine own_pre (B := s₁.setTop (mkF m 72 #[.val (.int p1), .val (.int p2), .val (.int ((p1 &&& (65535 : Int32)).toUInt32.toUInt16.toUInt32.toInt32)), .val (.int z3), .val (.int z6), .val (.int (p2 &&& (15 : Int32))), .val (.int (((103 : Int32) + (p2 &&& (15 : Int32))).toUInt32.toUInt16.toUInt32.toInt32)), .val (.int (((71 : Int32) + (p2 &&& (15 : Int32))).toUInt32.toUInt16.toUInt32.toInt32))] [(.int ((p1 &&& (65535 : Int32)).toUInt32.toUInt16.toUInt32.toInt32))])) (fun t k => XS.iloadN X0.here hx rfl (hb hby at_71) rfl k) ?_
  obtain ⟨_, _, ⟨T9, L9, k9, n9⟩, -, X9, ⟨Lc9, hQ9, l9, y9, z9⟩, st9⟩ := Jvm.LawKit.callS X0 hx (y := (⟨"com/example/anableps/anableps/codec/LetterHex", "letterValue", "(C)I"⟩ : MethodName)) hown (mvT hZ (hw _ (ow 1 rfl))) (mvT hZ (hw _ (ow 2 rfl))) (mvT hZ (hw _ (ow 3 rfl))) (mvT hZ (hw _ (ow 4 rfl))) (by decide) (backOf (W := 0) (rm1 l Z a0 hw [] ((p1 &&& (65535 : Int32)).toUInt32.toUInt16.toUInt32.toInt32) h0 n0 Z0 ) hZ (hw _ (ow 4 rfl)) (hw _ (ow 3 rfl)) (by decide) (by decide)) (g := (mkF m 72 #[.val (.int p1), .val (.int p2), .val (.int ((p1 &&& (65535 : Int32)).toUInt32.toUInt16.toUInt32.toInt32)), .val (.int z3), .val (.int z6), .val (.int (p2 &&& (15 : Int32))), .val (.int (((103 : Int32) + (p2 &&& (15 : Int32))).toUInt32.toUInt16.toUInt32.toInt32)), .val (.int (((71 : Int32) + (p2 &&& (15 : Int32))).toUInt32.toUInt16.toUInt32.toInt32))] [(.int ((p1 &&& (65535 : Int32)).toUInt32.toUInt16.toUInt32.toInt32))])) rfl (by rw [hml]; rfl) (argsL := [(.int ((p1 &&& (65535 : Int32)).toUInt32.toUInt16.toUInt32.toInt32))]) (rest := []) (lenOf pd_0 rfl) rfl (by show 2 * 0 + _ ≤ _; exact Nat.le_of_eq rfl) (hb hby at_72) (fun _ _ => ⟨rfl, e0, (by decide : 0 + 0 ≤ _), (by decide : 0 + 0 ≤ _)⟩)
  dsimp only [Pt.U, Pt.locs, Pt.cells, Pt.slots] at X9 l9 y9 z9 st9 hQ9
  subst l9 y9 z9
  obtain ⟨rfl, N9q, e9⟩ := hQ9
  have N9 := Fr.app N0 N9q
  refine own_pre (B := T9.setTop (mkF m 75 #[.val (.int p1), .val (.int p2), .val (.int ((p1 &&& (65535 : Int32)).toUInt32.toUInt16.toUInt32.toInt32)), .val (.int z3), .val (.int z6), .val (.int (p2 &&& (15 : Int32))), .val (.int (((103 : Int32) + (p2 &&& (15 : Int32))).toUInt32.toUInt16.toUInt32.toInt32)), .val (.int (((71 : Int32) + (p2 &&& (15 : Int32))).toUInt32.toUInt16.toUInt32.toInt32))] [(.int (own_f1 ((p1 &&& (65535 : Int32)).toUInt32.toUInt16.toUInt32.toInt32)))])) (fun t k => st9 t k) ?_
  refine own_pre (B := T9.setTop (mkF m 77 #[.val (.int p1), .val (.int p2), .val (.int ((p1 &&& (65535 : Int32)).toUInt32.toUInt16.toUInt32.toInt32)), .val (.int z3), .val (.int z6), .val (.int (p2 &&& (15 : Int32))), .val (.int (((103 : Int32) + (p2 &&& (15 : Int32))).toUInt32.toUInt16.toUInt32.toInt32)), .val (.int (((71 : Int32) + (p2 &&& (15 : Int32))).toUInt32.toUInt16.toUInt32.toInt32))] [(.int z6), (.int (own_f1 ((p1 &&& (65535 : Int32)).toUInt32.toUInt16.toUInt32.toInt32)))])) (fun t k => XS.iload X9.here hx rfl (hb hby at_75) rfl k) ?_
  refine own_pre (B := T9.setTop (mkF m 80 #[.val (.int p1), .val (.int p2), .val (.int ((p1 &&& (65535 : Int32)).toUInt32.toUInt16.toUInt32.toInt32)), .val (.int z3), .val (.int z6), .val (.int (p2 &&& (15 : Int32))), .val (.int (((103 : Int32) + (p2 &&& (15 : Int32))).toUInt32.toUInt16.toUInt32.toInt32)), .val (.int (((71 : Int32) + (p2 &&& (15 : Int32))).toUInt32.toUInt16.toUInt32.toInt32))] [])) (fun t k => XS.icmpNo X9.here hx rfl (hb hby at_77) rfl (teq (own_exp (c_i2c _).2.1 (c_i2c _).2.2 hz3 hz6)).2 k) ?_
  refine own_pre (B := T9.setTop (mkF m 82 #[.val (.int p1), .val (.int p2), .val (.int ((p1 &&& (65535 : Int32)).toUInt32.toUInt16.toUInt32.toInt32)), .val (.int z3), .val (.int z6), .val (.int (p2 &&& (15 : Int32))), .val (.int (((103 : Int32) + (p2 &&& (15 : Int32))).toUInt32.toUInt16.toUInt32.toInt32)), .val (.int (((71 : Int32) + (p2 &&& (15 : Int32))).toUInt32.toUInt16.toUInt32.toInt32))] [(.int (((103 : Int32) + (p2 &&& (15 : Int32))).toUInt32.toUInt16.toUInt32.toInt32))])) (fun t k => XS.iload X9.here hx rfl (hb hby at_80) rfl k) ?_
  obtain ⟨_, _, ⟨T10, L10, k10, n10⟩, -, X10, ⟨Lc10, hQ10, l10, y10, z10⟩, st10⟩ := Jvm.LawKit.callS X9 hx (y := (⟨"com/example/anableps/anableps/codec/LetterHex", "letterValue", "(C)I"⟩ : MethodName)) hown (mvT hZ (hw _ (ow 1 rfl))) (mvT hZ (hw _ (ow 2 rfl))) (mvT hZ (hw _ (ow 3 rfl))) (mvT hZ (hw _ (ow 4 rfl))) (by decide) (backOf (W := 0) (rm1 l Z a0 hw [] (((103 : Int32) + (p2 &&& (15 : Int32))).toUInt32.toUInt16.toUInt32.toInt32) h0 n0 Z0 ) hZ (hw _ (ow 4 rfl)) (hw _ (ow 3 rfl)) (by decide) (by decide)) (g := (mkF m 82 #[.val (.int p1), .val (.int p2), .val (.int ((p1 &&& (65535 : Int32)).toUInt32.toUInt16.toUInt32.toInt32)), .val (.int z3), .val (.int z6), .val (.int (p2 &&& (15 : Int32))), .val (.int (((103 : Int32) + (p2 &&& (15 : Int32))).toUInt32.toUInt16.toUInt32.toInt32)), .val (.int (((71 : Int32) + (p2 &&& (15 : Int32))).toUInt32.toUInt16.toUInt32.toInt32))] [(.int (((103 : Int32) + (p2 &&& (15 : Int32))).toUInt32.toUInt16.toUInt32.toInt32))])) rfl (by rw [hml]; rfl) (argsL := [(.int (((103 : Int32) + (p2 &&& (15 : Int32))).toUInt32.toUInt16.toUInt32.toInt32))]) (rest := []) (lenOf pd_0 rfl) rfl (by show 2 * 0 + _ ≤ _; exact Nat.le_of_eq rfl) (hb hby at_82) (fun _ _ => ⟨rfl, e9, (by decide : 0 + 0 ≤ _), (by decide : 0 + 0 ≤ _)⟩)
  dsimp only [Pt.U, Pt.locs, Pt.cells, Pt.slots] at X10 l10 y10 z10 st10 hQ10
  subst l10 y10 z10
  obtain ⟨rfl, N10q, e10⟩ := hQ10
  have N10 := Fr.app N9 N10q
  refine own_pre (B := T10.setTop (mkF m 85 #[.val (.int p1), .val (.int p2), .val (.int ((p1 &&& (65535 : Int32)).toUInt32.toUInt16.toUInt32.toInt32)), .val (.int z3), .val (.int z6), .val (.int (p2 &&& (15 : Int32))), .val (.int (((103 : Int32) + (p2 &&& (15 : Int32))).toUInt32.toUInt16.toUInt32.toInt32)), .val (.int (((71 : Int32) + (p2 &&& (15 : Int32))).toUInt32.toUInt16.toUInt32.toInt32))] [(.int (own_f1 (((103 : Int32) + (p2 &&& (15 : Int32))).toUInt32.toUInt16.toUInt32.toInt32)))])) (fun t k => st10 t k) ?_
  refine own_pre (B := T10.setTop (mkF m 87 #[.val (.int p1), .val (.int p2), .val (.int ((p1 &&& (65535 : Int32)).toUInt32.toUInt16.toUInt32.toInt32)), .val (.int z3), .val (.int z6), .val (.int (p2 &&& (15 : Int32))), .val (.int (((103 : Int32) + (p2 &&& (15 : Int32))).toUInt32.toUInt16.toUInt32.toInt32)), .val (.int (((71 : Int32) + (p2 &&& (15 : Int32))).toUInt32.toUInt16.toUInt32.toInt32))] [(.int (p2 &&& (15 : Int32))), (.int (own_f1 (((103 : Int32) + (p2 &&& (15 : Int32))).toUInt32.toUInt16.toUInt32.toInt32)))])) (fun t k => XS.iload X10.here hx rfl (hb hby at_85) rfl k) ?_
  refine own_pre (B := T10.setTop (mkF m 90 #[.val (.int p1), .val (.int p2), .val (.int ((p1 &&& (65535 : Int32)).toUInt32.toUInt16.toUInt32.toInt32)), .val (.int z3), .val (.int z6), .val (.int (p2 &&& (15 : Int32))), .val (.int (((103 : Int32) + (p2 &&& (15 : Int32))).toUInt32.toUInt16.toUInt32.toInt32)), .val (.int (((71 : Int32) + (p2 &&& (15 : Int32))).toUInt32.toUInt16.toUInt32.toInt32))] [])) (fun t k => XS.icmpNo X10.here hx rfl (hb hby at_87) rfl (teq (own_round (own_d _).1 (own_d _).2).1).2 k) ?_
  refine own_pre (B := T10.setTop (mkF m 92 #[.val (.int p1), .val (.int p2), .val (.int ((p1 &&& (65535 : Int32)).toUInt32.toUInt16.toUInt32.toInt32)), .val (.int z3), .val (.int z6), .val (.int (p2 &&& (15 : Int32))), .val (.int (((103 : Int32) + (p2 &&& (15 : Int32))).toUInt32.toUInt16.toUInt32.toInt32)), .val (.int (((71 : Int32) + (p2 &&& (15 : Int32))).toUInt32.toUInt16.toUInt32.toInt32))] [(.int (((71 : Int32) + (p2 &&& (15 : Int32))).toUInt32.toUInt16.toUInt32.toInt32))])) (fun t k => XS.iload X10.here hx rfl (hb hby at_90) rfl k) ?_
  obtain ⟨_, _, ⟨T11, L11, k11, n11⟩, -, X11, ⟨Lc11, hQ11, l11, y11, z11⟩, st11⟩ := Jvm.LawKit.callS X10 hx (y := (⟨"com/example/anableps/anableps/codec/LetterHex", "letterValue", "(C)I"⟩ : MethodName)) hown (mvT hZ (hw _ (ow 1 rfl))) (mvT hZ (hw _ (ow 2 rfl))) (mvT hZ (hw _ (ow 3 rfl))) (mvT hZ (hw _ (ow 4 rfl))) (by decide) (backOf (W := 0) (rm1 l Z a0 hw [] (((71 : Int32) + (p2 &&& (15 : Int32))).toUInt32.toUInt16.toUInt32.toInt32) h0 n0 Z0 ) hZ (hw _ (ow 4 rfl)) (hw _ (ow 3 rfl)) (by decide) (by decide)) (g := (mkF m 92 #[.val (.int p1), .val (.int p2), .val (.int ((p1 &&& (65535 : Int32)).toUInt32.toUInt16.toUInt32.toInt32)), .val (.int z3), .val (.int z6), .val (.int (p2 &&& (15 : Int32))), .val (.int (((103 : Int32) + (p2 &&& (15 : Int32))).toUInt32.toUInt16.toUInt32.toInt32)), .val (.int (((71 : Int32) + (p2 &&& (15 : Int32))).toUInt32.toUInt16.toUInt32.toInt32))] [(.int (((71 : Int32) + (p2 &&& (15 : Int32))).toUInt32.toUInt16.toUInt32.toInt32))])) rfl (by rw [hml]; rfl) (argsL := [(.int (((71 : Int32) + (p2 &&& (15 : Int32))).toUInt32.toUInt16.toUInt32.toInt32))]) (rest := []) (lenOf pd_0 rfl) rfl (by show 2 * 0 + _ ≤ _; exact Nat.le_of_eq rfl) (hb hby at_92) (fun _ _ => ⟨rfl, e10, (by decide : 0 + 0 ≤ _), (by decide : 0 + 0 ≤ _)⟩)
  dsimp only [Pt.U, Pt.locs, Pt.cells, Pt.slots] at X11 l11 y11 z11 st11 hQ11
  subst l11 y11 z11
  obtain ⟨rfl, N11q, e11⟩ := hQ11
  have N11 := Fr.app N10 N11q
  refine own_pre (B := T11.setTop (mkF m 95 #[.val (.int p1), .val (.int p2), .val (.int ((p1 &&& (65535 : Int32)).toUInt32.toUInt16.toUInt32.toInt32)), .val (.int z3), .val (.int z6), .val (.int (p2 &&& (15 : Int32))), .val (.int (((103 : Int32) + (p2 &&& (15 : Int32))).toUInt32.toUInt16.toUInt32.toInt32)), .val (.int (((71 : Int32) + (p2 &&& (15 : Int32))).toUInt32.toUInt16.toUInt32.toInt32))] [(.int (own_f1 (((71 : Int32) + (p2 &&& (15 : Int32))).toUInt32.toUInt16.toUInt32.toInt32)))])) (fun t k => st11 t k) ?_
  refine own_pre (B := T11.setTop (mkF m 97 #[.val (.int p1), .val (.int p2), .val (.int ((p1 &&& (65535 : Int32)).toUInt32.toUInt16.toUInt32.toInt32)), .val (.int z3), .val (.int z6), .val (.int (p2 &&& (15 : Int32))), .val (.int (((103 : Int32) + (p2 &&& (15 : Int32))).toUInt32.toUInt16.toUInt32.toInt32)), .val (.int (((71 : Int32) + (p2 &&& (15 : Int32))).toUInt32.toUInt16.toUInt32.toInt32))] [(.int (p2 &&& (15 : Int32))), (.int (own_f1 (((71 : Int32) + (p2 &&& (15 : Int32))).toUInt32.toUInt16.toUInt32.toInt32)))])) (fun t k => XS.iload X11.here hx rfl (hb hby at_95) rfl k) ?_
  refine own_pre (B := T11.setTop (mkF m 100 #[.val (.int p1), .val (.int p2), .val (.int ((p1 &&& (65535 : Int32)).toUInt32.toUInt16.toUInt32.toInt32)), .val (.int z3), .val (.int z6), .val (.int (p2 &&& (15 : Int32))), .val (.int (((103 : Int32) + (p2 &&& (15 : Int32))).toUInt32.toUInt16.toUInt32.toInt32)), .val (.int (((71 : Int32) + (p2 &&& (15 : Int32))).toUInt32.toUInt16.toUInt32.toInt32))] [])) (fun t k => XS.icmpNo X11.here hx rfl (hb hby at_97) rfl (teq (own_round (own_d _).1 (own_d _).2).2).2 k) ?_
  refine own_pre (B := T11.setTop (mkF m 101 #[.val (.int p1), .val (.int p2), .val (.int ((p1 &&& (65535 : Int32)).toUInt32.toUInt16.toUInt32.toInt32)), .val (.int z3), .val (.int z6), .val (.int (p2 &&& (15 : Int32))), .val (.int (((103 : Int32) + (p2 &&& (15 : Int32))).toUInt32.toUInt16.toUInt32.toInt32)), .val (.int (((71 : Int32) + (p2 &&& (15 : Int32))).toUInt32.toUInt16.toUInt32.toInt32))] [(.int (1 : Int32))])) (fun t k => XS.iconst X11.here hx rfl (hb hby at_100) k) ?_
  refine own_pre (B := T11.setTop (mkF m 105 #[.val (.int p1), .val (.int p2), .val (.int ((p1 &&& (65535 : Int32)).toUInt32.toUInt16.toUInt32.toInt32)), .val (.int z3), .val (.int z6), .val (.int (p2 &&& (15 : Int32))), .val (.int (((103 : Int32) + (p2 &&& (15 : Int32))).toUInt32.toUInt16.toUInt32.toInt32)), .val (.int (((71 : Int32) + (p2 &&& (15 : Int32))).toUInt32.toUInt16.toUInt32.toInt32))] [(.int (1 : Int32))])) (fun t k => XS.goto X11.here hx rfl (pc0 := 101) (pc' := 105) rfl (hb hby at_101) (by decide) (by decide) k) ?_
  obtain ⟨fsr12, hrr12, hrunr12, hendedr12, hWr12, hsamer12⟩ := X11.leave (v := some (.int (1 : Int32))) (fun h => by rw [Bd.returns] at h; cases h)
  refine ⟨_, _, (retN X11 hx (t := .boolean) Bd.returns (by simp) (hb hby at_105) hrr12), hrunr12, hendedr12, _, _, rfl, ?_, ⟨_, rfl⟩, hWr12, hsamer12.mono (by decide) (by decide)⟩
  show Q0 Z p1 p2 h0 n0 _ T11.heap _
  rw [e11]
  exact ⟨rfl, N11⟩
set_option maxRecDepth 65536 in
set_option maxHeartbeats 40000000 in
theorem comes_1 {Post : Tables → Env → Array Value → State → Outcome → State → Prop} (hpost : ∀ tb e args s v u, (limb_1_1.after args s (.returned v) u = true ∧ limb_1_2.after args s (.returned v) u = true ∧ True) → FrameEnd s (.returned v) u (Jvm.fieldLocs frame_1_writes args s ++ Jvm.arrayLocs frame_1_arrays args s ++ Jvm.staticLocs frame_1_statics s) 0 0 → Post tb e args s (.returned v) u) :
    ArmFor flags0 classFile x code maxLocals ret World_1 tables_1 room_1 Calls_1 rest_1 Pre_1 Post := by
  intro l hfl _ _ p e ha hc hk s m args below hf hA hF happ hP
  obtain ⟨hcalls, hrest, hpre⟩ := hP
  obtain ⟨-, -, -, hnamed, -, -, -, hat⟩ := (Spec.applies_iff hf).mp happ
  obtain ⟨hg, hn⟩ := and_e (Cond.before_iff.mp (show (Jvm.Cond.and given_1 narrow_1).before args s = true from hpre))
  obtain ⟨g1, g2⟩ := and_e hg
  obtain ⟨g3, g4⟩ := and_e g2
  obtain ⟨w0, w1, rfl⟩ : ∃ w0 w1 : Value, args = #[w0, w1] := by
    have hs : args.size = 2 := by simpa [Cond.value, given_1] using g1
    obtain ⟨L⟩ := args
    match L, hs with
    | [w0, w1], _ => exact ⟨w0, w1, rfl⟩
  have hw := fun d (hd : d ∈ tables_1) => atoms_spec (ws := Jvm.Cond.code x code maxLocals ret :: tables_1) hat d (List.mem_cons_of_mem _ hd)
  have hfit : Fit s := fun {y c} hc i hi => by
    obtain ⟨ha, rfl⟩ := Array.getElem?_eq_some_iff.mp hc
    have q := List.all_eq_true.mp ((Array.all_eq_true_iff_forall_mem.mp hF) _ (Array.getElem_mem ha)) i (List.mem_range.mpr hi)
    simpa [Array.getElem?_eq_getElem hi] using q
  obtain ⟨i0, ei0⟩ := is_v g3
  obtain rfl : w0 = (.int i0) := Option.some.inj ei0
  obtain ⟨i1, ei1⟩ := is_v g4
  obtain rfl : w1 = (.int i1) := Option.some.inj ei1
  obtain ⟨n, o, h1, h2, h3, _, L, rfl, ⟨rfl, N⟩, hq⟩ := rm0 l s _ hw tables_1 i0 i1  s.heap s.heap.size (Nat.le_refl _)  p e ha hc hk s m _ below hf ((Spec.applies_iff_loose hf).mp happ).1 ⟨rfl, State.Warmed39.refl s, rfl⟩ trivial
  refine ⟨n, _, h1, h2, h3, hpost _ _ _ _ _ _ ⟨Cond.after_iff.mpr rfl, Cond.after_iff.mpr (eq_i res_at (Term.int_eval (1)) rfl), trivial⟩ ⟨hq.1, hq.2.1, (hq.2.2.sift fun y hy => Or.inr (N y hy)).mono (by decide) (by decide)⟩⟩
theorem main_1_1 : Claimed_1_1 := comes_1 fun _ _ _ _ _ _ h hF => ⟨h.1, hF⟩
theorem main_1_2 : Claimed_1_2 := comes_1 fun _ _ _ _ _ _ h hF => ⟨h.2.1, hF⟩
end Jvm.Pilot.@@N@@
namespace Jvm.Pilot.@@N@@
open Jvm Jvm.ClassFile Sem Op Lib Jvm.Free Jvm.Stand Jvm.Pilot.@@N@@.Jvm.D
/-! MADE BY PROGRAM (witnessworld.py) out of the Statement's table words and the real class files: 9 classes; the members and pool entries that the words name. The judged class is class 1, her method 1. -/
namespace start1
open Jvm.ClassFile
def u (s : String) : CpInfo := .utf8 (stringToUtf16 s)
/-- a pool by its gaps: so many unusable entries, then the entry; so many at the end -/
def gap : Nat → List CpInfo → List CpInfo
  | 0, r => r
  | n + 1, r => .unusable :: gap n r
def poolList (es : List (Nat × CpInfo)) (last : Nat) : List CpInfo := es.foldr (fun e r => gap e.1 (e.2 :: r)) (gap last [])
def pool (es : List (Nat × CpInfo)) (last : Nat) : Array CpInfo := ⟨poolList es last⟩
def fileOf (pool : Array CpInfo) (this : Nat) (attrs : Array Attribute := #[]) (ms : Array MethodInfo := #[]) (fl : Nat := 33) (sup : Nat := 0) (ifs : Array Nat := #[]) (fds : Array FieldInfo := #[]) : ClassFile where
  minorVersion := 0
  majorVersion := 65
  constantPool := pool
  accessFlags := fl
  thisClass := this
  superClass := sup
  interfaces := ifs
  fields := fds
  methods := ms
  attributes := attrs
def plain (name : String) (sup : Option ClassId) : Class where
  name := name
  kind := .ordinary
  loader := none
  accessFlags := 33
  super := sup
  interfaces := #[]
  cf := none
  fields := #[]
  methods := #[]
  instanceTypes := #[]
  staticTypes := #[]
  resolved := #[]
  callSites := []
  init := .initialized
  statics := none
  mirror := none

def pool0 : Array CpInfo := pool [(5, u "<init>"), (0, u "()V"), (1, .class_ 10), (1, u "java/lang/Object")] 113

def k0m0 : Method := { name := "<init>", desc := "()V", sig := { parameters := [], returnType := none }, accessFlags := 1, code := none }
/-- java/lang/Object -/
def k0 : Class := { plain "java/lang/Object" none with
  accessFlags := 33
  interfaces := #[]
  cf := some (fileOf pool0 8 #[] #[{ accessFlags := 1, nameIndex := 5, descriptorIndex := 6, attributes := #[] }] 33 0 #[] #[])
  fields := #[]
  methods := #[k0m0]
  instanceTypes := #[]
  staticTypes := #[]
  resolved := Array.replicate 124 none
  statics := none }

def pool1 : Array CpInfo := pool [(2, .class_ 4), (1, u "java/lang/Object"), (0, u "<init>"), (0, u "()V"), (0, .integer 65535), (0, .methodref 9 10), (0, .class_ 11), (0, .nameAndType 12 13), (0, u "com/example/anableps/anableps/codec/LetterHex"), (0, u "letterValue"), (0, u "(C)I"), (0, .class_ 15), (0, u "com/example/anableps/anableps/codec/LetterHexLetterValuePinLaw"), (2, u "law"), (0, u "(II)Z")] 3

def k1m0 : Method := { name := "<init>", desc := "()V", sig := { parameters := [], returnType := none }, accessFlags := 1, code := none }
def k1c1 : Code := { maxStack := 2, maxLocals := 8, code := code, exceptionTable := #[], attributes := #[] }
def k1m1 : Method := { name := "law", desc := "(II)Z", sig := { parameters := [.int, .int], returnType := some .boolean }, accessFlags := 9, code := some k1c1 }
/-- com/example/anableps/anableps/codec/LetterHexLetterValuePinLaw -/
def k1 : Class := { plain "com/example/anableps/anableps/codec/LetterHexLetterValuePinLaw" (some 0) with
  accessFlags := 49
  interfaces := #[]
  cf := some (fileOf pool1 14 #[] #[{ accessFlags := 1, nameIndex := 5, descriptorIndex := 6, attributes := #[] }, { accessFlags := 9, nameIndex := 18, descriptorIndex := 19, attributes := #[] }] 49 2 #[] #[])
  fields := #[]
  methods := #[k1m0, k1m1]
  instanceTypes := #[]
  staticTypes := #[]
  resolved := Array.replicate 23 none
  statics := none }

def pool2 : Array CpInfo := pool [(2, .class_ 4), (1, u "java/lang/Object"), (0, u "<init>"), (0, u "()V"), (6, .class_ 14), (0, u "com/example/anableps/anableps/codec/LetterHex"), (33, u "(C)I"), (2, .class_ 52), (0, u "com/example/anableps/anableps/codec/LetterHex$Digits"), (3, u "DIGIT_BITS"), (0, u "I"), (2, u "FIRST_LETTER"), (0, u "C"), (1, u "LETTERS"), (11, u "letterValue")] 5

def k2m0 : Method := { name := "<init>", desc := "()V", sig := { parameters := [], returnType := none }, accessFlags := 2, code := none }
def k2c1 : Code := { maxStack := 2, maxLocals := 2, code := prog_21_method_6_code, exceptionTable := #[], attributes := #[] }
def k2m1 : Method := { name := "letterValue", desc := "(C)I", sig := { parameters := [.char], returnType := some .int }, accessFlags := 9, code := some k2c1 }
/-- com/example/anableps/anableps/codec/LetterHex -/
def k2 : Class := { plain "com/example/anableps/anableps/codec/LetterHex" (some 0) with
  accessFlags := 33
  interfaces := #[]
  cf := some (fileOf pool2 13 #[.nestMembers #[51]] #[{ accessFlags := 2, nameIndex := 5, descriptorIndex := 6, attributes := #[] }, { accessFlags := 9, nameIndex := 75, descriptorIndex := 48, attributes := #[] }] 33 2 #[] #[{ accessFlags := 25, nameIndex := 56, descriptorIndex := 57, attributes := #[] }, { accessFlags := 26, nameIndex := 60, descriptorIndex := 61, attributes := #[] }, { accessFlags := 26, nameIndex := 63, descriptorIndex := 57, attributes := #[] }])
  fields := #[{ name := "DIGIT_BITS", type := .int, accessFlags := 25, slot := 0, constantValue := 0 }, { name := "FIRST_LETTER", type := .char, accessFlags := 26, slot := 1, constantValue := 0 }, { name := "LETTERS", type := .int, accessFlags := 26, slot := 2, constantValue := 0 }]
  methods := #[k2m0, k2m1]
  instanceTypes := #[]
  staticTypes := #[.int, .char, .int]
  resolved := Array.replicate 81 none
  statics := none }

def pool3 : Array CpInfo := pool [(1, u "java/lang/Cloneable"), (0, .class_ 1), (0, u "java/lang/Object"), (0, .class_ 3)] 3

/-- java/lang/Cloneable -/
def k3 : Class := { plain "java/lang/Cloneable" (some 0) with
  accessFlags := 1537
  interfaces := #[]
  cf := some (fileOf pool3 2 #[] #[] 1537 4 #[] #[])
  fields := #[]
  methods := #[]
  instanceTypes := #[]
  staticTypes := #[]
  resolved := Array.replicate 8 none
  statics := none }

def pool4 : Array CpInfo := pool [(1, u "java/io/Serializable"), (0, .class_ 1), (0, u "java/lang/Object"), (0, .class_ 3)] 3

/-- java/io/Serializable -/
def k4 : Class := { plain "java/io/Serializable" (some 0) with
  accessFlags := 1537
  interfaces := #[]
  cf := some (fileOf pool4 2 #[] #[] 1537 4 #[] #[])
  fields := #[]
  methods := #[]
  instanceTypes := #[]
  staticTypes := #[]
  resolved := Array.replicate 8 none
  statics := none }

/-- the primitive byte -/
def k5 : Class := { plain "byte" none with kind := .primitive 'B', accessFlags := 0x411 }
/-- [B -/
def k6 : Class := { plain "[B" (some 0) with kind := .array 5 .byte, interfaces := #[3, 4], accessFlags := 1041 }

/-- the primitive int -/
def k7 : Class := { plain "int" none with kind := .primitive 'I', accessFlags := 0x411 }
/-- [I -/
def k8 : Class := { plain "[I" (some 0) with kind := .array 7 .int, interfaces := #[3, 4], accessFlags := 1041 }

def heap : Heap := #[]
def classes : Array Class := #[k0, k1, k2, k3, k4, k5, k6, k7, k8]
def interned : List (Array UInt16 × Addr) := []
def slotsUsed : Nat := 0
def theMethod : MethodId := ⟨1, 1⟩
def args0 : Array Value := #[.int 104, .int 7]
def aboutOver (below : List Frame) : State where
  vm := { classes := classes, interned := interned.toArray }
  heap := heap
  slotsUsed := slotsUsed
  threads := #[{ frames := .invoking theMethod args0 :: below }]
def below0 : List Frame := [.native { method := ⟨0, 0⟩, args := #[] }]
def about1 : State := aboutOver below0
def p0 : Program := .bare "" "" ""
def e0 : Env := launch0.env 0 0 0
theorem w_frames : about1.frames = Frame.invoking theMethod args0 :: below0 := rfl
set_option maxRecDepth 65536 in
theorem w_args : argsFit about1.vm theMethod args0 = true := by decide +kernel
set_option maxRecDepth 65536 in
theorem w_heap : heapFits about1 = true := by decide +kernel
set_option maxRecDepth 65536 in
theorem w_runnable : about1.curStatus? = some .runnable := by decide +kernel
set_option maxRecDepth 65536 in
theorem w_alone : about1.alone = true := by decide +kernel
set_option maxRecDepth 65536 in
theorem w_named : about1.methodNamed? x = some theMethod := by decide +kernel
set_option maxRecDepth 65536 in
theorem w_hears : about1.hears theMethod below0 = true := by decide +kernel
set_option maxRecDepth 65536 in
theorem w_ripe : about1.ripe theMethod args0 below0 = true := by decide +kernel
theorem w_running : about1.status = .running := rfl
set_option maxRecDepth 65536 in
theorem w_room : about1.hasRoom e0.platform room_1 = true :=
  launch0.hasRoom_least _ room_1 (by decide +kernel) (by decide +kernel) (by decide +kernel) (by decide +kernel) (by decide +kernel) (by decide +kernel)
theorem allAtoms_all (ts : List Jvm.Cond) (a : Array Jvm.Value) (st : Jvm.State) : (allAtoms ts).before a st = ts.all (fun c => c.before a st) := by
  induction ts with
  | nil => rfl
  | cons c t ih =>
    show (Jvm.Cond.and c (allAtoms t)).before a st = _
    rw [Jvm.Cond.before_and, ih, List.all_cons]
def words1 : List Jvm.Cond := Jvm.Cond.code x code maxLocals ret :: tables_1
/-- a 'code' word, met by the world's own term for the bytes: nothing is compared byte by byte -/
theorem code_word {y : MethodName} {bytes : ByteArray} {mx : Nat} {rt : Option FieldType} {a : Array Value} {s : State} {m : MethodId} {meth : Method} {c : Code} (h1 : s.methodNamed? y = some m) (h2 : s.vm.method? m = some meth) (h3 : meth.code = some c) (h4 : c.code = bytes)
    (h5 : (c.maxLocals == mx && c.exceptionTable.isEmpty && decide (c.maxStack ≤ mostOperands) && decide (meth.sig.returnType = rt) && !meth.locks && decide (parseMethodDescriptor y.desc = some meth.sig)) = true) : (Jvm.Cond.code y bytes mx rt).before a s = true := by
  simp only [Bool.and_eq_true, beq_iff_eq, Bool.not_eq_true', decide_eq_true_eq] at h5
  obtain ⟨⟨⟨⟨⟨g1, g2⟩, g3⟩, g4⟩, g5⟩, g6⟩ := h5
  simp [Cond.before, Cond.holds, Cond.value, h1, h2, h3, h4, g1, g2, g3, g4, g5, g6]
def isCode : Jvm.Cond → Bool
  | .code _ _ _ _ => true
  | _ => false
theorem all_split {L : List Jvm.Cond} {P : Jvm.Cond → Bool} (h1 : L.all (fun c => isCode c || P c) = true) (h2 : ∀ c ∈ L.filter isCode, P c = true) : L.all P = true := by
  refine List.all_eq_true.mpr fun c hc => ?_
  have h := List.all_eq_true.mp h1 c hc
  rcases Bool.eq_false_or_eq_true (isCode c) with hi | hi
  · exact h2 c (List.mem_filter.mpr ⟨hc, hi⟩)
  · simpa [hi] using h
set_option maxRecDepth 65536 in
theorem w_c0 : (Jvm.Cond.code x code maxLocals ret).before args0 about1 = true := code_word (m := ⟨1, 1⟩) (meth := k1m1) (c := k1c1) (by decide +kernel) rfl rfl rfl (by decide +kernel)
set_option maxRecDepth 65536 in
theorem w_c1 : (Jvm.Cond.code ({ cls := "com/example/anableps/anableps/codec/LetterHex", name := "letterValue", desc := "(C)I" } : Jvm.MethodName) prog_21_method_6_code (2 : Nat) (Option.some Jvm.ClassFile.FieldType.int)).before args0 about1 = true := code_word (m := ⟨2, 1⟩) (meth := k2m1) (c := k2c1) (by decide +kernel) rfl rfl rfl (by decide +kernel)
def codes1 : List Jvm.Cond := [Jvm.Cond.code x code maxLocals ret, Jvm.Cond.code ({ cls := "com/example/anableps/anableps/codec/LetterHex", name := "letterValue", desc := "(C)I" } : Jvm.MethodName) prog_21_method_6_code (2 : Nat) (Option.some Jvm.ClassFile.FieldType.int)]
set_option maxRecDepth 65536 in
theorem codes_eq : words1.filter isCode = codes1 := rfl
theorem w_codes : ∀ c ∈ words1.filter isCode, c.before args0 about1 = true := by
  rw [codes_eq]
  intro c hc
  simp only [codes1, List.mem_cons, List.not_mem_nil, or_false] at hc
  rcases hc with rfl | rfl
  · exact w_c0
  · exact w_c1
set_option maxRecDepth 65536 in
theorem w_t1 : words1.all (fun c => isCode c || c.before args0 about1) = true := by decide +kernel
theorem w_tables : (allAtoms (Jvm.Cond.code x code maxLocals ret :: tables_1)).before args0 about1 = true := by
  rw [allAtoms_all]
  show words1.all (fun c => c.before args0 about1) = true
  refine all_split ?_ w_codes
  rw [w_t1]
set_option maxRecDepth 65536 in
theorem w_case : (Jvm.Cond.and given_1 narrow_1).before args0 about1 = true := by decide +kernel
theorem w_applies : (headSpec (Jvm.Cond.code x code maxLocals ret :: tables_1) room_1).applies x e0.platform about1 = true :=
  (Spec.applies_iff w_frames).mpr ⟨w_running, w_runnable, w_alone, w_named, w_hears, w_ripe, w_room, w_tables⟩
theorem atStart : AtStart classFile x code maxLocals ret World_1 tables_1 room_1 Calls_1 rest_1 Pre_1 launch0 p0 e0 about1 theMethod args0 below0 :=
  ⟨lists_1, trivial, launch0.admits_env _ _ _, launch0.least_env, fairChoices_fair.cas, fairChoices_fair.clock, w_frames, w_args, w_heap, w_applies, trivial, trivial, w_case⟩
end start1
theorem witness_1 : WitnessClaimed_1 := ⟨start1.p0, start1.e0, start1.about1, start1.theMethod, start1.args0, start1.below0, start1.atStart⟩
end Jvm.Pilot.@@N@@
