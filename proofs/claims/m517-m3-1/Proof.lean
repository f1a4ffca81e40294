import JvmDerived
import JvmDerived.Pilot.@@N@@Statement
import JvmDerived.Pilot.@@N@@Code
set_option linter.unusedVariables false
set_option linter.unusedSimpArgs false
namespace Jvm.RoadKit
open Sem ClassFile Op Lib Jvm.Stand Jvm.Free Jvm.LawKit
section New
variable {p : Program} {l : Launch} {e : Env} {R : Room} {s : State} {m : MethodId} {args : Array Value} {below : List Frame} {meth : Method} {c : Code} {T : State} {locs : List Loc} {cells slots : Nat}
theorem retI (X : Stand p l e R s m args below meth c T locs cells slots) (hx : p.tables.exec = Jvm.exec) {pc : Nat} {Ls : Array Slot} {z : Int32} {rest : List Value} (hret : meth.sig.returnType = some .int) (hd : decode c.code pc = .ok (.ireturn, 1)) {fs : List Frame}
    (hl : ∀ (f : JFrame) (acts : List Action), f.method = m → f.locked = none → f.entered = [] → (doReturn e (T.setTop f) acts (some (.int z))).1 = T.setFrames fs) : Steps p.tables e below (T.setTop (mkF m pc Ls (.int z :: rest))) (T.setFrames fs) := by
  have hm' : T.vm.method? m = some meth := X.method'
  have hn : narrow .int (.int z) = .int z := rfl
  show Steps p.tables e below (T.setTop { method := m, pc := pc, locals := Ls, stack := _ :: rest, locked := none }) _
  jvm_step X.here [X.here.top, hx, hd, hm', hret, hn]
  first | (intro acts; rw [hl _ acts rfl rfl rfl]) | rw [hl _ _ rfl rfl rfl]
  exact Steps.refl _
end New
end Jvm.RoadKit
namespace Jvm.Pilot.@@N@@
open Jvm Jvm.ClassFile Sem Op Lib Jvm.Free Jvm.Stand Jvm.LawKit Jvm.RoadKit Bundle Jvm.Pilot.@@N@@.Jvm.D
/-! the goal of a walk, gone through forwards: from the state A the run comes to an end that answers R -/
def own_G (tb : Tables) (e : Env) (below : List Frame) (R : State → Outcome → Prop) (A : State) : Prop := ∃ t o, Steps tb e below A t ∧ t.status = .running ∧ Ended t below o ∧ R t o
theorem own_in {tb : Tables} {e : Env} {below : List Frame} {R : State → Outcome → Prop} {A : State} (h : own_G tb e below R A) : ∃ t o, Steps tb e below A t ∧ t.status = .running ∧ Ended t below o ∧ R t o := h
theorem own_pre {tb : Tables} {e : Env} {below : List Frame} {R : State → Outcome → Prop} {A B : State} (k : ∀ t, Steps tb e below B t → Steps tb e below A t) (h : own_G tb e below R B) : own_G tb e below R A := by
  obtain ⟨t, o, h1, h2⟩ := h
  exact ⟨t, o, k t h1, h2⟩
/-! a part of a walk: from A the run comes to some state that answers P -/
def own_J (tb : Tables) (e : Env) (below : List Frame) (P : State → Prop) (A : State) : Prop := ∃ B, P B ∧ ∀ t, Steps tb e below B t → Steps tb e below A t
theorem own_preJ {tb : Tables} {e : Env} {below : List Frame} {P : State → Prop} {A B : State} (k : ∀ t, Steps tb e below B t → Steps tb e below A t) (h : own_J tb e below P B) : own_J tb e below P A := by
  obtain ⟨C, h1, h2⟩ := h
  exact ⟨C, h1, fun t q => k t (h2 t q)⟩
theorem own_more {p : Program} {l : Launch} {e : Env} {R : Room} {s : State} {m : MethodId} {args : Array Value} {below : List Frame} {meth : Method} {c : Code} {T : State} {locs : List Loc} {cells slots cells' slots' : Nat} (X : Stand p l e R s m args below meth c T locs cells slots) (h : cells ≤ cells') (h' : slots ≤ slots') : Stand p l e R s m args below meth c T locs cells' slots' :=
  { X with same := X.same.mono h h' }
theorem ow {d : Jvm.Cond} (i : Nat) (h : tables_1[i]? = some d) : d ∈ tables_1 := List.mem_of_getElem? h
theorem d2_0 : decode jdk_30_method_1_code 0 = .ok (.aload_n 0, 1) := by decide +kernel
theorem d2_1 : decode jdk_30_method_1_code 1 = .ok (.invokespecial 1, 3) := by decide +kernel
theorem d2_4 : decode jdk_30_method_1_code 4 = .ok (.return_, 1) := by decide +kernel
theorem pn_2 : plainName "java/lang/Record" = true := by first | (simp [plainName, overriddenIn]; done) | decide +kernel
theorem ef_2 (m : MethodId) (x0 : Addr) : entryFrame m #[(.ref x0)] 1 = mkF m 0 #[.val (.ref x0)] [] := by first | (simp [entryFrame, mkF, argsToLocals, Value.category]; done) | rfl
def Q2 (Z : State) (a1 : Addr) (h0 : Heap) (n0 : Nat) (v : Option Value) (h : Heap) (L : List Loc) : Prop := v = none ∧ Fr n0 L ∧ h = h0
set_option maxRecDepth 65536 in
set_option maxHeartbeats 40000000 in
theorem rm2 (l : Launch) (Z : State) (a0 : Array Value) (hw : ∀ d ∈ tables_1, d.before a0 Z = true) (ws : List Jvm.Cond) (a1 : Addr) (h0 : Heap) (n0 : Nat) (Z0 : n0 ≤ h0.size) :
    MetFree l (⟨"java/lang/Record", "<init>", "()V"⟩ : MethodName) (head1 (Jvm.Cond.code (⟨"java/lang/Record", "<init>", "()V"⟩ : MethodName) jdk_30_method_1_code 1 none :: ws) ({ frames := 1, cells := 0, slots := 0, locals := 12 } : Room)) (fun a U => a = #[(.ref a1)] ∧ Z.Warmed39 U.vm ∧ U.heap = h0) (fun _ _ _ _ _ => True) (fun _ U o U' => ∃ v L, o = .returned v ∧ Q2 Z a1 h0 n0 v U'.heap L ∧ FrameEnd U o U' L ({ frames := 1, cells := 0, slots := 0, locals := 12 } : Room).cells ({ frames := 1, cells := 0, slots := 0, locals := 12 } : Room).slots) := by
  refine MetFree.of_bodySF (plainFor_of_name pn_2) hisR ?_
  intro p e s m args below meth c s₁ Bd hml0 hP hK
  obtain ⟨rfl, hZ, hh⟩ := hP
  have hx := Bd.exec
  have hby := Bd.bytes
  have hml : c.maxLocals = 1 := hml0
  have hown : s.vm.findClass "java/lang/Record" = some m.cls := findClass_of_methodNamed Bd.named
  have hnm := (name_of_methodNamed Bd.named Bd.method).1
  have X0 : Stand p l e ({ frames := 1, cells := 0, slots := 0, locals := 12 } : Room) s m #[(.ref a1)] below meth c s₁ [] 0 0 := Stand.of_body Bd
  have e0 : s₁.heap = h0 := by rw [← hh, Bd.state]; rfl
  have N0 := Fr.nil n0
  apply own_in
  refine own_pre (B := s₁.setTop (mkF m 0 #[.val (.ref a1)] [])) (fun t k => castTop (ef_2 m a1) k) ?_
  refine own_pre (B := s₁.setTop (mkF m 1 #[.val (.ref a1)] [(.ref a1)])) (fun t k => XS.aloadN X0.here hx rfl (hb hby d2_0) rfl rfl k) ?_
  obtain ⟨T2, X2, e2, st2⟩ := initO X0 hx hZ hown (hw _ (ow 11 rfl)) (hw _ (ow 12 rfl)) (hw _ (ow 13 rfl)) e0 (g := (mkF m 1 #[.val (.ref a1)] [(.ref a1)])) rfl (by rw [hml]; rfl) rfl (hb hby d2_1) (by decide) (W := 0) (by show 2 * 0 + _ ≤ _; exact Nat.le_of_eq rfl) (by decide)
  refine own_pre (B := T2.setTop (mkF m 4 #[.val (.ref a1)] [])) (fun t k => st2 t k) ?_
  obtain ⟨fsr3, hrr3, hrunr3, hendedr3, hWr3, hsamer3⟩ := X2.leave (v := none) (fun _ => rfl)
  refine ⟨_, _, (X2.returnOut hx Bd.returns (hb hby d2_4) hrr3), hrunr3, hendedr3, _, _, rfl, ?_, ⟨_, rfl⟩, hWr3, hsamer3.mono (by decide) (by decide)⟩
  show Q2 Z a1 h0 n0 _ T2.heap _
  rw [e2]
  exact ⟨rfl, N0, rfl⟩
theorem pd_0 : parseMethodDescriptor "()V" = some ⟨[], none⟩ := by decide +kernel
theorem d1_0 : decode prog_93_method_1_code 0 = .ok (.aload_n 0, 1) := by decide +kernel
theorem d1_1 : decode prog_93_method_1_code 1 = .ok (.invokespecial 1, 3) := by decide +kernel
theorem d1_4 : decode prog_93_method_1_code 4 = .ok (.aload_n 0, 1) := by decide +kernel
theorem d1_5 : decode prog_93_method_1_code 5 = .ok (.iload_n 1, 1) := by decide +kernel
theorem d1_6 : decode prog_93_method_1_code 6 = .ok (.putfield 7, 3) := by decide +kernel
theorem d1_9 : decode prog_93_method_1_code 9 = .ok (.aload_n 0, 1) := by decide +kernel
theorem d1_10 : decode prog_93_method_1_code 10 = .ok (.iload_n 2, 1) := by decide +kernel
theorem d1_11 : decode prog_93_method_1_code 11 = .ok (.putfield 13, 3) := by decide +kernel
theorem d1_14 : decode prog_93_method_1_code 14 = .ok (.aload_n 0, 1) := by decide +kernel
theorem d1_15 : decode prog_93_method_1_code 15 = .ok (.iload_n 3, 1) := by decide +kernel
theorem d1_16 : decode prog_93_method_1_code 16 = .ok (.putfield 16, 3) := by decide +kernel
theorem d1_19 : decode prog_93_method_1_code 19 = .ok (.return_, 1) := by decide +kernel
theorem pn_1 : plainName "com/example/rikusen/rikusen/core/play/Event$Total" = true := by first | (simp [plainName, overriddenIn]; done) | decide +kernel
theorem ef_1 (m : MethodId) (x0 : Addr) (x1 : Int32) (x2 : Int32) (x3 : Int32) : entryFrame m #[(.ref x0), (.int x1), (.int x2), (.int x3)] 4 = mkF m 0 #[.val (.ref x0), .val (.int x1), .val (.int x2), .val (.int x3)] [] := by first | (simp [entryFrame, mkF, argsToLocals, Value.category]; done) | rfl
def Q1 (Z : State) (a1 : Addr) (p2 : Int32) (p3 : Int32) (p4 : Int32) (u_strength_a1 : Value) (u_die_a1 : Value) (u_modifier_a1 : Value) (h0 : Heap) (n0 : Nat) (v : Option Value) (h : Heap) (L : List Loc) : Prop := v = none ∧ Fr n0 L ∧ Keep h0 h [a1] ∧ Exa Z h a1 "com/example/rikusen/rikusen/core/play/Event$Total" ∧ Fld Z h a1 "com/example/rikusen/rikusen/core/play/Event$Total" "strength" "I" (.int p2) ∧ Fld Z h a1 "com/example/rikusen/rikusen/core/play/Event$Total" "die" "I" (.int p3) ∧ Fld Z h a1 "com/example/rikusen/rikusen/core/play/Event$Total" "modifier" "I" (.int p4)
set_option maxRecDepth 65536 in
set_option maxHeartbeats 40000000 in
theorem rm1 (l : Launch) (Z : State) (a0 : Array Value) (hw : ∀ d ∈ tables_1, d.before a0 Z = true) (ws : List Jvm.Cond) (a1 : Addr) (p2 : Int32) (p3 : Int32) (p4 : Int32) (u_strength_a1 : Value) (u_die_a1 : Value) (u_modifier_a1 : Value) (h0 : Heap) (n0 : Nat) (Z0 : n0 ≤ h0.size) (E_a1 : Exa Z h0 a1 "com/example/rikusen/rikusen/core/play/Event$Total") (F_strength_a1 : Fld Z h0 a1 "com/example/rikusen/rikusen/core/play/Event$Total" "strength" "I" u_strength_a1) (g_a1 : n0 ≤ a1) (F_die_a1 : Fld Z h0 a1 "com/example/rikusen/rikusen/core/play/Event$Total" "die" "I" u_die_a1) (F_modifier_a1 : Fld Z h0 a1 "com/example/rikusen/rikusen/core/play/Event$Total" "modifier" "I" u_modifier_a1) :
    MetFree l (⟨"com/example/rikusen/rikusen/core/play/Event$Total", "<init>", "(III)V"⟩ : MethodName) (head1 (Jvm.Cond.code (⟨"com/example/rikusen/rikusen/core/play/Event$Total", "<init>", "(III)V"⟩ : MethodName) prog_93_method_1_code 4 none :: ws) ({ frames := 2, cells := 0, slots := 0, locals := 24 } : Room)) (fun a U => a = #[(.ref a1), (.int p2), (.int p3), (.int p4)] ∧ Z.Warmed39 U.vm ∧ U.heap = h0) (fun _ _ _ _ _ => True) (fun _ U o U' => ∃ v L, o = .returned v ∧ Q1 Z a1 p2 p3 p4 u_strength_a1 u_die_a1 u_modifier_a1 h0 n0 v U'.heap L ∧ FrameEnd U o U' L ({ frames := 2, cells := 0, slots := 0, locals := 24 } : Room).cells ({ frames := 2, cells := 0, slots := 0, locals := 24 } : Room).slots) := by
  refine MetFree.of_bodySF (plainFor_of_name pn_1) hisR ?_
  intro p e s m args below meth c s₁ Bd hml0 hP hK
  obtain ⟨rfl, hZ, hh⟩ := hP
  have hx := Bd.exec
  have hby := Bd.bytes
  have hml : c.maxLocals = 4 := hml0
  have hown : s.vm.findClass "com/example/rikusen/rikusen/core/play/Event$Total" = some m.cls := findClass_of_methodNamed Bd.named
  have hnm := (name_of_methodNamed Bd.named Bd.method).1
  have X0 : Stand p l e ({ frames := 2, cells := 0, slots := 0, locals := 24 } : Room) s m #[(.ref a1), (.int p2), (.int p3), (.int p4)] below meth c s₁ [] 0 0 := Stand.of_body Bd
  have e0 : s₁.heap = h0 := by rw [← hh, Bd.state]; rfl
  have N0 := Fr.nil n0
  apply own_in
  refine own_pre (B := s₁.setTop (mkF m 0 #[.val (.ref a1), .val (.int p2), .val (.int p3), .val (.int p4)] [])) (fun t k => castTop (ef_1 m a1 p2 p3 p4) k) ?_
  refine own_pre (B := s₁.setTop (mkF m 1 #[.val (.ref a1), .val (.int p2), .val (.int p3), .val (.int p4)] [(.ref a1)])) (fun t k => XS.aloadN X0.here hx rfl (hb hby d1_0) rfl rfl k) ?_
  obtain ⟨_, _, ⟨T5, L5, k5, n5⟩, -, X5, ⟨Lc5, hQ5, l5, y5, z5⟩, st5⟩ := X0.specialBack hx (y := (⟨"java/lang/Record", "<init>", "()V"⟩ : MethodName)) rfl hown (mvT hZ (hw _ (ow 6 rfl))) (mvT hZ (hw _ (ow 7 rfl))) (mvT hZ (hw _ (ow 10 rfl))) (by decide) (backOf (W := 0) (rm2 l Z a0 hw [] a1 h0 n0 Z0 ) hZ (hw _ (ow 10 rfl)) (hw _ (ow 9 rfl)) (by decide) (by decide)) (g := (mkF m 1 #[.val (.ref a1), .val (.int p2), .val (.int p3), .val (.int p4)] [(.ref a1)])) rfl (by rw [hml]; rfl) (Steps.refl _) (a := a1) (argsL := []) (rest := []) (lenOf pd_0 rfl) rfl (by show 2 * 0 + _ ≤ _; exact Nat.le_of_eq rfl) (hb hby d1_1) (fun _ _ => ⟨rfl, e0, (by decide : 0 + 0 ≤ _), (by decide : 0 + 0 ≤ _)⟩)
  dsimp only [Pt.U, Pt.locs, Pt.cells, Pt.slots] at X5 l5 y5 z5 st5 hQ5
  subst l5 y5 z5
  obtain ⟨rfl, N5q, e5⟩ := hQ5
  have N5 := Fr.app N0 N5q
  refine own_pre (B := T5.setTop (mkF m 4 #[.val (.ref a1), .val (.int p2), .val (.int p3), .val (.int p4)] [])) (fun t k => st5.trans k) ?_
  refine own_pre (B := T5.setTop (mkF m 5 #[.val (.ref a1), .val (.int p2), .val (.int p3), .val (.int p4)] [(.ref a1)])) (fun t k => XS.aloadN X5.here hx rfl (hb hby d1_4) rfl rfl k) ?_
  refine own_pre (B := T5.setTop (mkF m 6 #[.val (.ref a1), .val (.int p2), .val (.int p3), .val (.int p4)] [(.int p2), (.ref a1)])) (fun t k => XS.iloadN X5.here hx rfl (hb hby d1_5) rfl k) ?_
  have K6 : Keep h0 h0 [a1] := (Keep.refl h0 [a1])
  obtain ⟨T7, h7, X7, e7, W7, st7⟩ := putF X5 hx hZ hown (host := "") (Or.inl (hw _ (ow 14 rfl))) Via.refl e5 F_strength_a1 E_a1 (Or.inr ⟨(hw _ (ow 15 rfl)), rfl, hnm⟩) (hw _ (ow 1 rfl)) (ty := .int) (by decide) rfl rfl (g := (mkF m 6 #[.val (.ref a1), .val (.int p2), .val (.int p3), .val (.int p4)] [(.int p2), (.ref a1)])) rfl rfl (hb hby d1_6)
  have Fw7 := Fld.same W7 F_strength_a1
  have N7 := Fr.snoc X7 N5 g_a1
  refine own_pre (B := T7.setTop (mkF m 9 #[.val (.ref a1), .val (.int p2), .val (.int p3), .val (.int p4)] [])) (fun t k => st7 t k) ?_
  refine own_pre (B := T7.setTop (mkF m 10 #[.val (.ref a1), .val (.int p2), .val (.int p3), .val (.int p4)] [(.ref a1)])) (fun t k => XS.aloadN X7.here hx rfl (hb hby d1_9) rfl rfl k) ?_
  refine own_pre (B := T7.setTop (mkF m 11 #[.val (.ref a1), .val (.int p2), .val (.int p3), .val (.int p4)] [(.int p3), (.ref a1)])) (fun t k => XS.iloadN X7.here hx rfl (hb hby d1_10) rfl k) ?_
  have c8 := (Exa.wr W7 E_a1)
  have c9 := (Fld.other W7 F_die_a1 (Or.inr (slot_ne (Or.inr (hw _ (ow 17 rfl))) (Or.inr (hw _ (ow 15 rfl))) (by decide) (t := .int) (t' := .int) (by decide) (by decide))))
  have K10 : Keep h0 h7 [a1] := (Keep.wr K6 W7 (Or.inl (List.mem_of_getElem? (i := 0) rfl)))
  obtain ⟨T11, h11, X11, e11, W11, st11⟩ := putF X7 hx hZ hown (host := "") (Or.inl (hw _ (ow 16 rfl))) Via.refl e7 c9 c8 (Or.inr ⟨(hw _ (ow 17 rfl)), rfl, hnm⟩) (hw _ (ow 1 rfl)) (ty := .int) (by decide) rfl rfl (g := (mkF m 11 #[.val (.ref a1), .val (.int p2), .val (.int p3), .val (.int p4)] [(.int p3), (.ref a1)])) rfl rfl (hb hby d1_11)
  have Fw11 := Fld.same W11 c9
  have N11 := Fr.snoc X11 N7 g_a1
  refine own_pre (B := T11.setTop (mkF m 14 #[.val (.ref a1), .val (.int p2), .val (.int p3), .val (.int p4)] [])) (fun t k => st11 t k) ?_
  refine own_pre (B := T11.setTop (mkF m 15 #[.val (.ref a1), .val (.int p2), .val (.int p3), .val (.int p4)] [(.ref a1)])) (fun t k => XS.aloadN X11.here hx rfl (hb hby d1_14) rfl rfl k) ?_
  refine own_pre (B := T11.setTop (mkF m 16 #[.val (.ref a1), .val (.int p2), .val (.int p3), .val (.int p4)] [(.int p4), (.ref a1)])) (fun t k => XS.iloadN X11.here hx rfl (hb hby d1_15) rfl k) ?_
  have c12 := (Exa.wr W11 c8)
  have c13 := (Fld.other W11 (Fld.other W7 F_modifier_a1 (Or.inr (slot_ne (Or.inr (hw _ (ow 19 rfl))) (Or.inr (hw _ (ow 15 rfl))) (by decide) (t := .int) (t' := .int) (by decide) (by decide)))) (Or.inr (slot_ne (Or.inr (hw _ (ow 19 rfl))) (Or.inr (hw _ (ow 17 rfl))) (by decide) (t := .int) (t' := .int) (by decide) (by decide))))
  have K14 : Keep h0 h11 [a1] := (Keep.wr K10 W11 (Or.inl (List.mem_of_getElem? (i := 0) rfl)))
  obtain ⟨T15, h15, X15, e15, W15, st15⟩ := putF X11 hx hZ hown (host := "") (Or.inl (hw _ (ow 18 rfl))) Via.refl e11 c13 c12 (Or.inr ⟨(hw _ (ow 19 rfl)), rfl, hnm⟩) (hw _ (ow 1 rfl)) (ty := .int) (by decide) rfl rfl (g := (mkF m 16 #[.val (.ref a1), .val (.int p2), .val (.int p3), .val (.int p4)] [(.int p4), (.ref a1)])) rfl rfl (hb hby d1_16)
  have Fw15 := Fld.same W15 c13
  have N15 := Fr.snoc X15 N11 g_a1
  refine own_pre (B := T15.setTop (mkF m 19 #[.val (.ref a1), .val (.int p2), .val (.int p3), .val (.int p4)] [])) (fun t k => st15 t k) ?_
  have K16 : Keep h0 h15 [a1] := (Keep.wr K14 W15 (Or.inl (List.mem_of_getElem? (i := 0) rfl)))
  have c17 := (Exa.wr W15 c12)
  have c18 := (Fld.other W15 (Fld.other W11 Fw7 (Or.inr (slot_ne (Or.inr (hw _ (ow 15 rfl))) (Or.inr (hw _ (ow 17 rfl))) (by decide) (t := .int) (t' := .int) (by decide) (by decide)))) (Or.inr (slot_ne (Or.inr (hw _ (ow 15 rfl))) (Or.inr (hw _ (ow 19 rfl))) (by decide) (t := .int) (t' := .int) (by decide) (by decide))))
  have c19 := (Fld.other W15 Fw11 (Or.inr (slot_ne (Or.inr (hw _ (ow 17 rfl))) (Or.inr (hw _ (ow 19 rfl))) (by decide) (t := .int) (t' := .int) (by decide) (by decide))))
  obtain ⟨fsr20, hrr20, hrunr20, hendedr20, hWr20, hsamer20⟩ := X15.leave (v := none) (fun _ => rfl)
  refine ⟨_, _, (X15.returnOut hx Bd.returns (hb hby d1_19) hrr20), hrunr20, hendedr20, _, _, rfl, ?_, ⟨_, rfl⟩, hWr20, hsamer20.mono (by decide) (by decide)⟩
  show Q1 Z a1 p2 p3 p4 u_strength_a1 u_die_a1 u_modifier_a1 h0 n0 _ T15.heap _
  rw [e15]
  exact ⟨rfl, N15, K16, c17, c18, c19, Fw15⟩
theorem d4_0 : decode prog_93_method_2_code 0 = .ok (.aload_n 0, 1) := by decide +kernel
theorem d4_1 : decode prog_93_method_2_code 1 = .ok (.getfield 7, 3) := by decide +kernel
theorem d4_4 : decode prog_93_method_2_code 4 = .ok (.aload_n 0, 1) := by decide +kernel
theorem d4_5 : decode prog_93_method_2_code 5 = .ok (.getfield 13, 3) := by decide +kernel
theorem d4_8 : decode prog_93_method_2_code 8 = .ok (.iadd, 1) := by decide +kernel
theorem d4_9 : decode prog_93_method_2_code 9 = .ok (.aload_n 0, 1) := by decide +kernel
theorem d4_10 : decode prog_93_method_2_code 10 = .ok (.getfield 16, 3) := by decide +kernel
theorem d4_13 : decode prog_93_method_2_code 13 = .ok (.iadd, 1) := by decide +kernel
theorem d4_14 : decode prog_93_method_2_code 14 = .ok (.ireturn, 1) := by decide +kernel
theorem pn_4 : plainName "com/example/rikusen/rikusen/core/play/Event$Total" = true := by first | (simp [plainName, overriddenIn]; done) | decide +kernel
theorem ef_4 (m : MethodId) (x0 : Addr) : entryFrame m #[(.ref x0)] 1 = mkF m 0 #[.val (.ref x0)] [] := by first | (simp [entryFrame, mkF, argsToLocals, Value.category]; done) | rfl
def own_f4 (w_strength_a1 : Int32) (w_die_a1 : Int32) (w_modifier_a1 : Int32) : Int32 := ((w_strength_a1 + w_die_a1) + w_modifier_a1)
def Q4 (Z : State) (a1 : Addr) (w_strength_a1 : Int32) (w_die_a1 : Int32) (w_modifier_a1 : Int32) (h0 : Heap) (n0 : Nat) (v : Option Value) (h : Heap) (L : List Loc) : Prop := v = some (.int (own_f4 w_strength_a1 w_die_a1 w_modifier_a1)) ∧ Fr n0 L ∧ h = h0
set_option maxRecDepth 65536 in
set_option maxHeartbeats 40000000 in
theorem rm4 (l : Launch) (Z : State) (a0 : Array Value) (hw : ∀ d ∈ tables_1, d.before a0 Z = true) (ws : List Jvm.Cond) (a1 : Addr) (w_strength_a1 : Int32) (w_die_a1 : Int32) (w_modifier_a1 : Int32) (h0 : Heap) (n0 : Nat) (Z0 : n0 ≤ h0.size) (F_strength_a1 : Fld Z h0 a1 "com/example/rikusen/rikusen/core/play/Event$Total" "strength" "I" (.int w_strength_a1)) (F_die_a1 : Fld Z h0 a1 "com/example/rikusen/rikusen/core/play/Event$Total" "die" "I" (.int w_die_a1)) (F_modifier_a1 : Fld Z h0 a1 "com/example/rikusen/rikusen/core/play/Event$Total" "modifier" "I" (.int w_modifier_a1)) :
    MetFree l (⟨"com/example/rikusen/rikusen/core/play/Event$Total", "value", "()I"⟩ : MethodName) (head1 (Jvm.Cond.code (⟨"com/example/rikusen/rikusen/core/play/Event$Total", "value", "()I"⟩ : MethodName) prog_93_method_2_code 1 (some .int) :: ws) ({ frames := 0, cells := 0, slots := 0, locals := 0 } : Room)) (fun a U => a = #[(.ref a1)] ∧ Z.Warmed39 U.vm ∧ U.heap = h0) (fun _ _ _ _ _ => True) (fun _ U o U' => ∃ v L, o = .returned v ∧ Q4 Z a1 w_strength_a1 w_die_a1 w_modifier_a1 h0 n0 v U'.heap L ∧ FrameEnd U o U' L ({ frames := 0, cells := 0, slots := 0, locals := 0 } : Room).cells ({ frames := 0, cells := 0, slots := 0, locals := 0 } : Room).slots) := by
  refine MetFree.of_bodySF (plainFor_of_name pn_4) hisR ?_
  intro p e s m args below meth c s₁ Bd hml0 hP hK
  obtain ⟨rfl, hZ, hh⟩ := hP
  have hx := Bd.exec
  have hby := Bd.bytes
  have hml : c.maxLocals = 1 := hml0
  have hown : s.vm.findClass "com/example/rikusen/rikusen/core/play/Event$Total" = some m.cls := findClass_of_methodNamed Bd.named
  have hnm := (name_of_methodNamed Bd.named Bd.method).1
  have X0 : Stand p l e ({ frames := 0, cells := 0, slots := 0, locals := 0 } : Room) s m #[(.ref a1)] below meth c s₁ [] 0 0 := Stand.of_body Bd
  have e0 : s₁.heap = h0 := by rw [← hh, Bd.state]; rfl
  have N0 := Fr.nil n0
  apply own_in
  refine own_pre (B := s₁.setTop (mkF m 0 #[.val (.ref a1)] [])) (fun t k => castTop (ef_4 m a1) k) ?_
  refine own_pre (B := s₁.setTop (mkF m 1 #[.val (.ref a1)] [(.ref a1)])) (fun t k => XS.aloadN X0.here hx rfl (hb hby d4_0) rfl rfl k) ?_
  obtain ⟨T2, X2, e2, st2⟩ := getF X0 hx hZ hown (host := "") (Or.inl (hw _ (ow 14 rfl))) Via.refl e0 F_strength_a1 (g := (mkF m 1 #[.val (.ref a1)] [(.ref a1)])) rfl rfl (hb hby d4_1)
  refine own_pre (B := T2.setTop (mkF m 4 #[.val (.ref a1)] [(.int w_strength_a1)])) (fun t k => st2 t k) ?_
  refine own_pre (B := T2.setTop (mkF m 5 #[.val (.ref a1)] [(.ref a1), (.int w_strength_a1)])) (fun t k => XS.aloadN X2.here hx rfl (hb hby d4_4) rfl rfl k) ?_
  obtain ⟨T3, X3, e3, st3⟩ := getF X2 hx hZ hown (host := "") (Or.inl (hw _ (ow 16 rfl))) Via.refl e2 F_die_a1 (g := (mkF m 5 #[.val (.ref a1)] [(.ref a1), (.int w_strength_a1)])) rfl rfl (hb hby d4_5)
  refine own_pre (B := T3.setTop (mkF m 8 #[.val (.ref a1)] [(.int w_die_a1), (.int w_strength_a1)])) (fun t k => st3 t k) ?_
  refine own_pre (B := T3.setTop (mkF m 9 #[.val (.ref a1)] [(.int (w_strength_a1 + w_die_a1))])) (fun t k => XS.iadd X3.here hx rfl (hb hby d4_8) rfl k) ?_
  refine own_pre (B := T3.setTop (mkF m 10 #[.val (.ref a1)] [(.ref a1), (.int (w_strength_a1 + w_die_a1))])) (fun t k => XS.aloadN X3.here hx rfl (hb hby d4_9) rfl rfl k) ?_
  obtain ⟨T4, X4, e4, st4⟩ := getF X3 hx hZ hown (host := "") (Or.inl (hw _ (ow 18 rfl))) Via.refl e3 F_modifier_a1 (g := (mkF m 10 #[.val (.ref a1)] [(.ref a1), (.int (w_strength_a1 + w_die_a1))])) rfl rfl (hb hby d4_10)
  refine own_pre (B := T4.setTop (mkF m 13 #[.val (.ref a1)] [(.int w_modifier_a1), (.int (w_strength_a1 + w_die_a1))])) (fun t k => st4 t k) ?_
  refine own_pre (B := T4.setTop (mkF m 14 #[.val (.ref a1)] [(.int ((w_strength_a1 + w_die_a1) + w_modifier_a1))])) (fun t k => XS.iadd X4.here hx rfl (hb hby d4_13) rfl k) ?_
  obtain ⟨fsr5, hrr5, hrunr5, hendedr5, hWr5, hsamer5⟩ := X4.leave (v := some (.int ((w_strength_a1 + w_die_a1) + w_modifier_a1))) (fun h => by rw [Bd.returns] at h; cases h)
  refine ⟨_, _, (retI X4 hx Bd.returns (hb hby d4_14) hrr5), hrunr5, hendedr5, _, _, rfl, ?_, ⟨_, rfl⟩, hWr5, hsamer5.mono (by decide) (by decide)⟩
  show Q4 Z a1 w_strength_a1 w_die_a1 w_modifier_a1 h0 n0 _ T4.heap _
  rw [e4]
  exact ⟨rfl, N0, rfl⟩
theorem own_s (a : Int32) : own_f4 a 0 0 = a := by unfold own_f4; simp
theorem own_d (a : Int32) : own_f4 0 a 0 = a := by unfold own_f4; simp
theorem own_m (a : Int32) : own_f4 0 0 a = a := by unfold own_f4; simp
theorem own_v (a b c : Int32) : own_f4 a b c = own_f4 a 0 0 + own_f4 0 b 0 + own_f4 0 0 c := by rw [own_s, own_d, own_m]; rfl
theorem pd_1 : parseMethodDescriptor "(III)V" = some ⟨[.int, .int, .int], none⟩ := by decide +kernel
theorem pd_2 : parseMethodDescriptor "()I" = some ⟨[], some .int⟩ := by decide +kernel
theorem pn_0 : plainName "com/example/rikusen/rikusen/core/play/TotalValuePinLaw" = true := by first | (simp [plainName, overriddenIn]; done) | decide +kernel
theorem ef_0 (m : MethodId) (x0 : Int32) (x1 : Int32) (x2 : Int32) : entryFrame m #[(.int x0), (.int x1), (.int x2)] maxLocals = mkF m 0 #[.val (.int x0), .val (.int x1), .val (.int x2), .unset, .unset, .unset, .unset, .unset, .unset, .unset, .unset] [] := by first | (simp [entryFrame, mkF, argsToLocals, Value.category, maxLocals]; done) | rfl
def Q0 (Z : State) (p1 : Int32) (p2 : Int32) (p3 : Int32) (h0 : Heap) (n0 : Nat) (v : Option Value) (h : Heap) (L : List Loc) : Prop := v = some (.int 1) ∧ Fr n0 L
set_option maxRecDepth 65536 in
set_option maxHeartbeats 40000000 in
theorem rm0 (l : Launch) (Z : State) (a0 : Array Value) (hw : ∀ d ∈ tables_1, d.before a0 Z = true) (ws : List Jvm.Cond) (p1 : Int32) (p2 : Int32) (p3 : Int32) (h0 : Heap) (n0 : Nat) (Z0 : n0 ≤ h0.size) :
    MetFree l x (head1 (Jvm.Cond.code x code maxLocals ret :: ws) room_1) (fun a U => a = #[(.int p1), (.int p2), (.int p3)] ∧ Z.Warmed39 U.vm ∧ U.heap = h0) (fun _ _ _ _ _ => True) (fun _ U o U' => ∃ v L, o = .returned v ∧ Q0 Z p1 p2 p3 h0 n0 v U'.heap L ∧ FrameEnd U o U' L 4 12) := by
  refine MetFree.of_bodySF (plainFor_of_name pn_0) hisR ?_
  intro p e s m args below meth c s₁ Bd hml0 hP hK
  obtain ⟨rfl, hZ, hh⟩ := hP
  have hx := Bd.exec
  have hby := Bd.bytes
  have hml : c.maxLocals = 11 := hml0
  have hown : s.vm.findClass "com/example/rikusen/rikusen/core/play/TotalValuePinLaw" = some m.cls := findClass_of_methodNamed Bd.named
  have hnm := (name_of_methodNamed Bd.named Bd.method).1
  have X0 : Stand p l e room_1 s m #[(.int p1), (.int p2), (.int p3)] below meth c s₁ [] 0 0 := Stand.of_body Bd
  have e0 : s₁.heap = h0 := by rw [← hh, Bd.state]; rfl
  have N0 := Fr.nil n0
  apply own_in
  refine own_pre (B := s₁.setTop (mkF m 0 #[.val (.int p1), .val (.int p2), .val (.int p3), .unset, .unset, .unset, .unset, .unset, .unset, .unset, .unset] [])) (fun t k => castTop (ef_0 m p1 p2 p3) k) ?_
  have K4 : Keep h0 h0 [] := (Keep.refl h0 [])
  obtain ⟨T5, h5, X5, e5, E5, A5, D5, -, st5⟩ := newO X0 hx hZ hown (hw _ (ow 0 rfl)) (hw _ (ow 1 rfl)) (hw _ (ow 2 rfl)) e0 (g := (mkF m 0 #[.val (.int p1), .val (.int p2), .val (.int p3), .unset, .unset, .unset, .unset, .unset, .unset, .unset, .unset] [])) rfl (hb hby at_0) (by decide) (by decide)
  obtain ⟨b5, g5⟩ : ∃ z, z = h0.size := ⟨_, rfl⟩
  rw [← g5] at A5 D5 st5
  have g_b5 : n0 ≤ b5 := Nat.le_trans Z0 (Nat.le_of_eq g5.symm)
  have s_b5 : h0.size ≤ b5 := Nat.le_trans K4.1 (Nat.le_of_eq g5.symm)
  have F_strength_b5 : Fld Z h5 b5 "com/example/rikusen/rikusen/core/play/Event$Total" "strength" "I" (.int (0 : Int32)) := D5 (Or.inr (hw _ (ow 15 rfl))) (ty := .int) (by decide)
  have F_die_b5 : Fld Z h5 b5 "com/example/rikusen/rikusen/core/play/Event$Total" "die" "I" (.int (0 : Int32)) := D5 (Or.inr (hw _ (ow 17 rfl))) (ty := .int) (by decide)
  have F_modifier_b5 : Fld Z h5 b5 "com/example/rikusen/rikusen/core/play/Event$Total" "modifier" "I" (.int (0 : Int32)) := D5 (Or.inr (hw _ (ow 19 rfl))) (ty := .int) (by decide)
  refine own_pre (B := T5.setTop (mkF m 3 #[.val (.int p1), .val (.int p2), .val (.int p3), .unset, .unset, .unset, .unset, .unset, .unset, .unset, .unset] [(.ref b5)])) (fun t k => st5 t k) ?_
  refine own_pre (B := T5.setTop (mkF m 4 #[.val (.int p1), .val (.int p2), .val (.int p3), .unset, .unset, .unset, .unset, .unset, .unset, .unset, .unset] [(.ref b5), (.ref b5)])) (fun t k => XS.dup X5.here hx rfl (hb hby at_3) rfl rfl k) ?_
  refine own_pre (B := T5.setTop (mkF m 5 #[.val (.int p1), .val (.int p2), .val (.int p3), .unset, .unset, .unset, .unset, .unset, .unset, .unset, .unset] [(.int p1), (.ref b5), (.ref b5)])) (fun t k => XS.iloadN X5.here hx rfl (hb hby at_4) rfl k) ?_
  refine own_pre (B := T5.setTop (mkF m 6 #[.val (.int p1), .val (.int p2), .val (.int p3), .unset, .unset, .unset, .unset, .unset, .unset, .unset, .unset] [(.int p2), (.int p1), (.ref b5), (.ref b5)])) (fun t k => XS.iloadN X5.here hx rfl (hb hby at_5) rfl k) ?_
  refine own_pre (B := T5.setTop (mkF m 7 #[.val (.int p1), .val (.int p2), .val (.int p3), .unset, .unset, .unset, .unset, .unset, .unset, .unset, .unset] [(.int p3), (.int p2), (.int p1), (.ref b5), (.ref b5)])) (fun t k => XS.iloadN X5.here hx rfl (hb hby at_6) rfl k) ?_
  have sz6 : n0 ≤ h5.size := (Nat.le_trans Z0 E5.1)
  obtain ⟨_, _, ⟨T7, L7, k7, n7⟩, -, X7, ⟨Lc7, hQ7, l7, y7, z7⟩, st7⟩ := X5.specialBack hx (y := (⟨"com/example/rikusen/rikusen/core/play/Event$Total", "<init>", "(III)V"⟩ : MethodName)) rfl hown (mvT hZ (hw _ (ow 3 rfl))) (mvT hZ (hw _ (ow 4 rfl))) (mvT hZ (hw _ (ow 5 rfl))) (by decide) (backOf (W := 1) (rm1 l Z a0 hw [] b5 p1 p2 p3 (.int (0 : Int32)) (.int (0 : Int32)) (.int (0 : Int32)) h5 n0 sz6 A5 F_strength_b5 g_b5 F_die_b5 F_modifier_b5) hZ (hw _ (ow 5 rfl)) (hw _ (ow 2 rfl)) (by decide) (by decide)) (g := (mkF m 7 #[.val (.int p1), .val (.int p2), .val (.int p3), .unset, .unset, .unset, .unset, .unset, .unset, .unset, .unset] [(.int p3), (.int p2), (.int p1), (.ref b5), (.ref b5)])) rfl (by rw [hml]; rfl) (Steps.refl _) (a := b5) (argsL := [(.int p1), (.int p2), (.int p3)]) (rest := [(.ref b5)]) (lenOf pd_1 rfl) rfl (by show 2 * 0 + _ ≤ _; exact Nat.le_of_eq rfl) (hb hby at_7) (fun _ _ => ⟨rfl, e5, (by decide : 1 + 0 ≤ _), (by decide : 3 + 0 ≤ _)⟩)
  dsimp only [Pt.U, Pt.locs, Pt.cells, Pt.slots] at X7 l7 y7 z7 st7 hQ7
  subst l7 y7 z7
  obtain ⟨rfl, N7q, K7, q7_0, q7_1, q7_2, q7_3⟩ := hQ7
  have N7 := Fr.app N0 N7q
  have K8 : Keep h0 h5 [] := (Keep.ext K4 E5)
  refine own_pre (B := T7.setTop (mkF m 10 #[.val (.int p1), .val (.int p2), .val (.int p3), .unset, .unset, .unset, .unset, .unset, .unset, .unset, .unset] [(.ref b5)])) (fun t k => st7.trans k) ?_
  refine own_pre (B := T7.setTop (mkF m 11 #[.val (.int p1), .val (.int p2), .val (.int p3), .val (.ref b5), .unset, .unset, .unset, .unset, .unset, .unset, .unset] [])) (fun t k => XS.astoreN X7.here hx rfl (hb hby at_10) rfl rfl (l' := #[.val (.int p1), .val (.int p2), .val (.int p3), .val (.ref b5), .unset, .unset, .unset, .unset, .unset, .unset, .unset]) rfl k) ?_
  have K9 : Keep h0 T7.heap [] := (Keep.trans K8 K7 (allS (P := fun x => x ∈ [] ∨ h0.size ≤ x) (Or.inr s_b5) all0))
  obtain ⟨T10, h10, X10, e10, E10, A10, D10, -, st10⟩ := newO X7 hx hZ hown (hw _ (ow 0 rfl)) (hw _ (ow 1 rfl)) (hw _ (ow 2 rfl)) rfl (g := (mkF m 11 #[.val (.int p1), .val (.int p2), .val (.int p3), .val (.ref b5), .unset, .unset, .unset, .unset, .unset, .unset, .unset] [])) rfl (hb hby at_11) (by decide) (by decide)
  have sz11 : n0 ≤ T7.heap.size := (Nat.le_trans sz6 K7.1)
  obtain ⟨b10, g10⟩ : ∃ z, z = T7.heap.size := ⟨_, rfl⟩
  rw [← g10] at A10 D10 st10
  have g_b10 : n0 ≤ b10 := Nat.le_trans sz11 (Nat.le_of_eq g10.symm)
  have s_b10 : h0.size ≤ b10 := Nat.le_trans K9.1 (Nat.le_of_eq g10.symm)
  have ne12 : b5 ≠ b10 := Nat.ne_of_lt (Nat.lt_of_lt_of_le (Exa.lt q7_0) (Nat.le_of_eq g10.symm))
  have F_strength_b10 : Fld Z h10 b10 "com/example/rikusen/rikusen/core/play/Event$Total" "strength" "I" (.int (0 : Int32)) := D10 (Or.inr (hw _ (ow 15 rfl))) (ty := .int) (by decide)
  have F_die_b10 : Fld Z h10 b10 "com/example/rikusen/rikusen/core/play/Event$Total" "die" "I" (.int (0 : Int32)) := D10 (Or.inr (hw _ (ow 17 rfl))) (ty := .int) (by decide)
  have F_modifier_b10 : Fld Z h10 b10 "com/example/rikusen/rikusen/core/play/Event$Total" "modifier" "I" (.int (0 : Int32)) := D10 (Or.inr (hw _ (ow 19 rfl))) (ty := .int) (by decide)
  refine own_pre (B := T10.setTop (mkF m 14 #[.val (.int p1), .val (.int p2), .val (.int p3), .val (.ref b5), .unset, .unset, .unset, .unset, .unset, .unset, .unset] [(.ref b10)])) (fun t k => st10 t k) ?_
  refine own_pre (B := T10.setTop (mkF m 15 #[.val (.int p1), .val (.int p2), .val (.int p3), .val (.ref b5), .unset, .unset, .unset, .unset, .unset, .unset, .unset] [(.ref b10), (.ref b10)])) (fun t k => XS.dup X10.here hx rfl (hb hby at_14) rfl rfl k) ?_
  refine own_pre (B := T10.setTop (mkF m 16 #[.val (.int p1), .val (.int p2), .val (.int p3), .val (.ref b5), .unset, .unset, .unset, .unset, .unset, .unset, .unset] [(.int p1), (.ref b10), (.ref b10)])) (fun t k => XS.iloadN X10.here hx rfl (hb hby at_15) rfl k) ?_
  refine own_pre (B := T10.setTop (mkF m 17 #[.val (.int p1), .val (.int p2), .val (.int p3), .val (.ref b5), .unset, .unset, .unset, .unset, .unset, .unset, .unset] [(.int (0 : Int32)), (.int p1), (.ref b10), (.ref b10)])) (fun t k => XS.iconst X10.here hx rfl (hb hby at_16) k) ?_
  refine own_pre (B := T10.setTop (mkF m 18 #[.val (.int p1), .val (.int p2), .val (.int p3), .val (.ref b5), .unset, .unset, .unset, .unset, .unset, .unset, .unset] [(.int (0 : Int32)), (.int (0 : Int32)), (.int p1), (.ref b10), (.ref b10)])) (fun t k => XS.iconst X10.here hx rfl (hb hby at_17) k) ?_
  have sz13 : n0 ≤ h10.size := (Nat.le_trans sz11 E10.1)
  obtain ⟨_, _, ⟨T14, L14, k14, n14⟩, -, X14, ⟨Lc14, hQ14, l14, y14, z14⟩, st14⟩ := X10.specialBack hx (y := (⟨"com/example/rikusen/rikusen/core/play/Event$Total", "<init>", "(III)V"⟩ : MethodName)) rfl hown (mvT hZ (hw _ (ow 3 rfl))) (mvT hZ (hw _ (ow 4 rfl))) (mvT hZ (hw _ (ow 5 rfl))) (by decide) (backOf (W := 1) (rm1 l Z a0 hw [] b10 p1 (0 : Int32) (0 : Int32) (.int (0 : Int32)) (.int (0 : Int32)) (.int (0 : Int32)) h10 n0 sz13 A10 F_strength_b10 g_b10 F_die_b10 F_modifier_b10) hZ (hw _ (ow 5 rfl)) (hw _ (ow 2 rfl)) (by decide) (by decide)) (g := (mkF m 18 #[.val (.int p1), .val (.int p2), .val (.int p3), .val (.ref b5), .unset, .unset, .unset, .unset, .unset, .unset, .unset] [(.int (0 : Int32)), (.int (0 : Int32)), (.int p1), (.ref b10), (.ref b10)])) rfl (by rw [hml]; rfl) (Steps.refl _) (a := b10) (argsL := [(.int p1), (.int (0 : Int32)), (.int (0 : Int32))]) (rest := [(.ref b10)]) (lenOf pd_1 rfl) rfl (by show 2 * 0 + _ ≤ _; exact Nat.le_of_eq rfl) (hb hby at_18) (fun _ _ => ⟨rfl, e10, (by decide : 2 + 0 ≤ _), (by decide : 6 + 0 ≤ _)⟩)
  dsimp only [Pt.U, Pt.locs, Pt.cells, Pt.slots] at X14 l14 y14 z14 st14 hQ14
  subst l14 y14 z14
  obtain ⟨rfl, N14q, K14, q14_0, q14_1, q14_2, q14_3⟩ := hQ14
  have N14 := Fr.app N7 N14q
  have K15 : Keep h0 h10 [] := (Keep.ext K9 E10)
  refine own_pre (B := T14.setTop (mkF m 21 #[.val (.int p1), .val (.int p2), .val (.int p3), .val (.ref b5), .unset, .unset, .unset, .unset, .unset, .unset, .unset] [(.ref b10)])) (fun t k => st14.trans k) ?_
  refine own_pre (B := T14.setTop (mkF m 23 #[.val (.int p1), .val (.int p2), .val (.int p3), .val (.ref b5), .val (.ref b10), .unset, .unset, .unset, .unset, .unset, .unset] [])) (fun t k => XS.astore X14.here hx rfl (hb hby at_21) rfl rfl (l' := #[.val (.int p1), .val (.int p2), .val (.int p3), .val (.ref b5), .val (.ref b10), .unset, .unset, .unset, .unset, .unset, .unset]) rfl k) ?_
  have K16 : Keep h0 T14.heap [] := (Keep.trans K15 K14 (allS (P := fun x => x ∈ [] ∨ h0.size ≤ x) (Or.inr s_b10) all0))
  obtain ⟨T17, h17, X17, e17, E17, A17, D17, -, st17⟩ := newO X14 hx hZ hown (hw _ (ow 0 rfl)) (hw _ (ow 1 rfl)) (hw _ (ow 2 rfl)) rfl (g := (mkF m 23 #[.val (.int p1), .val (.int p2), .val (.int p3), .val (.ref b5), .val (.ref b10), .unset, .unset, .unset, .unset, .unset, .unset] [])) rfl (hb hby at_23) (by decide) (by decide)
  have sz18 : n0 ≤ T14.heap.size := (Nat.le_trans sz13 K14.1)
  obtain ⟨b17, g17⟩ : ∃ z, z = T14.heap.size := ⟨_, rfl⟩
  rw [← g17] at A17 D17 st17
  have g_b17 : n0 ≤ b17 := Nat.le_trans sz18 (Nat.le_of_eq g17.symm)
  have s_b17 : h0.size ≤ b17 := Nat.le_trans K16.1 (Nat.le_of_eq g17.symm)
  have c19 := (Exa.keep (q7_0.ext E10) K14)
  have ne20 : b5 ≠ b17 := Nat.ne_of_lt (Nat.lt_of_lt_of_le (Exa.lt c19) (Nat.le_of_eq g17.symm))
  have ne21 : b10 ≠ b17 := Nat.ne_of_lt (Nat.lt_of_lt_of_le (Exa.lt q14_0) (Nat.le_of_eq g17.symm))
  have F_strength_b17 : Fld Z h17 b17 "com/example/rikusen/rikusen/core/play/Event$Total" "strength" "I" (.int (0 : Int32)) := D17 (Or.inr (hw _ (ow 15 rfl))) (ty := .int) (by decide)
  have F_die_b17 : Fld Z h17 b17 "com/example/rikusen/rikusen/core/play/Event$Total" "die" "I" (.int (0 : Int32)) := D17 (Or.inr (hw _ (ow 17 rfl))) (ty := .int) (by decide)
  have F_modifier_b17 : Fld Z h17 b17 "com/example/rikusen/rikusen/core/play/Event$Total" "modifier" "I" (.int (0 : Int32)) := D17 (Or.inr (hw _ (ow 19 rfl))) (ty := .int) (by decide)
  refine own_pre (B := T17.setTop (mkF m 26 #[.val (.int p1), .val (.int p2), .val (.int p3), .val (.ref b5), .val (.ref b10), .unset, .unset, .unset, .unset, .unset, .unset] [(.ref b17)])) (fun t k => st17 t k) ?_
  refine own_pre (B := T17.setTop (mkF m 27 #[.val (.int p1), .val (.int p2), .val (.int p3), .val (.ref b5), .val (.ref b10), .unset, .unset, .unset, .unset, .unset, .unset] [(.ref b17), (.ref b17)])) (fun t k => XS.dup X17.here hx rfl (hb hby at_26) rfl rfl k) ?_
  refine own_pre (B := T17.setTop (mkF m 28 #[.val (.int p1), .val (.int p2), .val (.int p3), .val (.ref b5), .val (.ref b10), .unset, .unset, .unset, .unset, .unset, .unset] [(.int (0 : Int32)), (.ref b17), (.ref b17)])) (fun t k => XS.iconst X17.here hx rfl (hb hby at_27) k) ?_
  refine own_pre (B := T17.setTop (mkF m 29 #[.val (.int p1), .val (.int p2), .val (.int p3), .val (.ref b5), .val (.ref b10), .unset, .unset, .unset, .unset, .unset, .unset] [(.int p2), (.int (0 : Int32)), (.ref b17), (.ref b17)])) (fun t k => XS.iloadN X17.here hx rfl (hb hby at_28) rfl k) ?_
  refine own_pre (B := T17.setTop (mkF m 30 #[.val (.int p1), .val (.int p2), .val (.int p3), .val (.ref b5), .val (.ref b10), .unset, .unset, .unset, .unset, .unset, .unset] [(.int (0 : Int32)), (.int p2), (.int (0 : Int32)), (.ref b17), (.ref b17)])) (fun t k => XS.iconst X17.here hx rfl (hb hby at_29) k) ?_
  have sz22 : n0 ≤ h17.size := (Nat.le_trans sz18 E17.1)
  obtain ⟨_, _, ⟨T23, L23, k23, n23⟩, -, X23, ⟨Lc23, hQ23, l23, y23, z23⟩, st23⟩ := X17.specialBack hx (y := (⟨"com/example/rikusen/rikusen/core/play/Event$Total", "<init>", "(III)V"⟩ : MethodName)) rfl hown (mvT hZ (hw _ (ow 3 rfl))) (mvT hZ (hw _ (ow 4 rfl))) (mvT hZ (hw _ (ow 5 rfl))) (by decide) (backOf (W := 1) (rm1 l Z a0 hw [] b17 (0 : Int32) p2 (0 : Int32) (.int (0 : Int32)) (.int (0 : Int32)) (.int (0 : Int32)) h17 n0 sz22 A17 F_strength_b17 g_b17 F_die_b17 F_modifier_b17) hZ (hw _ (ow 5 rfl)) (hw _ (ow 2 rfl)) (by decide) (by decide)) (g := (mkF m 30 #[.val (.int p1), .val (.int p2), .val (.int p3), .val (.ref b5), .val (.ref b10), .unset, .unset, .unset, .unset, .unset, .unset] [(.int (0 : Int32)), (.int p2), (.int (0 : Int32)), (.ref b17), (.ref b17)])) rfl (by rw [hml]; rfl) (Steps.refl _) (a := b17) (argsL := [(.int (0 : Int32)), (.int p2), (.int (0 : Int32))]) (rest := [(.ref b17)]) (lenOf pd_1 rfl) rfl (by show 2 * 0 + _ ≤ _; exact Nat.le_of_eq rfl) (hb hby at_30) (fun _ _ => ⟨rfl, e17, (by decide : 3 + 0 ≤ _), (by decide : 9 + 0 ≤ _)⟩)
  dsimp only [Pt.U, Pt.locs, Pt.cells, Pt.slots] at X23 l23 y23 z23 st23 hQ23
  subst l23 y23 z23
  obtain ⟨rfl, N23q, K23, q23_0, q23_1, q23_2, q23_3⟩ := hQ23
  have N23 := Fr.app N14 N23q
  have K24 : Keep h0 h17 [] := (Keep.ext K16 E17)
  refine own_pre (B := T23.setTop (mkF m 33 #[.val (.int p1), .val (.int p2), .val (.int p3), .val (.ref b5), .val (.ref b10), .unset, .unset, .unset, .unset, .unset, .unset] [(.ref b17)])) (fun t k => st23.trans k) ?_
  refine own_pre (B := T23.setTop (mkF m 35 #[.val (.int p1), .val (.int p2), .val (.int p3), .val (.ref b5), .val (.ref b10), .val (.ref b17), .unset, .unset, .unset, .unset, .unset] [])) (fun t k => XS.astore X23.here hx rfl (hb hby at_33) rfl rfl (l' := #[.val (.int p1), .val (.int p2), .val (.int p3), .val (.ref b5), .val (.ref b10), .val (.ref b17), .unset, .unset, .unset, .unset, .unset]) rfl k) ?_
  have K25 : Keep h0 T23.heap [] := (Keep.trans K24 K23 (allS (P := fun x => x ∈ [] ∨ h0.size ≤ x) (Or.inr s_b17) all0))
  obtain ⟨T26, h26, X26, e26, E26, A26, D26, -, st26⟩ := newO X23 hx hZ hown (hw _ (ow 0 rfl)) (hw _ (ow 1 rfl)) (hw _ (ow 2 rfl)) rfl (g := (mkF m 35 #[.val (.int p1), .val (.int p2), .val (.int p3), .val (.ref b5), .val (.ref b10), .val (.ref b17), .unset, .unset, .unset, .unset, .unset] [])) rfl (hb hby at_35) (by decide) (by decide)
  have sz27 : n0 ≤ T23.heap.size := (Nat.le_trans sz22 K23.1)
  obtain ⟨b26, g26⟩ : ∃ z, z = T23.heap.size := ⟨_, rfl⟩
  rw [← g26] at A26 D26 st26
  have g_b26 : n0 ≤ b26 := Nat.le_trans sz27 (Nat.le_of_eq g26.symm)
  have s_b26 : h0.size ≤ b26 := Nat.le_trans K25.1 (Nat.le_of_eq g26.symm)
  have c28 := (Exa.keep (c19.ext E17) K23)
  have ne29 : b5 ≠ b26 := Nat.ne_of_lt (Nat.lt_of_lt_of_le (Exa.lt c28) (Nat.le_of_eq g26.symm))
  have c30 := (Exa.keep (q14_0.ext E17) K23)
  have ne31 : b10 ≠ b26 := Nat.ne_of_lt (Nat.lt_of_lt_of_le (Exa.lt c30) (Nat.le_of_eq g26.symm))
  have ne32 : b17 ≠ b26 := Nat.ne_of_lt (Nat.lt_of_lt_of_le (Exa.lt q23_0) (Nat.le_of_eq g26.symm))
  have F_strength_b26 : Fld Z h26 b26 "com/example/rikusen/rikusen/core/play/Event$Total" "strength" "I" (.int (0 : Int32)) := D26 (Or.inr (hw _ (ow 15 rfl))) (ty := .int) (by decide)
  have F_die_b26 : Fld Z h26 b26 "com/example/rikusen/rikusen/core/play/Event$Total" "die" "I" (.int (0 : Int32)) := D26 (Or.inr (hw _ (ow 17 rfl))) (ty := .int) (by decide)
  have F_modifier_b26 : Fld Z h26 b26 "com/example/rikusen/rikusen/core/play/Event$Total" "modifier" "I" (.int (0 : Int32)) := D26 (Or.inr (hw _ (ow 19 rfl))) (ty := .int) (by decide)
  refine own_pre (B := T26.setTop (mkF m 38 #[.val (.int p1), .val (.int p2), .val (.int p3), .val (.ref b5), .val (.ref b10), .val (.ref b17), .unset, .unset, .unset, .unset, .unset] [(.ref b26)])) (fun t k => st26 t k) ?_
  refine own_pre (B := T26.setTop (mkF m 39 #[.val (.int p1), .val (.int p2), .val (.int p3), .val (.ref b5), .val (.ref b10), .val (.ref b17), .unset, .unset, .unset, .unset, .unset] [(.ref b26), (.ref b26)])) (fun t k => XS.dup X26.here hx rfl (hb hby at_38) rfl rfl k) ?_
  refine own_pre (B := T26.setTop (mkF m 40 #[.val (.int p1), .val (.int p2), .val (.int p3), .val (.ref b5), .val (.ref b10), .val (.ref b17), .unset, .unset, .unset, .unset, .unset] [(.int (0 : Int32)), (.ref b26), (.ref b26)])) (fun t k => XS.iconst X26.here hx rfl (hb hby at_39) k) ?_
  refine own_pre (B := T26.setTop (mkF m 41 #[.val (.int p1), .val (.int p2), .val (.int p3), .val (.ref b5), .val (.ref b10), .val (.ref b17), .unset, .unset, .unset, .unset, .unset] [(.int (0 : Int32)), (.int (0 : Int32)), (.ref b26), (.ref b26)])) (fun t k => XS.iconst X26.here hx rfl (hb hby at_40) k) ?_
  refine own_pre (B := T26.setTop (mkF m 42 #[.val (.int p1), .val (.int p2), .val (.int p3), .val (.ref b5), .val (.ref b10), .val (.ref b17), .unset, .unset, .unset, .unset, .unset] [(.int p3), (.int (0 : Int32)), (.int (0 : Int32)), (.ref b26), (.ref b26)])) (fun t k => XS.iloadN X26.here hx rfl (hb hby at_41) rfl k) ?_
  have sz33 : n0 ≤ h26.size := (Nat.le_trans sz27 E26.1)
  obtain ⟨_, _, ⟨T34, L34, k34, n34⟩, -, X34, ⟨Lc34, hQ34, l34, y34, z34⟩, st34⟩ := X26.specialBack hx (y := (⟨"com/example/rikusen/rikusen/core/play/Event$Total", "<init>", "(III)V"⟩ : MethodName)) rfl hown (mvT hZ (hw _ (ow 3 rfl))) (mvT hZ (hw _ (ow 4 rfl))) (mvT hZ (hw _ (ow 5 rfl))) (by decide) (backOf (W := 1) (rm1 l Z a0 hw [] b26 (0 : Int32) (0 : Int32) p3 (.int (0 : Int32)) (.int (0 : Int32)) (.int (0 : Int32)) h26 n0 sz33 A26 F_strength_b26 g_b26 F_die_b26 F_modifier_b26) hZ (hw _ (ow 5 rfl)) (hw _ (ow 2 rfl)) (by decide) (by decide)) (g := (mkF m 42 #[.val (.int p1), .val (.int p2), .val (.int p3), .val (.ref b5), .val (.ref b10), .val (.ref b17), .unset, .unset, .unset, .unset, .unset] [(.int p3), (.int (0 : Int32)), (.int (0 : Int32)), (.ref b26), (.ref b26)])) rfl (by rw [hml]; rfl) (Steps.refl _) (a := b26) (argsL := [(.int (0 : Int32)), (.int (0 : Int32)), (.int p3)]) (rest := [(.ref b26)]) (lenOf pd_1 rfl) rfl (by show 2 * 0 + _ ≤ _; exact Nat.le_of_eq rfl) (hb hby at_42) (fun _ _ => ⟨rfl, e26, (by decide : 4 + 0 ≤ _), (by decide : 12 + 0 ≤ _)⟩)
  dsimp only [Pt.U, Pt.locs, Pt.cells, Pt.slots] at X34 l34 y34 z34 st34 hQ34
  subst l34 y34 z34
  obtain ⟨rfl, N34q, K34, q34_0, q34_1, q34_2, q34_3⟩ := hQ34
  have N34 := Fr.app N23 N34q
  have K35 : Keep h0 h26 [] := (Keep.ext K25 E26)
  refine own_pre (B := T34.setTop (mkF m 45 #[.val (.int p1), .val (.int p2), .val (.int p3), .val (.ref b5), .val (.ref b10), .val (.ref b17), .unset, .unset, .unset, .unset, .unset] [(.ref b26)])) (fun t k => st34.trans k) ?_
  refine own_pre (B := T34.setTop (mkF m 47 #[.val (.int p1), .val (.int p2), .val (.int p3), .val (.ref b5), .val (.ref b10), .val (.ref b17), .val (.ref b26), .unset, .unset, .unset, .unset] [])) (fun t k => XS.astore X34.here hx rfl (hb hby at_45) rfl rfl (l' := #[.val (.int p1), .val (.int p2), .val (.int p3), .val (.ref b5), .val (.ref b10), .val (.ref b17), .val (.ref b26), .unset, .unset, .unset, .unset]) rfl k) ?_
  refine own_pre (B := T34.setTop (mkF m 49 #[.val (.int p1), .val (.int p2), .val (.int p3), .val (.ref b5), .val (.ref b10), .val (.ref b17), .val (.ref b26), .unset, .unset, .unset, .unset] [(.ref b10)])) (fun t k => XS.aload X34.here hx rfl (hb hby at_47) rfl rfl k) ?_
  have c36 := (Fld.keep ((Fld.keep (q14_1.ext E17) K23 (ninS ne21 nin0)).ext E26) K34 (ninS ne31 nin0))
  have c37 := (Fld.keep ((Fld.keep (q14_2.ext E17) K23 (ninS ne21 nin0)).ext E26) K34 (ninS ne31 nin0))
  have c38 := (Fld.keep ((Fld.keep (q14_3.ext E17) K23 (ninS ne21 nin0)).ext E26) K34 (ninS ne31 nin0))
  have sz39 : n0 ≤ T34.heap.size := (Nat.le_trans sz33 K34.1)
  have c41 := (Exa.keep (c30.ext E26) K34)
  obtain ⟨cq40, kq40, q40a, q40b, q40c⟩ := isOf hZ rfl c41
  obtain ⟨_, _, ⟨T40, L40, k40, n40⟩, -, X40, ⟨Lc40, hQ40, l40, y40, z40⟩, st40⟩ := X34.virtualBack hx (y := (⟨"com/example/rikusen/rikusen/core/play/Event$Total", "value", "()I"⟩ : MethodName)) (z := (⟨"com/example/rikusen/rikusen/core/play/Event$Total", "value", "()I"⟩ : MethodName)) hown (mvT hZ (hw _ (ow 20 rfl))) (mvT hZ (hw _ (ow 21 rfl))) (notFace_of_selects (args := #[]) (mvT hZ (hw _ (ow 23 rfl)))) (mvT hZ (hw _ (ow 23 rfl))) (mvT hZ (hw _ (ow 22 rfl))) (by decide) (backOf (W := 0) (rm4 l Z a0 hw [] b10 p1 (0 : Int32) (0 : Int32) T34.heap n0 sz39 c36 c37 c38) hZ (hw _ (ow 24 rfl)) (hw _ (ow 2 rfl)) (by decide) (by decide)) q40a q40c (g := (mkF m 49 #[.val (.int p1), .val (.int p2), .val (.int p3), .val (.ref b5), .val (.ref b10), .val (.ref b17), .val (.ref b26), .unset, .unset, .unset, .unset] [(.ref b10)])) rfl (by rw [hml]; rfl) (Steps.refl _) (argsL := []) (rest := []) (lenOf pd_2 rfl) rfl (by show 2 * 0 + _ ≤ _; exact Nat.le_of_eq rfl) (hb hby at_49) (fun _ _ => ⟨rfl, rfl, (by decide : 4 + 0 ≤ _), (by decide : 12 + 0 ≤ _)⟩)
  dsimp only [Pt.U, Pt.locs, Pt.cells, Pt.slots] at X40 l40 y40 z40 st40 hQ40
  subst l40 y40 z40
  obtain ⟨rfl, N40q, e40⟩ := hQ40
  have N40 := Fr.app N34 N40q
  refine own_pre (B := T40.setTop (mkF m 52 #[.val (.int p1), .val (.int p2), .val (.int p3), .val (.ref b5), .val (.ref b10), .val (.ref b17), .val (.ref b26), .unset, .unset, .unset, .unset] [(.int (own_f4 p1 (0 : Int32) (0 : Int32)))])) (fun t k => st40.trans k) ?_
  refine own_pre (B := T40.setTop (mkF m 54 #[.val (.int p1), .val (.int p2), .val (.int p3), .val (.ref b5), .val (.ref b10), .val (.ref b17), .val (.ref b26), .val (.int (own_f4 p1 (0 : Int32) (0 : Int32))), .unset, .unset, .unset] [])) (fun t k => XS.istore X40.here hx rfl (hb hby at_52) rfl (l' := #[.val (.int p1), .val (.int p2), .val (.int p3), .val (.ref b5), .val (.ref b10), .val (.ref b17), .val (.ref b26), .val (.int (own_f4 p1 (0 : Int32) (0 : Int32))), .unset, .unset, .unset]) rfl k) ?_
  refine own_pre (B := T40.setTop (mkF m 56 #[.val (.int p1), .val (.int p2), .val (.int p3), .val (.ref b5), .val (.ref b10), .val (.ref b17), .val (.ref b26), .val (.int (own_f4 p1 (0 : Int32) (0 : Int32))), .unset, .unset, .unset] [(.ref b17)])) (fun t k => XS.aload X40.here hx rfl (hb hby at_54) rfl rfl k) ?_
  have c42 := (Fld.keep (q23_1.ext E26) K34 (ninS ne32 nin0))
  have c43 := (Fld.keep (q23_2.ext E26) K34 (ninS ne32 nin0))
  have c44 := (Fld.keep (q23_3.ext E26) K34 (ninS ne32 nin0))
  have c46 := (Exa.keep (q23_0.ext E26) K34)
  obtain ⟨cq45, kq45, q45a, q45b, q45c⟩ := isOf hZ e40 c46
  obtain ⟨_, _, ⟨T45, L45, k45, n45⟩, -, X45, ⟨Lc45, hQ45, l45, y45, z45⟩, st45⟩ := X40.virtualBack hx (y := (⟨"com/example/rikusen/rikusen/core/play/Event$Total", "value", "()I"⟩ : MethodName)) (z := (⟨"com/example/rikusen/rikusen/core/play/Event$Total", "value", "()I"⟩ : MethodName)) hown (mvT hZ (hw _ (ow 20 rfl))) (mvT hZ (hw _ (ow 21 rfl))) (notFace_of_selects (args := #[]) (mvT hZ (hw _ (ow 23 rfl)))) (mvT hZ (hw _ (ow 23 rfl))) (mvT hZ (hw _ (ow 22 rfl))) (by decide) (backOf (W := 0) (rm4 l Z a0 hw [] b17 (0 : Int32) p2 (0 : Int32) T34.heap n0 sz39 c42 c43 c44) hZ (hw _ (ow 24 rfl)) (hw _ (ow 2 rfl)) (by decide) (by decide)) q45a q45c (g := (mkF m 56 #[.val (.int p1), .val (.int p2), .val (.int p3), .val (.ref b5), .val (.ref b10), .val (.ref b17), .val (.ref b26), .val (.int (own_f4 p1 (0 : Int32) (0 : Int32))), .unset, .unset, .unset] [(.ref b17)])) rfl (by rw [hml]; rfl) (Steps.refl _) (argsL := []) (rest := []) (lenOf pd_2 rfl) rfl (by show 2 * 0 + _ ≤ _; exact Nat.le_of_eq rfl) (hb hby at_56) (fun _ _ => ⟨rfl, e40, (by decide : 4 + 0 ≤ _), (by decide : 12 + 0 ≤ _)⟩)
  dsimp only [Pt.U, Pt.locs, Pt.cells, Pt.slots] at X45 l45 y45 z45 st45 hQ45
  subst l45 y45 z45
  obtain ⟨rfl, N45q, e45⟩ := hQ45
  have N45 := Fr.app N40 N45q
  refine own_pre (B := T45.setTop (mkF m 59 #[.val (.int p1), .val (.int p2), .val (.int p3), .val (.ref b5), .val (.ref b10), .val (.ref b17), .val (.ref b26), .val (.int (own_f4 p1 (0 : Int32) (0 : Int32))), .unset, .unset, .unset] [(.int (own_f4 (0 : Int32) p2 (0 : Int32)))])) (fun t k => st45.trans k) ?_
  refine own_pre (B := T45.setTop (mkF m 61 #[.val (.int p1), .val (.int p2), .val (.int p3), .val (.ref b5), .val (.ref b10), .val (.ref b17), .val (.ref b26), .val (.int (own_f4 p1 (0 : Int32) (0 : Int32))), .val (.int (own_f4 (0 : Int32) p2 (0 : Int32))), .unset, .unset] [])) (fun t k => XS.istore X45.here hx rfl (hb hby at_59) rfl (l' := #[.val (.int p1), .val (.int p2), .val (.int p3), .val (.ref b5), .val (.ref b10), .val (.ref b17), .val (.ref b26), .val (.int (own_f4 p1 (0 : Int32) (0 : Int32))), .val (.int (own_f4 (0 : Int32) p2 (0 : Int32))), .unset, .unset]) rfl k) ?_
  refine own_pre (B := T45.setTop (mkF m 63 #[.val (.int p1), .val (.int p2), .val (.int p3), .val (.ref b5), .val (.ref b10), .val (.ref b17), .val (.ref b26), .val (.int (own_f4 p1 (0 : Int32) (0 : Int32))), .val (.int (own_f4 (0 : Int32) p2 (0 : Int32))), .unset, .unset] [(.ref b26)])) (fun t k => XS.aload X45.here hx rfl (hb hby at_61) rfl rfl k) ?_
  obtain ⟨cq47, kq47, q47a, q47b, q47c⟩ := isOf hZ e45 q34_0
  obtain ⟨_, _, ⟨T47, L47, k47, n47⟩, -, X47, ⟨Lc47, hQ47, l47, y47, z47⟩, st47⟩ := X45.virtualBack hx (y := (⟨"com/example/rikusen/rikusen/core/play/Event$Total", "value", "()I"⟩ : MethodName)) (z := (⟨"com/example/rikusen/rikusen/core/play/Event$Total", "value", "()I"⟩ : MethodName)) hown (mvT hZ (hw _ (ow 20 rfl))) (mvT hZ (hw _ (ow 21 rfl))) (notFace_of_selects (args := #[]) (mvT hZ (hw _ (ow 23 rfl)))) (mvT hZ (hw _ (ow 23 rfl))) (mvT hZ (hw _ (ow 22 rfl))) (by decide) (backOf (W := 0) (rm4 l Z a0 hw [] b26 (0 : Int32) (0 : Int32) p3 T34.heap n0 sz39 q34_1 q34_2 q34_3) hZ (hw _ (ow 24 rfl)) (hw _ (ow 2 rfl)) (by decide) (by decide)) q47a q47c (g := (mkF m 63 #[.val (.int p1), .val (.int p2), .val (.int p3), .val (.ref b5), .val (.ref b10), .val (.ref b17), .val (.ref b26), .val (.int (own_f4 p1 (0 : Int32) (0 : Int32))), .val (.int (own_f4 (0 : Int32) p2 (0 : Int32))), .unset, .unset] [(.ref b26)])) rfl (by rw [hml]; rfl) (Steps.refl _) (argsL := []) (rest := []) (lenOf pd_2 rfl) rfl (by show 2 * 0 + _ ≤ _; exact Nat.le_of_eq rfl) (hb hby at_63) (fun _ _ => ⟨rfl, e45, (by decide : 4 + 0 ≤ _), (by decide : 12 + 0 ≤ _)⟩)
  dsimp only [Pt.U, Pt.locs, Pt.cells, Pt.slots] at X47 l47 y47 z47 st47 hQ47
  subst l47 y47 z47
  obtain ⟨rfl, N47q, e47⟩ := hQ47
  have N47 := Fr.app N45 N47q
  refine own_pre (B := T47.setTop (mkF m 66 #[.val (.int p1), .val (.int p2), .val (.int p3), .val (.ref b5), .val (.ref b10), .val (.ref b17), .val (.ref b26), .val (.int (own_f4 p1 (0 : Int32) (0 : Int32))), .val (.int (own_f4 (0 : Int32) p2 (0 : Int32))), .unset, .unset] [(.int (own_f4 (0 : Int32) (0 : Int32) p3))])) (fun t k => st47.trans k) ?_
  refine own_pre (B := T47.setTop (mkF m 68 #[.val (.int p1), .val (.int p2), .val (.int p3), .val (.ref b5), .val (.ref b10), .val (.ref b17), .val (.ref b26), .val (.int (own_f4 p1 (0 : Int32) (0 : Int32))), .val (.int (own_f4 (0 : Int32) p2 (0 : Int32))), .val (.int (own_f4 (0 : Int32) (0 : Int32) p3)), .unset] [])) (fun t k => XS.istore X47.here hx rfl (hb hby at_66) rfl (l' := #[.val (.int p1), .val (.int p2), .val (.int p3), .val (.ref b5), .val (.ref b10), .val (.ref b17), .val (.ref b26), .val (.int (own_f4 p1 (0 : Int32) (0 : Int32))), .val (.int (own_f4 (0 : Int32) p2 (0 : Int32))), .val (.int (own_f4 (0 : Int32) (0 : Int32) p3)), .unset]) rfl k) ?_
  refine own_pre (B := T47.setTop (mkF m 69 #[.val (.int p1), .val (.int p2), .val (.int p3), .val (.ref b5), .val (.ref b10), .val (.ref b17), .val (.ref b26), .val (.int (own_f4 p1 (0 : Int32) (0 : Int32))), .val (.int (own_f4 (0 : Int32) p2 (0 : Int32))), .val (.int (own_f4 (0 : Int32) (0 : Int32) p3)), .unset] [(.ref b5)])) (fun t k => XS.aloadN X47.here hx rfl (hb hby at_68) rfl rfl k) ?_
  have c48 := (Fld.keep ((Fld.keep ((Fld.keep (q7_1.ext E10) K14 (ninS ne12 nin0)).ext E17) K23 (ninS ne20 nin0)).ext E26) K34 (ninS ne29 nin0))
  have c49 := (Fld.keep ((Fld.keep ((Fld.keep (q7_2.ext E10) K14 (ninS ne12 nin0)).ext E17) K23 (ninS ne20 nin0)).ext E26) K34 (ninS ne29 nin0))
  have c50 := (Fld.keep ((Fld.keep ((Fld.keep (q7_3.ext E10) K14 (ninS ne12 nin0)).ext E17) K23 (ninS ne20 nin0)).ext E26) K34 (ninS ne29 nin0))
  have c52 := (Exa.keep (c28.ext E26) K34)
  obtain ⟨cq51, kq51, q51a, q51b, q51c⟩ := isOf hZ e47 c52
  obtain ⟨_, _, ⟨T51, L51, k51, n51⟩, -, X51, ⟨Lc51, hQ51, l51, y51, z51⟩, st51⟩ := X47.virtualBack hx (y := (⟨"com/example/rikusen/rikusen/core/play/Event$Total", "value", "()I"⟩ : MethodName)) (z := (⟨"com/example/rikusen/rikusen/core/play/Event$Total", "value", "()I"⟩ : MethodName)) hown (mvT hZ (hw _ (ow 20 rfl))) (mvT hZ (hw _ (ow 21 rfl))) (notFace_of_selects (args := #[]) (mvT hZ (hw _ (ow 23 rfl)))) (mvT hZ (hw _ (ow 23 rfl))) (mvT hZ (hw _ (ow 22 rfl))) (by decide) (backOf (W := 0) (rm4 l Z a0 hw [] b5 p1 p2 p3 T34.heap n0 sz39 c48 c49 c50) hZ (hw _ (ow 24 rfl)) (hw _ (ow 2 rfl)) (by decide) (by decide)) q51a q51c (g := (mkF m 69 #[.val (.int p1), .val (.int p2), .val (.int p3), .val (.ref b5), .val (.ref b10), .val (.ref b17), .val (.ref b26), .val (.int (own_f4 p1 (0 : Int32) (0 : Int32))), .val (.int (own_f4 (0 : Int32) p2 (0 : Int32))), .val (.int (own_f4 (0 : Int32) (0 : Int32) p3)), .unset] [(.ref b5)])) rfl (by rw [hml]; rfl) (Steps.refl _) (argsL := []) (rest := []) (lenOf pd_2 rfl) rfl (by show 2 * 0 + _ ≤ _; exact Nat.le_of_eq rfl) (hb hby at_69) (fun _ _ => ⟨rfl, e47, (by decide : 4 + 0 ≤ _), (by decide : 12 + 0 ≤ _)⟩)
  dsimp only [Pt.U, Pt.locs, Pt.cells, Pt.slots] at X51 l51 y51 z51 st51 hQ51
  subst l51 y51 z51
  obtain ⟨rfl, N51q, e51⟩ := hQ51
  have N51 := Fr.app N47 N51q
  refine own_pre (B := T51.setTop (mkF m 72 #[.val (.int p1), .val (.int p2), .val (.int p3), .val (.ref b5), .val (.ref b10), .val (.ref b17), .val (.ref b26), .val (.int (own_f4 p1 (0 : Int32) (0 : Int32))), .val (.int (own_f4 (0 : Int32) p2 (0 : Int32))), .val (.int (own_f4 (0 : Int32) (0 : Int32) p3)), .unset] [(.int (own_f4 p1 p2 p3))])) (fun t k => st51.trans k) ?_
  refine own_pre (B := T51.setTop (mkF m 74 #[.val (.int p1), .val (.int p2), .val (.int p3), .val (.ref b5), .val (.ref b10), .val (.ref b17), .val (.ref b26), .val (.int (own_f4 p1 (0 : Int32) (0 : Int32))), .val (.int (own_f4 (0 : Int32) p2 (0 : Int32))), .val (.int (own_f4 (0 : Int32) (0 : Int32) p3)), .val (.int (own_f4 p1 p2 p3))] [])) (fun t k => XS.istore X51.here hx rfl (hb hby at_72) rfl (l' := #[.val (.int p1), .val (.int p2), .val (.int p3), .val (.ref b5), .val (.ref b10), .val (.ref b17), .val (.ref b26), .val (.int (own_f4 p1 (0 : Int32) (0 : Int32))), .val (.int (own_f4 (0 : Int32) p2 (0 : Int32))), .val (.int (own_f4 (0 : Int32) (0 : Int32) p3)), .val (.int (own_f4 p1 p2 p3))]) rfl k) ?_
  refine own_pre (B := T51.setTop (mkF m 76 #[.val (.int p1), .val (.int p2), .val (.int p3), .val (.ref b5), .val (.ref b10), .val (.ref b17), .val (.ref b26), .val (.int (own_f4 p1 (0 : Int32) (0 : Int32))), .val (.int (own_f4 (0 : Int32) p2 (0 : Int32))), .val (.int (own_f4 (0 : Int32) (0 : Int32) p3)), .val (.int (own_f4 p1 p2 p3))] [(.int (own_f4 p1 (0 : Int32) (0 : Int32)))])) (fun t k => XS.iload X51.here hx rfl (hb hby at_74) rfl k) ?_
  refine own_pre (B := T51.setTop (mkF m 77 #[.val (.int p1), .val (.int p2), .val (.int p3), .val (.ref b5), .val (.ref b10), .val (.ref b17), .val (.ref b26), .val (.int (own_f4 p1 (0 : Int32) (0 : Int32))), .val (.int (own_f4 (0 : Int32) p2 (0 : Int32))), .val (.int (own_f4 (0 : Int32) (0 : Int32) p3)), .val (.int (own_f4 p1 p2 p3))] [(.int p1), (.int (own_f4 p1 (0 : Int32) (0 : Int32)))])) (fun t k => XS.iloadN X51.here hx rfl (hb hby at_76) rfl k) ?_
  refine own_pre (B := T51.setTop (mkF m 80 #[.val (.int p1), .val (.int p2), .val (.int p3), .val (.ref b5), .val (.ref b10), .val (.ref b17), .val (.ref b26), .val (.int (own_f4 p1 (0 : Int32) (0 : Int32))), .val (.int (own_f4 (0 : Int32) p2 (0 : Int32))), .val (.int (own_f4 (0 : Int32) (0 : Int32) p3)), .val (.int (own_f4 p1 p2 p3))] [])) (fun t k => XS.icmpNo X51.here hx rfl (hb hby at_77) rfl (teq (own_s _)).2 k) ?_
  refine own_pre (B := T51.setTop (mkF m 82 #[.val (.int p1), .val (.int p2), .val (.int p3), .val (.ref b5), .val (.ref b10), .val (.ref b17), .val (.ref b26), .val (.int (own_f4 p1 (0 : Int32) (0 : Int32))), .val (.int (own_f4 (0 : Int32) p2 (0 : Int32))), .val (.int (own_f4 (0 : Int32) (0 : Int32) p3)), .val (.int (own_f4 p1 p2 p3))] [(.int (own_f4 (0 : Int32) p2 (0 : Int32)))])) (fun t k => XS.iload X51.here hx rfl (hb hby at_80) rfl k) ?_
  refine own_pre (B := T51.setTop (mkF m 83 #[.val (.int p1), .val (.int p2), .val (.int p3), .val (.ref b5), .val (.ref b10), .val (.ref b17), .val (.ref b26), .val (.int (own_f4 p1 (0 : Int32) (0 : Int32))), .val (.int (own_f4 (0 : Int32) p2 (0 : Int32))), .val (.int (own_f4 (0 : Int32) (0 : Int32) p3)), .val (.int (own_f4 p1 p2 p3))] [(.int p2), (.int (own_f4 (0 : Int32) p2 (0 : Int32)))])) (fun t k => XS.iloadN X51.here hx rfl (hb hby at_82) rfl k) ?_
  refine own_pre (B := T51.setTop (mkF m 86 #[.val (.int p1), .val (.int p2), .val (.int p3), .val (.ref b5), .val (.ref b10), .val (.ref b17), .val (.ref b26), .val (.int (own_f4 p1 (0 : Int32) (0 : Int32))), .val (.int (own_f4 (0 : Int32) p2 (0 : Int32))), .val (.int (own_f4 (0 : Int32) (0 : Int32) p3)), .val (.int (own_f4 p1 p2 p3))] [])) (fun t k => XS.icmpNo X51.here hx rfl (hb hby at_83) rfl (teq (own_d _)).2 k) ?_
  refine own_pre (B := T51.setTop (mkF m 88 #[.val (.int p1), .val (.int p2), .val (.int p3), .val (.ref b5), .val (.ref b10), .val (.ref b17), .val (.ref b26), .val (.int (own_f4 p1 (0 : Int32) (0 : Int32))), .val (.int (own_f4 (0 : Int32) p2 (0 : Int32))), .val (.int (own_f4 (0 : Int32) (0 : Int32) p3)), .val (.int (own_f4 p1 p2 p3))] [(.int (own_f4 (0 : Int32) (0 : Int32) p3))])) (fun t k => XS.iload X51.here hx rfl (hb hby at_86) rfl k) ?_
  refine own_pre (B := T51.setTop (mkF m 89 #[.val (.int p1), .val (.int p2), .val (.int p3), .val (.ref b5), .val (.ref b10), .val (.ref b17), .val (.ref b26), .val (.int (own_f4 p1 (0 : Int32) (0 : Int32))), .val (.int (own_f4 (0 : Int32) p2 (0 : Int32))), .val (.int (own_f4 (0 : Int32) (0 : Int32) p3)), .val (.int (own_f4 p1 p2 p3))] [(.int p3), (.int (own_f4 (0 : Int32) (0 : Int32) p3))])) (fun t k => XS.iloadN X51.here hx rfl (hb hby at_88) rfl k) ?_
  refine own_pre (B := T51.setTop (mkF m 92 #[.val (.int p1), .val (.int p2), .val (.int p3), .val (.ref b5), .val (.ref b10), .val (.ref b17), .val (.ref b26), .val (.int (own_f4 p1 (0 : Int32) (0 : Int32))), .val (.int (own_f4 (0 : Int32) p2 (0 : Int32))), .val (.int (own_f4 (0 : Int32) (0 : Int32) p3)), .val (.int (own_f4 p1 p2 p3))] [])) (fun t k => XS.icmpNo X51.here hx rfl (hb hby at_89) rfl (teq (own_m _)).2 k) ?_
  refine own_pre (B := T51.setTop (mkF m 94 #[.val (.int p1), .val (.int p2), .val (.int p3), .val (.ref b5), .val (.ref b10), .val (.ref b17), .val (.ref b26), .val (.int (own_f4 p1 (0 : Int32) (0 : Int32))), .val (.int (own_f4 (0 : Int32) p2 (0 : Int32))), .val (.int (own_f4 (0 : Int32) (0 : Int32) p3)), .val (.int (own_f4 p1 p2 p3))] [(.int (own_f4 p1 p2 p3))])) (fun t k => XS.iload X51.here hx rfl (hb hby at_92) rfl k) ?_
  refine own_pre (B := T51.setTop (mkF m 96 #[.val (.int p1), .val (.int p2), .val (.int p3), .val (.ref b5), .val (.ref b10), .val (.ref b17), .val (.ref b26), .val (.int (own_f4 p1 (0 : Int32) (0 : Int32))), .val (.int (own_f4 (0 : Int32) p2 (0 : Int32))), .val (.int (own_f4 (0 : Int32) (0 : Int32) p3)), .val (.int (own_f4 p1 p2 p3))] [(.int (own_f4 p1 (0 : Int32) (0 : Int32))), (.int (own_f4 p1 p2 p3))])) (fun t k => XS.iload X51.here hx rfl (hb hby at_94) rfl k) ?_
  refine own_pre (B := T51.setTop (mkF m 98 #[.val (.int p1), .val (.int p2), .val (.int p3), .val (.ref b5), .val (.ref b10), .val (.ref b17), .val (.ref b26), .val (.int (own_f4 p1 (0 : Int32) (0 : Int32))), .val (.int (own_f4 (0 : Int32) p2 (0 : Int32))), .val (.int (own_f4 (0 : Int32) (0 : Int32) p3)), .val (.int (own_f4 p1 p2 p3))] [(.int (own_f4 (0 : Int32) p2 (0 : Int32))), (.int (own_f4 p1 (0 : Int32) (0 : Int32))), (.int (own_f4 p1 p2 p3))])) (fun t k => XS.iload X51.here hx rfl (hb hby at_96) rfl k) ?_
  refine own_pre (B := T51.setTop (mkF m 99 #[.val (.int p1), .val (.int p2), .val (.int p3), .val (.ref b5), .val (.ref b10), .val (.ref b17), .val (.ref b26), .val (.int (own_f4 p1 (0 : Int32) (0 : Int32))), .val (.int (own_f4 (0 : Int32) p2 (0 : Int32))), .val (.int (own_f4 (0 : Int32) (0 : Int32) p3)), .val (.int (own_f4 p1 p2 p3))] [(.int ((own_f4 p1 (0 : Int32) (0 : Int32)) + (own_f4 (0 : Int32) p2 (0 : Int32)))), (.int (own_f4 p1 p2 p3))])) (fun t k => XS.iadd X51.here hx rfl (hb hby at_98) rfl k) ?_
  refine own_pre (B := T51.setTop (mkF m 101 #[.val (.int p1), .val (.int p2), .val (.int p3), .val (.ref b5), .val (.ref b10), .val (.ref b17), .val (.ref b26), .val (.int (own_f4 p1 (0 : Int32) (0 : Int32))), .val (.int (own_f4 (0 : Int32) p2 (0 : Int32))), .val (.int (own_f4 (0 : Int32) (0 : Int32) p3)), .val (.int (own_f4 p1 p2 p3))] [(.int (own_f4 (0 : Int32) (0 : Int32) p3)), (.int ((own_f4 p1 (0 : Int32) (0 : Int32)) + (own_f4 (0 : Int32) p2 (0 : Int32)))), (.int (own_f4 p1 p2 p3))])) (fun t k => XS.iload X51.here hx rfl (hb hby at_99) rfl k) ?_
  refine own_pre (B := T51.setTop (mkF m 102 #[.val (.int p1), .val (.int p2), .val (.int p3), .val (.ref b5), .val (.ref b10), .val (.ref b17), .val (.ref b26), .val (.int (own_f4 p1 (0 : Int32) (0 : Int32))), .val (.int (own_f4 (0 : Int32) p2 (0 : Int32))), .val (.int (own_f4 (0 : Int32) (0 : Int32) p3)), .val (.int (own_f4 p1 p2 p3))] [(.int (((own_f4 p1 (0 : Int32) (0 : Int32)) + (own_f4 (0 : Int32) p2 (0 : Int32))) + (own_f4 (0 : Int32) (0 : Int32) p3))), (.int (own_f4 p1 p2 p3))])) (fun t k => XS.iadd X51.here hx rfl (hb hby at_101) rfl k) ?_
  refine own_pre (B := T51.setTop (mkF m 105 #[.val (.int p1), .val (.int p2), .val (.int p3), .val (.ref b5), .val (.ref b10), .val (.ref b17), .val (.ref b26), .val (.int (own_f4 p1 (0 : Int32) (0 : Int32))), .val (.int (own_f4 (0 : Int32) p2 (0 : Int32))), .val (.int (own_f4 (0 : Int32) (0 : Int32) p3)), .val (.int (own_f4 p1 p2 p3))] [])) (fun t k => XS.icmpNo X51.here hx rfl (hb hby at_102) rfl (teq (own_v _ _ _)).2 k) ?_
  refine own_pre (B := T51.setTop (mkF m 106 #[.val (.int p1), .val (.int p2), .val (.int p3), .val (.ref b5), .val (.ref b10), .val (.ref b17), .val (.ref b26), .val (.int (own_f4 p1 (0 : Int32) (0 : Int32))), .val (.int (own_f4 (0 : Int32) p2 (0 : Int32))), .val (.int (own_f4 (0 : Int32) (0 : Int32) p3)), .val (.int (own_f4 p1 p2 p3))] [(.int (1 : Int32))])) (fun t k => XS.iconst X51.here hx rfl (hb hby at_105) k) ?_
  refine own_pre (B := T51.setTop (mkF m 110 #[.val (.int p1), .val (.int p2), .val (.int p3), .val (.ref b5), .val (.ref b10), .val (.ref b17), .val (.ref b26), .val (.int (own_f4 p1 (0 : Int32) (0 : Int32))), .val (.int (own_f4 (0 : Int32) p2 (0 : Int32))), .val (.int (own_f4 (0 : Int32) (0 : Int32) p3)), .val (.int (own_f4 p1 p2 p3))] [(.int (1 : Int32))])) (fun t k => XS.goto X51.here hx rfl (pc0 := 106) (pc' := 110) rfl (hb hby at_106) (by decide) (by decide) k) ?_
  obtain ⟨fsr53, hrr53, hrunr53, hendedr53, hWr53, hsamer53⟩ := X51.leave (v := some (.int (1 : Int32))) (fun h => by rw [Bd.returns] at h; cases h)
  refine ⟨_, _, (retN X51 hx (t := .boolean) Bd.returns (by simp) (hb hby at_110) hrr53), hrunr53, hendedr53, _, _, rfl, ?_, ⟨_, rfl⟩, hWr53, hsamer53.mono (by decide) (by decide)⟩
  show Q0 Z p1 p2 p3 h0 n0 _ T51.heap _
  rw [e51]
  exact ⟨rfl, N51⟩
set_option maxRecDepth 65536 in
set_option maxHeartbeats 40000000 in
theorem comes_1 {Post : Tables → Env → Array Value → State → Outcome → State → Prop} (hpost : ∀ tb e args s v u, (limb_1_1.after args s (.returned v) u = true ∧ limb_1_2.after args s (.returned v) u = true ∧ True) → FrameEnd s (.returned v) u (Jvm.fieldLocs frame_1_writes args s ++ Jvm.arrayLocs frame_1_arrays args s ++ Jvm.staticLocs frame_1_statics s) 16 128 → Post tb e args s (.returned v) u) :
    ArmFor flags0 classFile x code maxLocals ret World_1 tables_1 room_1 Calls_1 rest_1 Pre_1 Post := by
  intro l hfl _ _ p e ha hc hk s m args below hf hA hF happ hP
  obtain ⟨hcalls, hrest, hpre⟩ := hP
  obtain ⟨-, -, -, hnamed, -, -, -, hat⟩ := (Spec.applies_iff hf).mp happ
  obtain ⟨hg, hn⟩ := and_e (Cond.before_iff.mp (show (Jvm.Cond.and given_1 narrow_1).before args s = true from hpre))
  obtain ⟨g1, g2⟩ := and_e hg
  obtain ⟨g3, g4⟩ := and_e g2
  obtain ⟨g5, g6⟩ := and_e g4
  obtain ⟨w0, w1, w2, rfl⟩ : ∃ w0 w1 w2 : Value, args = #[w0, w1, w2] := by
    have hs : args.size = 3 := by simpa [Cond.value, given_1] using g1
    obtain ⟨L⟩ := args
    match L, hs with
    | [w0, w1, w2], _ => exact ⟨w0, w1, w2, rfl⟩
  have hw := fun d (hd : d ∈ tables_1) => atoms_spec (ws := Jvm.Cond.code x code maxLocals ret :: tables_1) hat d (List.mem_cons_of_mem _ hd)
  have hfit : Fit s := fun {y c} hc i hi => by
    obtain ⟨ha, rfl⟩ := Array.getElem?_eq_some_iff.mp hc
    have q := List.all_eq_true.mp ((Array.all_eq_true_iff_forall_mem.mp hF) _ (Array.getElem_mem ha)) i (List.mem_range.mpr hi)
    simpa [Array.getElem?_eq_getElem hi] using q
  obtain ⟨i0, ei0⟩ := is_v g3
  obtain rfl : w0 = (.int i0) := Option.some.inj ei0
  obtain ⟨i1, ei1⟩ := is_v g5
  obtain rfl : w1 = (.int i1) := Option.some.inj ei1
  obtain ⟨i2, ei2⟩ := is_v g6
  obtain rfl : w2 = (.int i2) := Option.some.inj ei2
  obtain ⟨n, o, h1, h2, h3, _, L, rfl, ⟨rfl, N⟩, hq⟩ := rm0 l s _ hw tables_1 i0 i1 i2  s.heap s.heap.size (Nat.le_refl _)  p e ha hc hk s m _ below hf ((Spec.applies_iff_loose hf).mp happ).1 ⟨rfl, State.Warmed39.refl s, rfl⟩ trivial
  refine ⟨n, _, h1, h2, h3, hpost _ _ _ _ _ _ ⟨Cond.after_iff.mpr rfl, Cond.after_iff.mpr (eq_i res_at (Term.int_eval (1)) rfl), trivial⟩ ⟨hq.1, hq.2.1, (hq.2.2.sift fun y hy => Or.inr (N y hy)).mono (by decide) (by decide)⟩⟩
theorem main_1_1 : Claimed_1_1 := comes_1 fun _ _ _ _ _ _ h hF => ⟨h.1, hF⟩
theorem main_1_2 : Claimed_1_2 := comes_1 fun _ _ _ _ _ _ h hF => ⟨h.2.1, hF⟩
end Jvm.Pilot.@@N@@
namespace Jvm.Pilot.@@N@@
open Jvm Jvm.ClassFile Sem Op Lib Jvm.Free Jvm.Stand Jvm.Pilot.@@N@@.Jvm.D
/-! MADE BY PROGRAM (witnessworld.py) out of the Statement's table words and the real class files: 10 classes; the members and pool entries that the words name. The judged class is class 1, her method 1. -/
namespace start1
open Jvm.ClassFile
def u (s : String) : CpInfo := .utf8 (stringToUtf16 s)
/-- a pool by its gaps: so many unusable entries, then the entry; so many at the end -/
def gap : Nat → List CpInfo → List CpInfo
  | 0, r => r
  | n + 1, r => .unusable :: gap n r
def poolList (es : List (Nat × CpInfo)) (last : Nat) : List CpInfo := es.foldr (fun e r => gap e.1 (e.2 :: r)) (gap last [])
def pool (es : List (Nat × CpInfo)) (last : Nat) : Array CpInfo := ⟨poolList es last⟩
def fileOf (pool : Array CpInfo) (this : Nat) (attrs : Array Attribute := #[]) (ms : Array MethodInfo := #[]) (fl : Nat := 33) (sup : Nat := 0) (ifs : Array Nat := #[]) (fds : Array FieldInfo := #[]) : ClassFile where
  minorVersion := 0
  majorVersion := 65
  constantPool := pool
  accessFlags := fl
  thisClass := this
  superClass := sup
  interfaces := ifs
  fields := fds
  methods := ms
  attributes := attrs
def plain (name : String) (sup : Option ClassId) : Class where
  name := name
  kind := .ordinary
  loader := none
  accessFlags := 33
  super := sup
  interfaces := #[]
  cf := none
  fields := #[]
  methods := #[]
  instanceTypes := #[]
  staticTypes := #[]
  resolved := #[]
  callSites := []
  init := .initialized
  statics := none
  mirror := none

def pool0 : Array CpInfo := pool [(5, u "<init>"), (0, u "()V"), (1, .class_ 10), (1, u "java/lang/Object")] 113

def k0c0 : Code := { maxStack := 0, maxLocals := 1, code := object_method_1_code, exceptionTable := #[], attributes := #[] }
def k0m0 : Method := { name := "<init>", desc := "()V", sig := { parameters := [], returnType := none }, accessFlags := 1, code := some k0c0 }
/-- java/lang/Object -/
def k0 : Class := { plain "java/lang/Object" none with
  accessFlags := 33
  interfaces := #[]
  cf := some (fileOf pool0 8 #[] #[{ accessFlags := 1, nameIndex := 5, descriptorIndex := 6, attributes := #[] }] 33 0 #[] #[])
  fields := #[]
  methods := #[k0m0]
  instanceTypes := #[]
  staticTypes := #[]
  resolved := Array.replicate 124 none
  statics := none }

def pool1 : Array CpInfo := pool [(2, .class_ 4), (1, u "java/lang/Object"), (0, u "<init>"), (0, u "()V"), (0, .class_ 8), (0, u "com/example/rikusen/rikusen/core/play/Event$Total"), (0, .methodref 7 10), (0, .nameAndType 5 11), (0, u "(III)V"), (0, .methodref 7 13), (0, .nameAndType 14 15), (0, u "value"), (0, u "()I"), (0, .class_ 17), (0, u "com/example/rikusen/rikusen/core/play/TotalValuePinLaw"), (2, u "law"), (0, u "(III)Z")] 7

def k1m0 : Method := { name := "<init>", desc := "()V", sig := { parameters := [], returnType := none }, accessFlags := 1, code := none }
def k1c1 : Code := { maxStack := 5, maxLocals := 11, code := code, exceptionTable := #[], attributes := #[] }
def k1m1 : Method := { name := "law", desc := "(III)Z", sig := { parameters := [.int, .int, .int], returnType := some .boolean }, accessFlags := 9, code := some k1c1 }
/-- com/example/rikusen/rikusen/core/play/TotalValuePinLaw -/
def k1 : Class := { plain "com/example/rikusen/rikusen/core/play/TotalValuePinLaw" (some 0) with
  accessFlags := 49
  interfaces := #[]
  cf := some (fileOf pool1 16 #[] #[{ accessFlags := 1, nameIndex := 5, descriptorIndex := 6, attributes := #[] }, { accessFlags := 9, nameIndex := 20, descriptorIndex := 21, attributes := #[] }] 49 2 #[] #[])
  fields := #[]
  methods := #[k1m0, k1m1]
  instanceTypes := #[]
  staticTypes := #[]
  resolved := Array.replicate 29 none
  statics := none }

def pool2 : Array CpInfo := pool [(1, .methodref 2 3), (0, .class_ 4), (0, .nameAndType 5 6), (0, u "java/lang/Object"), (0, u "<init>"), (0, u "()V"), (0, .class_ 8), (0, u "java/lang/Record")] 13

def k2c0 : Code := { maxStack := 1, maxLocals := 1, code := jdk_30_method_1_code, exceptionTable := #[], attributes := #[] }
def k2m0 : Method := { name := "<init>", desc := "()V", sig := { parameters := [], returnType := none }, accessFlags := 4, code := some k2c0 }
/-- java/lang/Record -/
def k2 : Class := { plain "java/lang/Record" (some 0) with
  accessFlags := 1057
  interfaces := #[]
  cf := some (fileOf pool2 7 #[] #[{ accessFlags := 4, nameIndex := 5, descriptorIndex := 6, attributes := #[] }] 1057 2 #[] #[])
  fields := #[]
  methods := #[k2m0]
  instanceTypes := #[]
  staticTypes := #[]
  resolved := Array.replicate 22 none
  statics := none }

def pool3 : Array CpInfo := pool [(1, .methodref 2 3), (0, .class_ 4), (0, .nameAndType 5 6), (0, u "java/lang/Record"), (0, u "<init>"), (0, u "()V"), (0, .fieldref 8 9), (0, .class_ 10), (0, .nameAndType 11 12), (0, u "com/example/rikusen/rikusen/core/play/Event$Total"), (0, u "strength"), (0, u "I"), (0, .fieldref 8 14), (0, .nameAndType 15 12), (0, u "die"), (0, .fieldref 8 17), (0, .nameAndType 18 12), (0, u "modifier"), (2, u "value"), (0, u "()I"), (12, u "(III)V"), (9, .class_ 46), (0, u "com/example/rikusen/rikusen/core/play/Event")] 29

def k3c0 : Code := { maxStack := 2, maxLocals := 4, code := prog_93_method_1_code, exceptionTable := #[], attributes := #[] }
def k3m0 : Method := { name := "<init>", desc := "(III)V", sig := { parameters := [.int, .int, .int], returnType := none }, accessFlags := 1, code := some k3c0 }
def k3c1 : Code := { maxStack := 2, maxLocals := 1, code := prog_93_method_2_code, exceptionTable := #[], attributes := #[] }
def k3m1 : Method := { name := "value", desc := "()I", sig := { parameters := [], returnType := some .int }, accessFlags := 1, code := some k3c1 }
/-- com/example/rikusen/rikusen/core/play/Event$Total -/
def k3 : Class := { plain "com/example/rikusen/rikusen/core/play/Event$Total" (some 2) with
  accessFlags := 49
  interfaces := #[]
  cf := some (fileOf pool3 8 #[.nestHost 45] #[{ accessFlags := 1, nameIndex := 5, descriptorIndex := 35, attributes := #[] }, { accessFlags := 1, nameIndex := 21, descriptorIndex := 22, attributes := #[] }] 49 2 #[] #[{ accessFlags := 18, nameIndex := 11, descriptorIndex := 12, attributes := #[] }, { accessFlags := 18, nameIndex := 15, descriptorIndex := 12, attributes := #[] }, { accessFlags := 18, nameIndex := 18, descriptorIndex := 12, attributes := #[] }])
  fields := #[{ name := "strength", type := .int, accessFlags := 18, slot := 0, constantValue := 0 }, { name := "die", type := .int, accessFlags := 18, slot := 1, constantValue := 0 }, { name := "modifier", type := .int, accessFlags := 18, slot := 2, constantValue := 0 }]
  methods := #[k3m0, k3m1]
  instanceTypes := #[.int, .int, .int]
  staticTypes := #[]
  resolved := Array.replicate 76 none
  statics := none }

def pool4 : Array CpInfo := pool [(1, u "java/lang/Cloneable"), (0, .class_ 1), (0, u "java/lang/Object"), (0, .class_ 3)] 3

/-- java/lang/Cloneable -/
def k4 : Class := { plain "java/lang/Cloneable" (some 0) with
  accessFlags := 1537
  interfaces := #[]
  cf := some (fileOf pool4 2 #[] #[] 1537 4 #[] #[])
  fields := #[]
  methods := #[]
  instanceTypes := #[]
  staticTypes := #[]
  resolved := Array.replicate 8 none
  statics := none }

def pool5 : Array CpInfo := pool [(1, u "java/io/Serializable"), (0, .class_ 1), (0, u "java/lang/Object"), (0, .class_ 3)] 3

/-- java/io/Serializable -/
def k5 : Class := { plain "java/io/Serializable" (some 0) with
  accessFlags := 1537
  interfaces := #[]
  cf := some (fileOf pool5 2 #[] #[] 1537 4 #[] #[])
  fields := #[]
  methods := #[]
  instanceTypes := #[]
  staticTypes := #[]
  resolved := Array.replicate 8 none
  statics := none }

/-- the primitive byte -/
def k6 : Class := { plain "byte" none with kind := .primitive 'B', accessFlags := 0x411 }
/-- [B -/
def k7 : Class := { plain "[B" (some 0) with kind := .array 6 .byte, interfaces := #[4, 5], accessFlags := 1041 }

/-- the primitive int -/
def k8 : Class := { plain "int" none with kind := .primitive 'I', accessFlags := 0x411 }
/-- [I -/
def k9 : Class := { plain "[I" (some 0) with kind := .array 8 .int, interfaces := #[4, 5], accessFlags := 1041 }

def heap : Heap := #[]
def classes : Array Class := #[k0, k1, k2, k3, k4, k5, k6, k7, k8, k9]
def interned : List (Array UInt16 × Addr) := []
def slotsUsed : Nat := 0
def theMethod : MethodId := ⟨1, 1⟩
def args0 : Array Value := #[.int 3, .int 4, .int 1]
def aboutOver (below : List Frame) : State where
  vm := { classes := classes, interned := interned.toArray }
  heap := heap
  slotsUsed := slotsUsed
  threads := #[{ frames := .invoking theMethod args0 :: below }]
def below0 : List Frame := [.native { method := ⟨0, 0⟩, args := #[] }]
def about1 : State := aboutOver below0
def p0 : Program := .bare "" "" ""
def e0 : Env := launch0.env 0 0 0
theorem w_frames : about1.frames = Frame.invoking theMethod args0 :: below0 := rfl
set_option maxRecDepth 65536 in
theorem w_args : argsFit about1.vm theMethod args0 = true := by decide +kernel
set_option maxRecDepth 65536 in
theorem w_heap : heapFits about1 = true := by decide +kernel
set_option maxRecDepth 65536 in
theorem w_runnable : about1.curStatus? = some .runnable := by decide +kernel
set_option maxRecDepth 65536 in
theorem w_alone : about1.alone = true := by decide +kernel
set_option maxRecDepth 65536 in
theorem w_named : about1.methodNamed? x = some theMethod := by decide +kernel
set_option maxRecDepth 65536 in
theorem w_hears : about1.hears theMethod below0 = true := by decide +kernel
set_option maxRecDepth 65536 in
theorem w_ripe : about1.ripe theMethod args0 below0 = true := by decide +kernel
theorem w_running : about1.status = .running := rfl
set_option maxRecDepth 65536 in
theorem w_room : about1.hasRoom e0.platform room_1 = true :=
  launch0.hasRoom_least _ room_1 (by decide +kernel) (by decide +kernel) (by decide +kernel) (by decide +kernel) (by decide +kernel) (by decide +kernel)
theorem allAtoms_all (ts : List Jvm.Cond) (a : Array Jvm.Value) (st : Jvm.State) : (allAtoms ts).before a st = ts.all (fun c => c.before a st) := by
  induction ts with
  | nil => rfl
  | cons c t ih =>
    show (Jvm.Cond.and c (allAtoms t)).before a st = _
    rw [Jvm.Cond.before_and, ih, List.all_cons]
def words1 : List Jvm.Cond := Jvm.Cond.code x code maxLocals ret :: tables_1
/-- a 'code' word, met by the world's own term for the bytes: nothing is compared byte by byte -/
theorem code_word {y : MethodName} {bytes : ByteArray} {mx : Nat} {rt : Option FieldType} {a : Array Value} {s : State} {m : MethodId} {meth : Method} {c : Code} (h1 : s.methodNamed? y = some m) (h2 : s.vm.method? m = some meth) (h3 : meth.code = some c) (h4 : c.code = bytes)
    (h5 : (c.maxLocals == mx && c.exceptionTable.isEmpty && decide (c.maxStack ≤ mostOperands) && decide (meth.sig.returnType = rt) && !meth.locks && decide (parseMethodDescriptor y.desc = some meth.sig)) = true) : (Jvm.Cond.code y bytes mx rt).before a s = true := by
  simp only [Bool.and_eq_true, beq_iff_eq, Bool.not_eq_true', decide_eq_true_eq] at h5
  obtain ⟨⟨⟨⟨⟨g1, g2⟩, g3⟩, g4⟩, g5⟩, g6⟩ := h5
  simp [Cond.before, Cond.holds, Cond.value, h1, h2, h3, h4, g1, g2, g3, g4, g5, g6]
def isCode : Jvm.Cond → Bool
  | .code _ _ _ _ => true
  | _ => false
theorem all_split {L : List Jvm.Cond} {P : Jvm.Cond → Bool} (h1 : L.all (fun c => isCode c || P c) = true) (h2 : ∀ c ∈ L.filter isCode, P c = true) : L.all P = true := by
  refine List.all_eq_true.mpr fun c hc => ?_
  have h := List.all_eq_true.mp h1 c hc
  rcases Bool.eq_false_or_eq_true (isCode c) with hi | hi
  · exact h2 c (List.mem_filter.mpr ⟨hc, hi⟩)
  · simpa [hi] using h
set_option maxRecDepth 65536 in
theorem w_c0 : (Jvm.Cond.code x code maxLocals ret).before args0 about1 = true := code_word (m := ⟨1, 1⟩) (meth := k1m1) (c := k1c1) (by decide +kernel) rfl rfl rfl (by decide +kernel)
set_option maxRecDepth 65536 in
theorem w_c1 : (Jvm.Cond.code ({ cls := "com/example/rikusen/rikusen/core/play/Event$Total", name := "<init>", desc := "(III)V" } : Jvm.MethodName) prog_93_method_1_code (4 : Nat) (Option.none : Option Jvm.ClassFile.FieldType)).before args0 about1 = true := code_word (m := ⟨3, 0⟩) (meth := k3m0) (c := k3c0) (by decide +kernel) rfl rfl rfl (by decide +kernel)
set_option maxRecDepth 65536 in
theorem w_c2 : (Jvm.Cond.code ({ cls := "java/lang/Record", name := "<init>", desc := "()V" } : Jvm.MethodName) jdk_30_method_1_code (1 : Nat) (Option.none : Option Jvm.ClassFile.FieldType)).before args0 about1 = true := code_word (m := ⟨2, 0⟩) (meth := k2m0) (c := k2c0) (by decide +kernel) rfl rfl rfl (by decide +kernel)
set_option maxRecDepth 65536 in
theorem w_c3 : (Jvm.Cond.code ({ cls := "java/lang/Object", name := "<init>", desc := "()V" } : Jvm.MethodName) object_method_1_code (1 : Nat) (Option.none : Option Jvm.ClassFile.FieldType)).before args0 about1 = true := code_word (m := ⟨0, 0⟩) (meth := k0m0) (c := k0c0) (by decide +kernel) rfl rfl rfl (by decide +kernel)
set_option maxRecDepth 65536 in
theorem w_c4 : (Jvm.Cond.code ({ cls := "com/example/rikusen/rikusen/core/play/Event$Total", name := "value", desc := "()I" } : Jvm.MethodName) prog_93_method_2_code (1 : Nat) (Option.some Jvm.ClassFile.FieldType.int)).before args0 about1 = true := code_word (m := ⟨3, 1⟩) (meth := k3m1) (c := k3c1) (by decide +kernel) rfl rfl rfl (by decide +kernel)
def codes1 : List Jvm.Cond := [Jvm.Cond.code x code maxLocals ret, Jvm.Cond.code ({ cls := "com/example/rikusen/rikusen/core/play/Event$Total", name := "<init>", desc := "(III)V" } : Jvm.MethodName) prog_93_method_1_code (4 : Nat) (Option.none : Option Jvm.ClassFile.FieldType), Jvm.Cond.code ({ cls := "java/lang/Record", name := "<init>", desc := "()V" } : Jvm.MethodName) jdk_30_method_1_code (1 : Nat) (Option.none : Option Jvm.ClassFile.FieldType), Jvm.Cond.code ({ cls := "java/lang/Object", name := "<init>", desc := "()V" } : Jvm.MethodName) object_method_1_code (1 : Nat) (Option.none : Option Jvm.ClassFile.FieldType), Jvm.Cond.code ({ cls := "com/example/rikusen/rikusen/core/play/Event$Total", name := "value", desc := "()I" } : Jvm.MethodName) prog_93_method_2_code (1 : Nat) (Option.some Jvm.ClassFile.FieldType.int)]
set_option maxRecDepth 65536 in
theorem codes_eq : words1.filter isCode = codes1 := rfl
theorem w_codes : ∀ c ∈ words1.filter isCode, c.before args0 about1 = true := by
  rw [codes_eq]
  intro c hc
  simp only [codes1, List.mem_cons, List.not_mem_nil, or_false] at hc
  rcases hc with rfl | rfl | rfl | rfl | rfl
  · exact w_c0
  · exact w_c1
  · exact w_c2
  · exact w_c3
  · exact w_c4
set_option maxRecDepth 65536 in
theorem w_t1 : (words1.take 24).all (fun c => isCode c || c.before args0 about1) = true := by decide +kernel
set_option maxRecDepth 65536 in
theorem w_t2 : (words1.drop 24).all (fun c => isCode c || c.before args0 about1) = true := by decide +kernel
theorem w_tables : (allAtoms (Jvm.Cond.code x code maxLocals ret :: tables_1)).before args0 about1 = true := by
  rw [allAtoms_all]
  show words1.all (fun c => c.before args0 about1) = true
  refine all_split ?_ w_codes
  rw [← List.take_append_drop 24 words1, List.all_append, w_t1, w_t2]
  rfl
set_option maxRecDepth 65536 in
theorem w_case : (Jvm.Cond.and given_1 narrow_1).before args0 about1 = true := by decide +kernel
theorem w_applies : (headSpec (Jvm.Cond.code x code maxLocals ret :: tables_1) room_1).applies x e0.platform about1 = true :=
  (Spec.applies_iff w_frames).mpr ⟨w_running, w_runnable, w_alone, w_named, w_hears, w_ripe, w_room, w_tables⟩
theorem atStart : AtStart classFile x code maxLocals ret World_1 tables_1 room_1 Calls_1 rest_1 Pre_1 launch0 p0 e0 about1 theMethod args0 below0 :=
  ⟨lists_1, trivial, launch0.admits_env _ _ _, launch0.least_env, fairChoices_fair.cas, fairChoices_fair.clock, w_frames, w_args, w_heap, w_applies, trivial, trivial, w_case⟩
end start1
theorem witness_1 : WitnessClaimed_1 := ⟨start1.p0, start1.e0, start1.about1, start1.theMethod, start1.args0, start1.below0, start1.atStart⟩
end Jvm.Pilot.@@N@@
