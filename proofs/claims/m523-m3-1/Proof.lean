import JvmDerived
import JvmDerived.Pilot.@@N@@Statement
import JvmDerived.Pilot.@@N@@Code
set_option linter.unusedVariables false
set_option linter.unusedSimpArgs false
namespace Jvm.RoadKit
open Sem ClassFile Op Lib Jvm.Stand Jvm.Free Jvm.LawKit
section New
variable {p : Program} {l : Launch} {e : Env} {R : Room} {s : State} {m : MethodId} {args : Array Value} {below : List Frame} {meth : Method} {c : Code} {T : State} {locs : List Loc} {cells slots : Nat}
theorem retI (X : Stand p l e R s m args below meth c T locs cells slots) (hx : p.tables.exec = Jvm.exec) {pc : Nat} {Ls : Array Slot} {z : Int32} {rest : List Value} (hret : meth.sig.returnType = some .int) (hd : decode c.code pc = .ok (.ireturn, 1)) {fs : List Frame}
    (hl : ∀ (f : JFrame) (acts : List Action), f.method = m → f.locked = none → f.entered = [] → (doReturn e (T.setTop f) acts (some (.int z))).1 = T.setFrames fs) : Steps p.tables e below (T.setTop (mkF m pc Ls (.int z :: rest))) (T.setFrames fs) := by
  have hm' : T.vm.method? m = some meth := X.method'
  have hn : narrow .int (.int z) = .int z := rfl
  show Steps p.tables e below (T.setTop { method := m, pc := pc, locals := Ls, stack := _ :: rest, locked := none }) _
  jvm_step X.here [X.here.top, hx, hd, hm', hret, hn]
  first | (intro acts; rw [hl _ acts rfl rfl rfl]) | rw [hl _ _ rfl rfl rfl]
  exact Steps.refl _
end New
end Jvm.RoadKit
namespace Jvm.Pilot.@@N@@
open Jvm Jvm.ClassFile Sem Op Lib Jvm.Free Jvm.Stand Jvm.LawKit Jvm.RoadKit Bundle Jvm.Pilot.@@N@@.Jvm.D
/-! the goal of a walk, gone through forwards: from the state A the run comes to an end that answers R -/
def own_G (tb : Tables) (e : Env) (below : List Frame) (R : State → Outcome → Prop) (A : State) : Prop := ∃ t o, Steps tb e below A t ∧ t.status = .running ∧ Ended t below o ∧ R t o
theorem own_in {tb : Tables} {e : Env} {below : List Frame} {R : State → Outcome → Prop} {A : State} (h : own_G tb e below R A) : ∃ t o, Steps tb e below A t ∧ t.status = .running ∧ Ended t below o ∧ R t o := h
theorem own_pre {tb : Tables} {e : Env} {below : List Frame} {R : State → Outcome → Prop} {A B : State} (k : ∀ t, Steps tb e below B t → Steps tb e below A t) (h : own_G tb e below R B) : own_G tb e below R A := by
  obtain ⟨t, o, h1, h2⟩ := h
  exact ⟨t, o, k t h1, h2⟩
/-! a part of a walk: from A the run comes to some state that answers P -/
def own_J (tb : Tables) (e : Env) (below : List Frame) (P : State → Prop) (A : State) : Prop := ∃ B, P B ∧ ∀ t, Steps tb e below B t → Steps tb e below A t
theorem own_preJ {tb : Tables} {e : Env} {below : List Frame} {P : State → Prop} {A B : State} (k : ∀ t, Steps tb e below B t → Steps tb e below A t) (h : own_J tb e below P B) : own_J tb e below P A := by
  obtain ⟨C, h1, h2⟩ := h
  exact ⟨C, h1, fun t q => k t (h2 t q)⟩
theorem own_more {p : Program} {l : Launch} {e : Env} {R : Room} {s : State} {m : MethodId} {args : Array Value} {below : List Frame} {meth : Method} {c : Code} {T : State} {locs : List Loc} {cells slots cells' slots' : Nat} (X : Stand p l e R s m args below meth c T locs cells slots) (h : cells ≤ cells') (h' : slots ≤ slots') : Stand p l e R s m args below meth c T locs cells' slots' :=
  { X with same := X.same.mono h h' }
theorem own_hide {p : Program} {l : Launch} {e : Env} {R : Room} {s : State} {m : MethodId} {args : Array Value} {below : List Frame} {meth : Method} {c : Code} {T : State} {locs : List Loc} {cells slots n0 : Nat} (X : Stand p l e R s m args below meth c T locs cells slots) (N : Fr n0 locs) : ∃ L, Stand p l e R s m args below meth c T L cells slots ∧ Fr n0 L := ⟨_, X, N⟩
theorem ow {d : Jvm.Cond} (i : Nat) (h : tables_1[i]? = some d) : d ∈ tables_1 := List.mem_of_getElem? h
theorem own_selp {Z s : State} {a0 args : Array Value} {y : MethodName} {n : Nat} (hZ : Z.Warmed39 s.vm) (wi : (Jvm.Cond.instantiable y.cls n).before a0 Z = true) (wp : (Jvm.Cond.privateMethod y).before a0 Z = true) (wm : (Jvm.Cond.instanceMethod y).before a0 Z = true) (hy : y.cls ≠ "java/lang/invoke/MethodHandle" ∧ y.cls ≠ "java/lang/invoke/VarHandle") : (Jvm.Cond.selects y.cls y y).before args s = true := by
  obtain ⟨c, k, h1, h2, -, h4, -⟩ := Cond.instantiable_spec (mvT (args := args) hZ wi)
  exact selects_self_of_private h1 h2 (by simp at h4; exact h4.1) (Cond.privateMethod_at (mvP hZ wp (args := #[]))) (mvT hZ wm) hy
theorem d1_0 : decode method_2_code 0 = .ok (.iload_n 0, 1) := by decide +kernel
theorem d1_1 : decode method_2_code 1 = .ok (.iconst 3, 1) := by decide +kernel
theorem d1_2 : decode method_2_code 2 = .ok (.iand, 1) := by decide +kernel
theorem d1_3 : decode method_2_code 3 = .ok (.istore 5, 2) := by decide +kernel
theorem d1_5 : decode method_2_code 5 = .ok (.iload 5, 2) := by decide +kernel
theorem d1_7 : decode method_2_code 7 = .ok (.ifCond .ne 5, 3) := by decide +kernel
theorem d1_10 : decode method_2_code 10 = .ok (.lload_n 1, 1) := by decide +kernel
theorem d1_11 : decode method_2_code 11 = .ok (.lreturn, 1) := by decide +kernel
theorem d1_12 : decode method_2_code 12 = .ok (.iload 5, 2) := by decide +kernel
theorem d1_14 : decode method_2_code 14 = .ok (.iconst 1, 1) := by decide +kernel
theorem d1_15 : decode method_2_code 15 = .ok (.if_icmp .ne 5, 3) := by decide +kernel
theorem d1_18 : decode method_2_code 18 = .ok (.lload_n 3, 1) := by decide +kernel
theorem d1_19 : decode method_2_code 19 = .ok (.lreturn, 1) := by decide +kernel
theorem d1_20 : decode method_2_code 20 = .ok (.iload 5, 2) := by decide +kernel
theorem d1_22 : decode method_2_code 22 = .ok (.iconst 2, 1) := by decide +kernel
theorem d1_23 : decode method_2_code 23 = .ok (.if_icmp .ne 7, 3) := by decide +kernel
theorem d1_26 : decode method_2_code 26 = .ok (.ldc2_w 7, 3) := by decide +kernel
theorem d1_29 : decode method_2_code 29 = .ok (.lreturn, 1) := by decide +kernel
theorem d1_30 : decode method_2_code 30 = .ok (.lconst 0, 1) := by decide +kernel
theorem d1_31 : decode method_2_code 31 = .ok (.lreturn, 1) := by decide +kernel
theorem pn_1 : plainName "com/example/rangewise/rangewise/BuilderAddPinLaw" = true := by first | (simp [plainName, overriddenIn]; done) | decide +kernel
theorem ef_1 (m : MethodId) (x0 : Int32) (x1 : Int64) (x2 : Int64) : entryFrame m #[(.int x0), (.long x1), (.long x2)] 6 = mkF m 0 #[.val (.int x0), .val (.long x1), .second, .val (.long x2), .second, .unset] [] := by first | (simp [entryFrame, mkF, argsToLocals, Value.category]; done) | rfl
def own_f1 (p1 : Int32) (q2 : Int64) (q3 : Int64) : Int64 := (if (p1 &&& (3 : Int32)) = (0 : Int32) then q2 else (if (p1 &&& (3 : Int32)) = (1 : Int32) then q3 else (if (p1 &&& (3 : Int32)) = (2 : Int32) then (-1 : Int64) else (0 : Int64))))
def Q1 (Z : State) (p1 : Int32) (q2 : Int64) (q3 : Int64) (h0 : Heap) (n0 : Nat) (v : Option Value) (h : Heap) (L : List Loc) : Prop := v = some (.long (own_f1 p1 q2 q3)) ∧ Fr n0 L ∧ h = h0
set_option maxRecDepth 65536 in
set_option maxHeartbeats 40000000 in
theorem rm1 (l : Launch) (Z : State) (a0 : Array Value) (hw : ∀ d ∈ tables_1, d.before a0 Z = true) (ws : List Jvm.Cond) (p1 : Int32) (q2 : Int64) (q3 : Int64) (h0 : Heap) (n0 : Nat) (Z0 : n0 ≤ h0.size) :
    MetFree l (⟨"com/example/rangewise/rangewise/BuilderAddPinLaw", "pick", "(IJJ)J"⟩ : MethodName) (head1 (Jvm.Cond.code (⟨"com/example/rangewise/rangewise/BuilderAddPinLaw", "pick", "(IJJ)J"⟩ : MethodName) method_2_code 6 (some .long) :: ws) ({ frames := 0, cells := 0, slots := 0, locals := 0 } : Room)) (fun a U => a = #[(.int p1), (.long q2), (.long q3)] ∧ Z.Warmed39 U.vm ∧ U.heap = h0) (fun _ _ _ _ _ => True) (fun _ U o U' => ∃ v L, o = .returned v ∧ Q1 Z p1 q2 q3 h0 n0 v U'.heap L ∧ FrameEnd U o U' L ({ frames := 0, cells := 0, slots := 0, locals := 0 } : Room).cells ({ frames := 0, cells := 0, slots := 0, locals := 0 } : Room).slots) := by
  refine MetFree.of_bodySF (plainFor_of_name pn_1) hisR ?_
  intro p e s m args below meth c s₁ Bd hml0 hP hK
  obtain ⟨rfl, hZ, hh⟩ := hP
  have hx := Bd.exec
  have hby := Bd.bytes
  have hml : c.maxLocals = 6 := hml0
  have hown : s.vm.findClass "com/example/rangewise/rangewise/BuilderAddPinLaw" = some m.cls := findClass_of_methodNamed Bd.named
  have hnm := (name_of_methodNamed Bd.named Bd.method).1
  have X0 : Stand p l e ({ frames := 0, cells := 0, slots := 0, locals := 0 } : Room) s m #[(.int p1), (.long q2), (.long q3)] below meth c s₁ [] 0 0 := Stand.of_body Bd
  have e0 : s₁.heap = h0 := by rw [← hh, Bd.state]; rfl
  have N0 := Fr.nil n0
  apply own_in
  refine own_pre (B := s₁.setTop (mkF m 0 #[.val (.int p1), .val (.long q2), .second, .val (.long q3), .second, .unset] [])) (fun t k => castTop (ef_1 m p1 q2 q3) k) ?_
  refine own_pre (B := s₁.setTop (mkF m 1 #[.val (.int p1), .val (.long q2), .second, .val (.long q3), .second, .unset] [(.int p1)])) (fun t k => XS.iloadN X0.here hx rfl (hb hby d1_0) rfl k) ?_
  refine own_pre (B := s₁.setTop (mkF m 2 #[.val (.int p1), .val (.long q2), .second, .val (.long q3), .second, .unset] [(.int (3 : Int32)), (.int p1)])) (fun t k => XS.iconst X0.here hx rfl (hb hby d1_1) k) ?_
  refine own_pre (B := s₁.setTop (mkF m 3 #[.val (.int p1), .val (.long q2), .second, .val (.long q3), .second, .unset] [(.int (p1 &&& (3 : Int32)))])) (fun t k => XS.iand X0.here hx rfl (hb hby d1_2) rfl k) ?_
  refine own_pre (B := s₁.setTop (mkF m 5 #[.val (.int p1), .val (.long q2), .second, .val (.long q3), .second, .val (.int (p1 &&& (3 : Int32)))] [])) (fun t k => XS.istore X0.here hx rfl (hb hby d1_3) rfl (l' := #[.val (.int p1), .val (.long q2), .second, .val (.long q3), .second, .val (.int (p1 &&& (3 : Int32)))]) rfl k) ?_
  refine own_pre (B := s₁.setTop (mkF m 7 #[.val (.int p1), .val (.long q2), .second, .val (.long q3), .second, .val (.int (p1 &&& (3 : Int32)))] [(.int (p1 &&& (3 : Int32)))])) (fun t k => XS.iload X0.here hx rfl (hb hby d1_5) rfl k) ?_
  by_cases hc7_4 : (p1 &&& (3 : Int32)) = (0 : Int32)
  · refine own_pre (B := s₁.setTop (mkF m 10 #[.val (.int p1), .val (.long q2), .second, .val (.long q3), .second, .val (.int (p1 &&& (3 : Int32)))] [])) (fun t k => XS.ifNo X0.here hx rfl (hb hby d1_7) rfl ((if0 _ _).trans (teq hc7_4).2) k) ?_
    refine own_pre (B := s₁.setTop (mkF m 11 #[.val (.int p1), .val (.long q2), .second, .val (.long q3), .second, .val (.int (p1 &&& (3 : Int32)))] [(.long q2)])) (fun t k => XS.lloadN X0.here hx rfl (hb hby d1_10) rfl k) ?_
    obtain ⟨fsr5, hrr5, hrunr5, hendedr5, hWr5, hsamer5⟩ := X0.leave (v := some (.long q2)) (fun h => by rw [Bd.returns] at h; cases h)
    refine ⟨_, _, (retOut X0 hx (t := .long) (i := .lreturn) Bd.returns rfl (Or.inr (Or.inl ⟨rfl, rfl, _, rfl⟩)) (hb hby d1_11) hrr5), hrunr5, hendedr5, _, _, rfl, ?_, ⟨_, rfl⟩, hWr5, hsamer5.mono (by decide) (by decide)⟩
    show Q1 Z p1 q2 q3 h0 n0 _ s₁.heap _
    rw [e0]
    exact ⟨(by unfold own_f1; rw [if_pos hc7_4]), N0, rfl⟩
  · refine own_pre (B := s₁.setTop (mkF m 12 #[.val (.int p1), .val (.long q2), .second, .val (.long q3), .second, .val (.int (p1 &&& (3 : Int32)))] [])) (fun t k => XS.ifYes X0.here hx rfl (pc0 := 7) (pc' := 12) rfl (hb hby d1_7) rfl ((if0 _ _).trans (feq hc7_4).2) (by decide) (by decide) k) ?_
    refine own_pre (B := s₁.setTop (mkF m 14 #[.val (.int p1), .val (.long q2), .second, .val (.long q3), .second, .val (.int (p1 &&& (3 : Int32)))] [(.int (p1 &&& (3 : Int32)))])) (fun t k => XS.iload X0.here hx rfl (hb hby d1_12) rfl k) ?_
    refine own_pre (B := s₁.setTop (mkF m 15 #[.val (.int p1), .val (.long q2), .second, .val (.long q3), .second, .val (.int (p1 &&& (3 : Int32)))] [(.int (1 : Int32)), (.int (p1 &&& (3 : Int32)))])) (fun t k => XS.iconst X0.here hx rfl (hb hby d1_14) k) ?_
    by_cases hc15_6 : (p1 &&& (3 : Int32)) = (1 : Int32)
    · refine own_pre (B := s₁.setTop (mkF m 18 #[.val (.int p1), .val (.long q2), .second, .val (.long q3), .second, .val (.int (p1 &&& (3 : Int32)))] [])) (fun t k => XS.icmpNo X0.here hx rfl (hb hby d1_15) rfl (teq hc15_6).2 k) ?_
      refine own_pre (B := s₁.setTop (mkF m 19 #[.val (.int p1), .val (.long q2), .second, .val (.long q3), .second, .val (.int (p1 &&& (3 : Int32)))] [(.long q3)])) (fun t k => XS.lloadN X0.here hx rfl (hb hby d1_18) rfl k) ?_
      obtain ⟨fsr7, hrr7, hrunr7, hendedr7, hWr7, hsamer7⟩ := X0.leave (v := some (.long q3)) (fun h => by rw [Bd.returns] at h; cases h)
      refine ⟨_, _, (retOut X0 hx (t := .long) (i := .lreturn) Bd.returns rfl (Or.inr (Or.inl ⟨rfl, rfl, _, rfl⟩)) (hb hby d1_19) hrr7), hrunr7, hendedr7, _, _, rfl, ?_, ⟨_, rfl⟩, hWr7, hsamer7.mono (by decide) (by decide)⟩
      show Q1 Z p1 q2 q3 h0 n0 _ s₁.heap _
      rw [e0]
      exact ⟨(by unfold own_f1; rw [if_neg hc7_4, if_pos hc15_6]), N0, rfl⟩
    · refine own_pre (B := s₁.setTop (mkF m 20 #[.val (.int p1), .val (.long q2), .second, .val (.long q3), .second, .val (.int (p1 &&& (3 : Int32)))] [])) (fun t k => XS.icmpYes X0.here hx rfl (pc0 := 15) (pc' := 20) rfl (hb hby d1_15) rfl (feq hc15_6).2 (by decide) (by decide) k) ?_
      refine own_pre (B := s₁.setTop (mkF m 22 #[.val (.int p1), .val (.long q2), .second, .val (.long q3), .second, .val (.int (p1 &&& (3 : Int32)))] [(.int (p1 &&& (3 : Int32)))])) (fun t k => XS.iload X0.here hx rfl (hb hby d1_20) rfl k) ?_
      refine own_pre (B := s₁.setTop (mkF m 23 #[.val (.int p1), .val (.long q2), .second, .val (.long q3), .second, .val (.int (p1 &&& (3 : Int32)))] [(.int (2 : Int32)), (.int (p1 &&& (3 : Int32)))])) (fun t k => XS.iconst X0.here hx rfl (hb hby d1_22) k) ?_
      by_cases hc23_8 : (p1 &&& (3 : Int32)) = (2 : Int32)
      · refine own_pre (B := s₁.setTop (mkF m 26 #[.val (.int p1), .val (.long q2), .second, .val (.long q3), .second, .val (.int (p1 &&& (3 : Int32)))] [])) (fun t k => XS.icmpNo X0.here hx rfl (hb hby d1_23) rfl (teq hc23_8).2 k) ?_
        refine own_pre (B := s₁.setTop (mkF m 29 #[.val (.int p1), .val (.long q2), .second, .val (.long q3), .second, .val (.int (p1 &&& (3 : Int32)))] [(.long (-1 : Int64))])) (fun t k => X0.ldc2Long hx hown (mvT hZ (hw _ (ow 42 rfl))) (g := (mkF m 26 #[.val (.int p1), .val (.long q2), .second, .val (.long q3), .second, .val (.int (p1 &&& (3 : Int32)))] [])) rfl (hb hby d1_26) _ k) ?_
        obtain ⟨fsr9, hrr9, hrunr9, hendedr9, hWr9, hsamer9⟩ := X0.leave (v := some (.long (-1 : Int64))) (fun h => by rw [Bd.returns] at h; cases h)
        refine ⟨_, _, (retOut X0 hx (t := .long) (i := .lreturn) Bd.returns rfl (Or.inr (Or.inl ⟨rfl, rfl, _, rfl⟩)) (hb hby d1_29) hrr9), hrunr9, hendedr9, _, _, rfl, ?_, ⟨_, rfl⟩, hWr9, hsamer9.mono (by decide) (by decide)⟩
        show Q1 Z p1 q2 q3 h0 n0 _ s₁.heap _
        rw [e0]
        exact ⟨(by unfold own_f1; rw [if_neg hc7_4, if_neg hc15_6, if_pos hc23_8]), N0, rfl⟩
      · refine own_pre (B := s₁.setTop (mkF m 30 #[.val (.int p1), .val (.long q2), .second, .val (.long q3), .second, .val (.int (p1 &&& (3 : Int32)))] [])) (fun t k => XS.icmpYes X0.here hx rfl (pc0 := 23) (pc' := 30) rfl (hb hby d1_23) rfl (feq hc23_8).2 (by decide) (by decide) k) ?_
        refine own_pre (B := s₁.setTop (mkF m 31 #[.val (.int p1), .val (.long q2), .second, .val (.long q3), .second, .val (.int (p1 &&& (3 : Int32)))] [(.long (0 : Int64))])) (fun t k => XS.lconst X0.here hx rfl (hb hby d1_30) k) ?_
        obtain ⟨fsr10, hrr10, hrunr10, hendedr10, hWr10, hsamer10⟩ := X0.leave (v := some (.long (0 : Int64))) (fun h => by rw [Bd.returns] at h; cases h)
        refine ⟨_, _, (retOut X0 hx (t := .long) (i := .lreturn) Bd.returns rfl (Or.inr (Or.inl ⟨rfl, rfl, _, rfl⟩)) (hb hby d1_31) hrr10), hrunr10, hendedr10, _, _, rfl, ?_, ⟨_, rfl⟩, hWr10, hsamer10.mono (by decide) (by decide)⟩
        show Q1 Z p1 q2 q3 h0 n0 _ s₁.heap _
        rw [e0]
        exact ⟨(by unfold own_f1; rw [if_neg hc7_4, if_neg hc15_6, if_neg hc23_8]), N0, rfl⟩
theorem d2_0 : decode method_3_code 0 = .ok (.lload_n 0, 1) := by decide +kernel
theorem d2_1 : decode method_3_code 1 = .ok (.ldc2_w 9, 3) := by decide +kernel
theorem d2_4 : decode method_3_code 4 = .ok (.land, 1) := by decide +kernel
theorem d2_5 : decode method_3_code 5 = .ok (.lload_n 2, 1) := by decide +kernel
theorem d2_6 : decode method_3_code 6 = .ok (.ldc2_w 9, 3) := by decide +kernel
theorem d2_9 : decode method_3_code 9 = .ok (.land, 1) := by decide +kernel
theorem d2_10 : decode method_3_code 10 = .ok (.ladd, 1) := by decide +kernel
theorem d2_11 : decode method_3_code 11 = .ok (.lload 4, 2) := by decide +kernel
theorem d2_13 : decode method_3_code 13 = .ok (.ladd, 1) := by decide +kernel
theorem d2_14 : decode method_3_code 14 = .ok (.lstore 6, 2) := by decide +kernel
theorem d2_16 : decode method_3_code 16 = .ok (.lload_n 0, 1) := by decide +kernel
theorem d2_17 : decode method_3_code 17 = .ok (.bipush 32, 2) := by decide +kernel
theorem d2_19 : decode method_3_code 19 = .ok (.lushr, 1) := by decide +kernel
theorem d2_20 : decode method_3_code 20 = .ok (.lload_n 2, 1) := by decide +kernel
theorem d2_21 : decode method_3_code 21 = .ok (.bipush 32, 2) := by decide +kernel
theorem d2_23 : decode method_3_code 23 = .ok (.lushr, 1) := by decide +kernel
theorem d2_24 : decode method_3_code 24 = .ok (.ladd, 1) := by decide +kernel
theorem d2_25 : decode method_3_code 25 = .ok (.lload 6, 2) := by decide +kernel
theorem d2_27 : decode method_3_code 27 = .ok (.bipush 32, 2) := by decide +kernel
theorem d2_29 : decode method_3_code 29 = .ok (.lushr, 1) := by decide +kernel
theorem d2_30 : decode method_3_code 30 = .ok (.ladd, 1) := by decide +kernel
theorem d2_31 : decode method_3_code 31 = .ok (.lstore 8, 2) := by decide +kernel
theorem d2_33 : decode method_3_code 33 = .ok (.lload 8, 2) := by decide +kernel
theorem d2_35 : decode method_3_code 35 = .ok (.bipush 32, 2) := by decide +kernel
theorem d2_37 : decode method_3_code 37 = .ok (.lushr, 1) := by decide +kernel
theorem d2_38 : decode method_3_code 38 = .ok (.lreturn, 1) := by decide +kernel
theorem pn_2 : plainName "com/example/rangewise/rangewise/BuilderAddPinLaw" = true := by first | (simp [plainName, overriddenIn]; done) | decide +kernel
theorem ef_2 (m : MethodId) (x0 : Int64) (x1 : Int64) (x2 : Int64) : entryFrame m #[(.long x0), (.long x1), (.long x2)] 10 = mkF m 0 #[.val (.long x0), .second, .val (.long x1), .second, .val (.long x2), .second, .unset, .unset, .unset, .unset] [] := by first | (simp [entryFrame, mkF, argsToLocals, Value.category]; done) | rfl
def own_f2 (q1 : Int64) (q2 : Int64) (q3 : Int64) : Int64 := ((((((q1.toUInt64 >>> ((32 : Int32) &&& 0x3f).toInt64.toUInt64).toInt64) + ((q2.toUInt64 >>> ((32 : Int32) &&& 0x3f).toInt64.toUInt64).toInt64)) + (((((q1 &&& (4294967295 : Int64)) + (q2 &&& (4294967295 : Int64))) + q3).toUInt64 >>> ((32 : Int32) &&& 0x3f).toInt64.toUInt64).toInt64)).toUInt64 >>> ((32 : Int32) &&& 0x3f).toInt64.toUInt64).toInt64)
def Q2 (Z : State) (q1 : Int64) (q2 : Int64) (q3 : Int64) (h0 : Heap) (n0 : Nat) (v : Option Value) (h : Heap) (L : List Loc) : Prop := v = some (.long (own_f2 q1 q2 q3)) ∧ Fr n0 L ∧ h = h0
set_option maxRecDepth 65536 in
set_option maxHeartbeats 40000000 in
theorem rm2 (l : Launch) (Z : State) (a0 : Array Value) (hw : ∀ d ∈ tables_1, d.before a0 Z = true) (ws : List Jvm.Cond) (q1 : Int64) (q2 : Int64) (q3 : Int64) (h0 : Heap) (n0 : Nat) (Z0 : n0 ≤ h0.size) :
    MetFree l (⟨"com/example/rangewise/rangewise/BuilderAddPinLaw", "carryOut", "(JJJ)J"⟩ : MethodName) (head1 (Jvm.Cond.code (⟨"com/example/rangewise/rangewise/BuilderAddPinLaw", "carryOut", "(JJJ)J"⟩ : MethodName) method_3_code 10 (some .long) :: ws) ({ frames := 0, cells := 0, slots := 0, locals := 0 } : Room)) (fun a U => a = #[(.long q1), (.long q2), (.long q3)] ∧ Z.Warmed39 U.vm ∧ U.heap = h0) (fun _ _ _ _ _ => True) (fun _ U o U' => ∃ v L, o = .returned v ∧ Q2 Z q1 q2 q3 h0 n0 v U'.heap L ∧ FrameEnd U o U' L ({ frames := 0, cells := 0, slots := 0, locals := 0 } : Room).cells ({ frames := 0, cells := 0, slots := 0, locals := 0 } : Room).slots) := by
  refine MetFree.of_bodySF (plainFor_of_name pn_2) hisR ?_
  intro p e s m args below meth c s₁ Bd hml0 hP hK
  obtain ⟨rfl, hZ, hh⟩ := hP
  have hx := Bd.exec
  have hby := Bd.bytes
  have hml : c.maxLocals = 10 := hml0
  have hown : s.vm.findClass "com/example/rangewise/rangewise/BuilderAddPinLaw" = some m.cls := findClass_of_methodNamed Bd.named
  have hnm := (name_of_methodNamed Bd.named Bd.method).1
  have X0 : Stand p l e ({ frames := 0, cells := 0, slots := 0, locals := 0 } : Room) s m #[(.long q1), (.long q2), (.long q3)] below meth c s₁ [] 0 0 := Stand.of_body Bd
  have e0 : s₁.heap = h0 := by rw [← hh, Bd.state]; rfl
  have N0 := Fr.nil n0
  apply own_in
  refine own_pre (B := s₁.setTop (mkF m 0 #[.val (.long q1), .second, .val (.long q2), .second, .val (.long q3), .second, .unset, .unset, .unset, .unset] [])) (fun t k => castTop (ef_2 m q1 q2 q3) k) ?_
  refine own_pre (B := s₁.setTop (mkF m 1 #[.val (.long q1), .second, .val (.long q2), .second, .val (.long q3), .second, .unset, .unset, .unset, .unset] [(.long q1)])) (fun t k => XS.lloadN X0.here hx rfl (hb hby d2_0) rfl k) ?_
  refine own_pre (B := s₁.setTop (mkF m 4 #[.val (.long q1), .second, .val (.long q2), .second, .val (.long q3), .second, .unset, .unset, .unset, .unset] [(.long (4294967295 : Int64)), (.long q1)])) (fun t k => X0.ldc2Long hx hown (mvT hZ (hw _ (ow 8 rfl))) (g := (mkF m 1 #[.val (.long q1), .second, .val (.long q2), .second, .val (.long q3), .second, .unset, .unset, .unset, .unset] [(.long q1)])) rfl (hb hby d2_1) _ k) ?_
  refine own_pre (B := s₁.setTop (mkF m 5 #[.val (.long q1), .second, .val (.long q2), .second, .val (.long q3), .second, .unset, .unset, .unset, .unset] [(.long (q1 &&& (4294967295 : Int64)))])) (fun t k => XS.land X0.here hx rfl (hb hby d2_4) rfl k) ?_
  refine own_pre (B := s₁.setTop (mkF m 6 #[.val (.long q1), .second, .val (.long q2), .second, .val (.long q3), .second, .unset, .unset, .unset, .unset] [(.long q2), (.long (q1 &&& (4294967295 : Int64)))])) (fun t k => XS.lloadN X0.here hx rfl (hb hby d2_5) rfl k) ?_
  refine own_pre (B := s₁.setTop (mkF m 9 #[.val (.long q1), .second, .val (.long q2), .second, .val (.long q3), .second, .unset, .unset, .unset, .unset] [(.long (4294967295 : Int64)), (.long q2), (.long (q1 &&& (4294967295 : Int64)))])) (fun t k => X0.ldc2Long hx hown (mvT hZ (hw _ (ow 8 rfl))) (g := (mkF m 6 #[.val (.long q1), .second, .val (.long q2), .second, .val (.long q3), .second, .unset, .unset, .unset, .unset] [(.long q2), (.long (q1 &&& (4294967295 : Int64)))])) rfl (hb hby d2_6) _ k) ?_
  refine own_pre (B := s₁.setTop (mkF m 10 #[.val (.long q1), .second, .val (.long q2), .second, .val (.long q3), .second, .unset, .unset, .unset, .unset] [(.long (q2 &&& (4294967295 : Int64))), (.long (q1 &&& (4294967295 : Int64)))])) (fun t k => XS.land X0.here hx rfl (hb hby d2_9) rfl k) ?_
  refine own_pre (B := s₁.setTop (mkF m 11 #[.val (.long q1), .second, .val (.long q2), .second, .val (.long q3), .second, .unset, .unset, .unset, .unset] [(.long ((q1 &&& (4294967295 : Int64)) + (q2 &&& (4294967295 : Int64))))])) (fun t k => XS.ladd X0.here hx rfl (hb hby d2_10) rfl k) ?_
  refine own_pre (B := s₁.setTop (mkF m 13 #[.val (.long q1), .second, .val (.long q2), .second, .val (.long q3), .second, .unset, .unset, .unset, .unset] [(.long q3), (.long ((q1 &&& (4294967295 : Int64)) + (q2 &&& (4294967295 : Int64))))])) (fun t k => XS.lload X0.here hx rfl (hb hby d2_11) rfl k) ?_
  refine own_pre (B := s₁.setTop (mkF m 14 #[.val (.long q1), .second, .val (.long q2), .second, .val (.long q3), .second, .unset, .unset, .unset, .unset] [(.long (((q1 &&& (4294967295 : Int64)) + (q2 &&& (4294967295 : Int64))) + q3))])) (fun t k => XS.ladd X0.here hx rfl (hb hby d2_13) rfl k) ?_
  refine own_pre (B := s₁.setTop (mkF m 16 #[.val (.long q1), .second, .val (.long q2), .second, .val (.long q3), .second, .val (.long (((q1 &&& (4294967295 : Int64)) + (q2 &&& (4294967295 : Int64))) + q3)), .second, .unset, .unset] [])) (fun t k => XS.lstore X0.here hx rfl (hb hby d2_14) rfl (l' := #[.val (.long q1), .second, .val (.long q2), .second, .val (.long q3), .second, .val (.long (((q1 &&& (4294967295 : Int64)) + (q2 &&& (4294967295 : Int64))) + q3)), .second, .unset, .unset]) rfl k) ?_
  refine own_pre (B := s₁.setTop (mkF m 17 #[.val (.long q1), .second, .val (.long q2), .second, .val (.long q3), .second, .val (.long (((q1 &&& (4294967295 : Int64)) + (q2 &&& (4294967295 : Int64))) + q3)), .second, .unset, .unset] [(.long q1)])) (fun t k => XS.lloadN X0.here hx rfl (hb hby d2_16) rfl k) ?_
  refine own_pre (B := s₁.setTop (mkF m 19 #[.val (.long q1), .second, .val (.long q2), .second, .val (.long q3), .second, .val (.long (((q1 &&& (4294967295 : Int64)) + (q2 &&& (4294967295 : Int64))) + q3)), .second, .unset, .unset] [(.int (32 : Int32)), (.long q1)])) (fun t k => XS.bipush X0.here hx rfl (hb hby d2_17) k) ?_
  refine own_pre (B := s₁.setTop (mkF m 20 #[.val (.long q1), .second, .val (.long q2), .second, .val (.long q3), .second, .val (.long (((q1 &&& (4294967295 : Int64)) + (q2 &&& (4294967295 : Int64))) + q3)), .second, .unset, .unset] [(.long ((q1.toUInt64 >>> ((32 : Int32) &&& 0x3f).toInt64.toUInt64).toInt64))])) (fun t k => XS.lushr X0.here hx rfl (hb hby d2_19) rfl k) ?_
  refine own_pre (B := s₁.setTop (mkF m 21 #[.val (.long q1), .second, .val (.long q2), .second, .val (.long q3), .second, .val (.long (((q1 &&& (4294967295 : Int64)) + (q2 &&& (4294967295 : Int64))) + q3)), .second, .unset, .unset] [(.long q2), (.long ((q1.toUInt64 >>> ((32 : Int32) &&& 0x3f).toInt64.toUInt64).toInt64))])) (fun t k => XS.lloadN X0.here hx rfl (hb hby d2_20) rfl k) ?_
  refine own_pre (B := s₁.setTop (mkF m 23 #[.val (.long q1), .second, .val (.long q2), .second, .val (.long q3), .second, .val (.long (((q1 &&& (4294967295 : Int64)) + (q2 &&& (4294967295 : Int64))) + q3)), .second, .unset, .unset] [(.int (32 : Int32)), (.long q2), (.long ((q1.toUInt64 >>> ((32 : Int32) &&& 0x3f).toInt64.toUInt64).toInt64))])) (fun t k => XS.bipush X0.here hx rfl (hb hby d2_21) k) ?_
  refine own_pre (B := s₁.setTop (mkF m 24 #[.val (.long q1), .second, .val (.long q2), .second, .val (.long q3), .second, .val (.long (((q1 &&& (4294967295 : Int64)) + (q2 &&& (4294967295 : Int64))) + q3)), .second, .unset, .unset] [(.long ((q2.toUInt64 >>> ((32 : Int32) &&& 0x3f).toInt64.toUInt64).toInt64)), (.long ((q1.toUInt64 >>> ((32 : Int32) &&& 0x3f).toInt64.toUInt64).toInt64))])) (fun t k => XS.lushr X0.here hx rfl (hb hby d2_23) rfl k) ?_
  refine own_pre (B := s₁.setTop (mkF m 25 #[.val (.long q1), .second, .val (.long q2), .second, .val (.long q3), .second, .val (.long (((q1 &&& (4294967295 : Int64)) + (q2 &&& (4294967295 : Int64))) + q3)), .second, .unset, .unset] [(.long (((q1.toUInt64 >>> ((32 : Int32) &&& 0x3f).toInt64.toUInt64).toInt64) + ((q2.toUInt64 >>> ((32 : Int32) &&& 0x3f).toInt64.toUInt64).toInt64)))])) (fun t k => XS.ladd X0.here hx rfl (hb hby d2_24) rfl k) ?_
  refine own_pre (B := s₁.setTop (mkF m 27 #[.val (.long q1), .second, .val (.long q2), .second, .val (.long q3), .second, .val (.long (((q1 &&& (4294967295 : Int64)) + (q2 &&& (4294967295 : Int64))) + q3)), .second, .unset, .unset] [(.long (((q1 &&& (4294967295 : Int64)) + (q2 &&& (4294967295 : Int64))) + q3)), (.long (((q1.toUInt64 >>> ((32 : Int32) &&& 0x3f).toInt64.toUInt64).toInt64) + ((q2.toUInt64 >>> ((32 : Int32) &&& 0x3f).toInt64.toUInt64).toInt64)))])) (fun t k => XS.lload X0.here hx rfl (hb hby d2_25) rfl k) ?_
  refine own_pre (B := s₁.setTop (mkF m 29 #[.val (.long q1), .second, .val (.long q2), .second, .val (.long q3), .second, .val (.long (((q1 &&& (4294967295 : Int64)) + (q2 &&& (4294967295 : Int64))) + q3)), .second, .unset, .unset] [(.int (32 : Int32)), (.long (((q1 &&& (4294967295 : Int64)) + (q2 &&& (4294967295 : Int64))) + q3)), (.long (((q1.toUInt64 >>> ((32 : Int32) &&& 0x3f).toInt64.toUInt64).toInt64) + ((q2.toUInt64 >>> ((32 : Int32) &&& 0x3f).toInt64.toUInt64).toInt64)))])) (fun t k => XS.bipush X0.here hx rfl (hb hby d2_27) k) ?_
  refine own_pre (B := s₁.setTop (mkF m 30 #[.val (.long q1), .second, .val (.long q2), .second, .val (.long q3), .second, .val (.long (((q1 &&& (4294967295 : Int64)) + (q2 &&& (4294967295 : Int64))) + q3)), .second, .unset, .unset] [(.long (((((q1 &&& (4294967295 : Int64)) + (q2 &&& (4294967295 : Int64))) + q3).toUInt64 >>> ((32 : Int32) &&& 0x3f).toInt64.toUInt64).toInt64)), (.long (((q1.toUInt64 >>> ((32 : Int32) &&& 0x3f).toInt64.toUInt64).toInt64) + ((q2.toUInt64 >>> ((32 : Int32) &&& 0x3f).toInt64.toUInt64).toInt64)))])) (fun t k => XS.lushr X0.here hx rfl (hb hby d2_29) rfl k) ?_
  refine own_pre (B := s₁.setTop (mkF m 31 #[.val (.long q1), .second, .val (.long q2), .second, .val (.long q3), .second, .val (.long (((q1 &&& (4294967295 : Int64)) + (q2 &&& (4294967295 : Int64))) + q3)), .second, .unset, .unset] [(.long ((((q1.toUInt64 >>> ((32 : Int32) &&& 0x3f).toInt64.toUInt64).toInt64) + ((q2.toUInt64 >>> ((32 : Int32) &&& 0x3f).toInt64.toUInt64).toInt64)) + (((((q1 &&& (4294967295 : Int64)) + (q2 &&& (4294967295 : Int64))) + q3).toUInt64 >>> ((32 : Int32) &&& 0x3f).toInt64.toUInt64).toInt64)))])) (fun t k => XS.ladd X0.here hx rfl (hb hby d2_30) rfl k) ?_
  refine own_pre (B := s₁.setTop (mkF m 33 #[.val (.long q1), .second, .val (.long q2), .second, .val (.long q3), .second, .val (.long (((q1 &&& (4294967295 : Int64)) + (q2 &&& (4294967295 : Int64))) + q3)), .second, .val (.long ((((q1.toUInt64 >>> ((32 : Int32) &&& 0x3f).toInt64.toUInt64).toInt64) + ((q2.toUInt64 >>> ((32 : Int32) &&& 0x3f).toInt64.toUInt64).toInt64)) + (((((q1 &&& (4294967295 : Int64)) + (q2 &&& (4294967295 : Int64))) + q3).toUInt64 >>> ((32 : Int32) &&& 0x3f).toInt64.toUInt64).toInt64))), .second] [])) (fun t k => XS.lstore X0.here hx rfl (hb hby d2_31) rfl (l' := #[.val (.long q1), .second, .val (.long q2), .second, .val (.long q3), .second, .val (.long (((q1 &&& (4294967295 : Int64)) + (q2 &&& (4294967295 : Int64))) + q3)), .second, .val (.long ((((q1.toUInt64 >>> ((32 : Int32) &&& 0x3f).toInt64.toUInt64).toInt64) + ((q2.toUInt64 >>> ((32 : Int32) &&& 0x3f).toInt64.toUInt64).toInt64)) + (((((q1 &&& (4294967295 : Int64)) + (q2 &&& (4294967295 : Int64))) + q3).toUInt64 >>> ((32 : Int32) &&& 0x3f).toInt64.toUInt64).toInt64))), .second]) rfl k) ?_
  refine own_pre (B := s₁.setTop (mkF m 35 #[.val (.long q1), .second, .val (.long q2), .second, .val (.long q3), .second, .val (.long (((q1 &&& (4294967295 : Int64)) + (q2 &&& (4294967295 : Int64))) + q3)), .second, .val (.long ((((q1.toUInt64 >>> ((32 : Int32) &&& 0x3f).toInt64.toUInt64).toInt64) + ((q2.toUInt64 >>> ((32 : Int32) &&& 0x3f).toInt64.toUInt64).toInt64)) + (((((q1 &&& (4294967295 : Int64)) + (q2 &&& (4294967295 : Int64))) + q3).toUInt64 >>> ((32 : Int32) &&& 0x3f).toInt64.toUInt64).toInt64))), .second] [(.long ((((q1.toUInt64 >>> ((32 : Int32) &&& 0x3f).toInt64.toUInt64).toInt64) + ((q2.toUInt64 >>> ((32 : Int32) &&& 0x3f).toInt64.toUInt64).toInt64)) + (((((q1 &&& (4294967295 : Int64)) + (q2 &&& (4294967295 : Int64))) + q3).toUInt64 >>> ((32 : Int32) &&& 0x3f).toInt64.toUInt64).toInt64)))])) (fun t k => XS.lload X0.here hx rfl (hb hby d2_33) rfl k) ?_
  refine own_pre (B := s₁.setTop (mkF m 37 #[.val (.long q1), .second, .val (.long q2), .second, .val (.long q3), .second, .val (.long (((q1 &&& (4294967295 : Int64)) + (q2 &&& (4294967295 : Int64))) + q3)), .second, .val (.long ((((q1.toUInt64 >>> ((32 : Int32) &&& 0x3f).toInt64.toUInt64).toInt64) + ((q2.toUInt64 >>> ((32 : Int32) &&& 0x3f).toInt64.toUInt64).toInt64)) + (((((q1 &&& (4294967295 : Int64)) + (q2 &&& (4294967295 : Int64))) + q3).toUInt64 >>> ((32 : Int32) &&& 0x3f).toInt64.toUInt64).toInt64))), .second] [(.int (32 : Int32)), (.long ((((q1.toUInt64 >>> ((32 : Int32) &&& 0x3f).toInt64.toUInt64).toInt64) + ((q2.toUInt64 >>> ((32 : Int32) &&& 0x3f).toInt64.toUInt64).toInt64)) + (((((q1 &&& (4294967295 : Int64)) + (q2 &&& (4294967295 : Int64))) + q3).toUInt64 >>> ((32 : Int32) &&& 0x3f).toInt64.toUInt64).toInt64)))])) (fun t k => XS.bipush X0.here hx rfl (hb hby d2_35) k) ?_
  refine own_pre (B := s₁.setTop (mkF m 38 #[.val (.long q1), .second, .val (.long q2), .second, .val (.long q3), .second, .val (.long (((q1 &&& (4294967295 : Int64)) + (q2 &&& (4294967295 : Int64))) + q3)), .second, .val (.long ((((q1.toUInt64 >>> ((32 : Int32) &&& 0x3f).toInt64.toUInt64).toInt64) + ((q2.toUInt64 >>> ((32 : Int32) &&& 0x3f).toInt64.toUInt64).toInt64)) + (((((q1 &&& (4294967295 : Int64)) + (q2 &&& (4294967295 : Int64))) + q3).toUInt64 >>> ((32 : Int32) &&& 0x3f).toInt64.toUInt64).toInt64))), .second] [(.long ((((((q1.toUInt64 >>> ((32 : Int32) &&& 0x3f).toInt64.toUInt64).toInt64) + ((q2.toUInt64 >>> ((32 : Int32) &&& 0x3f).toInt64.toUInt64).toInt64)) + (((((q1 &&& (4294967295 : Int64)) + (q2 &&& (4294967295 : Int64))) + q3).toUInt64 >>> ((32 : Int32) &&& 0x3f).toInt64.toUInt64).toInt64)).toUInt64 >>> ((32 : Int32) &&& 0x3f).toInt64.toUInt64).toInt64))])) (fun t k => XS.lushr X0.here hx rfl (hb hby d2_37) rfl k) ?_
  obtain ⟨fsr4, hrr4, hrunr4, hendedr4, hWr4, hsamer4⟩ := X0.leave (v := some (.long ((((((q1.toUInt64 >>> ((32 : Int32) &&& 0x3f).toInt64.toUInt64).toInt64) + ((q2.toUInt64 >>> ((32 : Int32) &&& 0x3f).toInt64.toUInt64).toInt64)) + (((((q1 &&& (4294967295 : Int64)) + (q2 &&& (4294967295 : Int64))) + q3).toUInt64 >>> ((32 : Int32) &&& 0x3f).toInt64.toUInt64).toInt64)).toUInt64 >>> ((32 : Int32) &&& 0x3f).toInt64.toUInt64).toInt64))) (fun h => by rw [Bd.returns] at h; cases h)
  refine ⟨_, _, (retOut X0 hx (t := .long) (i := .lreturn) Bd.returns rfl (Or.inr (Or.inl ⟨rfl, rfl, _, rfl⟩)) (hb hby d2_38) hrr4), hrunr4, hendedr4, _, _, rfl, ?_, ⟨_, rfl⟩, hWr4, hsamer4.mono (by decide) (by decide)⟩
  show Q2 Z q1 q2 q3 h0 n0 _ s₁.heap _
  rw [e0]
  exact ⟨rfl, N0, rfl⟩
theorem d3_0 : decode prog_22_method_1_code 0 = .ok (.aload_n 0, 1) := by decide +kernel
theorem d3_1 : decode prog_22_method_1_code 1 = .ok (.invokespecial 5, 3) := by decide +kernel
theorem d3_4 : decode prog_22_method_1_code 4 = .ok (.aload_n 0, 1) := by decide +kernel
theorem d3_5 : decode prog_22_method_1_code 5 = .ok (.iconst 4, 1) := by decide +kernel
theorem d3_6 : decode prog_22_method_1_code 6 = .ok (.newarray .long, 2) := by decide +kernel
theorem d3_8 : decode prog_22_method_1_code 8 = .ok (.putfield 13, 3) := by decide +kernel
theorem d3_11 : decode prog_22_method_1_code 11 = .ok (.return_, 1) := by decide +kernel
theorem pn_3 : plainName "com/example/rangewise/rangewise/Fingerprint$Builder" = true := by first | (simp [plainName, overriddenIn]; done) | decide +kernel
theorem ef_3 (m : MethodId) (x0 : Addr) : entryFrame m #[(.ref x0)] 1 = mkF m 0 #[.val (.ref x0)] [] := by first | (simp [entryFrame, mkF, argsToLocals, Value.category]; done) | rfl
def Q3 (Z : State) (a1 : Addr) (w_count_a1 : Int64) (u_sum_a1 : Value) (h0 : Heap) (n0 : Nat) (v : Option Value) (h : Heap) (L : List Loc) : Prop := ∃ (b4 : Addr) (k4 : ClassId), v = none ∧ Fr n0 L ∧ Keep h0 h [a1] ∧ Exa Z h a1 "com/example/rangewise/rangewise/Fingerprint$Builder" ∧ Fld Z h a1 "com/example/rangewise/rangewise/Fingerprint$Builder" "count" "J" (.long w_count_a1) ∧ Fld Z h a1 "com/example/rangewise/rangewise/Fingerprint$Builder" "sum" "[J" (.ref b4) ∧ n0 ≤ b4 ∧ h0.size ≤ b4 ∧ Arv Z h b4 k4 .long (4 : Int32) [(.long (0 : Int64)), (.long (0 : Int64)), (.long (0 : Int64)), (.long (0 : Int64))] (.long (0 : Int64))
set_option maxRecDepth 65536 in
set_option maxHeartbeats 40000000 in
theorem rm3 (l : Launch) (Z : State) (a0 : Array Value) (hw : ∀ d ∈ tables_1, d.before a0 Z = true) (ws : List Jvm.Cond) (a1 : Addr) (w_count_a1 : Int64) (u_sum_a1 : Value) (h0 : Heap) (n0 : Nat) (Z0 : n0 ≤ h0.size) (F_count_a1 : Fld Z h0 a1 "com/example/rangewise/rangewise/Fingerprint$Builder" "count" "J" (.long w_count_a1)) (E_a1 : Exa Z h0 a1 "com/example/rangewise/rangewise/Fingerprint$Builder") (F_sum_a1 : Fld Z h0 a1 "com/example/rangewise/rangewise/Fingerprint$Builder" "sum" "[J" u_sum_a1) (g_a1 : n0 ≤ a1) :
    MetFree l (⟨"com/example/rangewise/rangewise/Fingerprint$Builder", "<init>", "()V"⟩ : MethodName) (head1 (Jvm.Cond.code (⟨"com/example/rangewise/rangewise/Fingerprint$Builder", "<init>", "()V"⟩ : MethodName) prog_22_method_1_code 1 none :: ws) ({ frames := 1, cells := 1, slots := 4, locals := 12 } : Room)) (fun a U => a = #[(.ref a1)] ∧ Z.Warmed39 U.vm ∧ U.heap = h0) (fun _ _ _ _ _ => True) (fun _ U o U' => ∃ v L, o = .returned v ∧ Q3 Z a1 w_count_a1 u_sum_a1 h0 n0 v U'.heap L ∧ FrameEnd U o U' L ({ frames := 1, cells := 1, slots := 4, locals := 12 } : Room).cells ({ frames := 1, cells := 1, slots := 4, locals := 12 } : Room).slots) := by
  refine MetFree.of_bodySF (plainFor_of_name pn_3) hisR ?_
  intro p e s m args below meth c s₁ Bd hml0 hP hK
  obtain ⟨rfl, hZ, hh⟩ := hP
  have hx := Bd.exec
  have hby := Bd.bytes
  have hml : c.maxLocals = 1 := hml0
  have hown : s.vm.findClass "com/example/rangewise/rangewise/Fingerprint$Builder" = some m.cls := findClass_of_methodNamed Bd.named
  have hnm := (name_of_methodNamed Bd.named Bd.method).1
  have X0 : Stand p l e ({ frames := 1, cells := 1, slots := 4, locals := 12 } : Room) s m #[(.ref a1)] below meth c s₁ [] 0 0 := Stand.of_body Bd
  have e0 : s₁.heap = h0 := by rw [← hh, Bd.state]; rfl
  have N0 := Fr.nil n0
  apply own_in
  refine own_pre (B := s₁.setTop (mkF m 0 #[.val (.ref a1)] [])) (fun t k => castTop (ef_3 m a1) k) ?_
  refine own_pre (B := s₁.setTop (mkF m 1 #[.val (.ref a1)] [(.ref a1)])) (fun t k => XS.aloadN X0.here hx rfl (hb hby d3_0) rfl rfl k) ?_
  obtain ⟨T2, X2, e2, st2⟩ := initO X0 hx hZ hown (hw _ (ow 15 rfl)) (hw _ (ow 16 rfl)) (hw _ (ow 17 rfl)) e0 (g := (mkF m 1 #[.val (.ref a1)] [(.ref a1)])) rfl (by rw [hml]; rfl) rfl (hb hby d3_1) (by decide) (W := 0) (by show 2 * 0 + _ ≤ _; exact Nat.le_of_eq rfl) (by decide)
  refine own_pre (B := T2.setTop (mkF m 4 #[.val (.ref a1)] [])) (fun t k => st2 t k) ?_
  refine own_pre (B := T2.setTop (mkF m 5 #[.val (.ref a1)] [(.ref a1)])) (fun t k => XS.aloadN X2.here hx rfl (hb hby d3_4) rfl rfl k) ?_
  refine own_pre (B := T2.setTop (mkF m 6 #[.val (.ref a1)] [(.int (4 : Int32)), (.ref a1)])) (fun t k => XS.iconst X2.here hx rfl (hb hby d3_5) k) ?_
  have K3 : Keep h0 h0 [a1] := (Keep.refl h0 [a1])
  obtain ⟨T4, h4, k4, X4, e4, E4, A4, st4⟩ := newP X2 hx hZ (hw _ (ow 0 rfl)) e2 (g := (mkF m 6 #[.val (.ref a1)] [(.int (4 : Int32)), (.ref a1)])) rfl (hb hby d3_6) rfl (by decide) (cap := 4) (by decide) (by decide) (by decide) (by decide)
  obtain ⟨b4, g4⟩ : ∃ z, z = h0.size := ⟨_, rfl⟩
  rw [← g4] at A4 st4
  have g_b4 : n0 ≤ b4 := Nat.le_trans Z0 (Nat.le_of_eq g4.symm)
  have s_b4 : h0.size ≤ b4 := Nat.le_trans K3.1 (Nat.le_of_eq g4.symm)
  have ne5 : a1 ≠ b4 := Nat.ne_of_lt (Nat.lt_of_lt_of_le (Exa.lt E_a1) (Nat.le_of_eq g4.symm))
  have V_b4 : Arv Z h4 b4 k4 .long (4 : Int32) [(.long (0 : Int64)), (.long (0 : Int64)), (.long (0 : Int64)), (.long (0 : Int64))] (.long (0 : Int64)) := (Arv.new A4 (by decide)).pad (pad_rep [] (.long (0 : Int64)) 4)
  refine own_pre (B := T4.setTop (mkF m 8 #[.val (.ref a1)] [(.ref b4), (.ref a1)])) (fun t k => st4 t k) ?_
  have c6 := (E_a1.ext E4)
  have c7 := (F_sum_a1.ext E4)
  have K8 : Keep h0 h4 [a1] := (Keep.ext K3 E4)
  obtain ⟨T9, h9, X9, e9, W9, st9⟩ := putF X4 hx hZ hown (host := "") (Or.inl (hw _ (ow 18 rfl))) Via.refl e4 c7 c6 (Or.inr ⟨(hw _ (ow 19 rfl)), rfl, hnm⟩) (hw _ (ow 10 rfl)) (ty := (.array .long)) (by decide) rfl rfl (g := (mkF m 8 #[.val (.ref a1)] [(.ref b4), (.ref a1)])) rfl rfl (hb hby d3_8)
  have Fw9 := Fld.same W9 c7
  have N9 := Fr.snoc X9 N0 g_a1
  obtain ⟨Lh10, Xh10, Nh10⟩ := own_hide X9 N9
  refine own_pre (B := T9.setTop (mkF m 11 #[.val (.ref a1)] [])) (fun t k => st9 t k) ?_
  have K11 : Keep h0 h9 [a1] := (Keep.wr K8 W9 (Or.inl (List.mem_of_getElem? (i := 0) rfl)))
  have c12 := (Exa.wr W9 c6)
  have c13 := (Fld.other W9 (F_count_a1.ext E4) (Or.inr (slot_ne (Or.inl (hw _ (ow 31 rfl))) (Or.inr (hw _ (ow 19 rfl))) (by decide) (t := .long) (t' := (.array .long)) (by decide) (by decide))))
  have c14 := (Arv.other V_b4 W9 (Ne.symm ne5))
  obtain ⟨fsr15, hrr15, hrunr15, hendedr15, hWr15, hsamer15⟩ := Xh10.leave (v := none) (fun _ => rfl)
  refine ⟨_, _, (Xh10.returnOut hx Bd.returns (hb hby d3_11) hrr15), hrunr15, hendedr15, _, _, rfl, ?_, ⟨_, rfl⟩, hWr15, hsamer15.mono (by decide) (by decide)⟩
  show Q3 Z a1 w_count_a1 u_sum_a1 h0 n0 _ T9.heap _
  rw [e9]
  exact ⟨b4, k4, rfl, Nh10, K11, c12, c13, Fw9, g_b4, s_b4, c14⟩
theorem d6_0 : decode prog_22_method_10_code 0 = .ok (.aload_n 0, 1) := by decide +kernel
theorem d6_1 : decode prog_22_method_10_code 1 = .ok (.getfield 13, 3) := by decide +kernel
theorem d6_4 : decode prog_22_method_10_code 4 = .ok (.iload_n 1, 1) := by decide +kernel
theorem d6_5 : decode prog_22_method_10_code 5 = .ok (.laload, 1) := by decide +kernel
theorem d6_6 : decode prog_22_method_10_code 6 = .ok (.lstore 6, 2) := by decide +kernel
theorem d6_8 : decode prog_22_method_10_code 8 = .ok (.lload 6, 2) := by decide +kernel
theorem d6_10 : decode prog_22_method_10_code 10 = .ok (.lload_n 2, 1) := by decide +kernel
theorem d6_11 : decode prog_22_method_10_code 11 = .ok (.ladd, 1) := by decide +kernel
theorem d6_12 : decode prog_22_method_10_code 12 = .ok (.lload 4, 2) := by decide +kernel
theorem d6_14 : decode prog_22_method_10_code 14 = .ok (.ladd, 1) := by decide +kernel
theorem d6_15 : decode prog_22_method_10_code 15 = .ok (.lstore 8, 2) := by decide +kernel
theorem d6_17 : decode prog_22_method_10_code 17 = .ok (.aload_n 0, 1) := by decide +kernel
theorem d6_18 : decode prog_22_method_10_code 18 = .ok (.getfield 13, 3) := by decide +kernel
theorem d6_21 : decode prog_22_method_10_code 21 = .ok (.iload_n 1, 1) := by decide +kernel
theorem d6_22 : decode prog_22_method_10_code 22 = .ok (.lload 8, 2) := by decide +kernel
theorem d6_24 : decode prog_22_method_10_code 24 = .ok (.lastore, 1) := by decide +kernel
theorem d6_25 : decode prog_22_method_10_code 25 = .ok (.lload 6, 2) := by decide +kernel
theorem d6_27 : decode prog_22_method_10_code 27 = .ok (.lload_n 2, 1) := by decide +kernel
theorem d6_28 : decode prog_22_method_10_code 28 = .ok (.land, 1) := by decide +kernel
theorem d6_29 : decode prog_22_method_10_code 29 = .ok (.lload 6, 2) := by decide +kernel
theorem d6_31 : decode prog_22_method_10_code 31 = .ok (.lload_n 2, 1) := by decide +kernel
theorem d6_32 : decode prog_22_method_10_code 32 = .ok (.lor, 1) := by decide +kernel
theorem d6_33 : decode prog_22_method_10_code 33 = .ok (.lload 8, 2) := by decide +kernel
theorem d6_35 : decode prog_22_method_10_code 35 = .ok (.ldc2_w 52, 3) := by decide +kernel
theorem d6_38 : decode prog_22_method_10_code 38 = .ok (.lxor, 1) := by decide +kernel
theorem d6_39 : decode prog_22_method_10_code 39 = .ok (.land, 1) := by decide +kernel
theorem d6_40 : decode prog_22_method_10_code 40 = .ok (.lor, 1) := by decide +kernel
theorem d6_41 : decode prog_22_method_10_code 41 = .ok (.bipush 63, 2) := by decide +kernel
theorem d6_43 : decode prog_22_method_10_code 43 = .ok (.lushr, 1) := by decide +kernel
theorem d6_44 : decode prog_22_method_10_code 44 = .ok (.lreturn, 1) := by decide +kernel
theorem pn_6 : plainName "com/example/rangewise/rangewise/Fingerprint$Builder" = true := by first | (simp [plainName, overriddenIn]; done) | decide +kernel
theorem ef_6_0 (m : MethodId) (x0 : Addr) (x2 : Int64) (x3 : Int64) : entryFrame m #[(.ref x0), (.int (0 : Int32)), (.long x2), (.long x3)] 10 = mkF m 0 #[.val (.ref x0), .val (.int (0 : Int32)), .val (.long x2), .second, .val (.long x3), .second, .unset, .unset, .unset, .unset] [] := by first | (simp [entryFrame, mkF, argsToLocals, Value.category]; done) | rfl
def own_f6_0 (q2 : Int64) (q3 : Int64) (x0 : Int64) : Int64 := ((((x0 &&& q2) ||| ((x0 ||| q2) &&& (((x0 + q2) + q3) ^^^ (-1 : Int64)))).toUInt64 >>> ((63 : Int32) &&& 0x3f).toInt64.toUInt64).toInt64)
def Q6_0 (Z : State) (a1 : Addr) (q2 : Int64) (q3 : Int64) (w_sum_a1 : Addr) (k_w_sum_a1 : ClassId) (x0 : Int64) (x1 : Int64) (x2 : Int64) (x3 : Int64) (h0 : Heap) (n0 : Nat) (v : Option Value) (h : Heap) (L : List Loc) : Prop := v = some (.long (own_f6_0 q2 q3 x0)) ∧ Fr n0 L ∧ Keep h0 h [w_sum_a1] ∧ Arv Z h w_sum_a1 k_w_sum_a1 .long (4 : Int32) [(.long ((x0 + q2) + q3)), (.long x1), (.long x2), (.long x3)] (.long (0 : Int64))
set_option maxRecDepth 65536 in
set_option maxHeartbeats 40000000 in
theorem rm6_0 (l : Launch) (Z : State) (a0 : Array Value) (hw : ∀ d ∈ tables_1, d.before a0 Z = true) (ws : List Jvm.Cond) (a1 : Addr) (q2 : Int64) (q3 : Int64) (w_sum_a1 : Addr) (k_w_sum_a1 : ClassId) (x0 : Int64) (x1 : Int64) (x2 : Int64) (x3 : Int64) (h0 : Heap) (n0 : Nat) (Z0 : n0 ≤ h0.size) (F_sum_a1 : Fld Z h0 a1 "com/example/rangewise/rangewise/Fingerprint$Builder" "sum" "[J" (.ref w_sum_a1)) (V_w_sum_a1 : Arv Z h0 w_sum_a1 k_w_sum_a1 .long (4 : Int32) [(.long x0), (.long x1), (.long x2), (.long x3)] (.long (0 : Int64))) (g_w_sum_a1 : n0 ≤ w_sum_a1) :
    MetFree l (⟨"com/example/rangewise/rangewise/Fingerprint$Builder", "addWord", "(IJJ)J"⟩ : MethodName) (head1 (Jvm.Cond.code (⟨"com/example/rangewise/rangewise/Fingerprint$Builder", "addWord", "(IJJ)J"⟩ : MethodName) prog_22_method_10_code 10 (some .long) :: ws) ({ frames := 0, cells := 0, slots := 0, locals := 0 } : Room)) (fun a U => a = #[(.ref a1), (.int (0 : Int32)), (.long q2), (.long q3)] ∧ Z.Warmed39 U.vm ∧ U.heap = h0) (fun _ _ _ _ _ => True) (fun _ U o U' => ∃ v L, o = .returned v ∧ Q6_0 Z a1 q2 q3 w_sum_a1 k_w_sum_a1 x0 x1 x2 x3 h0 n0 v U'.heap L ∧ FrameEnd U o U' L ({ frames := 0, cells := 0, slots := 0, locals := 0 } : Room).cells ({ frames := 0, cells := 0, slots := 0, locals := 0 } : Room).slots) := by
  refine MetFree.of_bodySF (plainFor_of_name pn_6) hisR ?_
  intro p e s m args below meth c s₁ Bd hml0 hP hK
  obtain ⟨rfl, hZ, hh⟩ := hP
  have hx := Bd.exec
  have hby := Bd.bytes
  have hml : c.maxLocals = 10 := hml0
  have hown : s.vm.findClass "com/example/rangewise/rangewise/Fingerprint$Builder" = some m.cls := findClass_of_methodNamed Bd.named
  have hnm := (name_of_methodNamed Bd.named Bd.method).1
  have X0 : Stand p l e ({ frames := 0, cells := 0, slots := 0, locals := 0 } : Room) s m #[(.ref a1), (.int (0 : Int32)), (.long q2), (.long q3)] below meth c s₁ [] 0 0 := Stand.of_body Bd
  have e0 : s₁.heap = h0 := by rw [← hh, Bd.state]; rfl
  have N0 := Fr.nil n0
  apply own_in
  refine own_pre (B := s₁.setTop (mkF m 0 #[.val (.ref a1), .val (.int (0 : Int32)), .val (.long q2), .second, .val (.long q3), .second, .unset, .unset, .unset, .unset] [])) (fun t k => castTop (ef_6_0 m a1 q2 q3) k) ?_
  refine own_pre (B := s₁.setTop (mkF m 1 #[.val (.ref a1), .val (.int (0 : Int32)), .val (.long q2), .second, .val (.long q3), .second, .unset, .unset, .unset, .unset] [(.ref a1)])) (fun t k => XS.aloadN X0.here hx rfl (hb hby d6_0) rfl rfl k) ?_
  obtain ⟨T4, X4, e4, st4⟩ := getF X0 hx hZ hown (host := "") (Or.inl (hw _ (ow 18 rfl))) Via.refl e0 F_sum_a1 (g := (mkF m 1 #[.val (.ref a1), .val (.int (0 : Int32)), .val (.long q2), .second, .val (.long q3), .second, .unset, .unset, .unset, .unset] [(.ref a1)])) rfl rfl (hb hby d6_1)
  refine own_pre (B := T4.setTop (mkF m 4 #[.val (.ref a1), .val (.int (0 : Int32)), .val (.long q2), .second, .val (.long q3), .second, .unset, .unset, .unset, .unset] [(.ref w_sum_a1)])) (fun t k => st4 t k) ?_
  refine own_pre (B := T4.setTop (mkF m 5 #[.val (.ref a1), .val (.int (0 : Int32)), .val (.long q2), .second, .val (.long q3), .second, .unset, .unset, .unset, .unset] [(.int (0 : Int32)), (.ref w_sum_a1)])) (fun t k => XS.iloadN X4.here hx rfl (hb hby d6_4) rfl k) ?_
  obtain ⟨cl5, Ar5, q5, S5, N5v, H5v, G5v⟩ := V_w_sum_a1
  have V_w_sum_a1 : Arv Z h0 w_sum_a1 k_w_sum_a1 .long (4 : Int32) [(.long x0), (.long x1), (.long x2), (.long x3)] (.long (0 : Int64)) := ⟨cl5, Ar5, q5, S5, N5v, H5v, G5v⟩
  have hin5 : ¬ ((0 : Int32) < 0 ∨ cl5.slots.size ≤ ((0 : Int32)).toNatClampNeg) := inb_of S5 ⟨by decide, by decide⟩
  have hat5 : cl5.slots[((0 : Int32)).toNatClampNeg]? = some (.long x0) := H5v.at hin5 rfl
  refine own_pre (B := T4.setTop (mkF m 6 #[.val (.ref a1), .val (.int (0 : Int32)), .val (.long q2), .second, .val (.long q3), .second, .unset, .unset, .unset, .unset] [(.long x0)])) (fun t k => X4.laload hx (j := (0 : Int32)) (v := (.long x0)) (by rw [e4]; exact Ar5.1) (State.isArrayOf_alike hZ.alike Ar5.2.1) Ar5.2.2 hin5 hat5 (g := (mkF m 5 #[.val (.ref a1), .val (.int (0 : Int32)), .val (.long q2), .second, .val (.long q3), .second, .unset, .unset, .unset, .unset] [(.int (0 : Int32)), (.ref w_sum_a1)])) rfl rfl (hb hby d6_5) t k) ?_
  refine own_pre (B := T4.setTop (mkF m 8 #[.val (.ref a1), .val (.int (0 : Int32)), .val (.long q2), .second, .val (.long q3), .second, .val (.long x0), .second, .unset, .unset] [])) (fun t k => XS.lstore X4.here hx rfl (hb hby d6_6) rfl (l' := #[.val (.ref a1), .val (.int (0 : Int32)), .val (.long q2), .second, .val (.long q3), .second, .val (.long x0), .second, .unset, .unset]) rfl k) ?_
  refine own_pre (B := T4.setTop (mkF m 10 #[.val (.ref a1), .val (.int (0 : Int32)), .val (.long q2), .second, .val (.long q3), .second, .val (.long x0), .second, .unset, .unset] [(.long x0)])) (fun t k => XS.lload X4.here hx rfl (hb hby d6_8) rfl k) ?_
  refine own_pre (B := T4.setTop (mkF m 11 #[.val (.ref a1), .val (.int (0 : Int32)), .val (.long q2), .second, .val (.long q3), .second, .val (.long x0), .second, .unset, .unset] [(.long q2), (.long x0)])) (fun t k => XS.lloadN X4.here hx rfl (hb hby d6_10) rfl k) ?_
  refine own_pre (B := T4.setTop (mkF m 12 #[.val (.ref a1), .val (.int (0 : Int32)), .val (.long q2), .second, .val (.long q3), .second, .val (.long x0), .second, .unset, .unset] [(.long (x0 + q2))])) (fun t k => XS.ladd X4.here hx rfl (hb hby d6_11) rfl k) ?_
  refine own_pre (B := T4.setTop (mkF m 14 #[.val (.ref a1), .val (.int (0 : Int32)), .val (.long q2), .second, .val (.long q3), .second, .val (.long x0), .second, .unset, .unset] [(.long q3), (.long (x0 + q2))])) (fun t k => XS.lload X4.here hx rfl (hb hby d6_12) rfl k) ?_
  refine own_pre (B := T4.setTop (mkF m 15 #[.val (.ref a1), .val (.int (0 : Int32)), .val (.long q2), .second, .val (.long q3), .second, .val (.long x0), .second, .unset, .unset] [(.long ((x0 + q2) + q3))])) (fun t k => XS.ladd X4.here hx rfl (hb hby d6_14) rfl k) ?_
  refine own_pre (B := T4.setTop (mkF m 17 #[.val (.ref a1), .val (.int (0 : Int32)), .val (.long q2), .second, .val (.long q3), .second, .val (.long x0), .second, .val (.long ((x0 + q2) + q3)), .second] [])) (fun t k => XS.lstore X4.here hx rfl (hb hby d6_15) rfl (l' := #[.val (.ref a1), .val (.int (0 : Int32)), .val (.long q2), .second, .val (.long q3), .second, .val (.long x0), .second, .val (.long ((x0 + q2) + q3)), .second]) rfl k) ?_
  refine own_pre (B := T4.setTop (mkF m 18 #[.val (.ref a1), .val (.int (0 : Int32)), .val (.long q2), .second, .val (.long q3), .second, .val (.long x0), .second, .val (.long ((x0 + q2) + q3)), .second] [(.ref a1)])) (fun t k => XS.aloadN X4.here hx rfl (hb hby d6_17) rfl rfl k) ?_
  obtain ⟨T6, X6, e6, st6⟩ := getF X4 hx hZ hown (host := "") (Or.inl (hw _ (ow 18 rfl))) Via.refl e4 F_sum_a1 (g := (mkF m 18 #[.val (.ref a1), .val (.int (0 : Int32)), .val (.long q2), .second, .val (.long q3), .second, .val (.long x0), .second, .val (.long ((x0 + q2) + q3)), .second] [(.ref a1)])) rfl rfl (hb hby d6_18)
  refine own_pre (B := T6.setTop (mkF m 21 #[.val (.ref a1), .val (.int (0 : Int32)), .val (.long q2), .second, .val (.long q3), .second, .val (.long x0), .second, .val (.long ((x0 + q2) + q3)), .second] [(.ref w_sum_a1)])) (fun t k => st6 t k) ?_
  refine own_pre (B := T6.setTop (mkF m 22 #[.val (.ref a1), .val (.int (0 : Int32)), .val (.long q2), .second, .val (.long q3), .second, .val (.long x0), .second, .val (.long ((x0 + q2) + q3)), .second] [(.int (0 : Int32)), (.ref w_sum_a1)])) (fun t k => XS.iloadN X6.here hx rfl (hb hby d6_21) rfl k) ?_
  refine own_pre (B := T6.setTop (mkF m 24 #[.val (.ref a1), .val (.int (0 : Int32)), .val (.long q2), .second, .val (.long q3), .second, .val (.long x0), .second, .val (.long ((x0 + q2) + q3)), .second] [(.long ((x0 + q2) + q3)), (.int (0 : Int32)), (.ref w_sum_a1)])) (fun t k => XS.lload X6.here hx rfl (hb hby d6_22) rfl k) ?_
  have K7 : Keep h0 h0 [w_sum_a1] := (Keep.refl h0 [w_sum_a1])
  obtain ⟨cl8, Ar8, q8, S8, N8v, H8v, G8v⟩ := V_w_sum_a1
  have V_w_sum_a1 : Arv Z h0 w_sum_a1 k_w_sum_a1 .long (4 : Int32) [(.long x0), (.long x1), (.long x2), (.long x3)] (.long (0 : Int64)) := ⟨cl8, Ar8, q8, S8, N8v, H8v, G8v⟩
  have hin8 : ¬ ((0 : Int32) < 0 ∨ cl8.slots.size ≤ ((0 : Int32)).toNatClampNeg) := inb_of S8 ⟨by decide, by decide⟩
  obtain ⟨T9, h9, X9, e9, W9, st9⟩ := stJ X6 hx hZ e6 Ar8 (j := (0 : Int32)) hin8 (g := (mkF m 24 #[.val (.ref a1), .val (.int (0 : Int32)), .val (.long q2), .second, .val (.long q3), .second, .val (.long x0), .second, .val (.long ((x0 + q2) + q3)), .second] [(.long ((x0 + q2) + q3)), (.int (0 : Int32)), (.ref w_sum_a1)])) rfl rfl (hb hby d6_24)
  have V9 : Arv Z h9 w_sum_a1 k_w_sum_a1 .long (4 : Int32) [(.long ((x0 + q2) + q3)), (.long x1), (.long x2), (.long x3)] (.long (0 : Int64)) := Arv.set Ar8 q8 S8 N8v H8v G8v rfl W9 0 rfl (Nat.le_of_ble_eq_true rfl)
  have N9 := Fr.snoc X9 N0 g_w_sum_a1
  obtain ⟨Lh10, Xh10, Nh10⟩ := own_hide X9 N9
  refine own_pre (B := T9.setTop (mkF m 25 #[.val (.ref a1), .val (.int (0 : Int32)), .val (.long q2), .second, .val (.long q3), .second, .val (.long x0), .second, .val (.long ((x0 + q2) + q3)), .second] [])) (fun t k => st9 t k) ?_
  refine own_pre (B := T9.setTop (mkF m 27 #[.val (.ref a1), .val (.int (0 : Int32)), .val (.long q2), .second, .val (.long q3), .second, .val (.long x0), .second, .val (.long ((x0 + q2) + q3)), .second] [(.long x0)])) (fun t k => XS.lload Xh10.here hx rfl (hb hby d6_25) rfl k) ?_
  refine own_pre (B := T9.setTop (mkF m 28 #[.val (.ref a1), .val (.int (0 : Int32)), .val (.long q2), .second, .val (.long q3), .second, .val (.long x0), .second, .val (.long ((x0 + q2) + q3)), .second] [(.long q2), (.long x0)])) (fun t k => XS.lloadN Xh10.here hx rfl (hb hby d6_27) rfl k) ?_
  refine own_pre (B := T9.setTop (mkF m 29 #[.val (.ref a1), .val (.int (0 : Int32)), .val (.long q2), .second, .val (.long q3), .second, .val (.long x0), .second, .val (.long ((x0 + q2) + q3)), .second] [(.long (x0 &&& q2))])) (fun t k => XS.land Xh10.here hx rfl (hb hby d6_28) rfl k) ?_
  refine own_pre (B := T9.setTop (mkF m 31 #[.val (.ref a1), .val (.int (0 : Int32)), .val (.long q2), .second, .val (.long q3), .second, .val (.long x0), .second, .val (.long ((x0 + q2) + q3)), .second] [(.long x0), (.long (x0 &&& q2))])) (fun t k => XS.lload Xh10.here hx rfl (hb hby d6_29) rfl k) ?_
  refine own_pre (B := T9.setTop (mkF m 32 #[.val (.ref a1), .val (.int (0 : Int32)), .val (.long q2), .second, .val (.long q3), .second, .val (.long x0), .second, .val (.long ((x0 + q2) + q3)), .second] [(.long q2), (.long x0), (.long (x0 &&& q2))])) (fun t k => XS.lloadN Xh10.here hx rfl (hb hby d6_31) rfl k) ?_
  refine own_pre (B := T9.setTop (mkF m 33 #[.val (.ref a1), .val (.int (0 : Int32)), .val (.long q2), .second, .val (.long q3), .second, .val (.long x0), .second, .val (.long ((x0 + q2) + q3)), .second] [(.long (x0 ||| q2)), (.long (x0 &&& q2))])) (fun t k => XS.lor Xh10.here hx rfl (hb hby d6_32) rfl k) ?_
  refine own_pre (B := T9.setTop (mkF m 35 #[.val (.ref a1), .val (.int (0 : Int32)), .val (.long q2), .second, .val (.long q3), .second, .val (.long x0), .second, .val (.long ((x0 + q2) + q3)), .second] [(.long ((x0 + q2) + q3)), (.long (x0 ||| q2)), (.long (x0 &&& q2))])) (fun t k => XS.lload Xh10.here hx rfl (hb hby d6_33) rfl k) ?_
  refine own_pre (B := T9.setTop (mkF m 38 #[.val (.ref a1), .val (.int (0 : Int32)), .val (.long q2), .second, .val (.long q3), .second, .val (.long x0), .second, .val (.long ((x0 + q2) + q3)), .second] [(.long (-1 : Int64)), (.long ((x0 + q2) + q3)), (.long (x0 ||| q2)), (.long (x0 &&& q2))])) (fun t k => Xh10.ldc2Long hx hown (mvT hZ (hw _ (ow 29 rfl))) (g := (mkF m 35 #[.val (.ref a1), .val (.int (0 : Int32)), .val (.long q2), .second, .val (.long q3), .second, .val (.long x0), .second, .val (.long ((x0 + q2) + q3)), .second] [(.long ((x0 + q2) + q3)), (.long (x0 ||| q2)), (.long (x0 &&& q2))])) rfl (hb hby d6_35) _ k) ?_
  refine own_pre (B := T9.setTop (mkF m 39 #[.val (.ref a1), .val (.int (0 : Int32)), .val (.long q2), .second, .val (.long q3), .second, .val (.long x0), .second, .val (.long ((x0 + q2) + q3)), .second] [(.long (((x0 + q2) + q3) ^^^ (-1 : Int64))), (.long (x0 ||| q2)), (.long (x0 &&& q2))])) (fun t k => XS.lxor Xh10.here hx rfl (hb hby d6_38) rfl k) ?_
  refine own_pre (B := T9.setTop (mkF m 40 #[.val (.ref a1), .val (.int (0 : Int32)), .val (.long q2), .second, .val (.long q3), .second, .val (.long x0), .second, .val (.long ((x0 + q2) + q3)), .second] [(.long ((x0 ||| q2) &&& (((x0 + q2) + q3) ^^^ (-1 : Int64)))), (.long (x0 &&& q2))])) (fun t k => XS.land Xh10.here hx rfl (hb hby d6_39) rfl k) ?_
  refine own_pre (B := T9.setTop (mkF m 41 #[.val (.ref a1), .val (.int (0 : Int32)), .val (.long q2), .second, .val (.long q3), .second, .val (.long x0), .second, .val (.long ((x0 + q2) + q3)), .second] [(.long ((x0 &&& q2) ||| ((x0 ||| q2) &&& (((x0 + q2) + q3) ^^^ (-1 : Int64)))))])) (fun t k => XS.lor Xh10.here hx rfl (hb hby d6_40) rfl k) ?_
  refine own_pre (B := T9.setTop (mkF m 43 #[.val (.ref a1), .val (.int (0 : Int32)), .val (.long q2), .second, .val (.long q3), .second, .val (.long x0), .second, .val (.long ((x0 + q2) + q3)), .second] [(.int (63 : Int32)), (.long ((x0 &&& q2) ||| ((x0 ||| q2) &&& (((x0 + q2) + q3) ^^^ (-1 : Int64)))))])) (fun t k => XS.bipush Xh10.here hx rfl (hb hby d6_41) k) ?_
  refine own_pre (B := T9.setTop (mkF m 44 #[.val (.ref a1), .val (.int (0 : Int32)), .val (.long q2), .second, .val (.long q3), .second, .val (.long x0), .second, .val (.long ((x0 + q2) + q3)), .second] [(.long ((((x0 &&& q2) ||| ((x0 ||| q2) &&& (((x0 + q2) + q3) ^^^ (-1 : Int64)))).toUInt64 >>> ((63 : Int32) &&& 0x3f).toInt64.toUInt64).toInt64))])) (fun t k => XS.lushr Xh10.here hx rfl (hb hby d6_43) rfl k) ?_
  have K11 : Keep h0 h9 [w_sum_a1] := (Keep.wr K7 W9 (Or.inl (List.mem_of_getElem? (i := 0) rfl)))
  obtain ⟨fsr12, hrr12, hrunr12, hendedr12, hWr12, hsamer12⟩ := Xh10.leave (v := some (.long ((((x0 &&& q2) ||| ((x0 ||| q2) &&& (((x0 + q2) + q3) ^^^ (-1 : Int64)))).toUInt64 >>> ((63 : Int32) &&& 0x3f).toInt64.toUInt64).toInt64))) (fun h => by rw [Bd.returns] at h; cases h)
  refine ⟨_, _, (retOut Xh10 hx (t := .long) (i := .lreturn) Bd.returns rfl (Or.inr (Or.inl ⟨rfl, rfl, _, rfl⟩)) (hb hby d6_44) hrr12), hrunr12, hendedr12, _, _, rfl, ?_, ⟨_, rfl⟩, hWr12, hsamer12.mono (by decide) (by decide)⟩
  show Q6_0 Z a1 q2 q3 w_sum_a1 k_w_sum_a1 x0 x1 x2 x3 h0 n0 _ T9.heap _
  rw [e9]
  exact ⟨rfl, Nh10, K11, V9⟩
theorem ef_6_1 (m : MethodId) (x0 : Addr) (x2 : Int64) (x3 : Int64) : entryFrame m #[(.ref x0), (.int (1 : Int32)), (.long x2), (.long x3)] 10 = mkF m 0 #[.val (.ref x0), .val (.int (1 : Int32)), .val (.long x2), .second, .val (.long x3), .second, .unset, .unset, .unset, .unset] [] := by first | (simp [entryFrame, mkF, argsToLocals, Value.category]; done) | rfl
def own_f6_1 (q2 : Int64) (q3 : Int64) (x1 : Int64) : Int64 := ((((x1 &&& q2) ||| ((x1 ||| q2) &&& (((x1 + q2) + q3) ^^^ (-1 : Int64)))).toUInt64 >>> ((63 : Int32) &&& 0x3f).toInt64.toUInt64).toInt64)
def Q6_1 (Z : State) (a1 : Addr) (q2 : Int64) (q3 : Int64) (w_sum_a1 : Addr) (k_w_sum_a1 : ClassId) (x0 : Int64) (x1 : Int64) (x2 : Int64) (x3 : Int64) (h0 : Heap) (n0 : Nat) (v : Option Value) (h : Heap) (L : List Loc) : Prop := v = some (.long (own_f6_1 q2 q3 x1)) ∧ Fr n0 L ∧ Keep h0 h [w_sum_a1] ∧ Arv Z h w_sum_a1 k_w_sum_a1 .long (4 : Int32) [(.long x0), (.long ((x1 + q2) + q3)), (.long x2), (.long x3)] (.long (0 : Int64))
set_option maxRecDepth 65536 in
set_option maxHeartbeats 40000000 in
theorem rm6_1 (l : Launch) (Z : State) (a0 : Array Value) (hw : ∀ d ∈ tables_1, d.before a0 Z = true) (ws : List Jvm.Cond) (a1 : Addr) (q2 : Int64) (q3 : Int64) (w_sum_a1 : Addr) (k_w_sum_a1 : ClassId) (x0 : Int64) (x1 : Int64) (x2 : Int64) (x3 : Int64) (h0 : Heap) (n0 : Nat) (Z0 : n0 ≤ h0.size) (F_sum_a1 : Fld Z h0 a1 "com/example/rangewise/rangewise/Fingerprint$Builder" "sum" "[J" (.ref w_sum_a1)) (V_w_sum_a1 : Arv Z h0 w_sum_a1 k_w_sum_a1 .long (4 : Int32) [(.long x0), (.long x1), (.long x2), (.long x3)] (.long (0 : Int64))) (g_w_sum_a1 : n0 ≤ w_sum_a1) :
    MetFree l (⟨"com/example/rangewise/rangewise/Fingerprint$Builder", "addWord", "(IJJ)J"⟩ : MethodName) (head1 (Jvm.Cond.code (⟨"com/example/rangewise/rangewise/Fingerprint$Builder", "addWord", "(IJJ)J"⟩ : MethodName) prog_22_method_10_code 10 (some .long) :: ws) ({ frames := 0, cells := 0, slots := 0, locals := 0 } : Room)) (fun a U => a = #[(.ref a1), (.int (1 : Int32)), (.long q2), (.long q3)] ∧ Z.Warmed39 U.vm ∧ U.heap = h0) (fun _ _ _ _ _ => True) (fun _ U o U' => ∃ v L, o = .returned v ∧ Q6_1 Z a1 q2 q3 w_sum_a1 k_w_sum_a1 x0 x1 x2 x3 h0 n0 v U'.heap L ∧ FrameEnd U o U' L ({ frames := 0, cells := 0, slots := 0, locals := 0 } : Room).cells ({ frames := 0, cells := 0, slots := 0, locals := 0 } : Room).slots) := by
  refine MetFree.of_bodySF (plainFor_of_name pn_6) hisR ?_
  intro p e s m args below meth c s₁ Bd hml0 hP hK
  obtain ⟨rfl, hZ, hh⟩ := hP
  have hx := Bd.exec
  have hby := Bd.bytes
  have hml : c.maxLocals = 10 := hml0
  have hown : s.vm.findClass "com/example/rangewise/rangewise/Fingerprint$Builder" = some m.cls := findClass_of_methodNamed Bd.named
  have hnm := (name_of_methodNamed Bd.named Bd.method).1
  have X0 : Stand p l e ({ frames := 0, cells := 0, slots := 0, locals := 0 } : Room) s m #[(.ref a1), (.int (1 : Int32)), (.long q2), (.long q3)] below meth c s₁ [] 0 0 := Stand.of_body Bd
  have e0 : s₁.heap = h0 := by rw [← hh, Bd.state]; rfl
  have N0 := Fr.nil n0
  apply own_in
  refine own_pre (B := s₁.setTop (mkF m 0 #[.val (.ref a1), .val (.int (1 : Int32)), .val (.long q2), .second, .val (.long q3), .second, .unset, .unset, .unset, .unset] [])) (fun t k => castTop (ef_6_1 m a1 q2 q3) k) ?_
  refine own_pre (B := s₁.setTop (mkF m 1 #[.val (.ref a1), .val (.int (1 : Int32)), .val (.long q2), .second, .val (.long q3), .second, .unset, .unset, .unset, .unset] [(.ref a1)])) (fun t k => XS.aloadN X0.here hx rfl (hb hby d6_0) rfl rfl k) ?_
  obtain ⟨T4, X4, e4, st4⟩ := getF X0 hx hZ hown (host := "") (Or.inl (hw _ (ow 18 rfl))) Via.refl e0 F_sum_a1 (g := (mkF m 1 #[.val (.ref a1), .val (.int (1 : Int32)), .val (.long q2), .second, .val (.long q3), .second, .unset, .unset, .unset, .unset] [(.ref a1)])) rfl rfl (hb hby d6_1)
  refine own_pre (B := T4.setTop (mkF m 4 #[.val (.ref a1), .val (.int (1 : Int32)), .val (.long q2), .second, .val (.long q3), .second, .unset, .unset, .unset, .unset] [(.ref w_sum_a1)])) (fun t k => st4 t k) ?_
  refine own_pre (B := T4.setTop (mkF m 5 #[.val (.ref a1), .val (.int (1 : Int32)), .val (.long q2), .second, .val (.long q3), .second, .unset, .unset, .unset, .unset] [(.int (1 : Int32)), (.ref w_sum_a1)])) (fun t k => XS.iloadN X4.here hx rfl (hb hby d6_4) rfl k) ?_
  obtain ⟨cl5, Ar5, q5, S5, N5v, H5v, G5v⟩ := V_w_sum_a1
  have V_w_sum_a1 : Arv Z h0 w_sum_a1 k_w_sum_a1 .long (4 : Int32) [(.long x0), (.long x1), (.long x2), (.long x3)] (.long (0 : Int64)) := ⟨cl5, Ar5, q5, S5, N5v, H5v, G5v⟩
  have hin5 : ¬ ((1 : Int32) < 0 ∨ cl5.slots.size ≤ ((1 : Int32)).toNatClampNeg) := inb_of S5 ⟨by decide, by decide⟩
  have hat5 : cl5.slots[((1 : Int32)).toNatClampNeg]? = some (.long x1) := H5v.at hin5 rfl
  refine own_pre (B := T4.setTop (mkF m 6 #[.val (.ref a1), .val (.int (1 : Int32)), .val (.long q2), .second, .val (.long q3), .second, .unset, .unset, .unset, .unset] [(.long x1)])) (fun t k => X4.laload hx (j := (1 : Int32)) (v := (.long x1)) (by rw [e4]; exact Ar5.1) (State.isArrayOf_alike hZ.alike Ar5.2.1) Ar5.2.2 hin5 hat5 (g := (mkF m 5 #[.val (.ref a1), .val (.int (1 : Int32)), .val (.long q2), .second, .val (.long q3), .second, .unset, .unset, .unset, .unset] [(.int (1 : Int32)), (.ref w_sum_a1)])) rfl rfl (hb hby d6_5) t k) ?_
  refine own_pre (B := T4.setTop (mkF m 8 #[.val (.ref a1), .val (.int (1 : Int32)), .val (.long q2), .second, .val (.long q3), .second, .val (.long x1), .second, .unset, .unset] [])) (fun t k => XS.lstore X4.here hx rfl (hb hby d6_6) rfl (l' := #[.val (.ref a1), .val (.int (1 : Int32)), .val (.long q2), .second, .val (.long q3), .second, .val (.long x1), .second, .unset, .unset]) rfl k) ?_
  refine own_pre (B := T4.setTop (mkF m 10 #[.val (.ref a1), .val (.int (1 : Int32)), .val (.long q2), .second, .val (.long q3), .second, .val (.long x1), .second, .unset, .unset] [(.long x1)])) (fun t k => XS.lload X4.here hx rfl (hb hby d6_8) rfl k) ?_
  refine own_pre (B := T4.setTop (mkF m 11 #[.val (.ref a1), .val (.int (1 : Int32)), .val (.long q2), .second, .val (.long q3), .second, .val (.long x1), .second, .unset, .unset] [(.long q2), (.long x1)])) (fun t k => XS.lloadN X4.here hx rfl (hb hby d6_10) rfl k) ?_
  refine own_pre (B := T4.setTop (mkF m 12 #[.val (.ref a1), .val (.int (1 : Int32)), .val (.long q2), .second, .val (.long q3), .second, .val (.long x1), .second, .unset, .unset] [(.long (x1 + q2))])) (fun t k => XS.ladd X4.here hx rfl (hb hby d6_11) rfl k) ?_
  refine own_pre (B := T4.setTop (mkF m 14 #[.val (.ref a1), .val (.int (1 : Int32)), .val (.long q2), .second, .val (.long q3), .second, .val (.long x1), .second, .unset, .unset] [(.long q3), (.long (x1 + q2))])) (fun t k => XS.lload X4.here hx rfl (hb hby d6_12) rfl k) ?_
  refine own_pre (B := T4.setTop (mkF m 15 #[.val (.ref a1), .val (.int (1 : Int32)), .val (.long q2), .second, .val (.long q3), .second, .val (.long x1), .second, .unset, .unset] [(.long ((x1 + q2) + q3))])) (fun t k => XS.ladd X4.here hx rfl (hb hby d6_14) rfl k) ?_
  refine own_pre (B := T4.setTop (mkF m 17 #[.val (.ref a1), .val (.int (1 : Int32)), .val (.long q2), .second, .val (.long q3), .second, .val (.long x1), .second, .val (.long ((x1 + q2) + q3)), .second] [])) (fun t k => XS.lstore X4.here hx rfl (hb hby d6_15) rfl (l' := #[.val (.ref a1), .val (.int (1 : Int32)), .val (.long q2), .second, .val (.long q3), .second, .val (.long x1), .second, .val (.long ((x1 + q2) + q3)), .second]) rfl k) ?_
  refine own_pre (B := T4.setTop (mkF m 18 #[.val (.ref a1), .val (.int (1 : Int32)), .val (.long q2), .second, .val (.long q3), .second, .val (.long x1), .second, .val (.long ((x1 + q2) + q3)), .second] [(.ref a1)])) (fun t k => XS.aloadN X4.here hx rfl (hb hby d6_17) rfl rfl k) ?_
  obtain ⟨T6, X6, e6, st6⟩ := getF X4 hx hZ hown (host := "") (Or.inl (hw _ (ow 18 rfl))) Via.refl e4 F_sum_a1 (g := (mkF m 18 #[.val (.ref a1), .val (.int (1 : Int32)), .val (.long q2), .second, .val (.long q3), .second, .val (.long x1), .second, .val (.long ((x1 + q2) + q3)), .second] [(.ref a1)])) rfl rfl (hb hby d6_18)
  refine own_pre (B := T6.setTop (mkF m 21 #[.val (.ref a1), .val (.int (1 : Int32)), .val (.long q2), .second, .val (.long q3), .second, .val (.long x1), .second, .val (.long ((x1 + q2) + q3)), .second] [(.ref w_sum_a1)])) (fun t k => st6 t k) ?_
  refine own_pre (B := T6.setTop (mkF m 22 #[.val (.ref a1), .val (.int (1 : Int32)), .val (.long q2), .second, .val (.long q3), .second, .val (.long x1), .second, .val (.long ((x1 + q2) + q3)), .second] [(.int (1 : Int32)), (.ref w_sum_a1)])) (fun t k => XS.iloadN X6.here hx rfl (hb hby d6_21) rfl k) ?_
  refine own_pre (B := T6.setTop (mkF m 24 #[.val (.ref a1), .val (.int (1 : Int32)), .val (.long q2), .second, .val (.long q3), .second, .val (.long x1), .second, .val (.long ((x1 + q2) + q3)), .second] [(.long ((x1 + q2) + q3)), (.int (1 : Int32)), (.ref w_sum_a1)])) (fun t k => XS.lload X6.here hx rfl (hb hby d6_22) rfl k) ?_
  have K7 : Keep h0 h0 [w_sum_a1] := (Keep.refl h0 [w_sum_a1])
  obtain ⟨cl8, Ar8, q8, S8, N8v, H8v, G8v⟩ := V_w_sum_a1
  have V_w_sum_a1 : Arv Z h0 w_sum_a1 k_w_sum_a1 .long (4 : Int32) [(.long x0), (.long x1), (.long x2), (.long x3)] (.long (0 : Int64)) := ⟨cl8, Ar8, q8, S8, N8v, H8v, G8v⟩
  have hin8 : ¬ ((1 : Int32) < 0 ∨ cl8.slots.size ≤ ((1 : Int32)).toNatClampNeg) := inb_of S8 ⟨by decide, by decide⟩
  obtain ⟨T9, h9, X9, e9, W9, st9⟩ := stJ X6 hx hZ e6 Ar8 (j := (1 : Int32)) hin8 (g := (mkF m 24 #[.val (.ref a1), .val (.int (1 : Int32)), .val (.long q2), .second, .val (.long q3), .second, .val (.long x1), .second, .val (.long ((x1 + q2) + q3)), .second] [(.long ((x1 + q2) + q3)), (.int (1 : Int32)), (.ref w_sum_a1)])) rfl rfl (hb hby d6_24)
  have V9 : Arv Z h9 w_sum_a1 k_w_sum_a1 .long (4 : Int32) [(.long x0), (.long ((x1 + q2) + q3)), (.long x2), (.long x3)] (.long (0 : Int64)) := Arv.set Ar8 q8 S8 N8v H8v G8v rfl W9 1 rfl (Nat.le_of_ble_eq_true rfl)
  have N9 := Fr.snoc X9 N0 g_w_sum_a1
  obtain ⟨Lh10, Xh10, Nh10⟩ := own_hide X9 N9
  refine own_pre (B := T9.setTop (mkF m 25 #[.val (.ref a1), .val (.int (1 : Int32)), .val (.long q2), .second, .val (.long q3), .second, .val (.long x1), .second, .val (.long ((x1 + q2) + q3)), .second] [])) (fun t k => st9 t k) ?_
  refine own_pre (B := T9.setTop (mkF m 27 #[.val (.ref a1), .val (.int (1 : Int32)), .val (.long q2), .second, .val (.long q3), .second, .val (.long x1), .second, .val (.long ((x1 + q2) + q3)), .second] [(.long x1)])) (fun t k => XS.lload Xh10.here hx rfl (hb hby d6_25) rfl k) ?_
  refine own_pre (B := T9.setTop (mkF m 28 #[.val (.ref a1), .val (.int (1 : Int32)), .val (.long q2), .second, .val (.long q3), .second, .val (.long x1), .second, .val (.long ((x1 + q2) + q3)), .second] [(.long q2), (.long x1)])) (fun t k => XS.lloadN Xh10.here hx rfl (hb hby d6_27) rfl k) ?_
  refine own_pre (B := T9.setTop (mkF m 29 #[.val (.ref a1), .val (.int (1 : Int32)), .val (.long q2), .second, .val (.long q3), .second, .val (.long x1), .second, .val (.long ((x1 + q2) + q3)), .second] [(.long (x1 &&& q2))])) (fun t k => XS.land Xh10.here hx rfl (hb hby d6_28) rfl k) ?_
  refine own_pre (B := T9.setTop (mkF m 31 #[.val (.ref a1), .val (.int (1 : Int32)), .val (.long q2), .second, .val (.long q3), .second, .val (.long x1), .second, .val (.long ((x1 + q2) + q3)), .second] [(.long x1), (.long (x1 &&& q2))])) (fun t k => XS.lload Xh10.here hx rfl (hb hby d6_29) rfl k) ?_
  refine own_pre (B := T9.setTop (mkF m 32 #[.val (.ref a1), .val (.int (1 : Int32)), .val (.long q2), .second, .val (.long q3), .second, .val (.long x1), .second, .val (.long ((x1 + q2) + q3)), .second] [(.long q2), (.long x1), (.long (x1 &&& q2))])) (fun t k => XS.lloadN Xh10.here hx rfl (hb hby d6_31) rfl k) ?_
  refine own_pre (B := T9.setTop (mkF m 33 #[.val (.ref a1), .val (.int (1 : Int32)), .val (.long q2), .second, .val (.long q3), .second, .val (.long x1), .second, .val (.long ((x1 + q2) + q3)), .second] [(.long (x1 ||| q2)), (.long (x1 &&& q2))])) (fun t k => XS.lor Xh10.here hx rfl (hb hby d6_32) rfl k) ?_
  refine own_pre (B := T9.setTop (mkF m 35 #[.val (.ref a1), .val (.int (1 : Int32)), .val (.long q2), .second, .val (.long q3), .second, .val (.long x1), .second, .val (.long ((x1 + q2) + q3)), .second] [(.long ((x1 + q2) + q3)), (.long (x1 ||| q2)), (.long (x1 &&& q2))])) (fun t k => XS.lload Xh10.here hx rfl (hb hby d6_33) rfl k) ?_
  refine own_pre (B := T9.setTop (mkF m 38 #[.val (.ref a1), .val (.int (1 : Int32)), .val (.long q2), .second, .val (.long q3), .second, .val (.long x1), .second, .val (.long ((x1 + q2) + q3)), .second] [(.long (-1 : Int64)), (.long ((x1 + q2) + q3)), (.long (x1 ||| q2)), (.long (x1 &&& q2))])) (fun t k => Xh10.ldc2Long hx hown (mvT hZ (hw _ (ow 29 rfl))) (g := (mkF m 35 #[.val (.ref a1), .val (.int (1 : Int32)), .val (.long q2), .second, .val (.long q3), .second, .val (.long x1), .second, .val (.long ((x1 + q2) + q3)), .second] [(.long ((x1 + q2) + q3)), (.long (x1 ||| q2)), (.long (x1 &&& q2))])) rfl (hb hby d6_35) _ k) ?_
  refine own_pre (B := T9.setTop (mkF m 39 #[.val (.ref a1), .val (.int (1 : Int32)), .val (.long q2), .second, .val (.long q3), .second, .val (.long x1), .second, .val (.long ((x1 + q2) + q3)), .second] [(.long (((x1 + q2) + q3) ^^^ (-1 : Int64))), (.long (x1 ||| q2)), (.long (x1 &&& q2))])) (fun t k => XS.lxor Xh10.here hx rfl (hb hby d6_38) rfl k) ?_
  refine own_pre (B := T9.setTop (mkF m 40 #[.val (.ref a1), .val (.int (1 : Int32)), .val (.long q2), .second, .val (.long q3), .second, .val (.long x1), .second, .val (.long ((x1 + q2) + q3)), .second] [(.long ((x1 ||| q2) &&& (((x1 + q2) + q3) ^^^ (-1 : Int64)))), (.long (x1 &&& q2))])) (fun t k => XS.land Xh10.here hx rfl (hb hby d6_39) rfl k) ?_
  refine own_pre (B := T9.setTop (mkF m 41 #[.val (.ref a1), .val (.int (1 : Int32)), .val (.long q2), .second, .val (.long q3), .second, .val (.long x1), .second, .val (.long ((x1 + q2) + q3)), .second] [(.long ((x1 &&& q2) ||| ((x1 ||| q2) &&& (((x1 + q2) + q3) ^^^ (-1 : Int64)))))])) (fun t k => XS.lor Xh10.here hx rfl (hb hby d6_40) rfl k) ?_
  refine own_pre (B := T9.setTop (mkF m 43 #[.val (.ref a1), .val (.int (1 : Int32)), .val (.long q2), .second, .val (.long q3), .second, .val (.long x1), .second, .val (.long ((x1 + q2) + q3)), .second] [(.int (63 : Int32)), (.long ((x1 &&& q2) ||| ((x1 ||| q2) &&& (((x1 + q2) + q3) ^^^ (-1 : Int64)))))])) (fun t k => XS.bipush Xh10.here hx rfl (hb hby d6_41) k) ?_
  refine own_pre (B := T9.setTop (mkF m 44 #[.val (.ref a1), .val (.int (1 : Int32)), .val (.long q2), .second, .val (.long q3), .second, .val (.long x1), .second, .val (.long ((x1 + q2) + q3)), .second] [(.long ((((x1 &&& q2) ||| ((x1 ||| q2) &&& (((x1 + q2) + q3) ^^^ (-1 : Int64)))).toUInt64 >>> ((63 : Int32) &&& 0x3f).toInt64.toUInt64).toInt64))])) (fun t k => XS.lushr Xh10.here hx rfl (hb hby d6_43) rfl k) ?_
  have K11 : Keep h0 h9 [w_sum_a1] := (Keep.wr K7 W9 (Or.inl (List.mem_of_getElem? (i := 0) rfl)))
  obtain ⟨fsr12, hrr12, hrunr12, hendedr12, hWr12, hsamer12⟩ := Xh10.leave (v := some (.long ((((x1 &&& q2) ||| ((x1 ||| q2) &&& (((x1 + q2) + q3) ^^^ (-1 : Int64)))).toUInt64 >>> ((63 : Int32) &&& 0x3f).toInt64.toUInt64).toInt64))) (fun h => by rw [Bd.returns] at h; cases h)
  refine ⟨_, _, (retOut Xh10 hx (t := .long) (i := .lreturn) Bd.returns rfl (Or.inr (Or.inl ⟨rfl, rfl, _, rfl⟩)) (hb hby d6_44) hrr12), hrunr12, hendedr12, _, _, rfl, ?_, ⟨_, rfl⟩, hWr12, hsamer12.mono (by decide) (by decide)⟩
  show Q6_1 Z a1 q2 q3 w_sum_a1 k_w_sum_a1 x0 x1 x2 x3 h0 n0 _ T9.heap _
  rw [e9]
  exact ⟨rfl, Nh10, K11, V9⟩
theorem ef_6_2 (m : MethodId) (x0 : Addr) (x2 : Int64) (x3 : Int64) : entryFrame m #[(.ref x0), (.int (2 : Int32)), (.long x2), (.long x3)] 10 = mkF m 0 #[.val (.ref x0), .val (.int (2 : Int32)), .val (.long x2), .second, .val (.long x3), .second, .unset, .unset, .unset, .unset] [] := by first | (simp [entryFrame, mkF, argsToLocals, Value.category]; done) | rfl
def own_f6_2 (q2 : Int64) (q3 : Int64) (x2 : Int64) : Int64 := ((((x2 &&& q2) ||| ((x2 ||| q2) &&& (((x2 + q2) + q3) ^^^ (-1 : Int64)))).toUInt64 >>> ((63 : Int32) &&& 0x3f).toInt64.toUInt64).toInt64)
def Q6_2 (Z : State) (a1 : Addr) (q2 : Int64) (q3 : Int64) (w_sum_a1 : Addr) (k_w_sum_a1 : ClassId) (x0 : Int64) (x1 : Int64) (x2 : Int64) (x3 : Int64) (h0 : Heap) (n0 : Nat) (v : Option Value) (h : Heap) (L : List Loc) : Prop := v = some (.long (own_f6_2 q2 q3 x2)) ∧ Fr n0 L ∧ Keep h0 h [w_sum_a1] ∧ Arv Z h w_sum_a1 k_w_sum_a1 .long (4 : Int32) [(.long x0), (.long x1), (.long ((x2 + q2) + q3)), (.long x3)] (.long (0 : Int64))
set_option maxRecDepth 65536 in
set_option maxHeartbeats 40000000 in
theorem rm6_2 (l : Launch) (Z : State) (a0 : Array Value) (hw : ∀ d ∈ tables_1, d.before a0 Z = true) (ws : List Jvm.Cond) (a1 : Addr) (q2 : Int64) (q3 : Int64) (w_sum_a1 : Addr) (k_w_sum_a1 : ClassId) (x0 : Int64) (x1 : Int64) (x2 : Int64) (x3 : Int64) (h0 : Heap) (n0 : Nat) (Z0 : n0 ≤ h0.size) (F_sum_a1 : Fld Z h0 a1 "com/example/rangewise/rangewise/Fingerprint$Builder" "sum" "[J" (.ref w_sum_a1)) (V_w_sum_a1 : Arv Z h0 w_sum_a1 k_w_sum_a1 .long (4 : Int32) [(.long x0), (.long x1), (.long x2), (.long x3)] (.long (0 : Int64))) (g_w_sum_a1 : n0 ≤ w_sum_a1) :
    MetFree l (⟨"com/example/rangewise/rangewise/Fingerprint$Builder", "addWord", "(IJJ)J"⟩ : MethodName) (head1 (Jvm.Cond.code (⟨"com/example/rangewise/rangewise/Fingerprint$Builder", "addWord", "(IJJ)J"⟩ : MethodName) prog_22_method_10_code 10 (some .long) :: ws) ({ frames := 0, cells := 0, slots := 0, locals := 0 } : Room)) (fun a U => a = #[(.ref a1), (.int (2 : Int32)), (.long q2), (.long q3)] ∧ Z.Warmed39 U.vm ∧ U.heap = h0) (fun _ _ _ _ _ => True) (fun _ U o U' => ∃ v L, o = .returned v ∧ Q6_2 Z a1 q2 q3 w_sum_a1 k_w_sum_a1 x0 x1 x2 x3 h0 n0 v U'.heap L ∧ FrameEnd U o U' L ({ frames := 0, cells := 0, slots := 0, locals := 0 } : Room).cells ({ frames := 0, cells := 0, slots := 0, locals := 0 } : Room).slots) := by
  refine MetFree.of_bodySF (plainFor_of_name pn_6) hisR ?_
  intro p e s m args below meth c s₁ Bd hml0 hP hK
  obtain ⟨rfl, hZ, hh⟩ := hP
  have hx := Bd.exec
  have hby := Bd.bytes
  have hml : c.maxLocals = 10 := hml0
  have hown : s.vm.findClass "com/example/rangewise/rangewise/Fingerprint$Builder" = some m.cls := findClass_of_methodNamed Bd.named
  have hnm := (name_of_methodNamed Bd.named Bd.method).1
  have X0 : Stand p l e ({ frames := 0, cells := 0, slots := 0, locals := 0 } : Room) s m #[(.ref a1), (.int (2 : Int32)), (.long q2), (.long q3)] below meth c s₁ [] 0 0 := Stand.of_body Bd
  have e0 : s₁.heap = h0 := by rw [← hh, Bd.state]; rfl
  have N0 := Fr.nil n0
  apply own_in
  refine own_pre (B := s₁.setTop (mkF m 0 #[.val (.ref a1), .val (.int (2 : Int32)), .val (.long q2), .second, .val (.long q3), .second, .unset, .unset, .unset, .unset] [])) (fun t k => castTop (ef_6_2 m a1 q2 q3) k) ?_
  refine own_pre (B := s₁.setTop (mkF m 1 #[.val (.ref a1), .val (.int (2 : Int32)), .val (.long q2), .second, .val (.long q3), .second, .unset, .unset, .unset, .unset] [(.ref a1)])) (fun t k => XS.aloadN X0.here hx rfl (hb hby d6_0) rfl rfl k) ?_
  obtain ⟨T4, X4, e4, st4⟩ := getF X0 hx hZ hown (host := "") (Or.inl (hw _ (ow 18 rfl))) Via.refl e0 F_sum_a1 (g := (mkF m 1 #[.val (.ref a1), .val (.int (2 : Int32)), .val (.long q2), .second, .val (.long q3), .second, .unset, .unset, .unset, .unset] [(.ref a1)])) rfl rfl (hb hby d6_1)
  refine own_pre (B := T4.setTop (mkF m 4 #[.val (.ref a1), .val (.int (2 : Int32)), .val (.long q2), .second, .val (.long q3), .second, .unset, .unset, .unset, .unset] [(.ref w_sum_a1)])) (fun t k => st4 t k) ?_
  refine own_pre (B := T4.setTop (mkF m 5 #[.val (.ref a1), .val (.int (2 : Int32)), .val (.long q2), .second, .val (.long q3), .second, .unset, .unset, .unset, .unset] [(.int (2 : Int32)), (.ref w_sum_a1)])) (fun t k => XS.iloadN X4.here hx rfl (hb hby d6_4) rfl k) ?_
  obtain ⟨cl5, Ar5, q5, S5, N5v, H5v, G5v⟩ := V_w_sum_a1
  have V_w_sum_a1 : Arv Z h0 w_sum_a1 k_w_sum_a1 .long (4 : Int32) [(.long x0), (.long x1), (.long x2), (.long x3)] (.long (0 : Int64)) := ⟨cl5, Ar5, q5, S5, N5v, H5v, G5v⟩
  have hin5 : ¬ ((2 : Int32) < 0 ∨ cl5.slots.size ≤ ((2 : Int32)).toNatClampNeg) := inb_of S5 ⟨by decide, by decide⟩
  have hat5 : cl5.slots[((2 : Int32)).toNatClampNeg]? = some (.long x2) := H5v.at hin5 rfl
  refine own_pre (B := T4.setTop (mkF m 6 #[.val (.ref a1), .val (.int (2 : Int32)), .val (.long q2), .second, .val (.long q3), .second, .unset, .unset, .unset, .unset] [(.long x2)])) (fun t k => X4.laload hx (j := (2 : Int32)) (v := (.long x2)) (by rw [e4]; exact Ar5.1) (State.isArrayOf_alike hZ.alike Ar5.2.1) Ar5.2.2 hin5 hat5 (g := (mkF m 5 #[.val (.ref a1), .val (.int (2 : Int32)), .val (.long q2), .second, .val (.long q3), .second, .unset, .unset, .unset, .unset] [(.int (2 : Int32)), (.ref w_sum_a1)])) rfl rfl (hb hby d6_5) t k) ?_
  refine own_pre (B := T4.setTop (mkF m 8 #[.val (.ref a1), .val (.int (2 : Int32)), .val (.long q2), .second, .val (.long q3), .second, .val (.long x2), .second, .unset, .unset] [])) (fun t k => XS.lstore X4.here hx rfl (hb hby d6_6) rfl (l' := #[.val (.ref a1), .val (.int (2 : Int32)), .val (.long q2), .second, .val (.long q3), .second, .val (.long x2), .second, .unset, .unset]) rfl k) ?_
  refine own_pre (B := T4.setTop (mkF m 10 #[.val (.ref a1), .val (.int (2 : Int32)), .val (.long q2), .second, .val (.long q3), .second, .val (.long x2), .second, .unset, .unset] [(.long x2)])) (fun t k => XS.lload X4.here hx rfl (hb hby d6_8) rfl k) ?_
  refine own_pre (B := T4.setTop (mkF m 11 #[.val (.ref a1), .val (.int (2 : Int32)), .val (.long q2), .second, .val (.long q3), .second, .val (.long x2), .second, .unset, .unset] [(.long q2), (.long x2)])) (fun t k => XS.lloadN X4.here hx rfl (hb hby d6_10) rfl k) ?_
  refine own_pre (B := T4.setTop (mkF m 12 #[.val (.ref a1), .val (.int (2 : Int32)), .val (.long q2), .second, .val (.long q3), .second, .val (.long x2), .second, .unset, .unset] [(.long (x2 + q2))])) (fun t k => XS.ladd X4.here hx rfl (hb hby d6_11) rfl k) ?_
  refine own_pre (B := T4.setTop (mkF m 14 #[.val (.ref a1), .val (.int (2 : Int32)), .val (.long q2), .second, .val (.long q3), .second, .val (.long x2), .second, .unset, .unset] [(.long q3), (.long (x2 + q2))])) (fun t k => XS.lload X4.here hx rfl (hb hby d6_12) rfl k) ?_
  refine own_pre (B := T4.setTop (mkF m 15 #[.val (.ref a1), .val (.int (2 : Int32)), .val (.long q2), .second, .val (.long q3), .second, .val (.long x2), .second, .unset, .unset] [(.long ((x2 + q2) + q3))])) (fun t k => XS.ladd X4.here hx rfl (hb hby d6_14) rfl k) ?_
  refine own_pre (B := T4.setTop (mkF m 17 #[.val (.ref a1), .val (.int (2 : Int32)), .val (.long q2), .second, .val (.long q3), .second, .val (.long x2), .second, .val (.long ((x2 + q2) + q3)), .second] [])) (fun t k => XS.lstore X4.here hx rfl (hb hby d6_15) rfl (l' := #[.val (.ref a1), .val (.int (2 : Int32)), .val (.long q2), .second, .val (.long q3), .second, .val (.long x2), .second, .val (.long ((x2 + q2) + q3)), .second]) rfl k) ?_
  refine own_pre (B := T4.setTop (mkF m 18 #[.val (.ref a1), .val (.int (2 : Int32)), .val (.long q2), .second, .val (.long q3), .second, .val (.long x2), .second, .val (.long ((x2 + q2) + q3)), .second] [(.ref a1)])) (fun t k => XS.aloadN X4.here hx rfl (hb hby d6_17) rfl rfl k) ?_
  obtain ⟨T6, X6, e6, st6⟩ := getF X4 hx hZ hown (host := "") (Or.inl (hw _ (ow 18 rfl))) Via.refl e4 F_sum_a1 (g := (mkF m 18 #[.val (.ref a1), .val (.int (2 : Int32)), .val (.long q2), .second, .val (.long q3), .second, .val (.long x2), .second, .val (.long ((x2 + q2) + q3)), .second] [(.ref a1)])) rfl rfl (hb hby d6_18)
  refine own_pre (B := T6.setTop (mkF m 21 #[.val (.ref a1), .val (.int (2 : Int32)), .val (.long q2), .second, .val (.long q3), .second, .val (.long x2), .second, .val (.long ((x2 + q2) + q3)), .second] [(.ref w_sum_a1)])) (fun t k => st6 t k) ?_
  refine own_pre (B := T6.setTop (mkF m 22 #[.val (.ref a1), .val (.int (2 : Int32)), .val (.long q2), .second, .val (.long q3), .second, .val (.long x2), .second, .val (.long ((x2 + q2) + q3)), .second] [(.int (2 : Int32)), (.ref w_sum_a1)])) (fun t k => XS.iloadN X6.here hx rfl (hb hby d6_21) rfl k) ?_
  refine own_pre (B := T6.setTop (mkF m 24 #[.val (.ref a1), .val (.int (2 : Int32)), .val (.long q2), .second, .val (.long q3), .second, .val (.long x2), .second, .val (.long ((x2 + q2) + q3)), .second] [(.long ((x2 + q2) + q3)), (.int (2 : Int32)), (.ref w_sum_a1)])) (fun t k => XS.lload X6.here hx rfl (hb hby d6_22) rfl k) ?_
  have K7 : Keep h0 h0 [w_sum_a1] := (Keep.refl h0 [w_sum_a1])
  obtain ⟨cl8, Ar8, q8, S8, N8v, H8v, G8v⟩ := V_w_sum_a1
  have V_w_sum_a1 : Arv Z h0 w_sum_a1 k_w_sum_a1 .long (4 : Int32) [(.long x0), (.long x1), (.long x2), (.long x3)] (.long (0 : Int64)) := ⟨cl8, Ar8, q8, S8, N8v, H8v, G8v⟩
  have hin8 : ¬ ((2 : Int32) < 0 ∨ cl8.slots.size ≤ ((2 : Int32)).toNatClampNeg) := inb_of S8 ⟨by decide, by decide⟩
  obtain ⟨T9, h9, X9, e9, W9, st9⟩ := stJ X6 hx hZ e6 Ar8 (j := (2 : Int32)) hin8 (g := (mkF m 24 #[.val (.ref a1), .val (.int (2 : Int32)), .val (.long q2), .second, .val (.long q3), .second, .val (.long x2), .second, .val (.long ((x2 + q2) + q3)), .second] [(.long ((x2 + q2) + q3)), (.int (2 : Int32)), (.ref w_sum_a1)])) rfl rfl (hb hby d6_24)
  have V9 : Arv Z h9 w_sum_a1 k_w_sum_a1 .long (4 : Int32) [(.long x0), (.long x1), (.long ((x2 + q2) + q3)), (.long x3)] (.long (0 : Int64)) := Arv.set Ar8 q8 S8 N8v H8v G8v rfl W9 2 rfl (Nat.le_of_ble_eq_true rfl)
  have N9 := Fr.snoc X9 N0 g_w_sum_a1
  obtain ⟨Lh10, Xh10, Nh10⟩ := own_hide X9 N9
  refine own_pre (B := T9.setTop (mkF m 25 #[.val (.ref a1), .val (.int (2 : Int32)), .val (.long q2), .second, .val (.long q3), .second, .val (.long x2), .second, .val (.long ((x2 + q2) + q3)), .second] [])) (fun t k => st9 t k) ?_
  refine own_pre (B := T9.setTop (mkF m 27 #[.val (.ref a1), .val (.int (2 : Int32)), .val (.long q2), .second, .val (.long q3), .second, .val (.long x2), .second, .val (.long ((x2 + q2) + q3)), .second] [(.long x2)])) (fun t k => XS.lload Xh10.here hx rfl (hb hby d6_25) rfl k) ?_
  refine own_pre (B := T9.setTop (mkF m 28 #[.val (.ref a1), .val (.int (2 : Int32)), .val (.long q2), .second, .val (.long q3), .second, .val (.long x2), .second, .val (.long ((x2 + q2) + q3)), .second] [(.long q2), (.long x2)])) (fun t k => XS.lloadN Xh10.here hx rfl (hb hby d6_27) rfl k) ?_
  refine own_pre (B := T9.setTop (mkF m 29 #[.val (.ref a1), .val (.int (2 : Int32)), .val (.long q2), .second, .val (.long q3), .second, .val (.long x2), .second, .val (.long ((x2 + q2) + q3)), .second] [(.long (x2 &&& q2))])) (fun t k => XS.land Xh10.here hx rfl (hb hby d6_28) rfl k) ?_
  refine own_pre (B := T9.setTop (mkF m 31 #[.val (.ref a1), .val (.int (2 : Int32)), .val (.long q2), .second, .val (.long q3), .second, .val (.long x2), .second, .val (.long ((x2 + q2) + q3)), .second] [(.long x2), (.long (x2 &&& q2))])) (fun t k => XS.lload Xh10.here hx rfl (hb hby d6_29) rfl k) ?_
  refine own_pre (B := T9.setTop (mkF m 32 #[.val (.ref a1), .val (.int (2 : Int32)), .val (.long q2), .second, .val (.long q3), .second, .val (.long x2), .second, .val (.long ((x2 + q2) + q3)), .second] [(.long q2), (.long x2), (.long (x2 &&& q2))])) (fun t k => XS.lloadN Xh10.here hx rfl (hb hby d6_31) rfl k) ?_
  refine own_pre (B := T9.setTop (mkF m 33 #[.val (.ref a1), .val (.int (2 : Int32)), .val (.long q2), .second, .val (.long q3), .second, .val (.long x2), .second, .val (.long ((x2 + q2) + q3)), .second] [(.long (x2 ||| q2)), (.long (x2 &&& q2))])) (fun t k => XS.lor Xh10.here hx rfl (hb hby d6_32) rfl k) ?_
  refine own_pre (B := T9.setTop (mkF m 35 #[.val (.ref a1), .val (.int (2 : Int32)), .val (.long q2), .second, .val (.long q3), .second, .val (.long x2), .second, .val (.long ((x2 + q2) + q3)), .second] [(.long ((x2 + q2) + q3)), (.long (x2 ||| q2)), (.long (x2 &&& q2))])) (fun t k => XS.lload Xh10.here hx rfl (hb hby d6_33) rfl k) ?_
  refine own_pre (B := T9.setTop (mkF m 38 #[.val (.ref a1), .val (.int (2 : Int32)), .val (.long q2), .second, .val (.long q3), .second, .val (.long x2), .second, .val (.long ((x2 + q2) + q3)), .second] [(.long (-1 : Int64)), (.long ((x2 + q2) + q3)), (.long (x2 ||| q2)), (.long (x2 &&& q2))])) (fun t k => Xh10.ldc2Long hx hown (mvT hZ (hw _ (ow 29 rfl))) (g := (mkF m 35 #[.val (.ref a1), .val (.int (2 : Int32)), .val (.long q2), .second, .val (.long q3), .second, .val (.long x2), .second, .val (.long ((x2 + q2) + q3)), .second] [(.long ((x2 + q2) + q3)), (.long (x2 ||| q2)), (.long (x2 &&& q2))])) rfl (hb hby d6_35) _ k) ?_
  refine own_pre (B := T9.setTop (mkF m 39 #[.val (.ref a1), .val (.int (2 : Int32)), .val (.long q2), .second, .val (.long q3), .second, .val (.long x2), .second, .val (.long ((x2 + q2) + q3)), .second] [(.long (((x2 + q2) + q3) ^^^ (-1 : Int64))), (.long (x2 ||| q2)), (.long (x2 &&& q2))])) (fun t k => XS.lxor Xh10.here hx rfl (hb hby d6_38) rfl k) ?_
  refine own_pre (B := T9.setTop (mkF m 40 #[.val (.ref a1), .val (.int (2 : Int32)), .val (.long q2), .second, .val (.long q3), .second, .val (.long x2), .second, .val (.long ((x2 + q2) + q3)), .second] [(.long ((x2 ||| q2) &&& (((x2 + q2) + q3) ^^^ (-1 : Int64)))), (.long (x2 &&& q2))])) (fun t k => XS.land Xh10.here hx rfl (hb hby d6_39) rfl k) ?_
  refine own_pre (B := T9.setTop (mkF m 41 #[.val (.ref a1), .val (.int (2 : Int32)), .val (.long q2), .second, .val (.long q3), .second, .val (.long x2), .second, .val (.long ((x2 + q2) + q3)), .second] [(.long ((x2 &&& q2) ||| ((x2 ||| q2) &&& (((x2 + q2) + q3) ^^^ (-1 : Int64)))))])) (fun t k => XS.lor Xh10.here hx rfl (hb hby d6_40) rfl k) ?_
  refine own_pre (B := T9.setTop (mkF m 43 #[.val (.ref a1), .val (.int (2 : Int32)), .val (.long q2), .second, .val (.long q3), .second, .val (.long x2), .second, .val (.long ((x2 + q2) + q3)), .second] [(.int (63 : Int32)), (.long ((x2 &&& q2) ||| ((x2 ||| q2) &&& (((x2 + q2) + q3) ^^^ (-1 : Int64)))))])) (fun t k => XS.bipush Xh10.here hx rfl (hb hby d6_41) k) ?_
  refine own_pre (B := T9.setTop (mkF m 44 #[.val (.ref a1), .val (.int (2 : Int32)), .val (.long q2), .second, .val (.long q3), .second, .val (.long x2), .second, .val (.long ((x2 + q2) + q3)), .second] [(.long ((((x2 &&& q2) ||| ((x2 ||| q2) &&& (((x2 + q2) + q3) ^^^ (-1 : Int64)))).toUInt64 >>> ((63 : Int32) &&& 0x3f).toInt64.toUInt64).toInt64))])) (fun t k => XS.lushr Xh10.here hx rfl (hb hby d6_43) rfl k) ?_
  have K11 : Keep h0 h9 [w_sum_a1] := (Keep.wr K7 W9 (Or.inl (List.mem_of_getElem? (i := 0) rfl)))
  obtain ⟨fsr12, hrr12, hrunr12, hendedr12, hWr12, hsamer12⟩ := Xh10.leave (v := some (.long ((((x2 &&& q2) ||| ((x2 ||| q2) &&& (((x2 + q2) + q3) ^^^ (-1 : Int64)))).toUInt64 >>> ((63 : Int32) &&& 0x3f).toInt64.toUInt64).toInt64))) (fun h => by rw [Bd.returns] at h; cases h)
  refine ⟨_, _, (retOut Xh10 hx (t := .long) (i := .lreturn) Bd.returns rfl (Or.inr (Or.inl ⟨rfl, rfl, _, rfl⟩)) (hb hby d6_44) hrr12), hrunr12, hendedr12, _, _, rfl, ?_, ⟨_, rfl⟩, hWr12, hsamer12.mono (by decide) (by decide)⟩
  show Q6_2 Z a1 q2 q3 w_sum_a1 k_w_sum_a1 x0 x1 x2 x3 h0 n0 _ T9.heap _
  rw [e9]
  exact ⟨rfl, Nh10, K11, V9⟩
theorem ef_6_3 (m : MethodId) (x0 : Addr) (x2 : Int64) (x3 : Int64) : entryFrame m #[(.ref x0), (.int (3 : Int32)), (.long x2), (.long x3)] 10 = mkF m 0 #[.val (.ref x0), .val (.int (3 : Int32)), .val (.long x2), .second, .val (.long x3), .second, .unset, .unset, .unset, .unset] [] := by first | (simp [entryFrame, mkF, argsToLocals, Value.category]; done) | rfl
def own_f6_3 (q2 : Int64) (q3 : Int64) (x3 : Int64) : Int64 := ((((x3 &&& q2) ||| ((x3 ||| q2) &&& (((x3 + q2) + q3) ^^^ (-1 : Int64)))).toUInt64 >>> ((63 : Int32) &&& 0x3f).toInt64.toUInt64).toInt64)
def Q6_3 (Z : State) (a1 : Addr) (q2 : Int64) (q3 : Int64) (w_sum_a1 : Addr) (k_w_sum_a1 : ClassId) (x0 : Int64) (x1 : Int64) (x2 : Int64) (x3 : Int64) (h0 : Heap) (n0 : Nat) (v : Option Value) (h : Heap) (L : List Loc) : Prop := v = some (.long (own_f6_3 q2 q3 x3)) ∧ Fr n0 L ∧ Keep h0 h [w_sum_a1] ∧ Arv Z h w_sum_a1 k_w_sum_a1 .long (4 : Int32) [(.long x0), (.long x1), (.long x2), (.long ((x3 + q2) + q3))] (.long (0 : Int64))
set_option maxRecDepth 65536 in
set_option maxHeartbeats 40000000 in
theorem rm6_3 (l : Launch) (Z : State) (a0 : Array Value) (hw : ∀ d ∈ tables_1, d.before a0 Z = true) (ws : List Jvm.Cond) (a1 : Addr) (q2 : Int64) (q3 : Int64) (w_sum_a1 : Addr) (k_w_sum_a1 : ClassId) (x0 : Int64) (x1 : Int64) (x2 : Int64) (x3 : Int64) (h0 : Heap) (n0 : Nat) (Z0 : n0 ≤ h0.size) (F_sum_a1 : Fld Z h0 a1 "com/example/rangewise/rangewise/Fingerprint$Builder" "sum" "[J" (.ref w_sum_a1)) (V_w_sum_a1 : Arv Z h0 w_sum_a1 k_w_sum_a1 .long (4 : Int32) [(.long x0), (.long x1), (.long x2), (.long x3)] (.long (0 : Int64))) (g_w_sum_a1 : n0 ≤ w_sum_a1) :
    MetFree l (⟨"com/example/rangewise/rangewise/Fingerprint$Builder", "addWord", "(IJJ)J"⟩ : MethodName) (head1 (Jvm.Cond.code (⟨"com/example/rangewise/rangewise/Fingerprint$Builder", "addWord", "(IJJ)J"⟩ : MethodName) prog_22_method_10_code 10 (some .long) :: ws) ({ frames := 0, cells := 0, slots := 0, locals := 0 } : Room)) (fun a U => a = #[(.ref a1), (.int (3 : Int32)), (.long q2), (.long q3)] ∧ Z.Warmed39 U.vm ∧ U.heap = h0) (fun _ _ _ _ _ => True) (fun _ U o U' => ∃ v L, o = .returned v ∧ Q6_3 Z a1 q2 q3 w_sum_a1 k_w_sum_a1 x0 x1 x2 x3 h0 n0 v U'.heap L ∧ FrameEnd U o U' L ({ frames := 0, cells := 0, slots := 0, locals := 0 } : Room).cells ({ frames := 0, cells := 0, slots := 0, locals := 0 } : Room).slots) := by
  refine MetFree.of_bodySF (plainFor_of_name pn_6) hisR ?_
  intro p e s m args below meth c s₁ Bd hml0 hP hK
  obtain ⟨rfl, hZ, hh⟩ := hP
  have hx := Bd.exec
  have hby := Bd.bytes
  have hml : c.maxLocals = 10 := hml0
  have hown : s.vm.findClass "com/example/rangewise/rangewise/Fingerprint$Builder" = some m.cls := findClass_of_methodNamed Bd.named
  have hnm := (name_of_methodNamed Bd.named Bd.method).1
  have X0 : Stand p l e ({ frames := 0, cells := 0, slots := 0, locals := 0 } : Room) s m #[(.ref a1), (.int (3 : Int32)), (.long q2), (.long q3)] below meth c s₁ [] 0 0 := Stand.of_body Bd
  have e0 : s₁.heap = h0 := by rw [← hh, Bd.state]; rfl
  have N0 := Fr.nil n0
  apply own_in
  refine own_pre (B := s₁.setTop (mkF m 0 #[.val (.ref a1), .val (.int (3 : Int32)), .val (.long q2), .second, .val (.long q3), .second, .unset, .unset, .unset, .unset] [])) (fun t k => castTop (ef_6_3 m a1 q2 q3) k) ?_
  refine own_pre (B := s₁.setTop (mkF m 1 #[.val (.ref a1), .val (.int (3 : Int32)), .val (.long q2), .second, .val (.long q3), .second, .unset, .unset, .unset, .unset] [(.ref a1)])) (fun t k => XS.aloadN X0.here hx rfl (hb hby d6_0) rfl rfl k) ?_
  obtain ⟨T4, X4, e4, st4⟩ := getF X0 hx hZ hown (host := "") (Or.inl (hw _ (ow 18 rfl))) Via.refl e0 F_sum_a1 (g := (mkF m 1 #[.val (.ref a1), .val (.int (3 : Int32)), .val (.long q2), .second, .val (.long q3), .second, .unset, .unset, .unset, .unset] [(.ref a1)])) rfl rfl (hb hby d6_1)
  refine own_pre (B := T4.setTop (mkF m 4 #[.val (.ref a1), .val (.int (3 : Int32)), .val (.long q2), .second, .val (.long q3), .second, .unset, .unset, .unset, .unset] [(.ref w_sum_a1)])) (fun t k => st4 t k) ?_
  refine own_pre (B := T4.setTop (mkF m 5 #[.val (.ref a1), .val (.int (3 : Int32)), .val (.long q2), .second, .val (.long q3), .second, .unset, .unset, .unset, .unset] [(.int (3 : Int32)), (.ref w_sum_a1)])) (fun t k => XS.iloadN X4.here hx rfl (hb hby d6_4) rfl k) ?_
  obtain ⟨cl5, Ar5, q5, S5, N5v, H5v, G5v⟩ := V_w_sum_a1
  have V_w_sum_a1 : Arv Z h0 w_sum_a1 k_w_sum_a1 .long (4 : Int32) [(.long x0), (.long x1), (.long x2), (.long x3)] (.long (0 : Int64)) := ⟨cl5, Ar5, q5, S5, N5v, H5v, G5v⟩
  have hin5 : ¬ ((3 : Int32) < 0 ∨ cl5.slots.size ≤ ((3 : Int32)).toNatClampNeg) := inb_of S5 ⟨by decide, by decide⟩
  have hat5 : cl5.slots[((3 : Int32)).toNatClampNeg]? = some (.long x3) := H5v.at hin5 rfl
  refine own_pre (B := T4.setTop (mkF m 6 #[.val (.ref a1), .val (.int (3 : Int32)), .val (.long q2), .second, .val (.long q3), .second, .unset, .unset, .unset, .unset] [(.long x3)])) (fun t k => X4.laload hx (j := (3 : Int32)) (v := (.long x3)) (by rw [e4]; exact Ar5.1) (State.isArrayOf_alike hZ.alike Ar5.2.1) Ar5.2.2 hin5 hat5 (g := (mkF m 5 #[.val (.ref a1), .val (.int (3 : Int32)), .val (.long q2), .second, .val (.long q3), .second, .unset, .unset, .unset, .unset] [(.int (3 : Int32)), (.ref w_sum_a1)])) rfl rfl (hb hby d6_5) t k) ?_
  refine own_pre (B := T4.setTop (mkF m 8 #[.val (.ref a1), .val (.int (3 : Int32)), .val (.long q2), .second, .val (.long q3), .second, .val (.long x3), .second, .unset, .unset] [])) (fun t k => XS.lstore X4.here hx rfl (hb hby d6_6) rfl (l' := #[.val (.ref a1), .val (.int (3 : Int32)), .val (.long q2), .second, .val (.long q3), .second, .val (.long x3), .second, .unset, .unset]) rfl k) ?_
  refine own_pre (B := T4.setTop (mkF m 10 #[.val (.ref a1), .val (.int (3 : Int32)), .val (.long q2), .second, .val (.long q3), .second, .val (.long x3), .second, .unset, .unset] [(.long x3)])) (fun t k => XS.lload X4.here hx rfl (hb hby d6_8) rfl k) ?_
  refine own_pre (B := T4.setTop (mkF m 11 #[.val (.ref a1), .val (.int (3 : Int32)), .val (.long q2), .second, .val (.long q3), .second, .val (.long x3), .second, .unset, .unset] [(.long q2), (.long x3)])) (fun t k => XS.lloadN X4.here hx rfl (hb hby d6_10) rfl k) ?_
  refine own_pre (B := T4.setTop (mkF m 12 #[.val (.ref a1), .val (.int (3 : Int32)), .val (.long q2), .second, .val (.long q3), .second, .val (.long x3), .second, .unset, .unset] [(.long (x3 + q2))])) (fun t k => XS.ladd X4.here hx rfl (hb hby d6_11) rfl k) ?_
  refine own_pre (B := T4.setTop (mkF m 14 #[.val (.ref a1), .val (.int (3 : Int32)), .val (.long q2), .second, .val (.long q3), .second, .val (.long x3), .second, .unset, .unset] [(.long q3), (.long (x3 + q2))])) (fun t k => XS.lload X4.here hx rfl (hb hby d6_12) rfl k) ?_
  refine own_pre (B := T4.setTop (mkF m 15 #[.val (.ref a1), .val (.int (3 : Int32)), .val (.long q2), .second, .val (.long q3), .second, .val (.long x3), .second, .unset, .unset] [(.long ((x3 + q2) + q3))])) (fun t k => XS.ladd X4.here hx rfl (hb hby d6_14) rfl k) ?_
  refine own_pre (B := T4.setTop (mkF m 17 #[.val (.ref a1), .val (.int (3 : Int32)), .val (.long q2), .second, .val (.long q3), .second, .val (.long x3), .second, .val (.long ((x3 + q2) + q3)), .second] [])) (fun t k => XS.lstore X4.here hx rfl (hb hby d6_15) rfl (l' := #[.val (.ref a1), .val (.int (3 : Int32)), .val (.long q2), .second, .val (.long q3), .second, .val (.long x3), .second, .val (.long ((x3 + q2) + q3)), .second]) rfl k) ?_
  refine own_pre (B := T4.setTop (mkF m 18 #[.val (.ref a1), .val (.int (3 : Int32)), .val (.long q2), .second, .val (.long q3), .second, .val (.long x3), .second, .val (.long ((x3 + q2) + q3)), .second] [(.ref a1)])) (fun t k => XS.aloadN X4.here hx rfl (hb hby d6_17) rfl rfl k) ?_
  obtain ⟨T6, X6, e6, st6⟩ := getF X4 hx hZ hown (host := "") (Or.inl (hw _ (ow 18 rfl))) Via.refl e4 F_sum_a1 (g := (mkF m 18 #[.val (.ref a1), .val (.int (3 : Int32)), .val (.long q2), .second, .val (.long q3), .second, .val (.long x3), .second, .val (.long ((x3 + q2) + q3)), .second] [(.ref a1)])) rfl rfl (hb hby d6_18)
  refine own_pre (B := T6.setTop (mkF m 21 #[.val (.ref a1), .val (.int (3 : Int32)), .val (.long q2), .second, .val (.long q3), .second, .val (.long x3), .second, .val (.long ((x3 + q2) + q3)), .second] [(.ref w_sum_a1)])) (fun t k => st6 t k) ?_
  refine own_pre (B := T6.setTop (mkF m 22 #[.val (.ref a1), .val (.int (3 : Int32)), .val (.long q2), .second, .val (.long q3), .second, .val (.long x3), .second, .val (.long ((x3 + q2) + q3)), .second] [(.int (3 : Int32)), (.ref w_sum_a1)])) (fun t k => XS.iloadN X6.here hx rfl (hb hby d6_21) rfl k) ?_
  refine own_pre (B := T6.setTop (mkF m 24 #[.val (.ref a1), .val (.int (3 : Int32)), .val (.long q2), .second, .val (.long q3), .second, .val (.long x3), .second, .val (.long ((x3 + q2) + q3)), .second] [(.long ((x3 + q2) + q3)), (.int (3 : Int32)), (.ref w_sum_a1)])) (fun t k => XS.lload X6.here hx rfl (hb hby d6_22) rfl k) ?_
  have K7 : Keep h0 h0 [w_sum_a1] := (Keep.refl h0 [w_sum_a1])
  obtain ⟨cl8, Ar8, q8, S8, N8v, H8v, G8v⟩ := V_w_sum_a1
  have V_w_sum_a1 : Arv Z h0 w_sum_a1 k_w_sum_a1 .long (4 : Int32) [(.long x0), (.long x1), (.long x2), (.long x3)] (.long (0 : Int64)) := ⟨cl8, Ar8, q8, S8, N8v, H8v, G8v⟩
  have hin8 : ¬ ((3 : Int32) < 0 ∨ cl8.slots.size ≤ ((3 : Int32)).toNatClampNeg) := inb_of S8 ⟨by decide, by decide⟩
  obtain ⟨T9, h9, X9, e9, W9, st9⟩ := stJ X6 hx hZ e6 Ar8 (j := (3 : Int32)) hin8 (g := (mkF m 24 #[.val (.ref a1), .val (.int (3 : Int32)), .val (.long q2), .second, .val (.long q3), .second, .val (.long x3), .second, .val (.long ((x3 + q2) + q3)), .second] [(.long ((x3 + q2) + q3)), (.int (3 : Int32)), (.ref w_sum_a1)])) rfl rfl (hb hby d6_24)
  have V9 : Arv Z h9 w_sum_a1 k_w_sum_a1 .long (4 : Int32) [(.long x0), (.long x1), (.long x2), (.long ((x3 + q2) + q3))] (.long (0 : Int64)) := Arv.set Ar8 q8 S8 N8v H8v G8v rfl W9 3 rfl (Nat.le_of_ble_eq_true rfl)
  have N9 := Fr.snoc X9 N0 g_w_sum_a1
  obtain ⟨Lh10, Xh10, Nh10⟩ := own_hide X9 N9
  refine own_pre (B := T9.setTop (mkF m 25 #[.val (.ref a1), .val (.int (3 : Int32)), .val (.long q2), .second, .val (.long q3), .second, .val (.long x3), .second, .val (.long ((x3 + q2) + q3)), .second] [])) (fun t k => st9 t k) ?_
  refine own_pre (B := T9.setTop (mkF m 27 #[.val (.ref a1), .val (.int (3 : Int32)), .val (.long q2), .second, .val (.long q3), .second, .val (.long x3), .second, .val (.long ((x3 + q2) + q3)), .second] [(.long x3)])) (fun t k => XS.lload Xh10.here hx rfl (hb hby d6_25) rfl k) ?_
  refine own_pre (B := T9.setTop (mkF m 28 #[.val (.ref a1), .val (.int (3 : Int32)), .val (.long q2), .second, .val (.long q3), .second, .val (.long x3), .second, .val (.long ((x3 + q2) + q3)), .second] [(.long q2), (.long x3)])) (fun t k => XS.lloadN Xh10.here hx rfl (hb hby d6_27) rfl k) ?_
  refine own_pre (B := T9.setTop (mkF m 29 #[.val (.ref a1), .val (.int (3 : Int32)), .val (.long q2), .second, .val (.long q3), .second, .val (.long x3), .second, .val (.long ((x3 + q2) + q3)), .second] [(.long (x3 &&& q2))])) (fun t k => XS.land Xh10.here hx rfl (hb hby d6_28) rfl k) ?_
  refine own_pre (B := T9.setTop (mkF m 31 #[.val (.ref a1), .val (.int (3 : Int32)), .val (.long q2), .second, .val (.long q3), .second, .val (.long x3), .second, .val (.long ((x3 + q2) + q3)), .second] [(.long x3), (.long (x3 &&& q2))])) (fun t k => XS.lload Xh10.here hx rfl (hb hby d6_29) rfl k) ?_
  refine own_pre (B := T9.setTop (mkF m 32 #[.val (.ref a1), .val (.int (3 : Int32)), .val (.long q2), .second, .val (.long q3), .second, .val (.long x3), .second, .val (.long ((x3 + q2) + q3)), .second] [(.long q2), (.long x3), (.long (x3 &&& q2))])) (fun t k => XS.lloadN Xh10.here hx rfl (hb hby d6_31) rfl k) ?_
  refine own_pre (B := T9.setTop (mkF m 33 #[.val (.ref a1), .val (.int (3 : Int32)), .val (.long q2), .second, .val (.long q3), .second, .val (.long x3), .second, .val (.long ((x3 + q2) + q3)), .second] [(.long (x3 ||| q2)), (.long (x3 &&& q2))])) (fun t k => XS.lor Xh10.here hx rfl (hb hby d6_32) rfl k) ?_
  refine own_pre (B := T9.setTop (mkF m 35 #[.val (.ref a1), .val (.int (3 : Int32)), .val (.long q2), .second, .val (.long q3), .second, .val (.long x3), .second, .val (.long ((x3 + q2) + q3)), .second] [(.long ((x3 + q2) + q3)), (.long (x3 ||| q2)), (.long (x3 &&& q2))])) (fun t k => XS.lload Xh10.here hx rfl (hb hby d6_33) rfl k) ?_
  refine own_pre (B := T9.setTop (mkF m 38 #[.val (.ref a1), .val (.int (3 : Int32)), .val (.long q2), .second, .val (.long q3), .second, .val (.long x3), .second, .val (.long ((x3 + q2) + q3)), .second] [(.long (-1 : Int64)), (.long ((x3 + q2) + q3)), (.long (x3 ||| q2)), (.long (x3 &&& q2))])) (fun t k => Xh10.ldc2Long hx hown (mvT hZ (hw _ (ow 29 rfl))) (g := (mkF m 35 #[.val (.ref a1), .val (.int (3 : Int32)), .val (.long q2), .second, .val (.long q3), .second, .val (.long x3), .second, .val (.long ((x3 + q2) + q3)), .second] [(.long ((x3 + q2) + q3)), (.long (x3 ||| q2)), (.long (x3 &&& q2))])) rfl (hb hby d6_35) _ k) ?_
  refine own_pre (B := T9.setTop (mkF m 39 #[.val (.ref a1), .val (.int (3 : Int32)), .val (.long q2), .second, .val (.long q3), .second, .val (.long x3), .second, .val (.long ((x3 + q2) + q3)), .second] [(.long (((x3 + q2) + q3) ^^^ (-1 : Int64))), (.long (x3 ||| q2)), (.long (x3 &&& q2))])) (fun t k => XS.lxor Xh10.here hx rfl (hb hby d6_38) rfl k) ?_
  refine own_pre (B := T9.setTop (mkF m 40 #[.val (.ref a1), .val (.int (3 : Int32)), .val (.long q2), .second, .val (.long q3), .second, .val (.long x3), .second, .val (.long ((x3 + q2) + q3)), .second] [(.long ((x3 ||| q2) &&& (((x3 + q2) + q3) ^^^ (-1 : Int64)))), (.long (x3 &&& q2))])) (fun t k => XS.land Xh10.here hx rfl (hb hby d6_39) rfl k) ?_
  refine own_pre (B := T9.setTop (mkF m 41 #[.val (.ref a1), .val (.int (3 : Int32)), .val (.long q2), .second, .val (.long q3), .second, .val (.long x3), .second, .val (.long ((x3 + q2) + q3)), .second] [(.long ((x3 &&& q2) ||| ((x3 ||| q2) &&& (((x3 + q2) + q3) ^^^ (-1 : Int64)))))])) (fun t k => XS.lor Xh10.here hx rfl (hb hby d6_40) rfl k) ?_
  refine own_pre (B := T9.setTop (mkF m 43 #[.val (.ref a1), .val (.int (3 : Int32)), .val (.long q2), .second, .val (.long q3), .second, .val (.long x3), .second, .val (.long ((x3 + q2) + q3)), .second] [(.int (63 : Int32)), (.long ((x3 &&& q2) ||| ((x3 ||| q2) &&& (((x3 + q2) + q3) ^^^ (-1 : Int64)))))])) (fun t k => XS.bipush Xh10.here hx rfl (hb hby d6_41) k) ?_
  refine own_pre (B := T9.setTop (mkF m 44 #[.val (.ref a1), .val (.int (3 : Int32)), .val (.long q2), .second, .val (.long q3), .second, .val (.long x3), .second, .val (.long ((x3 + q2) + q3)), .second] [(.long ((((x3 &&& q2) ||| ((x3 ||| q2) &&& (((x3 + q2) + q3) ^^^ (-1 : Int64)))).toUInt64 >>> ((63 : Int32) &&& 0x3f).toInt64.toUInt64).toInt64))])) (fun t k => XS.lushr Xh10.here hx rfl (hb hby d6_43) rfl k) ?_
  have K11 : Keep h0 h9 [w_sum_a1] := (Keep.wr K7 W9 (Or.inl (List.mem_of_getElem? (i := 0) rfl)))
  obtain ⟨fsr12, hrr12, hrunr12, hendedr12, hWr12, hsamer12⟩ := Xh10.leave (v := some (.long ((((x3 &&& q2) ||| ((x3 ||| q2) &&& (((x3 + q2) + q3) ^^^ (-1 : Int64)))).toUInt64 >>> ((63 : Int32) &&& 0x3f).toInt64.toUInt64).toInt64))) (fun h => by rw [Bd.returns] at h; cases h)
  refine ⟨_, _, (retOut Xh10 hx (t := .long) (i := .lreturn) Bd.returns rfl (Or.inr (Or.inl ⟨rfl, rfl, _, rfl⟩)) (hb hby d6_44) hrr12), hrunr12, hendedr12, _, _, rfl, ?_, ⟨_, rfl⟩, hWr12, hsamer12.mono (by decide) (by decide)⟩
  show Q6_3 Z a1 q2 q3 w_sum_a1 k_w_sum_a1 x0 x1 x2 x3 h0 n0 _ T9.heap _
  rw [e9]
  exact ⟨rfl, Nh10, K11, V9⟩
theorem pd_0 : parseMethodDescriptor "(IJJ)J" = some ⟨[.int, .long, .long], some .long⟩ := by decide +kernel
theorem d5_0 : decode prog_22_method_5_code 0 = .ok (.lconst 0, 1) := by decide +kernel
theorem d5_1 : decode prog_22_method_5_code 1 = .ok (.lstore 4, 2) := by decide +kernel
theorem d5_3 : decode prog_22_method_5_code 3 = .ok (.iconst 0, 1) := by decide +kernel
theorem d5_4 : decode prog_22_method_5_code 4 = .ok (.istore 6, 2) := by decide +kernel
theorem d5_6 : decode prog_22_method_5_code 6 = .ok (.iload 6, 2) := by decide +kernel
theorem d5_8 : decode prog_22_method_5_code 8 = .ok (.iconst 4, 1) := by decide +kernel
theorem d5_9 : decode prog_22_method_5_code 9 = .ok (.if_icmp .ge 23, 3) := by decide +kernel
theorem d5_12 : decode prog_22_method_5_code 12 = .ok (.aload_n 0, 1) := by decide +kernel
theorem d5_13 : decode prog_22_method_5_code 13 = .ok (.iload 6, 2) := by decide +kernel
theorem d5_15 : decode prog_22_method_5_code 15 = .ok (.aload_n 1, 1) := by decide +kernel
theorem d5_16 : decode prog_22_method_5_code 16 = .ok (.iload 6, 2) := by decide +kernel
theorem d5_18 : decode prog_22_method_5_code 18 = .ok (.laload, 1) := by decide +kernel
theorem d5_19 : decode prog_22_method_5_code 19 = .ok (.lload 4, 2) := by decide +kernel
theorem d5_21 : decode prog_22_method_5_code 21 = .ok (.invokevirtual 29, 3) := by decide +kernel
theorem d5_24 : decode prog_22_method_5_code 24 = .ok (.lstore 4, 2) := by decide +kernel
theorem d5_26 : decode prog_22_method_5_code 26 = .ok (.iinc 6 1, 3) := by decide +kernel
theorem d5_29 : decode prog_22_method_5_code 29 = .ok (.goto (-23), 3) := by decide +kernel
theorem d5_32 : decode prog_22_method_5_code 32 = .ok (.aload_n 0, 1) := by decide +kernel
theorem d5_33 : decode prog_22_method_5_code 33 = .ok (.dup, 1) := by decide +kernel
theorem d5_34 : decode prog_22_method_5_code 34 = .ok (.getfield 33, 3) := by decide +kernel
theorem d5_37 : decode prog_22_method_5_code 37 = .ok (.lload_n 2, 1) := by decide +kernel
theorem d5_38 : decode prog_22_method_5_code 38 = .ok (.ladd, 1) := by decide +kernel
theorem d5_39 : decode prog_22_method_5_code 39 = .ok (.putfield 33, 3) := by decide +kernel
theorem d5_42 : decode prog_22_method_5_code 42 = .ok (.aload_n 0, 1) := by decide +kernel
theorem d5_43 : decode prog_22_method_5_code 43 = .ok (.areturn, 1) := by decide +kernel
theorem pn_5 : plainName "com/example/rangewise/rangewise/Fingerprint$Builder" = true := by first | (simp [plainName, overriddenIn]; done) | decide +kernel
theorem ef_5 (m : MethodId) (x0 : Addr) (x1 : Addr) (x2 : Int64) : entryFrame m #[(.ref x0), (.ref x1), (.long x2)] 7 = mkF m 0 #[.val (.ref x0), .val (.ref x1), .val (.long x2), .second, .unset, .unset, .unset] [] := by first | (simp [entryFrame, mkF, argsToLocals, Value.category]; done) | rfl
def Q5 (Z : State) (a1 : Addr) (a2 : Addr) (q3 : Int64) (w_sum_a1 : Addr) (k_w_sum_a1 : ClassId) (x0 : Int64) (x1 : Int64) (x2 : Int64) (x3 : Int64) (k_a2 : ClassId) (y0 : Int64) (y1 : Int64) (y2 : Int64) (y3 : Int64) (w_count_a1 : Int64) (h0 : Heap) (n0 : Nat) (v : Option Value) (h : Heap) (L : List Loc) : Prop := v = some (.ref a1) ∧ Fr n0 L ∧ Keep h0 h [a1, w_sum_a1] ∧ Exa Z h a1 "com/example/rangewise/rangewise/Fingerprint$Builder" ∧ Fld Z h a1 "com/example/rangewise/rangewise/Fingerprint$Builder" "sum" "[J" (.ref w_sum_a1) ∧ Fld Z h a1 "com/example/rangewise/rangewise/Fingerprint$Builder" "count" "J" (.long (w_count_a1 + q3)) ∧ Arv Z h w_sum_a1 k_w_sum_a1 .long (4 : Int32) [(.long ((x0 + y0) + (0 : Int64))), (.long ((x1 + y1) + (own_f6_0 y0 (0 : Int64) x0))), (.long ((x2 + y2) + (own_f6_1 y1 (own_f6_0 y0 (0 : Int64) x0) x1))), (.long ((x3 + y3) + (own_f6_2 y2 (own_f6_1 y1 (own_f6_0 y0 (0 : Int64) x0) x1) x2)))] (.long (0 : Int64))
set_option maxRecDepth 65536 in
set_option maxHeartbeats 40000000 in
theorem rm5 (l : Launch) (Z : State) (a0 : Array Value) (hw : ∀ d ∈ tables_1, d.before a0 Z = true) (ws : List Jvm.Cond) (a1 : Addr) (a2 : Addr) (q3 : Int64) (w_sum_a1 : Addr) (k_w_sum_a1 : ClassId) (x0 : Int64) (x1 : Int64) (x2 : Int64) (x3 : Int64) (k_a2 : ClassId) (y0 : Int64) (y1 : Int64) (y2 : Int64) (y3 : Int64) (w_count_a1 : Int64) (h0 : Heap) (n0 : Nat) (Z0 : n0 ≤ h0.size) (F_sum_a1 : Fld Z h0 a1 "com/example/rangewise/rangewise/Fingerprint$Builder" "sum" "[J" (.ref w_sum_a1)) (V_w_sum_a1 : Arv Z h0 w_sum_a1 k_w_sum_a1 .long (4 : Int32) [(.long x0), (.long x1), (.long x2), (.long x3)] (.long (0 : Int64))) (V_a2 : Arv Z h0 a2 k_a2 .long (4 : Int32) [(.long y0), (.long y1), (.long y2), (.long y3)] (.long (0 : Int64))) (ne_a1_w_sum_a1 : a1 ≠ w_sum_a1) (ne_a1_a2 : a1 ≠ a2) (ne_a2_w_sum_a1 : a2 ≠ w_sum_a1) (g_w_sum_a1 : n0 ≤ w_sum_a1) (E_a1 : Exa Z h0 a1 "com/example/rangewise/rangewise/Fingerprint$Builder") (F_count_a1 : Fld Z h0 a1 "com/example/rangewise/rangewise/Fingerprint$Builder" "count" "J" (.long w_count_a1)) (g_a1 : n0 ≤ a1) :
    MetFree l (⟨"com/example/rangewise/rangewise/Fingerprint$Builder", "add", "([JJ)Lcom/example/rangewise/rangewise/Fingerprint$Builder;"⟩ : MethodName) (head1 (Jvm.Cond.code (⟨"com/example/rangewise/rangewise/Fingerprint$Builder", "add", "([JJ)Lcom/example/rangewise/rangewise/Fingerprint$Builder;"⟩ : MethodName) prog_22_method_5_code 7 (some (.object "com/example/rangewise/rangewise/Fingerprint$Builder")) :: ws) ({ frames := 1, cells := 0, slots := 0, locals := 21 } : Room)) (fun a U => a = #[(.ref a1), (.ref a2), (.long q3)] ∧ Z.Warmed39 U.vm ∧ U.heap = h0) (fun _ _ _ _ _ => True) (fun _ U o U' => ∃ v L, o = .returned v ∧ Q5 Z a1 a2 q3 w_sum_a1 k_w_sum_a1 x0 x1 x2 x3 k_a2 y0 y1 y2 y3 w_count_a1 h0 n0 v U'.heap L ∧ FrameEnd U o U' L ({ frames := 1, cells := 0, slots := 0, locals := 21 } : Room).cells ({ frames := 1, cells := 0, slots := 0, locals := 21 } : Room).slots) := by
  refine MetFree.of_bodySF (plainFor_of_name pn_5) hisR ?_
  intro p e s m args below meth c s₁ Bd hml0 hP hK
  obtain ⟨rfl, hZ, hh⟩ := hP
  have hx := Bd.exec
  have hby := Bd.bytes
  have hml : c.maxLocals = 7 := hml0
  have hown : s.vm.findClass "com/example/rangewise/rangewise/Fingerprint$Builder" = some m.cls := findClass_of_methodNamed Bd.named
  have hnm := (name_of_methodNamed Bd.named Bd.method).1
  have X0 : Stand p l e ({ frames := 1, cells := 0, slots := 0, locals := 21 } : Room) s m #[(.ref a1), (.ref a2), (.long q3)] below meth c s₁ [] 0 0 := Stand.of_body Bd
  have e0 : s₁.heap = h0 := by rw [← hh, Bd.state]; rfl
  have N0 := Fr.nil n0
  apply own_in
  refine own_pre (B := s₁.setTop (mkF m 0 #[.val (.ref a1), .val (.ref a2), .val (.long q3), .second, .unset, .unset, .unset] [])) (fun t k => castTop (ef_5 m a1 a2 q3) k) ?_
  refine own_pre (B := s₁.setTop (mkF m 1 #[.val (.ref a1), .val (.ref a2), .val (.long q3), .second, .unset, .unset, .unset] [(.long (0 : Int64))])) (fun t k => XS.lconst X0.here hx rfl (hb hby d5_0) k) ?_
  refine own_pre (B := s₁.setTop (mkF m 3 #[.val (.ref a1), .val (.ref a2), .val (.long q3), .second, .val (.long (0 : Int64)), .second, .unset] [])) (fun t k => XS.lstore X0.here hx rfl (hb hby d5_1) rfl (l' := #[.val (.ref a1), .val (.ref a2), .val (.long q3), .second, .val (.long (0 : Int64)), .second, .unset]) rfl k) ?_
  refine own_pre (B := s₁.setTop (mkF m 4 #[.val (.ref a1), .val (.ref a2), .val (.long q3), .second, .val (.long (0 : Int64)), .second, .unset] [(.int (0 : Int32))])) (fun t k => XS.iconst X0.here hx rfl (hb hby d5_3) k) ?_
  refine own_pre (B := s₁.setTop (mkF m 6 #[.val (.ref a1), .val (.ref a2), .val (.long q3), .second, .val (.long (0 : Int64)), .second, .val (.int (0 : Int32))] [])) (fun t k => XS.istore X0.here hx rfl (hb hby d5_4) rfl (l' := #[.val (.ref a1), .val (.ref a2), .val (.long q3), .second, .val (.long (0 : Int64)), .second, .val (.int (0 : Int32))]) rfl k) ?_
  refine own_pre (B := s₁.setTop (mkF m 8 #[.val (.ref a1), .val (.ref a2), .val (.long q3), .second, .val (.long (0 : Int64)), .second, .val (.int (0 : Int32))] [(.int (0 : Int32))])) (fun t k => XS.iload X0.here hx rfl (hb hby d5_6) rfl k) ?_
  refine own_pre (B := s₁.setTop (mkF m 9 #[.val (.ref a1), .val (.ref a2), .val (.long q3), .second, .val (.long (0 : Int64)), .second, .val (.int (0 : Int32))] [(.int (4 : Int32)), (.int (0 : Int32))])) (fun t k => XS.iconst X0.here hx rfl (hb hby d5_8) k) ?_
  refine own_pre (B := s₁.setTop (mkF m 12 #[.val (.ref a1), .val (.ref a2), .val (.long q3), .second, .val (.long (0 : Int64)), .second, .val (.int (0 : Int32))] [])) (fun t k => XS.icmpNo X0.here hx rfl (hb hby d5_9) rfl (tlt (by decide : (0 : Int32) < (4 : Int32))).2.1 k) ?_
  refine own_pre (B := s₁.setTop (mkF m 13 #[.val (.ref a1), .val (.ref a2), .val (.long q3), .second, .val (.long (0 : Int64)), .second, .val (.int (0 : Int32))] [(.ref a1)])) (fun t k => XS.aloadN X0.here hx rfl (hb hby d5_12) rfl rfl k) ?_
  refine own_pre (B := s₁.setTop (mkF m 15 #[.val (.ref a1), .val (.ref a2), .val (.long q3), .second, .val (.long (0 : Int64)), .second, .val (.int (0 : Int32))] [(.int (0 : Int32)), (.ref a1)])) (fun t k => XS.iload X0.here hx rfl (hb hby d5_13) rfl k) ?_
  refine own_pre (B := s₁.setTop (mkF m 16 #[.val (.ref a1), .val (.ref a2), .val (.long q3), .second, .val (.long (0 : Int64)), .second, .val (.int (0 : Int32))] [(.ref a2), (.int (0 : Int32)), (.ref a1)])) (fun t k => XS.aloadN X0.here hx rfl (hb hby d5_15) rfl rfl k) ?_
  refine own_pre (B := s₁.setTop (mkF m 18 #[.val (.ref a1), .val (.ref a2), .val (.long q3), .second, .val (.long (0 : Int64)), .second, .val (.int (0 : Int32))] [(.int (0 : Int32)), (.ref a2), (.int (0 : Int32)), (.ref a1)])) (fun t k => XS.iload X0.here hx rfl (hb hby d5_16) rfl k) ?_
  obtain ⟨cl4, Ar4, q4, S4, N4v, H4v, G4v⟩ := V_a2
  have V_a2 : Arv Z h0 a2 k_a2 .long (4 : Int32) [(.long y0), (.long y1), (.long y2), (.long y3)] (.long (0 : Int64)) := ⟨cl4, Ar4, q4, S4, N4v, H4v, G4v⟩
  have hin4 : ¬ ((0 : Int32) < 0 ∨ cl4.slots.size ≤ ((0 : Int32)).toNatClampNeg) := inb_of S4 ⟨by decide, by decide⟩
  have hat4 : cl4.slots[((0 : Int32)).toNatClampNeg]? = some (.long y0) := H4v.at hin4 rfl
  refine own_pre (B := s₁.setTop (mkF m 19 #[.val (.ref a1), .val (.ref a2), .val (.long q3), .second, .val (.long (0 : Int64)), .second, .val (.int (0 : Int32))] [(.long y0), (.int (0 : Int32)), (.ref a1)])) (fun t k => X0.laload hx (j := (0 : Int32)) (v := (.long y0)) (by rw [e0]; exact Ar4.1) (State.isArrayOf_alike hZ.alike Ar4.2.1) Ar4.2.2 hin4 hat4 (g := (mkF m 18 #[.val (.ref a1), .val (.ref a2), .val (.long q3), .second, .val (.long (0 : Int64)), .second, .val (.int (0 : Int32))] [(.int (0 : Int32)), (.ref a2), (.int (0 : Int32)), (.ref a1)])) rfl rfl (hb hby d5_18) t k) ?_
  refine own_pre (B := s₁.setTop (mkF m 21 #[.val (.ref a1), .val (.ref a2), .val (.long q3), .second, .val (.long (0 : Int64)), .second, .val (.int (0 : Int32))] [(.long (0 : Int64)), (.long y0), (.int (0 : Int32)), (.ref a1)])) (fun t k => XS.lload X0.here hx rfl (hb hby d5_19) rfl k) ?_
  obtain ⟨cq5, q5, q5'⟩ := (E_a1).cell
  obtain ⟨_, _, ⟨T5, L5, k5, n5⟩, -, X5, ⟨Lc5, hQ5, l5, y5, z5⟩, st5⟩ := X0.privateBack hx (y := (⟨"com/example/rangewise/rangewise/Fingerprint$Builder", "addWord", "(IJJ)J"⟩ : MethodName)) hown (mvT hZ (hw _ (ow 25 rfl))) (mvT hZ (hw _ (ow 26 rfl))) (own_selp hZ (hw _ (ow 10 rfl)) (hw _ (ow 27 rfl)) (hw _ (ow 26 rfl)) (by decide)) (Cond.privateMethod_at (mvP hZ (hw _ (ow 27 rfl)) (args := #[]))) (mvT hZ (hw _ (ow 28 rfl))) (by decide) (backOf (W := 0) (rm6_0 l Z a0 hw [] a1 y0 (0 : Int64) w_sum_a1 k_w_sum_a1 x0 x1 x2 x3 h0 n0 Z0 F_sum_a1 V_w_sum_a1 g_w_sum_a1) hZ (hw _ (ow 28 rfl)) (hw _ (ow 11 rfl)) (by decide) (by decide)) (g := (mkF m 21 #[.val (.ref a1), .val (.ref a2), .val (.long q3), .second, .val (.long (0 : Int64)), .second, .val (.int (0 : Int32))] [(.long (0 : Int64)), (.long y0), (.int (0 : Int32)), (.ref a1)])) rfl (by rw [hml]; rfl) (Steps.refl _) (a := a1) (by rw [e0]; exact q5) q5' (argsL := [(.int (0 : Int32)), (.long y0), (.long (0 : Int64))]) (rest := []) (lenOf pd_0 rfl) rfl (by show 2 * 0 + _ ≤ _; exact Nat.le_of_eq rfl) (hb hby d5_21) (fun _ _ => ⟨rfl, e0, (by decide : 0 + 0 ≤ _), (by decide : 0 + 0 ≤ _)⟩)
  dsimp only [Pt.U, Pt.locs, Pt.cells, Pt.slots] at X5 l5 y5 z5 st5 hQ5
  subst l5 y5 z5
  obtain ⟨rfl, N5q, K5, q5_0⟩ := hQ5
  have N5 := Fr.app N0 N5q
  have K6 : Keep h0 h0 [a1, w_sum_a1] := (Keep.refl h0 [a1, w_sum_a1])
  obtain ⟨Lh7, Xh7, Nh7⟩ := own_hide X5 N5
  refine own_pre (B := T5.setTop (mkF m 24 #[.val (.ref a1), .val (.ref a2), .val (.long q3), .second, .val (.long (0 : Int64)), .second, .val (.int (0 : Int32))] [(.long (own_f6_0 y0 (0 : Int64) x0))])) (fun t k => st5.trans k) ?_
  refine own_pre (B := T5.setTop (mkF m 26 #[.val (.ref a1), .val (.ref a2), .val (.long q3), .second, .val (.long (own_f6_0 y0 (0 : Int64) x0)), .second, .val (.int (0 : Int32))] [])) (fun t k => XS.lstore Xh7.here hx rfl (hb hby d5_24) rfl (l' := #[.val (.ref a1), .val (.ref a2), .val (.long q3), .second, .val (.long (own_f6_0 y0 (0 : Int64) x0)), .second, .val (.int (0 : Int32))]) rfl k) ?_
  refine own_pre (B := T5.setTop (mkF m 29 #[.val (.ref a1), .val (.ref a2), .val (.long q3), .second, .val (.long (own_f6_0 y0 (0 : Int64) x0)), .second, .val (.int (1 : Int32))] [])) (fun t k => XS.iinc Xh7.here hx rfl (hb hby d5_26) rfl (l' := #[.val (.ref a1), .val (.ref a2), .val (.long q3), .second, .val (.long (own_f6_0 y0 (0 : Int64) x0)), .second, .val (.int (1 : Int32))]) rfl k) ?_
  refine own_pre (B := T5.setTop (mkF m 6 #[.val (.ref a1), .val (.ref a2), .val (.long q3), .second, .val (.long (own_f6_0 y0 (0 : Int64) x0)), .second, .val (.int (1 : Int32))] [])) (fun t k => XS.goto Xh7.here hx rfl (pc0 := 29) (pc' := 6) rfl (hb hby d5_29) (by decide) (by decide) k) ?_
  refine own_pre (B := T5.setTop (mkF m 8 #[.val (.ref a1), .val (.ref a2), .val (.long q3), .second, .val (.long (own_f6_0 y0 (0 : Int64) x0)), .second, .val (.int (1 : Int32))] [(.int (1 : Int32))])) (fun t k => XS.iload Xh7.here hx rfl (hb hby d5_6) rfl k) ?_
  refine own_pre (B := T5.setTop (mkF m 9 #[.val (.ref a1), .val (.ref a2), .val (.long q3), .second, .val (.long (own_f6_0 y0 (0 : Int64) x0)), .second, .val (.int (1 : Int32))] [(.int (4 : Int32)), (.int (1 : Int32))])) (fun t k => XS.iconst Xh7.here hx rfl (hb hby d5_8) k) ?_
  refine own_pre (B := T5.setTop (mkF m 12 #[.val (.ref a1), .val (.ref a2), .val (.long q3), .second, .val (.long (own_f6_0 y0 (0 : Int64) x0)), .second, .val (.int (1 : Int32))] [])) (fun t k => XS.icmpNo Xh7.here hx rfl (hb hby d5_9) rfl (tlt (by decide : (1 : Int32) < (4 : Int32))).2.1 k) ?_
  refine own_pre (B := T5.setTop (mkF m 13 #[.val (.ref a1), .val (.ref a2), .val (.long q3), .second, .val (.long (own_f6_0 y0 (0 : Int64) x0)), .second, .val (.int (1 : Int32))] [(.ref a1)])) (fun t k => XS.aloadN Xh7.here hx rfl (hb hby d5_12) rfl rfl k) ?_
  refine own_pre (B := T5.setTop (mkF m 15 #[.val (.ref a1), .val (.ref a2), .val (.long q3), .second, .val (.long (own_f6_0 y0 (0 : Int64) x0)), .second, .val (.int (1 : Int32))] [(.int (1 : Int32)), (.ref a1)])) (fun t k => XS.iload Xh7.here hx rfl (hb hby d5_13) rfl k) ?_
  refine own_pre (B := T5.setTop (mkF m 16 #[.val (.ref a1), .val (.ref a2), .val (.long q3), .second, .val (.long (own_f6_0 y0 (0 : Int64) x0)), .second, .val (.int (1 : Int32))] [(.ref a2), (.int (1 : Int32)), (.ref a1)])) (fun t k => XS.aloadN Xh7.here hx rfl (hb hby d5_15) rfl rfl k) ?_
  refine own_pre (B := T5.setTop (mkF m 18 #[.val (.ref a1), .val (.ref a2), .val (.long q3), .second, .val (.long (own_f6_0 y0 (0 : Int64) x0)), .second, .val (.int (1 : Int32))] [(.int (1 : Int32)), (.ref a2), (.int (1 : Int32)), (.ref a1)])) (fun t k => XS.iload Xh7.here hx rfl (hb hby d5_16) rfl k) ?_
  have c8 := (Arv.keep V_a2 K5 (ninS ne_a2_w_sum_a1 nin0))
  obtain ⟨cl9, Ar9, q9, S9, N9v, H9v, G9v⟩ := c8
  have c8 : Arv Z T5.heap a2 k_a2 .long (4 : Int32) [(.long y0), (.long y1), (.long y2), (.long y3)] (.long (0 : Int64)) := ⟨cl9, Ar9, q9, S9, N9v, H9v, G9v⟩
  have hin9 : ¬ ((1 : Int32) < 0 ∨ cl9.slots.size ≤ ((1 : Int32)).toNatClampNeg) := inb_of S9 ⟨by decide, by decide⟩
  have hat9 : cl9.slots[((1 : Int32)).toNatClampNeg]? = some (.long y1) := H9v.at hin9 rfl
  refine own_pre (B := T5.setTop (mkF m 19 #[.val (.ref a1), .val (.ref a2), .val (.long q3), .second, .val (.long (own_f6_0 y0 (0 : Int64) x0)), .second, .val (.int (1 : Int32))] [(.long y1), (.int (1 : Int32)), (.ref a1)])) (fun t k => Xh7.laload hx (j := (1 : Int32)) (v := (.long y1)) Ar9.1 (State.isArrayOf_alike hZ.alike Ar9.2.1) Ar9.2.2 hin9 hat9 (g := (mkF m 18 #[.val (.ref a1), .val (.ref a2), .val (.long q3), .second, .val (.long (own_f6_0 y0 (0 : Int64) x0)), .second, .val (.int (1 : Int32))] [(.int (1 : Int32)), (.ref a2), (.int (1 : Int32)), (.ref a1)])) rfl rfl (hb hby d5_18) t k) ?_
  refine own_pre (B := T5.setTop (mkF m 21 #[.val (.ref a1), .val (.ref a2), .val (.long q3), .second, .val (.long (own_f6_0 y0 (0 : Int64) x0)), .second, .val (.int (1 : Int32))] [(.long (own_f6_0 y0 (0 : Int64) x0)), (.long y1), (.int (1 : Int32)), (.ref a1)])) (fun t k => XS.lload Xh7.here hx rfl (hb hby d5_19) rfl k) ?_
  have c10 := (Fld.keep F_sum_a1 K5 (ninS ne_a1_w_sum_a1 nin0))
  have sz11 : n0 ≤ T5.heap.size := (Nat.le_trans Z0 K5.1)
  have c13 := (Exa.keep E_a1 K5)
  obtain ⟨cq12, q12, q12'⟩ := (c13).cell
  obtain ⟨_, _, ⟨T12, L12, k12, n12⟩, -, X12, ⟨Lc12, hQ12, l12, y12, z12⟩, st12⟩ := Xh7.privateBack hx (y := (⟨"com/example/rangewise/rangewise/Fingerprint$Builder", "addWord", "(IJJ)J"⟩ : MethodName)) hown (mvT hZ (hw _ (ow 25 rfl))) (mvT hZ (hw _ (ow 26 rfl))) (own_selp hZ (hw _ (ow 10 rfl)) (hw _ (ow 27 rfl)) (hw _ (ow 26 rfl)) (by decide)) (Cond.privateMethod_at (mvP hZ (hw _ (ow 27 rfl)) (args := #[]))) (mvT hZ (hw _ (ow 28 rfl))) (by decide) (backOf (W := 0) (rm6_1 l Z a0 hw [] a1 y1 (own_f6_0 y0 (0 : Int64) x0) w_sum_a1 k_w_sum_a1 ((x0 + y0) + (0 : Int64)) x1 x2 x3 T5.heap n0 sz11 c10 q5_0 g_w_sum_a1) hZ (hw _ (ow 28 rfl)) (hw _ (ow 11 rfl)) (by decide) (by decide)) (g := (mkF m 21 #[.val (.ref a1), .val (.ref a2), .val (.long q3), .second, .val (.long (own_f6_0 y0 (0 : Int64) x0)), .second, .val (.int (1 : Int32))] [(.long (own_f6_0 y0 (0 : Int64) x0)), (.long y1), (.int (1 : Int32)), (.ref a1)])) rfl (by rw [hml]; rfl) (Steps.refl _) (a := a1) q12 q12' (argsL := [(.int (1 : Int32)), (.long y1), (.long (own_f6_0 y0 (0 : Int64) x0))]) (rest := []) (lenOf pd_0 rfl) rfl (by show 2 * 0 + _ ≤ _; exact Nat.le_of_eq rfl) (hb hby d5_21) (fun _ _ => ⟨rfl, rfl, (by decide : 0 + 0 ≤ _), (by decide : 0 + 0 ≤ _)⟩)
  dsimp only [Pt.U, Pt.locs, Pt.cells, Pt.slots] at X12 l12 y12 z12 st12 hQ12
  subst l12 y12 z12
  obtain ⟨rfl, N12q, K12, q12_0⟩ := hQ12
  have N12 := Fr.app Nh7 N12q
  have K14 : Keep h0 T5.heap [a1, w_sum_a1] := (Keep.trans K6 K5 (allS (P := fun x => x ∈ [a1, w_sum_a1] ∨ h0.size ≤ x) (Or.inl (List.mem_of_getElem? (i := 1) rfl)) all0))
  obtain ⟨Lh15, Xh15, Nh15⟩ := own_hide X12 N12
  refine own_pre (B := T12.setTop (mkF m 24 #[.val (.ref a1), .val (.ref a2), .val (.long q3), .second, .val (.long (own_f6_0 y0 (0 : Int64) x0)), .second, .val (.int (1 : Int32))] [(.long (own_f6_1 y1 (own_f6_0 y0 (0 : Int64) x0) x1))])) (fun t k => st12.trans k) ?_
  refine own_pre (B := T12.setTop (mkF m 26 #[.val (.ref a1), .val (.ref a2), .val (.long q3), .second, .val (.long (own_f6_1 y1 (own_f6_0 y0 (0 : Int64) x0) x1)), .second, .val (.int (1 : Int32))] [])) (fun t k => XS.lstore Xh15.here hx rfl (hb hby d5_24) rfl (l' := #[.val (.ref a1), .val (.ref a2), .val (.long q3), .second, .val (.long (own_f6_1 y1 (own_f6_0 y0 (0 : Int64) x0) x1)), .second, .val (.int (1 : Int32))]) rfl k) ?_
  refine own_pre (B := T12.setTop (mkF m 29 #[.val (.ref a1), .val (.ref a2), .val (.long q3), .second, .val (.long (own_f6_1 y1 (own_f6_0 y0 (0 : Int64) x0) x1)), .second, .val (.int (2 : Int32))] [])) (fun t k => XS.iinc Xh15.here hx rfl (hb hby d5_26) rfl (l' := #[.val (.ref a1), .val (.ref a2), .val (.long q3), .second, .val (.long (own_f6_1 y1 (own_f6_0 y0 (0 : Int64) x0) x1)), .second, .val (.int (2 : Int32))]) rfl k) ?_
  refine own_pre (B := T12.setTop (mkF m 6 #[.val (.ref a1), .val (.ref a2), .val (.long q3), .second, .val (.long (own_f6_1 y1 (own_f6_0 y0 (0 : Int64) x0) x1)), .second, .val (.int (2 : Int32))] [])) (fun t k => XS.goto Xh15.here hx rfl (pc0 := 29) (pc' := 6) rfl (hb hby d5_29) (by decide) (by decide) k) ?_
  refine own_pre (B := T12.setTop (mkF m 8 #[.val (.ref a1), .val (.ref a2), .val (.long q3), .second, .val (.long (own_f6_1 y1 (own_f6_0 y0 (0 : Int64) x0) x1)), .second, .val (.int (2 : Int32))] [(.int (2 : Int32))])) (fun t k => XS.iload Xh15.here hx rfl (hb hby d5_6) rfl k) ?_
  refine own_pre (B := T12.setTop (mkF m 9 #[.val (.ref a1), .val (.ref a2), .val (.long q3), .second, .val (.long (own_f6_1 y1 (own_f6_0 y0 (0 : Int64) x0) x1)), .second, .val (.int (2 : Int32))] [(.int (4 : Int32)), (.int (2 : Int32))])) (fun t k => XS.iconst Xh15.here hx rfl (hb hby d5_8) k) ?_
  refine own_pre (B := T12.setTop (mkF m 12 #[.val (.ref a1), .val (.ref a2), .val (.long q3), .second, .val (.long (own_f6_1 y1 (own_f6_0 y0 (0 : Int64) x0) x1)), .second, .val (.int (2 : Int32))] [])) (fun t k => XS.icmpNo Xh15.here hx rfl (hb hby d5_9) rfl (tlt (by decide : (2 : Int32) < (4 : Int32))).2.1 k) ?_
  refine own_pre (B := T12.setTop (mkF m 13 #[.val (.ref a1), .val (.ref a2), .val (.long q3), .second, .val (.long (own_f6_1 y1 (own_f6_0 y0 (0 : Int64) x0) x1)), .second, .val (.int (2 : Int32))] [(.ref a1)])) (fun t k => XS.aloadN Xh15.here hx rfl (hb hby d5_12) rfl rfl k) ?_
  refine own_pre (B := T12.setTop (mkF m 15 #[.val (.ref a1), .val (.ref a2), .val (.long q3), .second, .val (.long (own_f6_1 y1 (own_f6_0 y0 (0 : Int64) x0) x1)), .second, .val (.int (2 : Int32))] [(.int (2 : Int32)), (.ref a1)])) (fun t k => XS.iload Xh15.here hx rfl (hb hby d5_13) rfl k) ?_
  refine own_pre (B := T12.setTop (mkF m 16 #[.val (.ref a1), .val (.ref a2), .val (.long q3), .second, .val (.long (own_f6_1 y1 (own_f6_0 y0 (0 : Int64) x0) x1)), .second, .val (.int (2 : Int32))] [(.ref a2), (.int (2 : Int32)), (.ref a1)])) (fun t k => XS.aloadN Xh15.here hx rfl (hb hby d5_15) rfl rfl k) ?_
  refine own_pre (B := T12.setTop (mkF m 18 #[.val (.ref a1), .val (.ref a2), .val (.long q3), .second, .val (.long (own_f6_1 y1 (own_f6_0 y0 (0 : Int64) x0) x1)), .second, .val (.int (2 : Int32))] [(.int (2 : Int32)), (.ref a2), (.int (2 : Int32)), (.ref a1)])) (fun t k => XS.iload Xh15.here hx rfl (hb hby d5_16) rfl k) ?_
  have c16 := (Arv.keep c8 K12 (ninS ne_a2_w_sum_a1 nin0))
  obtain ⟨cl17, Ar17, q17, S17, N17v, H17v, G17v⟩ := c16
  have c16 : Arv Z T12.heap a2 k_a2 .long (4 : Int32) [(.long y0), (.long y1), (.long y2), (.long y3)] (.long (0 : Int64)) := ⟨cl17, Ar17, q17, S17, N17v, H17v, G17v⟩
  have hin17 : ¬ ((2 : Int32) < 0 ∨ cl17.slots.size ≤ ((2 : Int32)).toNatClampNeg) := inb_of S17 ⟨by decide, by decide⟩
  have hat17 : cl17.slots[((2 : Int32)).toNatClampNeg]? = some (.long y2) := H17v.at hin17 rfl
  refine own_pre (B := T12.setTop (mkF m 19 #[.val (.ref a1), .val (.ref a2), .val (.long q3), .second, .val (.long (own_f6_1 y1 (own_f6_0 y0 (0 : Int64) x0) x1)), .second, .val (.int (2 : Int32))] [(.long y2), (.int (2 : Int32)), (.ref a1)])) (fun t k => Xh15.laload hx (j := (2 : Int32)) (v := (.long y2)) Ar17.1 (State.isArrayOf_alike hZ.alike Ar17.2.1) Ar17.2.2 hin17 hat17 (g := (mkF m 18 #[.val (.ref a1), .val (.ref a2), .val (.long q3), .second, .val (.long (own_f6_1 y1 (own_f6_0 y0 (0 : Int64) x0) x1)), .second, .val (.int (2 : Int32))] [(.int (2 : Int32)), (.ref a2), (.int (2 : Int32)), (.ref a1)])) rfl rfl (hb hby d5_18) t k) ?_
  refine own_pre (B := T12.setTop (mkF m 21 #[.val (.ref a1), .val (.ref a2), .val (.long q3), .second, .val (.long (own_f6_1 y1 (own_f6_0 y0 (0 : Int64) x0) x1)), .second, .val (.int (2 : Int32))] [(.long (own_f6_1 y1 (own_f6_0 y0 (0 : Int64) x0) x1)), (.long y2), (.int (2 : Int32)), (.ref a1)])) (fun t k => XS.lload Xh15.here hx rfl (hb hby d5_19) rfl k) ?_
  have c18 := (Fld.keep c10 K12 (ninS ne_a1_w_sum_a1 nin0))
  have sz19 : n0 ≤ T12.heap.size := (Nat.le_trans sz11 K12.1)
  have c21 := (Exa.keep c13 K12)
  obtain ⟨cq20, q20, q20'⟩ := (c21).cell
  obtain ⟨_, _, ⟨T20, L20, k20, n20⟩, -, X20, ⟨Lc20, hQ20, l20, y20, z20⟩, st20⟩ := Xh15.privateBack hx (y := (⟨"com/example/rangewise/rangewise/Fingerprint$Builder", "addWord", "(IJJ)J"⟩ : MethodName)) hown (mvT hZ (hw _ (ow 25 rfl))) (mvT hZ (hw _ (ow 26 rfl))) (own_selp hZ (hw _ (ow 10 rfl)) (hw _ (ow 27 rfl)) (hw _ (ow 26 rfl)) (by decide)) (Cond.privateMethod_at (mvP hZ (hw _ (ow 27 rfl)) (args := #[]))) (mvT hZ (hw _ (ow 28 rfl))) (by decide) (backOf (W := 0) (rm6_2 l Z a0 hw [] a1 y2 (own_f6_1 y1 (own_f6_0 y0 (0 : Int64) x0) x1) w_sum_a1 k_w_sum_a1 ((x0 + y0) + (0 : Int64)) ((x1 + y1) + (own_f6_0 y0 (0 : Int64) x0)) x2 x3 T12.heap n0 sz19 c18 q12_0 g_w_sum_a1) hZ (hw _ (ow 28 rfl)) (hw _ (ow 11 rfl)) (by decide) (by decide)) (g := (mkF m 21 #[.val (.ref a1), .val (.ref a2), .val (.long q3), .second, .val (.long (own_f6_1 y1 (own_f6_0 y0 (0 : Int64) x0) x1)), .second, .val (.int (2 : Int32))] [(.long (own_f6_1 y1 (own_f6_0 y0 (0 : Int64) x0) x1)), (.long y2), (.int (2 : Int32)), (.ref a1)])) rfl (by rw [hml]; rfl) (Steps.refl _) (a := a1) q20 q20' (argsL := [(.int (2 : Int32)), (.long y2), (.long (own_f6_1 y1 (own_f6_0 y0 (0 : Int64) x0) x1))]) (rest := []) (lenOf pd_0 rfl) rfl (by show 2 * 0 + _ ≤ _; exact Nat.le_of_eq rfl) (hb hby d5_21) (fun _ _ => ⟨rfl, rfl, (by decide : 0 + 0 ≤ _), (by decide : 0 + 0 ≤ _)⟩)
  dsimp only [Pt.U, Pt.locs, Pt.cells, Pt.slots] at X20 l20 y20 z20 st20 hQ20
  subst l20 y20 z20
  obtain ⟨rfl, N20q, K20, q20_0⟩ := hQ20
  have N20 := Fr.app Nh15 N20q
  have K22 : Keep h0 T12.heap [a1, w_sum_a1] := (Keep.trans K14 K12 (allS (P := fun x => x ∈ [a1, w_sum_a1] ∨ h0.size ≤ x) (Or.inl (List.mem_of_getElem? (i := 1) rfl)) all0))
  obtain ⟨Lh23, Xh23, Nh23⟩ := own_hide X20 N20
  refine own_pre (B := T20.setTop (mkF m 24 #[.val (.ref a1), .val (.ref a2), .val (.long q3), .second, .val (.long (own_f6_1 y1 (own_f6_0 y0 (0 : Int64) x0) x1)), .second, .val (.int (2 : Int32))] [(.long (own_f6_2 y2 (own_f6_1 y1 (own_f6_0 y0 (0 : Int64) x0) x1) x2))])) (fun t k => st20.trans k) ?_
  refine own_pre (B := T20.setTop (mkF m 26 #[.val (.ref a1), .val (.ref a2), .val (.long q3), .second, .val (.long (own_f6_2 y2 (own_f6_1 y1 (own_f6_0 y0 (0 : Int64) x0) x1) x2)), .second, .val (.int (2 : Int32))] [])) (fun t k => XS.lstore Xh23.here hx rfl (hb hby d5_24) rfl (l' := #[.val (.ref a1), .val (.ref a2), .val (.long q3), .second, .val (.long (own_f6_2 y2 (own_f6_1 y1 (own_f6_0 y0 (0 : Int64) x0) x1) x2)), .second, .val (.int (2 : Int32))]) rfl k) ?_
  refine own_pre (B := T20.setTop (mkF m 29 #[.val (.ref a1), .val (.ref a2), .val (.long q3), .second, .val (.long (own_f6_2 y2 (own_f6_1 y1 (own_f6_0 y0 (0 : Int64) x0) x1) x2)), .second, .val (.int (3 : Int32))] [])) (fun t k => XS.iinc Xh23.here hx rfl (hb hby d5_26) rfl (l' := #[.val (.ref a1), .val (.ref a2), .val (.long q3), .second, .val (.long (own_f6_2 y2 (own_f6_1 y1 (own_f6_0 y0 (0 : Int64) x0) x1) x2)), .second, .val (.int (3 : Int32))]) rfl k) ?_
  refine own_pre (B := T20.setTop (mkF m 6 #[.val (.ref a1), .val (.ref a2), .val (.long q3), .second, .val (.long (own_f6_2 y2 (own_f6_1 y1 (own_f6_0 y0 (0 : Int64) x0) x1) x2)), .second, .val (.int (3 : Int32))] [])) (fun t k => XS.goto Xh23.here hx rfl (pc0 := 29) (pc' := 6) rfl (hb hby d5_29) (by decide) (by decide) k) ?_
  refine own_pre (B := T20.setTop (mkF m 8 #[.val (.ref a1), .val (.ref a2), .val (.long q3), .second, .val (.long (own_f6_2 y2 (own_f6_1 y1 (own_f6_0 y0 (0 : Int64) x0) x1) x2)), .second, .val (.int (3 : Int32))] [(.int (3 : Int32))])) (fun t k => XS.iload Xh23.here hx rfl (hb hby d5_6) rfl k) ?_
  refine own_pre (B := T20.setTop (mkF m 9 #[.val (.ref a1), .val (.ref a2), .val (.long q3), .second, .val (.long (own_f6_2 y2 (own_f6_1 y1 (own_f6_0 y0 (0 : Int64) x0) x1) x2)), .second, .val (.int (3 : Int32))] [(.int (4 : Int32)), (.int (3 : Int32))])) (fun t k => XS.iconst Xh23.here hx rfl (hb hby d5_8) k) ?_
  refine own_pre (B := T20.setTop (mkF m 12 #[.val (.ref a1), .val (.ref a2), .val (.long q3), .second, .val (.long (own_f6_2 y2 (own_f6_1 y1 (own_f6_0 y0 (0 : Int64) x0) x1) x2)), .second, .val (.int (3 : Int32))] [])) (fun t k => XS.icmpNo Xh23.here hx rfl (hb hby d5_9) rfl (tlt (by decide : (3 : Int32) < (4 : Int32))).2.1 k) ?_
  refine own_pre (B := T20.setTop (mkF m 13 #[.val (.ref a1), .val (.ref a2), .val (.long q3), .second, .val (.long (own_f6_2 y2 (own_f6_1 y1 (own_f6_0 y0 (0 : Int64) x0) x1) x2)), .second, .val (.int (3 : Int32))] [(.ref a1)])) (fun t k => XS.aloadN Xh23.here hx rfl (hb hby d5_12) rfl rfl k) ?_
  refine own_pre (B := T20.setTop (mkF m 15 #[.val (.ref a1), .val (.ref a2), .val (.long q3), .second, .val (.long (own_f6_2 y2 (own_f6_1 y1 (own_f6_0 y0 (0 : Int64) x0) x1) x2)), .second, .val (.int (3 : Int32))] [(.int (3 : Int32)), (.ref a1)])) (fun t k => XS.iload Xh23.here hx rfl (hb hby d5_13) rfl k) ?_
  refine own_pre (B := T20.setTop (mkF m 16 #[.val (.ref a1), .val (.ref a2), .val (.long q3), .second, .val (.long (own_f6_2 y2 (own_f6_1 y1 (own_f6_0 y0 (0 : Int64) x0) x1) x2)), .second, .val (.int (3 : Int32))] [(.ref a2), (.int (3 : Int32)), (.ref a1)])) (fun t k => XS.aloadN Xh23.here hx rfl (hb hby d5_15) rfl rfl k) ?_
  refine own_pre (B := T20.setTop (mkF m 18 #[.val (.ref a1), .val (.ref a2), .val (.long q3), .second, .val (.long (own_f6_2 y2 (own_f6_1 y1 (own_f6_0 y0 (0 : Int64) x0) x1) x2)), .second, .val (.int (3 : Int32))] [(.int (3 : Int32)), (.ref a2), (.int (3 : Int32)), (.ref a1)])) (fun t k => XS.iload Xh23.here hx rfl (hb hby d5_16) rfl k) ?_
  have c24 := (Arv.keep c16 K20 (ninS ne_a2_w_sum_a1 nin0))
  obtain ⟨cl25, Ar25, q25, S25, N25v, H25v, G25v⟩ := c24
  have c24 : Arv Z T20.heap a2 k_a2 .long (4 : Int32) [(.long y0), (.long y1), (.long y2), (.long y3)] (.long (0 : Int64)) := ⟨cl25, Ar25, q25, S25, N25v, H25v, G25v⟩
  have hin25 : ¬ ((3 : Int32) < 0 ∨ cl25.slots.size ≤ ((3 : Int32)).toNatClampNeg) := inb_of S25 ⟨by decide, by decide⟩
  have hat25 : cl25.slots[((3 : Int32)).toNatClampNeg]? = some (.long y3) := H25v.at hin25 rfl
  refine own_pre (B := T20.setTop (mkF m 19 #[.val (.ref a1), .val (.ref a2), .val (.long q3), .second, .val (.long (own_f6_2 y2 (own_f6_1 y1 (own_f6_0 y0 (0 : Int64) x0) x1) x2)), .second, .val (.int (3 : Int32))] [(.long y3), (.int (3 : Int32)), (.ref a1)])) (fun t k => Xh23.laload hx (j := (3 : Int32)) (v := (.long y3)) Ar25.1 (State.isArrayOf_alike hZ.alike Ar25.2.1) Ar25.2.2 hin25 hat25 (g := (mkF m 18 #[.val (.ref a1), .val (.ref a2), .val (.long q3), .second, .val (.long (own_f6_2 y2 (own_f6_1 y1 (own_f6_0 y0 (0 : Int64) x0) x1) x2)), .second, .val (.int (3 : Int32))] [(.int (3 : Int32)), (.ref a2), (.int (3 : Int32)), (.ref a1)])) rfl rfl (hb hby d5_18) t k) ?_
  refine own_pre (B := T20.setTop (mkF m 21 #[.val (.ref a1), .val (.ref a2), .val (.long q3), .second, .val (.long (own_f6_2 y2 (own_f6_1 y1 (own_f6_0 y0 (0 : Int64) x0) x1) x2)), .second, .val (.int (3 : Int32))] [(.long (own_f6_2 y2 (own_f6_1 y1 (own_f6_0 y0 (0 : Int64) x0) x1) x2)), (.long y3), (.int (3 : Int32)), (.ref a1)])) (fun t k => XS.lload Xh23.here hx rfl (hb hby d5_19) rfl k) ?_
  have c26 := (Fld.keep c18 K20 (ninS ne_a1_w_sum_a1 nin0))
  have sz27 : n0 ≤ T20.heap.size := (Nat.le_trans sz19 K20.1)
  have c29 := (Exa.keep c21 K20)
  obtain ⟨cq28, q28, q28'⟩ := (c29).cell
  obtain ⟨_, _, ⟨T28, L28, k28, n28⟩, -, X28, ⟨Lc28, hQ28, l28, y28, z28⟩, st28⟩ := Xh23.privateBack hx (y := (⟨"com/example/rangewise/rangewise/Fingerprint$Builder", "addWord", "(IJJ)J"⟩ : MethodName)) hown (mvT hZ (hw _ (ow 25 rfl))) (mvT hZ (hw _ (ow 26 rfl))) (own_selp hZ (hw _ (ow 10 rfl)) (hw _ (ow 27 rfl)) (hw _ (ow 26 rfl)) (by decide)) (Cond.privateMethod_at (mvP hZ (hw _ (ow 27 rfl)) (args := #[]))) (mvT hZ (hw _ (ow 28 rfl))) (by decide) (backOf (W := 0) (rm6_3 l Z a0 hw [] a1 y3 (own_f6_2 y2 (own_f6_1 y1 (own_f6_0 y0 (0 : Int64) x0) x1) x2) w_sum_a1 k_w_sum_a1 ((x0 + y0) + (0 : Int64)) ((x1 + y1) + (own_f6_0 y0 (0 : Int64) x0)) ((x2 + y2) + (own_f6_1 y1 (own_f6_0 y0 (0 : Int64) x0) x1)) x3 T20.heap n0 sz27 c26 q20_0 g_w_sum_a1) hZ (hw _ (ow 28 rfl)) (hw _ (ow 11 rfl)) (by decide) (by decide)) (g := (mkF m 21 #[.val (.ref a1), .val (.ref a2), .val (.long q3), .second, .val (.long (own_f6_2 y2 (own_f6_1 y1 (own_f6_0 y0 (0 : Int64) x0) x1) x2)), .second, .val (.int (3 : Int32))] [(.long (own_f6_2 y2 (own_f6_1 y1 (own_f6_0 y0 (0 : Int64) x0) x1) x2)), (.long y3), (.int (3 : Int32)), (.ref a1)])) rfl (by rw [hml]; rfl) (Steps.refl _) (a := a1) q28 q28' (argsL := [(.int (3 : Int32)), (.long y3), (.long (own_f6_2 y2 (own_f6_1 y1 (own_f6_0 y0 (0 : Int64) x0) x1) x2))]) (rest := []) (lenOf pd_0 rfl) rfl (by show 2 * 0 + _ ≤ _; exact Nat.le_of_eq rfl) (hb hby d5_21) (fun _ _ => ⟨rfl, rfl, (by decide : 0 + 0 ≤ _), (by decide : 0 + 0 ≤ _)⟩)
  dsimp only [Pt.U, Pt.locs, Pt.cells, Pt.slots] at X28 l28 y28 z28 st28 hQ28
  subst l28 y28 z28
  obtain ⟨rfl, N28q, K28, q28_0⟩ := hQ28
  have N28 := Fr.app Nh23 N28q
  have K30 : Keep h0 T20.heap [a1, w_sum_a1] := (Keep.trans K22 K20 (allS (P := fun x => x ∈ [a1, w_sum_a1] ∨ h0.size ≤ x) (Or.inl (List.mem_of_getElem? (i := 1) rfl)) all0))
  obtain ⟨Lh31, Xh31, Nh31⟩ := own_hide X28 N28
  refine own_pre (B := T28.setTop (mkF m 24 #[.val (.ref a1), .val (.ref a2), .val (.long q3), .second, .val (.long (own_f6_2 y2 (own_f6_1 y1 (own_f6_0 y0 (0 : Int64) x0) x1) x2)), .second, .val (.int (3 : Int32))] [(.long (own_f6_3 y3 (own_f6_2 y2 (own_f6_1 y1 (own_f6_0 y0 (0 : Int64) x0) x1) x2) x3))])) (fun t k => st28.trans k) ?_
  refine own_pre (B := T28.setTop (mkF m 26 #[.val (.ref a1), .val (.ref a2), .val (.long q3), .second, .val (.long (own_f6_3 y3 (own_f6_2 y2 (own_f6_1 y1 (own_f6_0 y0 (0 : Int64) x0) x1) x2) x3)), .second, .val (.int (3 : Int32))] [])) (fun t k => XS.lstore Xh31.here hx rfl (hb hby d5_24) rfl (l' := #[.val (.ref a1), .val (.ref a2), .val (.long q3), .second, .val (.long (own_f6_3 y3 (own_f6_2 y2 (own_f6_1 y1 (own_f6_0 y0 (0 : Int64) x0) x1) x2) x3)), .second, .val (.int (3 : Int32))]) rfl k) ?_
  refine own_pre (B := T28.setTop (mkF m 29 #[.val (.ref a1), .val (.ref a2), .val (.long q3), .second, .val (.long (own_f6_3 y3 (own_f6_2 y2 (own_f6_1 y1 (own_f6_0 y0 (0 : Int64) x0) x1) x2) x3)), .second, .val (.int (4 : Int32))] [])) (fun t k => XS.iinc Xh31.here hx rfl (hb hby d5_26) rfl (l' := #[.val (.ref a1), .val (.ref a2), .val (.long q3), .second, .val (.long (own_f6_3 y3 (own_f6_2 y2 (own_f6_1 y1 (own_f6_0 y0 (0 : Int64) x0) x1) x2) x3)), .second, .val (.int (4 : Int32))]) rfl k) ?_
  refine own_pre (B := T28.setTop (mkF m 6 #[.val (.ref a1), .val (.ref a2), .val (.long q3), .second, .val (.long (own_f6_3 y3 (own_f6_2 y2 (own_f6_1 y1 (own_f6_0 y0 (0 : Int64) x0) x1) x2) x3)), .second, .val (.int (4 : Int32))] [])) (fun t k => XS.goto Xh31.here hx rfl (pc0 := 29) (pc' := 6) rfl (hb hby d5_29) (by decide) (by decide) k) ?_
  refine own_pre (B := T28.setTop (mkF m 8 #[.val (.ref a1), .val (.ref a2), .val (.long q3), .second, .val (.long (own_f6_3 y3 (own_f6_2 y2 (own_f6_1 y1 (own_f6_0 y0 (0 : Int64) x0) x1) x2) x3)), .second, .val (.int (4 : Int32))] [(.int (4 : Int32))])) (fun t k => XS.iload Xh31.here hx rfl (hb hby d5_6) rfl k) ?_
  refine own_pre (B := T28.setTop (mkF m 9 #[.val (.ref a1), .val (.ref a2), .val (.long q3), .second, .val (.long (own_f6_3 y3 (own_f6_2 y2 (own_f6_1 y1 (own_f6_0 y0 (0 : Int64) x0) x1) x2) x3)), .second, .val (.int (4 : Int32))] [(.int (4 : Int32)), (.int (4 : Int32))])) (fun t k => XS.iconst Xh31.here hx rfl (hb hby d5_8) k) ?_
  refine own_pre (B := T28.setTop (mkF m 32 #[.val (.ref a1), .val (.ref a2), .val (.long q3), .second, .val (.long (own_f6_3 y3 (own_f6_2 y2 (own_f6_1 y1 (own_f6_0 y0 (0 : Int64) x0) x1) x2) x3)), .second, .val (.int (4 : Int32))] [])) (fun t k => XS.icmpYes Xh31.here hx rfl (pc0 := 9) (pc' := 32) rfl (hb hby d5_9) rfl (flt (by decide : ¬ ((4 : Int32) < (4 : Int32)))).2.1 (by decide) (by decide) k) ?_
  refine own_pre (B := T28.setTop (mkF m 33 #[.val (.ref a1), .val (.ref a2), .val (.long q3), .second, .val (.long (own_f6_3 y3 (own_f6_2 y2 (own_f6_1 y1 (own_f6_0 y0 (0 : Int64) x0) x1) x2) x3)), .second, .val (.int (4 : Int32))] [(.ref a1)])) (fun t k => XS.aloadN Xh31.here hx rfl (hb hby d5_32) rfl rfl k) ?_
  refine own_pre (B := T28.setTop (mkF m 34 #[.val (.ref a1), .val (.ref a2), .val (.long q3), .second, .val (.long (own_f6_3 y3 (own_f6_2 y2 (own_f6_1 y1 (own_f6_0 y0 (0 : Int64) x0) x1) x2) x3)), .second, .val (.int (4 : Int32))] [(.ref a1), (.ref a1)])) (fun t k => XS.dup Xh31.here hx rfl (hb hby d5_33) rfl rfl k) ?_
  have c32 := (Fld.keep (Fld.keep (Fld.keep (Fld.keep F_count_a1 K5 (ninS ne_a1_w_sum_a1 nin0)) K12 (ninS ne_a1_w_sum_a1 nin0)) K20 (ninS ne_a1_w_sum_a1 nin0)) K28 (ninS ne_a1_w_sum_a1 nin0))
  obtain ⟨T33, X33, e33, st33⟩ := getF Xh31 hx hZ hown (host := "") (Or.inl (hw _ (ow 30 rfl))) Via.refl rfl c32 (g := (mkF m 34 #[.val (.ref a1), .val (.ref a2), .val (.long q3), .second, .val (.long (own_f6_3 y3 (own_f6_2 y2 (own_f6_1 y1 (own_f6_0 y0 (0 : Int64) x0) x1) x2) x3)), .second, .val (.int (4 : Int32))] [(.ref a1), (.ref a1)])) rfl rfl (hb hby d5_34)
  refine own_pre (B := T33.setTop (mkF m 37 #[.val (.ref a1), .val (.ref a2), .val (.long q3), .second, .val (.long (own_f6_3 y3 (own_f6_2 y2 (own_f6_1 y1 (own_f6_0 y0 (0 : Int64) x0) x1) x2) x3)), .second, .val (.int (4 : Int32))] [(.long w_count_a1), (.ref a1)])) (fun t k => st33 t k) ?_
  refine own_pre (B := T33.setTop (mkF m 38 #[.val (.ref a1), .val (.ref a2), .val (.long q3), .second, .val (.long (own_f6_3 y3 (own_f6_2 y2 (own_f6_1 y1 (own_f6_0 y0 (0 : Int64) x0) x1) x2) x3)), .second, .val (.int (4 : Int32))] [(.long q3), (.long w_count_a1), (.ref a1)])) (fun t k => XS.lloadN X33.here hx rfl (hb hby d5_37) rfl k) ?_
  refine own_pre (B := T33.setTop (mkF m 39 #[.val (.ref a1), .val (.ref a2), .val (.long q3), .second, .val (.long (own_f6_3 y3 (own_f6_2 y2 (own_f6_1 y1 (own_f6_0 y0 (0 : Int64) x0) x1) x2) x3)), .second, .val (.int (4 : Int32))] [(.long (w_count_a1 + q3)), (.ref a1)])) (fun t k => XS.ladd X33.here hx rfl (hb hby d5_38) rfl k) ?_
  have c34 := (Exa.keep c29 K28)
  have K35 : Keep h0 T28.heap [a1, w_sum_a1] := (Keep.trans K30 K28 (allS (P := fun x => x ∈ [a1, w_sum_a1] ∨ h0.size ≤ x) (Or.inl (List.mem_of_getElem? (i := 1) rfl)) all0))
  obtain ⟨T36, h36, X36, e36, W36, st36⟩ := putF X33 hx hZ hown (host := "") (Or.inl (hw _ (ow 30 rfl))) Via.refl e33 c32 c34 (Or.inl (hw _ (ow 31 rfl))) (hw _ (ow 10 rfl)) (ty := .long) (by decide) rfl rfl (g := (mkF m 39 #[.val (.ref a1), .val (.ref a2), .val (.long q3), .second, .val (.long (own_f6_3 y3 (own_f6_2 y2 (own_f6_1 y1 (own_f6_0 y0 (0 : Int64) x0) x1) x2) x3)), .second, .val (.int (4 : Int32))] [(.long (w_count_a1 + q3)), (.ref a1)])) rfl rfl (hb hby d5_39)
  have Fw36 := Fld.same W36 c32
  have N36 := Fr.snoc X36 Nh31 g_a1
  obtain ⟨Lh37, Xh37, Nh37⟩ := own_hide X36 N36
  refine own_pre (B := T36.setTop (mkF m 42 #[.val (.ref a1), .val (.ref a2), .val (.long q3), .second, .val (.long (own_f6_3 y3 (own_f6_2 y2 (own_f6_1 y1 (own_f6_0 y0 (0 : Int64) x0) x1) x2) x3)), .second, .val (.int (4 : Int32))] [])) (fun t k => st36 t k) ?_
  refine own_pre (B := T36.setTop (mkF m 43 #[.val (.ref a1), .val (.ref a2), .val (.long q3), .second, .val (.long (own_f6_3 y3 (own_f6_2 y2 (own_f6_1 y1 (own_f6_0 y0 (0 : Int64) x0) x1) x2) x3)), .second, .val (.int (4 : Int32))] [(.ref a1)])) (fun t k => XS.aloadN Xh37.here hx rfl (hb hby d5_42) rfl rfl k) ?_
  have K38 : Keep h0 h36 [a1, w_sum_a1] := (Keep.wr K35 W36 (Or.inl (List.mem_of_getElem? (i := 0) rfl)))
  have c39 := (Exa.wr W36 c34)
  have c40 := (Fld.other W36 (Fld.keep c26 K28 (ninS ne_a1_w_sum_a1 nin0)) (Or.inr (slot_ne (Or.inr (hw _ (ow 19 rfl))) (Or.inl (hw _ (ow 31 rfl))) (by decide) (t := (.array .long)) (t' := .long) (by decide) (by decide))))
  have c41 := (Arv.other q28_0 W36 (Ne.symm ne_a1_w_sum_a1))
  obtain ⟨fsr42, hrr42, hrunr42, hendedr42, hWr42, hsamer42⟩ := Xh37.leave (v := some (.ref a1)) (fun h => by rw [Bd.returns] at h; cases h)
  refine ⟨_, _, (retOut Xh37 hx (i := .areturn) Bd.returns rfl (Or.inr (Or.inr (Or.inr (Or.inr ⟨rfl, rfl, rfl⟩)))) (hb hby d5_43) hrr42), hrunr42, hendedr42, _, _, rfl, ?_, ⟨_, rfl⟩, hWr42, hsamer42.mono (by decide) (by decide)⟩
  show Q5 Z a1 a2 q3 w_sum_a1 k_w_sum_a1 x0 x1 x2 x3 k_a2 y0 y1 y2 y3 w_count_a1 h0 n0 _ T36.heap _
  rw [e36]
  exact ⟨rfl, Nh37, K38, c39, c40, Fw36, c41⟩
theorem d7_0 : decode prog_22_method_7_code 0 = .ok (.aload_n 0, 1) := by decide +kernel
theorem d7_1 : decode prog_22_method_7_code 1 = .ok (.getfield 13, 3) := by decide +kernel
theorem d7_4 : decode prog_22_method_7_code 4 = .ok (.iload_n 1, 1) := by decide +kernel
theorem d7_5 : decode prog_22_method_7_code 5 = .ok (.laload, 1) := by decide +kernel
theorem d7_6 : decode prog_22_method_7_code 6 = .ok (.lreturn, 1) := by decide +kernel
theorem pn_7 : plainName "com/example/rangewise/rangewise/Fingerprint$Builder" = true := by first | (simp [plainName, overriddenIn]; done) | decide +kernel
theorem ef_7_0 (m : MethodId) (x0 : Addr) : entryFrame m #[(.ref x0), (.int (0 : Int32))] 2 = mkF m 0 #[.val (.ref x0), .val (.int (0 : Int32))] [] := by first | (simp [entryFrame, mkF, argsToLocals, Value.category]; done) | rfl
def own_f7_0 (x0 : Int64) (x1 : Int64) (x2 : Int64) (x3 : Int64) : Int64 := x0
def Q7_0 (Z : State) (a1 : Addr) (w_sum_a1 : Addr) (k_w_sum_a1 : ClassId) (x0 : Int64) (x1 : Int64) (x2 : Int64) (x3 : Int64) (h0 : Heap) (n0 : Nat) (v : Option Value) (h : Heap) (L : List Loc) : Prop := v = some (.long (own_f7_0 x0 x1 x2 x3)) ∧ Fr n0 L ∧ h = h0
set_option maxRecDepth 65536 in
set_option maxHeartbeats 40000000 in
theorem rm7_0 (l : Launch) (Z : State) (a0 : Array Value) (hw : ∀ d ∈ tables_1, d.before a0 Z = true) (ws : List Jvm.Cond) (a1 : Addr) (w_sum_a1 : Addr) (k_w_sum_a1 : ClassId) (x0 : Int64) (x1 : Int64) (x2 : Int64) (x3 : Int64) (h0 : Heap) (n0 : Nat) (Z0 : n0 ≤ h0.size) (F_sum_a1 : Fld Z h0 a1 "com/example/rangewise/rangewise/Fingerprint$Builder" "sum" "[J" (.ref w_sum_a1)) (V_w_sum_a1 : Arv Z h0 w_sum_a1 k_w_sum_a1 .long (4 : Int32) [(.long x0), (.long x1), (.long x2), (.long x3)] (.long (0 : Int64))) :
    MetFree l (⟨"com/example/rangewise/rangewise/Fingerprint$Builder", "word", "(I)J"⟩ : MethodName) (head1 (Jvm.Cond.code (⟨"com/example/rangewise/rangewise/Fingerprint$Builder", "word", "(I)J"⟩ : MethodName) prog_22_method_7_code 2 (some .long) :: ws) ({ frames := 0, cells := 0, slots := 0, locals := 0 } : Room)) (fun a U => a = #[(.ref a1), (.int (0 : Int32))] ∧ Z.Warmed39 U.vm ∧ U.heap = h0) (fun _ _ _ _ _ => True) (fun _ U o U' => ∃ v L, o = .returned v ∧ Q7_0 Z a1 w_sum_a1 k_w_sum_a1 x0 x1 x2 x3 h0 n0 v U'.heap L ∧ FrameEnd U o U' L ({ frames := 0, cells := 0, slots := 0, locals := 0 } : Room).cells ({ frames := 0, cells := 0, slots := 0, locals := 0 } : Room).slots) := by
  refine MetFree.of_bodySF (plainFor_of_name pn_7) hisR ?_
  intro p e s m args below meth c s₁ Bd hml0 hP hK
  obtain ⟨rfl, hZ, hh⟩ := hP
  have hx := Bd.exec
  have hby := Bd.bytes
  have hml : c.maxLocals = 2 := hml0
  have hown : s.vm.findClass "com/example/rangewise/rangewise/Fingerprint$Builder" = some m.cls := findClass_of_methodNamed Bd.named
  have hnm := (name_of_methodNamed Bd.named Bd.method).1
  have X0 : Stand p l e ({ frames := 0, cells := 0, slots := 0, locals := 0 } : Room) s m #[(.ref a1), (.int (0 : Int32))] below meth c s₁ [] 0 0 := Stand.of_body Bd
  have e0 : s₁.heap = h0 := by rw [← hh, Bd.state]; rfl
  have N0 := Fr.nil n0
  apply own_in
  refine own_pre (B := s₁.setTop (mkF m 0 #[.val (.ref a1), .val (.int (0 : Int32))] [])) (fun t k => castTop (ef_7_0 m a1) k) ?_
  refine own_pre (B := s₁.setTop (mkF m 1 #[.val (.ref a1), .val (.int (0 : Int32))] [(.ref a1)])) (fun t k => XS.aloadN X0.here hx rfl (hb hby d7_0) rfl rfl k) ?_
  obtain ⟨T2, X2, e2, st2⟩ := getF X0 hx hZ hown (host := "") (Or.inl (hw _ (ow 18 rfl))) Via.refl e0 F_sum_a1 (g := (mkF m 1 #[.val (.ref a1), .val (.int (0 : Int32))] [(.ref a1)])) rfl rfl (hb hby d7_1)
  refine own_pre (B := T2.setTop (mkF m 4 #[.val (.ref a1), .val (.int (0 : Int32))] [(.ref w_sum_a1)])) (fun t k => st2 t k) ?_
  refine own_pre (B := T2.setTop (mkF m 5 #[.val (.ref a1), .val (.int (0 : Int32))] [(.int (0 : Int32)), (.ref w_sum_a1)])) (fun t k => XS.iloadN X2.here hx rfl (hb hby d7_4) rfl k) ?_
  obtain ⟨cl3, Ar3, q3, S3, N3v, H3v, G3v⟩ := V_w_sum_a1
  have V_w_sum_a1 : Arv Z h0 w_sum_a1 k_w_sum_a1 .long (4 : Int32) [(.long x0), (.long x1), (.long x2), (.long x3)] (.long (0 : Int64)) := ⟨cl3, Ar3, q3, S3, N3v, H3v, G3v⟩
  have hin3 : ¬ ((0 : Int32) < 0 ∨ cl3.slots.size ≤ ((0 : Int32)).toNatClampNeg) := inb_of S3 ⟨by decide, by decide⟩
  have hat3 : cl3.slots[((0 : Int32)).toNatClampNeg]? = some (.long x0) := H3v.at hin3 rfl
  refine own_pre (B := T2.setTop (mkF m 6 #[.val (.ref a1), .val (.int (0 : Int32))] [(.long x0)])) (fun t k => X2.laload hx (j := (0 : Int32)) (v := (.long x0)) (by rw [e2]; exact Ar3.1) (State.isArrayOf_alike hZ.alike Ar3.2.1) Ar3.2.2 hin3 hat3 (g := (mkF m 5 #[.val (.ref a1), .val (.int (0 : Int32))] [(.int (0 : Int32)), (.ref w_sum_a1)])) rfl rfl (hb hby d7_5) t k) ?_
  obtain ⟨fsr4, hrr4, hrunr4, hendedr4, hWr4, hsamer4⟩ := X2.leave (v := some (.long x0)) (fun h => by rw [Bd.returns] at h; cases h)
  refine ⟨_, _, (retOut X2 hx (t := .long) (i := .lreturn) Bd.returns rfl (Or.inr (Or.inl ⟨rfl, rfl, _, rfl⟩)) (hb hby d7_6) hrr4), hrunr4, hendedr4, _, _, rfl, ?_, ⟨_, rfl⟩, hWr4, hsamer4.mono (by decide) (by decide)⟩
  show Q7_0 Z a1 w_sum_a1 k_w_sum_a1 x0 x1 x2 x3 h0 n0 _ T2.heap _
  rw [e2]
  exact ⟨rfl, N0, rfl⟩
theorem ef_7_1 (m : MethodId) (x0 : Addr) : entryFrame m #[(.ref x0), (.int (1 : Int32))] 2 = mkF m 0 #[.val (.ref x0), .val (.int (1 : Int32))] [] := by first | (simp [entryFrame, mkF, argsToLocals, Value.category]; done) | rfl
def own_f7_1 (x0 : Int64) (x1 : Int64) (x2 : Int64) (x3 : Int64) : Int64 := x1
def Q7_1 (Z : State) (a1 : Addr) (w_sum_a1 : Addr) (k_w_sum_a1 : ClassId) (x0 : Int64) (x1 : Int64) (x2 : Int64) (x3 : Int64) (h0 : Heap) (n0 : Nat) (v : Option Value) (h : Heap) (L : List Loc) : Prop := v = some (.long (own_f7_1 x0 x1 x2 x3)) ∧ Fr n0 L ∧ h = h0
set_option maxRecDepth 65536 in
set_option maxHeartbeats 40000000 in
theorem rm7_1 (l : Launch) (Z : State) (a0 : Array Value) (hw : ∀ d ∈ tables_1, d.before a0 Z = true) (ws : List Jvm.Cond) (a1 : Addr) (w_sum_a1 : Addr) (k_w_sum_a1 : ClassId) (x0 : Int64) (x1 : Int64) (x2 : Int64) (x3 : Int64) (h0 : Heap) (n0 : Nat) (Z0 : n0 ≤ h0.size) (F_sum_a1 : Fld Z h0 a1 "com/example/rangewise/rangewise/Fingerprint$Builder" "sum" "[J" (.ref w_sum_a1)) (V_w_sum_a1 : Arv Z h0 w_sum_a1 k_w_sum_a1 .long (4 : Int32) [(.long x0), (.long x1), (.long x2), (.long x3)] (.long (0 : Int64))) :
    MetFree l (⟨"com/example/rangewise/rangewise/Fingerprint$Builder", "word", "(I)J"⟩ : MethodName) (head1 (Jvm.Cond.code (⟨"com/example/rangewise/rangewise/Fingerprint$Builder", "word", "(I)J"⟩ : MethodName) prog_22_method_7_code 2 (some .long) :: ws) ({ frames := 0, cells := 0, slots := 0, locals := 0 } : Room)) (fun a U => a = #[(.ref a1), (.int (1 : Int32))] ∧ Z.Warmed39 U.vm ∧ U.heap = h0) (fun _ _ _ _ _ => True) (fun _ U o U' => ∃ v L, o = .returned v ∧ Q7_1 Z a1 w_sum_a1 k_w_sum_a1 x0 x1 x2 x3 h0 n0 v U'.heap L ∧ FrameEnd U o U' L ({ frames := 0, cells := 0, slots := 0, locals := 0 } : Room).cells ({ frames := 0, cells := 0, slots := 0, locals := 0 } : Room).slots) := by
  refine MetFree.of_bodySF (plainFor_of_name pn_7) hisR ?_
  intro p e s m args below meth c s₁ Bd hml0 hP hK
  obtain ⟨rfl, hZ, hh⟩ := hP
  have hx := Bd.exec
  have hby := Bd.bytes
  have hml : c.maxLocals = 2 := hml0
  have hown : s.vm.findClass "com/example/rangewise/rangewise/Fingerprint$Builder" = some m.cls := findClass_of_methodNamed Bd.named
  have hnm := (name_of_methodNamed Bd.named Bd.method).1
  have X0 : Stand p l e ({ frames := 0, cells := 0, slots := 0, locals := 0 } : Room) s m #[(.ref a1), (.int (1 : Int32))] below meth c s₁ [] 0 0 := Stand.of_body Bd
  have e0 : s₁.heap = h0 := by rw [← hh, Bd.state]; rfl
  have N0 := Fr.nil n0
  apply own_in
  refine own_pre (B := s₁.setTop (mkF m 0 #[.val (.ref a1), .val (.int (1 : Int32))] [])) (fun t k => castTop (ef_7_1 m a1) k) ?_
  refine own_pre (B := s₁.setTop (mkF m 1 #[.val (.ref a1), .val (.int (1 : Int32))] [(.ref a1)])) (fun t k => XS.aloadN X0.here hx rfl (hb hby d7_0) rfl rfl k) ?_
  obtain ⟨T2, X2, e2, st2⟩ := getF X0 hx hZ hown (host := "") (Or.inl (hw _ (ow 18 rfl))) Via.refl e0 F_sum_a1 (g := (mkF m 1 #[.val (.ref a1), .val (.int (1 : Int32))] [(.ref a1)])) rfl rfl (hb hby d7_1)
  refine own_pre (B := T2.setTop (mkF m 4 #[.val (.ref a1), .val (.int (1 : Int32))] [(.ref w_sum_a1)])) (fun t k => st2 t k) ?_
  refine own_pre (B := T2.setTop (mkF m 5 #[.val (.ref a1), .val (.int (1 : Int32))] [(.int (1 : Int32)), (.ref w_sum_a1)])) (fun t k => XS.iloadN X2.here hx rfl (hb hby d7_4) rfl k) ?_
  obtain ⟨cl3, Ar3, q3, S3, N3v, H3v, G3v⟩ := V_w_sum_a1
  have V_w_sum_a1 : Arv Z h0 w_sum_a1 k_w_sum_a1 .long (4 : Int32) [(.long x0), (.long x1), (.long x2), (.long x3)] (.long (0 : Int64)) := ⟨cl3, Ar3, q3, S3, N3v, H3v, G3v⟩
  have hin3 : ¬ ((1 : Int32) < 0 ∨ cl3.slots.size ≤ ((1 : Int32)).toNatClampNeg) := inb_of S3 ⟨by decide, by decide⟩
  have hat3 : cl3.slots[((1 : Int32)).toNatClampNeg]? = some (.long x1) := H3v.at hin3 rfl
  refine own_pre (B := T2.setTop (mkF m 6 #[.val (.ref a1), .val (.int (1 : Int32))] [(.long x1)])) (fun t k => X2.laload hx (j := (1 : Int32)) (v := (.long x1)) (by rw [e2]; exact Ar3.1) (State.isArrayOf_alike hZ.alike Ar3.2.1) Ar3.2.2 hin3 hat3 (g := (mkF m 5 #[.val (.ref a1), .val (.int (1 : Int32))] [(.int (1 : Int32)), (.ref w_sum_a1)])) rfl rfl (hb hby d7_5) t k) ?_
  obtain ⟨fsr4, hrr4, hrunr4, hendedr4, hWr4, hsamer4⟩ := X2.leave (v := some (.long x1)) (fun h => by rw [Bd.returns] at h; cases h)
  refine ⟨_, _, (retOut X2 hx (t := .long) (i := .lreturn) Bd.returns rfl (Or.inr (Or.inl ⟨rfl, rfl, _, rfl⟩)) (hb hby d7_6) hrr4), hrunr4, hendedr4, _, _, rfl, ?_, ⟨_, rfl⟩, hWr4, hsamer4.mono (by decide) (by decide)⟩
  show Q7_1 Z a1 w_sum_a1 k_w_sum_a1 x0 x1 x2 x3 h0 n0 _ T2.heap _
  rw [e2]
  exact ⟨rfl, N0, rfl⟩
theorem ef_7_2 (m : MethodId) (x0 : Addr) : entryFrame m #[(.ref x0), (.int (2 : Int32))] 2 = mkF m 0 #[.val (.ref x0), .val (.int (2 : Int32))] [] := by first | (simp [entryFrame, mkF, argsToLocals, Value.category]; done) | rfl
def own_f7_2 (x0 : Int64) (x1 : Int64) (x2 : Int64) (x3 : Int64) : Int64 := x2
def Q7_2 (Z : State) (a1 : Addr) (w_sum_a1 : Addr) (k_w_sum_a1 : ClassId) (x0 : Int64) (x1 : Int64) (x2 : Int64) (x3 : Int64) (h0 : Heap) (n0 : Nat) (v : Option Value) (h : Heap) (L : List Loc) : Prop := v = some (.long (own_f7_2 x0 x1 x2 x3)) ∧ Fr n0 L ∧ h = h0
set_option maxRecDepth 65536 in
set_option maxHeartbeats 40000000 in
theorem rm7_2 (l : Launch) (Z : State) (a0 : Array Value) (hw : ∀ d ∈ tables_1, d.before a0 Z = true) (ws : List Jvm.Cond) (a1 : Addr) (w_sum_a1 : Addr) (k_w_sum_a1 : ClassId) (x0 : Int64) (x1 : Int64) (x2 : Int64) (x3 : Int64) (h0 : Heap) (n0 : Nat) (Z0 : n0 ≤ h0.size) (F_sum_a1 : Fld Z h0 a1 "com/example/rangewise/rangewise/Fingerprint$Builder" "sum" "[J" (.ref w_sum_a1)) (V_w_sum_a1 : Arv Z h0 w_sum_a1 k_w_sum_a1 .long (4 : Int32) [(.long x0), (.long x1), (.long x2), (.long x3)] (.long (0 : Int64))) :
    MetFree l (⟨"com/example/rangewise/rangewise/Fingerprint$Builder", "word", "(I)J"⟩ : MethodName) (head1 (Jvm.Cond.code (⟨"com/example/rangewise/rangewise/Fingerprint$Builder", "word", "(I)J"⟩ : MethodName) prog_22_method_7_code 2 (some .long) :: ws) ({ frames := 0, cells := 0, slots := 0, locals := 0 } : Room)) (fun a U => a = #[(.ref a1), (.int (2 : Int32))] ∧ Z.Warmed39 U.vm ∧ U.heap = h0) (fun _ _ _ _ _ => True) (fun _ U o U' => ∃ v L, o = .returned v ∧ Q7_2 Z a1 w_sum_a1 k_w_sum_a1 x0 x1 x2 x3 h0 n0 v U'.heap L ∧ FrameEnd U o U' L ({ frames := 0, cells := 0, slots := 0, locals := 0 } : Room).cells ({ frames := 0, cells := 0, slots := 0, locals := 0 } : Room).slots) := by
  refine MetFree.of_bodySF (plainFor_of_name pn_7) hisR ?_
  intro p e s m args below meth c s₁ Bd hml0 hP hK
  obtain ⟨rfl, hZ, hh⟩ := hP
  have hx := Bd.exec
  have hby := Bd.bytes
  have hml : c.maxLocals = 2 := hml0
  have hown : s.vm.findClass "com/example/rangewise/rangewise/Fingerprint$Builder" = some m.cls := findClass_of_methodNamed Bd.named
  have hnm := (name_of_methodNamed Bd.named Bd.method).1
  have X0 : Stand p l e ({ frames := 0, cells := 0, slots := 0, locals := 0 } : Room) s m #[(.ref a1), (.int (2 : Int32))] below meth c s₁ [] 0 0 := Stand.of_body Bd
  have e0 : s₁.heap = h0 := by rw [← hh, Bd.state]; rfl
  have N0 := Fr.nil n0
  apply own_in
  refine own_pre (B := s₁.setTop (mkF m 0 #[.val (.ref a1), .val (.int (2 : Int32))] [])) (fun t k => castTop (ef_7_2 m a1) k) ?_
  refine own_pre (B := s₁.setTop (mkF m 1 #[.val (.ref a1), .val (.int (2 : Int32))] [(.ref a1)])) (fun t k => XS.aloadN X0.here hx rfl (hb hby d7_0) rfl rfl k) ?_
  obtain ⟨T2, X2, e2, st2⟩ := getF X0 hx hZ hown (host := "") (Or.inl (hw _ (ow 18 rfl))) Via.refl e0 F_sum_a1 (g := (mkF m 1 #[.val (.ref a1), .val (.int (2 : Int32))] [(.ref a1)])) rfl rfl (hb hby d7_1)
  refine own_pre (B := T2.setTop (mkF m 4 #[.val (.ref a1), .val (.int (2 : Int32))] [(.ref w_sum_a1)])) (fun t k => st2 t k) ?_
  refine own_pre (B := T2.setTop (mkF m 5 #[.val (.ref a1), .val (.int (2 : Int32))] [(.int (2 : Int32)), (.ref w_sum_a1)])) (fun t k => XS.iloadN X2.here hx rfl (hb hby d7_4) rfl k) ?_
  obtain ⟨cl3, Ar3, q3, S3, N3v, H3v, G3v⟩ := V_w_sum_a1
  have V_w_sum_a1 : Arv Z h0 w_sum_a1 k_w_sum_a1 .long (4 : Int32) [(.long x0), (.long x1), (.long x2), (.long x3)] (.long (0 : Int64)) := ⟨cl3, Ar3, q3, S3, N3v, H3v, G3v⟩
  have hin3 : ¬ ((2 : Int32) < 0 ∨ cl3.slots.size ≤ ((2 : Int32)).toNatClampNeg) := inb_of S3 ⟨by decide, by decide⟩
  have hat3 : cl3.slots[((2 : Int32)).toNatClampNeg]? = some (.long x2) := H3v.at hin3 rfl
  refine own_pre (B := T2.setTop (mkF m 6 #[.val (.ref a1), .val (.int (2 : Int32))] [(.long x2)])) (fun t k => X2.laload hx (j := (2 : Int32)) (v := (.long x2)) (by rw [e2]; exact Ar3.1) (State.isArrayOf_alike hZ.alike Ar3.2.1) Ar3.2.2 hin3 hat3 (g := (mkF m 5 #[.val (.ref a1), .val (.int (2 : Int32))] [(.int (2 : Int32)), (.ref w_sum_a1)])) rfl rfl (hb hby d7_5) t k) ?_
  obtain ⟨fsr4, hrr4, hrunr4, hendedr4, hWr4, hsamer4⟩ := X2.leave (v := some (.long x2)) (fun h => by rw [Bd.returns] at h; cases h)
  refine ⟨_, _, (retOut X2 hx (t := .long) (i := .lreturn) Bd.returns rfl (Or.inr (Or.inl ⟨rfl, rfl, _, rfl⟩)) (hb hby d7_6) hrr4), hrunr4, hendedr4, _, _, rfl, ?_, ⟨_, rfl⟩, hWr4, hsamer4.mono (by decide) (by decide)⟩
  show Q7_2 Z a1 w_sum_a1 k_w_sum_a1 x0 x1 x2 x3 h0 n0 _ T2.heap _
  rw [e2]
  exact ⟨rfl, N0, rfl⟩
theorem ef_7_3 (m : MethodId) (x0 : Addr) : entryFrame m #[(.ref x0), (.int (3 : Int32))] 2 = mkF m 0 #[.val (.ref x0), .val (.int (3 : Int32))] [] := by first | (simp [entryFrame, mkF, argsToLocals, Value.category]; done) | rfl
def own_f7_3 (x0 : Int64) (x1 : Int64) (x2 : Int64) (x3 : Int64) : Int64 := x3
def Q7_3 (Z : State) (a1 : Addr) (w_sum_a1 : Addr) (k_w_sum_a1 : ClassId) (x0 : Int64) (x1 : Int64) (x2 : Int64) (x3 : Int64) (h0 : Heap) (n0 : Nat) (v : Option Value) (h : Heap) (L : List Loc) : Prop := v = some (.long (own_f7_3 x0 x1 x2 x3)) ∧ Fr n0 L ∧ h = h0
set_option maxRecDepth 65536 in
set_option maxHeartbeats 40000000 in
theorem rm7_3 (l : Launch) (Z : State) (a0 : Array Value) (hw : ∀ d ∈ tables_1, d.before a0 Z = true) (ws : List Jvm.Cond) (a1 : Addr) (w_sum_a1 : Addr) (k_w_sum_a1 : ClassId) (x0 : Int64) (x1 : Int64) (x2 : Int64) (x3 : Int64) (h0 : Heap) (n0 : Nat) (Z0 : n0 ≤ h0.size) (F_sum_a1 : Fld Z h0 a1 "com/example/rangewise/rangewise/Fingerprint$Builder" "sum" "[J" (.ref w_sum_a1)) (V_w_sum_a1 : Arv Z h0 w_sum_a1 k_w_sum_a1 .long (4 : Int32) [(.long x0), (.long x1), (.long x2), (.long x3)] (.long (0 : Int64))) :
    MetFree l (⟨"com/example/rangewise/rangewise/Fingerprint$Builder", "word", "(I)J"⟩ : MethodName) (head1 (Jvm.Cond.code (⟨"com/example/rangewise/rangewise/Fingerprint$Builder", "word", "(I)J"⟩ : MethodName) prog_22_method_7_code 2 (some .long) :: ws) ({ frames := 0, cells := 0, slots := 0, locals := 0 } : Room)) (fun a U => a = #[(.ref a1), (.int (3 : Int32))] ∧ Z.Warmed39 U.vm ∧ U.heap = h0) (fun _ _ _ _ _ => True) (fun _ U o U' => ∃ v L, o = .returned v ∧ Q7_3 Z a1 w_sum_a1 k_w_sum_a1 x0 x1 x2 x3 h0 n0 v U'.heap L ∧ FrameEnd U o U' L ({ frames := 0, cells := 0, slots := 0, locals := 0 } : Room).cells ({ frames := 0, cells := 0, slots := 0, locals := 0 } : Room).slots) := by
  refine MetFree.of_bodySF (plainFor_of_name pn_7) hisR ?_
  intro p e s m args below meth c s₁ Bd hml0 hP hK
  obtain ⟨rfl, hZ, hh⟩ := hP
  have hx := Bd.exec
  have hby := Bd.bytes
  have hml : c.maxLocals = 2 := hml0
  have hown : s.vm.findClass "com/example/rangewise/rangewise/Fingerprint$Builder" = some m.cls := findClass_of_methodNamed Bd.named
  have hnm := (name_of_methodNamed Bd.named Bd.method).1
  have X0 : Stand p l e ({ frames := 0, cells := 0, slots := 0, locals := 0 } : Room) s m #[(.ref a1), (.int (3 : Int32))] below meth c s₁ [] 0 0 := Stand.of_body Bd
  have e0 : s₁.heap = h0 := by rw [← hh, Bd.state]; rfl
  have N0 := Fr.nil n0
  apply own_in
  refine own_pre (B := s₁.setTop (mkF m 0 #[.val (.ref a1), .val (.int (3 : Int32))] [])) (fun t k => castTop (ef_7_3 m a1) k) ?_
  refine own_pre (B := s₁.setTop (mkF m 1 #[.val (.ref a1), .val (.int (3 : Int32))] [(.ref a1)])) (fun t k => XS.aloadN X0.here hx rfl (hb hby d7_0) rfl rfl k) ?_
  obtain ⟨T2, X2, e2, st2⟩ := getF X0 hx hZ hown (host := "") (Or.inl (hw _ (ow 18 rfl))) Via.refl e0 F_sum_a1 (g := (mkF m 1 #[.val (.ref a1), .val (.int (3 : Int32))] [(.ref a1)])) rfl rfl (hb hby d7_1)
  refine own_pre (B := T2.setTop (mkF m 4 #[.val (.ref a1), .val (.int (3 : Int32))] [(.ref w_sum_a1)])) (fun t k => st2 t k) ?_
  refine own_pre (B := T2.setTop (mkF m 5 #[.val (.ref a1), .val (.int (3 : Int32))] [(.int (3 : Int32)), (.ref w_sum_a1)])) (fun t k => XS.iloadN X2.here hx rfl (hb hby d7_4) rfl k) ?_
  obtain ⟨cl3, Ar3, q3, S3, N3v, H3v, G3v⟩ := V_w_sum_a1
  have V_w_sum_a1 : Arv Z h0 w_sum_a1 k_w_sum_a1 .long (4 : Int32) [(.long x0), (.long x1), (.long x2), (.long x3)] (.long (0 : Int64)) := ⟨cl3, Ar3, q3, S3, N3v, H3v, G3v⟩
  have hin3 : ¬ ((3 : Int32) < 0 ∨ cl3.slots.size ≤ ((3 : Int32)).toNatClampNeg) := inb_of S3 ⟨by decide, by decide⟩
  have hat3 : cl3.slots[((3 : Int32)).toNatClampNeg]? = some (.long x3) := H3v.at hin3 rfl
  refine own_pre (B := T2.setTop (mkF m 6 #[.val (.ref a1), .val (.int (3 : Int32))] [(.long x3)])) (fun t k => X2.laload hx (j := (3 : Int32)) (v := (.long x3)) (by rw [e2]; exact Ar3.1) (State.isArrayOf_alike hZ.alike Ar3.2.1) Ar3.2.2 hin3 hat3 (g := (mkF m 5 #[.val (.ref a1), .val (.int (3 : Int32))] [(.int (3 : Int32)), (.ref w_sum_a1)])) rfl rfl (hb hby d7_5) t k) ?_
  obtain ⟨fsr4, hrr4, hrunr4, hendedr4, hWr4, hsamer4⟩ := X2.leave (v := some (.long x3)) (fun h => by rw [Bd.returns] at h; cases h)
  refine ⟨_, _, (retOut X2 hx (t := .long) (i := .lreturn) Bd.returns rfl (Or.inr (Or.inl ⟨rfl, rfl, _, rfl⟩)) (hb hby d7_6) hrr4), hrunr4, hendedr4, _, _, rfl, ?_, ⟨_, rfl⟩, hWr4, hsamer4.mono (by decide) (by decide)⟩
  show Q7_3 Z a1 w_sum_a1 k_w_sum_a1 x0 x1 x2 x3 h0 n0 _ T2.heap _
  rw [e2]
  exact ⟨rfl, N0, rfl⟩
theorem d8_0 : decode prog_22_method_6_code 0 = .ok (.aload_n 0, 1) := by decide +kernel
theorem d8_1 : decode prog_22_method_6_code 1 = .ok (.getfield 33, 3) := by decide +kernel
theorem d8_4 : decode prog_22_method_6_code 4 = .ok (.lreturn, 1) := by decide +kernel
theorem pn_8 : plainName "com/example/rangewise/rangewise/Fingerprint$Builder" = true := by first | (simp [plainName, overriddenIn]; done) | decide +kernel
theorem ef_8 (m : MethodId) (x0 : Addr) : entryFrame m #[(.ref x0)] 1 = mkF m 0 #[.val (.ref x0)] [] := by first | (simp [entryFrame, mkF, argsToLocals, Value.category]; done) | rfl
def own_f8 (w_count_a1 : Int64) : Int64 := w_count_a1
def Q8 (Z : State) (a1 : Addr) (w_count_a1 : Int64) (h0 : Heap) (n0 : Nat) (v : Option Value) (h : Heap) (L : List Loc) : Prop := v = some (.long (own_f8 w_count_a1)) ∧ Fr n0 L ∧ h = h0
set_option maxRecDepth 65536 in
set_option maxHeartbeats 40000000 in
theorem rm8 (l : Launch) (Z : State) (a0 : Array Value) (hw : ∀ d ∈ tables_1, d.before a0 Z = true) (ws : List Jvm.Cond) (a1 : Addr) (w_count_a1 : Int64) (h0 : Heap) (n0 : Nat) (Z0 : n0 ≤ h0.size) (F_count_a1 : Fld Z h0 a1 "com/example/rangewise/rangewise/Fingerprint$Builder" "count" "J" (.long w_count_a1)) :
    MetFree l (⟨"com/example/rangewise/rangewise/Fingerprint$Builder", "count", "()J"⟩ : MethodName) (head1 (Jvm.Cond.code (⟨"com/example/rangewise/rangewise/Fingerprint$Builder", "count", "()J"⟩ : MethodName) prog_22_method_6_code 1 (some .long) :: ws) ({ frames := 0, cells := 0, slots := 0, locals := 0 } : Room)) (fun a U => a = #[(.ref a1)] ∧ Z.Warmed39 U.vm ∧ U.heap = h0) (fun _ _ _ _ _ => True) (fun _ U o U' => ∃ v L, o = .returned v ∧ Q8 Z a1 w_count_a1 h0 n0 v U'.heap L ∧ FrameEnd U o U' L ({ frames := 0, cells := 0, slots := 0, locals := 0 } : Room).cells ({ frames := 0, cells := 0, slots := 0, locals := 0 } : Room).slots) := by
  refine MetFree.of_bodySF (plainFor_of_name pn_8) hisR ?_
  intro p e s m args below meth c s₁ Bd hml0 hP hK
  obtain ⟨rfl, hZ, hh⟩ := hP
  have hx := Bd.exec
  have hby := Bd.bytes
  have hml : c.maxLocals = 1 := hml0
  have hown : s.vm.findClass "com/example/rangewise/rangewise/Fingerprint$Builder" = some m.cls := findClass_of_methodNamed Bd.named
  have hnm := (name_of_methodNamed Bd.named Bd.method).1
  have X0 : Stand p l e ({ frames := 0, cells := 0, slots := 0, locals := 0 } : Room) s m #[(.ref a1)] below meth c s₁ [] 0 0 := Stand.of_body Bd
  have e0 : s₁.heap = h0 := by rw [← hh, Bd.state]; rfl
  have N0 := Fr.nil n0
  apply own_in
  refine own_pre (B := s₁.setTop (mkF m 0 #[.val (.ref a1)] [])) (fun t k => castTop (ef_8 m a1) k) ?_
  refine own_pre (B := s₁.setTop (mkF m 1 #[.val (.ref a1)] [(.ref a1)])) (fun t k => XS.aloadN X0.here hx rfl (hb hby d8_0) rfl rfl k) ?_
  obtain ⟨T2, X2, e2, st2⟩ := getF X0 hx hZ hown (host := "") (Or.inl (hw _ (ow 30 rfl))) Via.refl e0 F_count_a1 (g := (mkF m 1 #[.val (.ref a1)] [(.ref a1)])) rfl rfl (hb hby d8_1)
  refine own_pre (B := T2.setTop (mkF m 4 #[.val (.ref a1)] [(.long w_count_a1)])) (fun t k => st2 t k) ?_
  obtain ⟨fsr3, hrr3, hrunr3, hendedr3, hWr3, hsamer3⟩ := X2.leave (v := some (.long w_count_a1)) (fun h => by rw [Bd.returns] at h; cases h)
  refine ⟨_, _, (retOut X2 hx (t := .long) (i := .lreturn) Bd.returns rfl (Or.inr (Or.inl ⟨rfl, rfl, _, rfl⟩)) (hb hby d8_4) hrr3), hrunr3, hendedr3, _, _, rfl, ?_, ⟨_, rfl⟩, hWr3, hsamer3.mono (by decide) (by decide)⟩
  show Q8 Z a1 w_count_a1 h0 n0 _ T2.heap _
  rw [e2]
  exact ⟨rfl, N0, rfl⟩
theorem own_sh (x : Int64) (q : Int32) (k : Nat) (hq : (q &&& 0x3f).toInt64.toUInt64.toBitVec = BitVec.ofNat 64 k) (hk : k < 64) : ((x.toUInt64 >>> (q &&& 0x3f).toInt64.toUInt64).toInt64).toBitVec = x.toBitVec >>> k := by
  show (x.toUInt64 >>> (q &&& 0x3f).toInt64.toUInt64).toBitVec = _
  rw [UInt64.toBitVec_shiftRight, hq]
  show x.toBitVec >>> ((BitVec.ofNat 64 k) % 64) = _
  rw [BitVec.ushiftRight_eq']
  congr 1
  simp [BitVec.toNat_umod]; omega
/-- the carry out of x + y + c, as a natural -/
theorem own_carry (x y c : Int64) (hc : c.toBitVec.toNat ≤ 1) : (own_f2 x y c).toBitVec.toNat = (x.toBitVec.toNat + y.toBitVec.toNat + c.toBitVec.toNat) / 2 ^ 64 := by
  unfold own_f2
  rw [own_sh _ 32 32 (by decide) (by decide), BitVec.toNat_ushiftRight, Int64.toBitVec_add, Int64.toBitVec_add, own_sh _ 32 32 (by decide) (by decide), own_sh _ 32 32 (by decide) (by decide), own_sh _ 32 32 (by decide) (by decide)]
  simp only [BitVec.toNat_add, BitVec.toNat_ushiftRight, Int64.toBitVec_add, Int64.toBitVec_and, BitVec.toNat_and, Nat.shiftRight_eq_div_pow]
  have e : (4294967295 : Int64).toBitVec.toNat = 2 ^ 32 - 1 := by decide
  rw [e, Nat.and_two_pow_sub_one_eq_mod, Nat.and_two_pow_sub_one_eq_mod]
  have hx := x.toBitVec.isLt
  have hy := y.toBitVec.isLt
  generalize x.toBitVec.toNat = X at *
  generalize y.toBitVec.toNat = Y at *
  generalize c.toBitVec.toNat = C at *
  omega
theorem own_bit (x y c : Int64) (hc : c.toBitVec.toNat ≤ 1) : (own_f6_0 y c x).toBitVec.toNat = (x.toBitVec.toNat + y.toBitVec.toNat + c.toBitVec.toNat) / 2 ^ 64 := by
  unfold own_f6_0
  rw [own_sh _ 63 63 (by decide) (by decide), BitVec.toNat_ushiftRight, Nat.shiftRight_eq_div_pow]
  have hx := x.toBitVec.isLt
  have hy := y.toBitVec.isLt
  have key : ∀ v : BitVec 64, v.toNat / 2 ^ 63 = if v.msb then 1 else 0 := fun v => by
    have := v.isLt
    rw [BitVec.msb_eq_decide]
    by_cases h : 2 ^ (64 - 1) ≤ v.toNat
    · rw [if_pos (by simpa using h)]; omega
    · rw [if_neg (by simpa using h)]; omega
  rw [key]
  simp only [Int64.toBitVec_or, Int64.toBitVec_and, Int64.toBitVec_xor, Int64.toBitVec_add, BitVec.msb_or, BitVec.msb_and, BitVec.msb_xor]
  have e1 : ((-1 : Int64).toBitVec).msb = true := by decide
  rw [e1]
  have ks := key (x.toBitVec + y.toBitVec + c.toBitVec)
  have kx := key x.toBitVec
  have ky := key y.toBitVec
  rw [BitVec.toNat_add, BitVec.toNat_add] at ks
  generalize (x.toBitVec + y.toBitVec + c.toBitVec).msb = bs at *
  generalize x.toBitVec.msb = bx at *
  generalize y.toBitVec.msb = bb at *
  generalize x.toBitVec.toNat = X at *
  generalize y.toBitVec.toNat = Y at *
  generalize c.toBitVec.toNat = C at *
  cases bs <;> cases bx <;> cases bb <;> simp at ks kx ky ⊢ <;> omega
theorem own_same (x y c : Int64) (hc : c.toBitVec.toNat ≤ 1) : own_f2 x y c = own_f6_0 y c x ∧ (own_f2 x y c).toBitVec.toNat ≤ 1 := by
  refine ⟨Int64.toBitVec_inj.mp (BitVec.eq_of_toNat_eq (by rw [own_carry x y c hc, own_bit x y c hc])), ?_⟩
  rw [own_carry x y c hc]
  have hx := x.toBitVec.isLt
  have hy := y.toBitVec.isLt
  omega
theorem own_zero (y : Int64) : own_f6_0 y 0 0 = 0 := by
  refine Int64.toBitVec_inj.mp (BitVec.eq_of_toNat_eq ?_)
  rw [own_bit 0 y 0 (by decide)]
  have hy := y.toBitVec.isLt
  show (0 + y.toBitVec.toNat + 0) / 2 ^ 64 = 0
  omega
theorem own_61 : own_f6_1 = own_f6_0 := rfl
theorem own_62 : own_f6_2 = own_f6_0 := rfl
theorem own_63 : own_f6_3 = own_f6_0 := rfl
theorem pd_1 : parseMethodDescriptor "(JJJ)J" = some ⟨[.long, .long, .long], some .long⟩ := by decide +kernel
theorem pd_2 : parseMethodDescriptor "()V" = some ⟨[], none⟩ := by decide +kernel
theorem pd_3 : parseMethodDescriptor "([JJ)Lcom/example/rangewise/rangewise/Fingerprint$Builder;" = some ⟨[(.array .long), .long], some (.object "com/example/rangewise/rangewise/Fingerprint$Builder")⟩ := by decide +kernel
theorem pd_4 : parseMethodDescriptor "(I)J" = some ⟨[.int], some .long⟩ := by decide +kernel
theorem own_w0 {z130 q1 q2 z122 z123 z124 z125 z112 z113 z48 z114 z56 z115 z64 z16 z24 z32 : Int64} (hz112 : z112 = (((0 : Int64) + q1) + (0 : Int64))) (hz113 : z113 = (((0 : Int64) + z16) + (own_f6_0 q1 (0 : Int64) (0 : Int64)))) (hz114 : z114 = (((0 : Int64) + z24) + (own_f6_1 z16 (own_f6_0 q1 (0 : Int64) (0 : Int64)) (0 : Int64)))) (hz115 : z115 = (((0 : Int64) + z32) + (own_f6_2 z24 (own_f6_1 z16 (own_f6_0 q1 (0 : Int64) (0 : Int64)) (0 : Int64)) (0 : Int64)))) (hz122 : z122 = ((z112 + q2) + (0 : Int64))) (hz123 : z123 = ((z113 + z48) + (own_f6_0 q2 (0 : Int64) z112))) (hz124 : z124 = ((z114 + z56) + (own_f6_1 z48 (own_f6_0 q2 (0 : Int64) z112) z113))) (hz125 : z125 = ((z115 + z64) + (own_f6_2 z56 (own_f6_1 z48 (own_f6_0 q2 (0 : Int64) z112) z113) z114))) (hz130 : z130 = (own_f7_0 z122 z123 z124 z125)) : z130 = (q1 + q2) := by
  subst hz112 hz113 hz114 hz115 hz122 hz123 hz124 hz125 hz130
  unfold own_f7_0
  simp only [own_61, own_62, own_63, own_zero, Int64.zero_add, Int64.add_zero]
theorem own_w1 {z133 z16 z48 z75 z122 z123 z124 z125 q1 q2 z112 z113 z114 z56 z115 z64 z24 z32 : Int64} (hz75 : z75 = (own_f2 q1 q2 (0 : Int64))) (hz112 : z112 = (((0 : Int64) + q1) + (0 : Int64))) (hz113 : z113 = (((0 : Int64) + z16) + (own_f6_0 q1 (0 : Int64) (0 : Int64)))) (hz114 : z114 = (((0 : Int64) + z24) + (own_f6_1 z16 (own_f6_0 q1 (0 : Int64) (0 : Int64)) (0 : Int64)))) (hz115 : z115 = (((0 : Int64) + z32) + (own_f6_2 z24 (own_f6_1 z16 (own_f6_0 q1 (0 : Int64) (0 : Int64)) (0 : Int64)) (0 : Int64)))) (hz122 : z122 = ((z112 + q2) + (0 : Int64))) (hz123 : z123 = ((z113 + z48) + (own_f6_0 q2 (0 : Int64) z112))) (hz124 : z124 = ((z114 + z56) + (own_f6_1 z48 (own_f6_0 q2 (0 : Int64) z112) z113))) (hz125 : z125 = ((z115 + z64) + (own_f6_2 z56 (own_f6_1 z48 (own_f6_0 q2 (0 : Int64) z112) z113) z114))) (hz133 : z133 = (own_f7_1 z122 z123 z124 z125)) : z133 = ((z16 + z48) + z75) := by
  subst hz75 hz112 hz113 hz114 hz115 hz122 hz123 hz124 hz125 hz133
  unfold own_f7_1
  simp only [own_61, own_62, own_63, own_zero, Int64.zero_add, Int64.add_zero]
  have i0 := own_same q1 q2 0 (by decide)
  rw [i0.1]
theorem own_w2 {z136 z24 z56 z82 z122 z123 z124 z125 z16 z48 z75 z112 q2 z113 z114 z115 z64 q1 z32 : Int64} (hz75 : z75 = (own_f2 q1 q2 (0 : Int64))) (hz82 : z82 = (own_f2 z16 z48 z75)) (hz112 : z112 = (((0 : Int64) + q1) + (0 : Int64))) (hz113 : z113 = (((0 : Int64) + z16) + (own_f6_0 q1 (0 : Int64) (0 : Int64)))) (hz114 : z114 = (((0 : Int64) + z24) + (own_f6_1 z16 (own_f6_0 q1 (0 : Int64) (0 : Int64)) (0 : Int64)))) (hz115 : z115 = (((0 : Int64) + z32) + (own_f6_2 z24 (own_f6_1 z16 (own_f6_0 q1 (0 : Int64) (0 : Int64)) (0 : Int64)) (0 : Int64)))) (hz122 : z122 = ((z112 + q2) + (0 : Int64))) (hz123 : z123 = ((z113 + z48) + (own_f6_0 q2 (0 : Int64) z112))) (hz124 : z124 = ((z114 + z56) + (own_f6_1 z48 (own_f6_0 q2 (0 : Int64) z112) z113))) (hz125 : z125 = ((z115 + z64) + (own_f6_2 z56 (own_f6_1 z48 (own_f6_0 q2 (0 : Int64) z112) z113) z114))) (hz136 : z136 = (own_f7_2 z122 z123 z124 z125)) : z136 = ((z24 + z56) + z82) := by
  subst hz75 hz82 hz112 hz113 hz114 hz115 hz122 hz123 hz124 hz125 hz136
  unfold own_f7_2
  simp only [own_61, own_62, own_63, own_zero, Int64.zero_add, Int64.add_zero]
  have i0 := own_same q1 q2 0 (by decide)
  have i1 := own_same z16 z48 _ i0.2
  rw [i1.1, i0.1]
theorem own_w3 {z139 z32 z64 z89 z122 z123 z124 z125 z24 z56 z82 z112 q2 z113 z48 z114 z115 z16 z75 q1 : Int64} (hz75 : z75 = (own_f2 q1 q2 (0 : Int64))) (hz82 : z82 = (own_f2 z16 z48 z75)) (hz89 : z89 = (own_f2 z24 z56 z82)) (hz112 : z112 = (((0 : Int64) + q1) + (0 : Int64))) (hz113 : z113 = (((0 : Int64) + z16) + (own_f6_0 q1 (0 : Int64) (0 : Int64)))) (hz114 : z114 = (((0 : Int64) + z24) + (own_f6_1 z16 (own_f6_0 q1 (0 : Int64) (0 : Int64)) (0 : Int64)))) (hz115 : z115 = (((0 : Int64) + z32) + (own_f6_2 z24 (own_f6_1 z16 (own_f6_0 q1 (0 : Int64) (0 : Int64)) (0 : Int64)) (0 : Int64)))) (hz122 : z122 = ((z112 + q2) + (0 : Int64))) (hz123 : z123 = ((z113 + z48) + (own_f6_0 q2 (0 : Int64) z112))) (hz124 : z124 = ((z114 + z56) + (own_f6_1 z48 (own_f6_0 q2 (0 : Int64) z112) z113))) (hz125 : z125 = ((z115 + z64) + (own_f6_2 z56 (own_f6_1 z48 (own_f6_0 q2 (0 : Int64) z112) z113) z114))) (hz139 : z139 = (own_f7_3 z122 z123 z124 z125)) : z139 = ((z32 + z64) + z89) := by
  subst hz75 hz82 hz89 hz112 hz113 hz114 hz115 hz122 hz123 hz124 hz125 hz139
  unfold own_f7_3
  simp only [own_61, own_62, own_63, own_zero, Int64.zero_add, Int64.add_zero]
  have i0 := own_same q1 q2 0 (by decide)
  have i1 := own_same z16 z48 _ i0.2
  have i2 := own_same z24 z56 _ i1.2
  rw [i2.1, i1.1, i0.1]
theorem pd_5 : parseMethodDescriptor "()J" = some ⟨[], some .long⟩ := by decide +kernel
theorem own_w4 {z142 q6 q4 z121 z111 : Int64} (hz111 : z111 = ((0 : Int64) + q6)) (hz121 : z121 = (z111 + q4)) (hz142 : z142 = (own_f8 z121)) : z142 = (q6 + q4) := by
  subst hz111 hz121 hz142
  unfold own_f8
  simp only [own_61, own_62, own_63, own_zero, Int64.zero_add, Int64.add_zero]
theorem pn_0 : plainName "com/example/rangewise/rangewise/BuilderAddPinLaw" = true := by first | (simp [plainName, overriddenIn]; done) | decide +kernel
theorem ef_0 (m : MethodId) (x0 : Int64) (x1 : Int64) (x2 : Int64) (x3 : Int64) (x4 : Int32) (x5 : Int64) : entryFrame m #[(.long x0), (.long x1), (.long x2), (.long x3), (.int x4), (.long x5)] maxLocals = mkF m 0 #[.val (.long x0), .second, .val (.long x1), .second, .val (.long x2), .second, .val (.long x3), .second, .val (.int x4), .val (.long x5), .second, .unset, .unset, .unset, .unset, .unset, .unset, .unset, .unset, .unset, .unset, .unset, .unset, .unset, .unset, .unset, .unset, .unset, .unset, .unset, .unset, .unset] [] := by first | (simp [entryFrame, mkF, argsToLocals, Value.category, maxLocals]; done) | rfl
def Q0 (Z : State) (q1 : Int64) (q2 : Int64) (q3 : Int64) (q4 : Int64) (p5 : Int32) (q6 : Int64) (h0 : Heap) (n0 : Nat) (v : Option Value) (h : Heap) (L : List Loc) : Prop := v = some (.int 1) ∧ Fr n0 L
set_option maxRecDepth 65536 in
set_option maxHeartbeats 40000000 in
theorem rm0 (l : Launch) (Z : State) (a0 : Array Value) (hw : ∀ d ∈ tables_1, d.before a0 Z = true) (ws : List Jvm.Cond) (q1 : Int64) (q2 : Int64) (q3 : Int64) (q4 : Int64) (p5 : Int32) (q6 : Int64) (h0 : Heap) (n0 : Nat) (Z0 : n0 ≤ h0.size) :
    MetFree l x (head1 (Jvm.Cond.code x code maxLocals ret :: ws) room_1) (fun a U => a = #[(.long q1), (.long q2), (.long q3), (.long q4), (.int p5), (.long q6)] ∧ Z.Warmed39 U.vm ∧ U.heap = h0) (fun _ _ _ _ _ => True) (fun _ U o U' => ∃ v L, o = .returned v ∧ Q0 Z q1 q2 q3 q4 p5 q6 h0 n0 v U'.heap L ∧ FrameEnd U o U' L 4 14) := by
  refine MetFree.of_bodySF (plainFor_of_name pn_0) hisR ?_
  intro p e s m args below meth c s₁ Bd hml0 hP hK
  obtain ⟨rfl, hZ, hh⟩ := hP
  have hx := Bd.exec
  have hby := Bd.bytes
  have hml : c.maxLocals = 32 := hml0
  have hown : s.vm.findClass "com/example/rangewise/rangewise/BuilderAddPinLaw" = some m.cls := findClass_of_methodNamed Bd.named
  have hnm := (name_of_methodNamed Bd.named Bd.method).1
  have X0 : Stand p l e room_1 s m #[(.long q1), (.long q2), (.long q3), (.long q4), (.int p5), (.long q6)] below meth c s₁ [] 0 0 := Stand.of_body Bd
  have e0 : s₁.heap = h0 := by rw [← hh, Bd.state]; rfl
  have N0 := Fr.nil n0
  apply own_in
  refine own_pre (B := s₁.setTop (mkF m 0 #[.val (.long q1), .second, .val (.long q2), .second, .val (.long q3), .second, .val (.long q4), .second, .val (.int p5), .val (.long q6), .second, .unset, .unset, .unset, .unset, .unset, .unset, .unset, .unset, .unset, .unset, .unset, .unset, .unset, .unset, .unset, .unset, .unset, .unset, .unset, .unset, .unset] [])) (fun t k => castTop (ef_0 m q1 q2 q3 q4 p5 q6) k) ?_
  refine own_pre (B := s₁.setTop (mkF m 1 #[.val (.long q1), .second, .val (.long q2), .second, .val (.long q3), .second, .val (.long q4), .second, .val (.int p5), .val (.long q6), .second, .unset, .unset, .unset, .unset, .unset, .unset, .unset, .unset, .unset, .unset, .unset, .unset, .unset, .unset, .unset, .unset, .unset, .unset, .unset, .unset, .unset] [(.int (4 : Int32))])) (fun t k => XS.iconst X0.here hx rfl (hb hby at_0) k) ?_
  have K7 : Keep h0 h0 [] := (Keep.refl h0 [])
  obtain ⟨T8, h8, k8, X8, e8, E8, A8, st8⟩ := newP X0 hx hZ (hw _ (ow 0 rfl)) e0 (g := (mkF m 1 #[.val (.long q1), .second, .val (.long q2), .second, .val (.long q3), .second, .val (.long q4), .second, .val (.int p5), .val (.long q6), .second, .unset, .unset, .unset, .unset, .unset, .unset, .unset, .unset, .unset, .unset, .unset, .unset, .unset, .unset, .unset, .unset, .unset, .unset, .unset, .unset, .unset] [(.int (4 : Int32))])) rfl (hb hby at_1) rfl (by decide) (cap := 4) (by decide) (by decide) (by decide) (by decide)
  obtain ⟨b8, g8⟩ : ∃ z, z = h0.size := ⟨_, rfl⟩
  rw [← g8] at A8 st8
  have g_b8 : n0 ≤ b8 := Nat.le_trans Z0 (Nat.le_of_eq g8.symm)
  have s_b8 : h0.size ≤ b8 := Nat.le_trans K7.1 (Nat.le_of_eq g8.symm)
  have V_b8 : Arv Z h8 b8 k8 .long (4 : Int32) [(.long (0 : Int64)), (.long (0 : Int64)), (.long (0 : Int64)), (.long (0 : Int64))] (.long (0 : Int64)) := (Arv.new A8 (by decide)).pad (pad_rep [] (.long (0 : Int64)) 4)
  refine own_pre (B := T8.setTop (mkF m 3 #[.val (.long q1), .second, .val (.long q2), .second, .val (.long q3), .second, .val (.long q4), .second, .val (.int p5), .val (.long q6), .second, .unset, .unset, .unset, .unset, .unset, .unset, .unset, .unset, .unset, .unset, .unset, .unset, .unset, .unset, .unset, .unset, .unset, .unset, .unset, .unset, .unset] [(.ref b8)])) (fun t k => st8 t k) ?_
  refine own_pre (B := T8.setTop (mkF m 4 #[.val (.long q1), .second, .val (.long q2), .second, .val (.long q3), .second, .val (.long q4), .second, .val (.int p5), .val (.long q6), .second, .unset, .unset, .unset, .unset, .unset, .unset, .unset, .unset, .unset, .unset, .unset, .unset, .unset, .unset, .unset, .unset, .unset, .unset, .unset, .unset, .unset] [(.ref b8), (.ref b8)])) (fun t k => XS.dup X8.here hx rfl (hb hby at_3) rfl rfl k) ?_
  refine own_pre (B := T8.setTop (mkF m 5 #[.val (.long q1), .second, .val (.long q2), .second, .val (.long q3), .second, .val (.long q4), .second, .val (.int p5), .val (.long q6), .second, .unset, .unset, .unset, .unset, .unset, .unset, .unset, .unset, .unset, .unset, .unset, .unset, .unset, .unset, .unset, .unset, .unset, .unset, .unset, .unset, .unset] [(.int (0 : Int32)), (.ref b8), (.ref b8)])) (fun t k => XS.iconst X8.here hx rfl (hb hby at_4) k) ?_
  refine own_pre (B := T8.setTop (mkF m 6 #[.val (.long q1), .second, .val (.long q2), .second, .val (.long q3), .second, .val (.long q4), .second, .val (.int p5), .val (.long q6), .second, .unset, .unset, .unset, .unset, .unset, .unset, .unset, .unset, .unset, .unset, .unset, .unset, .unset, .unset, .unset, .unset, .unset, .unset, .unset, .unset, .unset] [(.long q1), (.int (0 : Int32)), (.ref b8), (.ref b8)])) (fun t k => XS.lloadN X8.here hx rfl (hb hby at_5) rfl k) ?_
  have K9 : Keep h0 h8 [] := (Keep.ext K7 E8)
  obtain ⟨cl10, Ar10, q10, S10, N10v, H10v, G10v⟩ := V_b8
  have V_b8 : Arv Z h8 b8 k8 .long (4 : Int32) [(.long (0 : Int64)), (.long (0 : Int64)), (.long (0 : Int64)), (.long (0 : Int64))] (.long (0 : Int64)) := ⟨cl10, Ar10, q10, S10, N10v, H10v, G10v⟩
  have hin10 : ¬ ((0 : Int32) < 0 ∨ cl10.slots.size ≤ ((0 : Int32)).toNatClampNeg) := inb_of S10 ⟨by decide, by decide⟩
  obtain ⟨T11, h11, X11, e11, W11, st11⟩ := stJ X8 hx hZ e8 Ar10 (j := (0 : Int32)) hin10 (g := (mkF m 6 #[.val (.long q1), .second, .val (.long q2), .second, .val (.long q3), .second, .val (.long q4), .second, .val (.int p5), .val (.long q6), .second, .unset, .unset, .unset, .unset, .unset, .unset, .unset, .unset, .unset, .unset, .unset, .unset, .unset, .unset, .unset, .unset, .unset, .unset, .unset, .unset, .unset] [(.long q1), (.int (0 : Int32)), (.ref b8), (.ref b8)])) rfl rfl (hb hby at_6)
  have V11 : Arv Z h11 b8 k8 .long (4 : Int32) [(.long q1), (.long (0 : Int64)), (.long (0 : Int64)), (.long (0 : Int64))] (.long (0 : Int64)) := Arv.set Ar10 q10 S10 N10v H10v G10v rfl W11 0 rfl (Nat.le_of_ble_eq_true rfl)
  have N11 := Fr.snoc X11 N0 g_b8
  obtain ⟨Lh12, Xh12, Nh12⟩ := own_hide X11 N11
  refine own_pre (B := T11.setTop (mkF m 7 #[.val (.long q1), .second, .val (.long q2), .second, .val (.long q3), .second, .val (.long q4), .second, .val (.int p5), .val (.long q6), .second, .unset, .unset, .unset, .unset, .unset, .unset, .unset, .unset, .unset, .unset, .unset, .unset, .unset, .unset, .unset, .unset, .unset, .unset, .unset, .unset, .unset] [(.ref b8)])) (fun t k => st11 t k) ?_
  refine own_pre (B := T11.setTop (mkF m 8 #[.val (.long q1), .second, .val (.long q2), .second, .val (.long q3), .second, .val (.long q4), .second, .val (.int p5), .val (.long q6), .second, .unset, .unset, .unset, .unset, .unset, .unset, .unset, .unset, .unset, .unset, .unset, .unset, .unset, .unset, .unset, .unset, .unset, .unset, .unset, .unset, .unset] [(.ref b8), (.ref b8)])) (fun t k => XS.dup Xh12.here hx rfl (hb hby at_7) rfl rfl k) ?_
  refine own_pre (B := T11.setTop (mkF m 9 #[.val (.long q1), .second, .val (.long q2), .second, .val (.long q3), .second, .val (.long q4), .second, .val (.int p5), .val (.long q6), .second, .unset, .unset, .unset, .unset, .unset, .unset, .unset, .unset, .unset, .unset, .unset, .unset, .unset, .unset, .unset, .unset, .unset, .unset, .unset, .unset, .unset] [(.int (1 : Int32)), (.ref b8), (.ref b8)])) (fun t k => XS.iconst Xh12.here hx rfl (hb hby at_8) k) ?_
  refine own_pre (B := T11.setTop (mkF m 11 #[.val (.long q1), .second, .val (.long q2), .second, .val (.long q3), .second, .val (.long q4), .second, .val (.int p5), .val (.long q6), .second, .unset, .unset, .unset, .unset, .unset, .unset, .unset, .unset, .unset, .unset, .unset, .unset, .unset, .unset, .unset, .unset, .unset, .unset, .unset, .unset, .unset] [(.int p5), (.int (1 : Int32)), (.ref b8), (.ref b8)])) (fun t k => XS.iload Xh12.here hx rfl (hb hby at_9) rfl k) ?_
  refine own_pre (B := T11.setTop (mkF m 13 #[.val (.long q1), .second, .val (.long q2), .second, .val (.long q3), .second, .val (.long q4), .second, .val (.int p5), .val (.long q6), .second, .unset, .unset, .unset, .unset, .unset, .unset, .unset, .unset, .unset, .unset, .unset, .unset, .unset, .unset, .unset, .unset, .unset, .unset, .unset, .unset, .unset] [(.long q3), (.int p5), (.int (1 : Int32)), (.ref b8), (.ref b8)])) (fun t k => XS.lload Xh12.here hx rfl (hb hby at_11) rfl k) ?_
  refine own_pre (B := T11.setTop (mkF m 15 #[.val (.long q1), .second, .val (.long q2), .second, .val (.long q3), .second, .val (.long q4), .second, .val (.int p5), .val (.long q6), .second, .unset, .unset, .unset, .unset, .unset, .unset, .unset, .unset, .unset, .unset, .unset, .unset, .unset, .unset, .unset, .unset, .unset, .unset, .unset, .unset, .unset] [(.long q4), (.long q3), (.int p5), (.int (1 : Int32)), (.ref b8), (.ref b8)])) (fun t k => XS.lload Xh12.here hx rfl (hb hby at_13) rfl k) ?_
  have sz13 : n0 ≤ h11.size := (Nat.le_trans (Nat.le_trans Z0 E8.1) (Keep.of_wr W11).1)
  obtain ⟨_, _, ⟨T14, L14, k14, n14⟩, -, X14, ⟨Lc14, hQ14, l14, y14, z14⟩, st14⟩ := Jvm.LawKit.callS Xh12 hx (y := (⟨"com/example/rangewise/rangewise/BuilderAddPinLaw", "pick", "(IJJ)J"⟩ : MethodName)) hown (mvT hZ (hw _ (ow 1 rfl))) (mvT hZ (hw _ (ow 2 rfl))) (mvT hZ (hw _ (ow 3 rfl))) (mvT hZ (hw _ (ow 4 rfl))) (by decide) (backOf (W := 3) (rm1 l Z a0 hw [] p5 q3 q4 h11 n0 sz13 ) hZ (hw _ (ow 4 rfl)) (hw _ (ow 3 rfl)) (by decide) (by decide)) (g := (mkF m 15 #[.val (.long q1), .second, .val (.long q2), .second, .val (.long q3), .second, .val (.long q4), .second, .val (.int p5), .val (.long q6), .second, .unset, .unset, .unset, .unset, .unset, .unset, .unset, .unset, .unset, .unset, .unset, .unset, .unset, .unset, .unset, .unset, .unset, .unset, .unset, .unset, .unset] [(.long q4), (.long q3), (.int p5), (.int (1 : Int32)), (.ref b8), (.ref b8)])) rfl (by rw [hml]; rfl) (argsL := [(.int p5), (.long q3), (.long q4)]) (rest := [(.int (1 : Int32)), (.ref b8), (.ref b8)]) (lenOf pd_0 rfl) rfl (by show 2 * 0 + _ ≤ _; exact Nat.le_of_eq rfl) (hb hby at_15) (fun _ _ => ⟨rfl, e11, (by decide : 1 + 0 ≤ _), (by decide : 4 + 0 ≤ _)⟩)
  dsimp only [Pt.U, Pt.locs, Pt.cells, Pt.slots] at X14 l14 y14 z14 st14 hQ14
  subst l14 y14 z14
  obtain ⟨rfl, N14q, e14⟩ := hQ14
  have N14 := Fr.app Nh12 N14q
  obtain ⟨Lh15, Xh15, Nh15⟩ := own_hide X14 N14
  obtain ⟨z16, hz16⟩ : ∃ z : Int64, z = (own_f1 p5 q3 q4) := ⟨_, rfl⟩
  rw [← hz16] at st14
  refine own_pre (B := T14.setTop (mkF m 18 #[.val (.long q1), .second, .val (.long q2), .second, .val (.long q3), .second, .val (.long q4), .second, .val (.int p5), .val (.long q6), .second, .unset, .unset, .unset, .unset, .unset, .unset, .unset, .unset, .unset, .unset, .unset, .unset, .unset, .unset, .unset, .unset, .unset, .unset, .unset, .unset, .unset] [(.long z16), (.int (1 : Int32)), (.ref b8), (.ref b8)])) (fun t k => st14 t k) ?_
  have K17 : Keep h0 h11 [] := (Keep.wr K9 W11 (Or.inr s_b8))
  obtain ⟨cl18, Ar18, q18, S18, N18v, H18v, G18v⟩ := V11
  have V11 : Arv Z h11 b8 k8 .long (4 : Int32) [(.long q1), (.long (0 : Int64)), (.long (0 : Int64)), (.long (0 : Int64))] (.long (0 : Int64)) := ⟨cl18, Ar18, q18, S18, N18v, H18v, G18v⟩
  have hin18 : ¬ ((1 : Int32) < 0 ∨ cl18.slots.size ≤ ((1 : Int32)).toNatClampNeg) := inb_of S18 ⟨by decide, by decide⟩
  obtain ⟨T19, h19, X19, e19, W19, st19⟩ := stJ Xh15 hx hZ e14 Ar18 (j := (1 : Int32)) hin18 (g := (mkF m 18 #[.val (.long q1), .second, .val (.long q2), .second, .val (.long q3), .second, .val (.long q4), .second, .val (.int p5), .val (.long q6), .second, .unset, .unset, .unset, .unset, .unset, .unset, .unset, .unset, .unset, .unset, .unset, .unset, .unset, .unset, .unset, .unset, .unset, .unset, .unset, .unset, .unset] [(.long z16), (.int (1 : Int32)), (.ref b8), (.ref b8)])) rfl rfl (hb hby at_18)
  have V19 : Arv Z h19 b8 k8 .long (4 : Int32) [(.long q1), (.long z16), (.long (0 : Int64)), (.long (0 : Int64))] (.long (0 : Int64)) := Arv.set Ar18 q18 S18 N18v H18v G18v rfl W19 1 rfl (Nat.le_of_ble_eq_true rfl)
  have N19 := Fr.snoc X19 Nh15 g_b8
  obtain ⟨Lh20, Xh20, Nh20⟩ := own_hide X19 N19
  refine own_pre (B := T19.setTop (mkF m 19 #[.val (.long q1), .second, .val (.long q2), .second, .val (.long q3), .second, .val (.long q4), .second, .val (.int p5), .val (.long q6), .second, .unset, .unset, .unset, .unset, .unset, .unset, .unset, .unset, .unset, .unset, .unset, .unset, .unset, .unset, .unset, .unset, .unset, .unset, .unset, .unset, .unset] [(.ref b8)])) (fun t k => st19 t k) ?_
  refine own_pre (B := T19.setTop (mkF m 20 #[.val (.long q1), .second, .val (.long q2), .second, .val (.long q3), .second, .val (.long q4), .second, .val (.int p5), .val (.long q6), .second, .unset, .unset, .unset, .unset, .unset, .unset, .unset, .unset, .unset, .unset, .unset, .unset, .unset, .unset, .unset, .unset, .unset, .unset, .unset, .unset, .unset] [(.ref b8), (.ref b8)])) (fun t k => XS.dup Xh20.here hx rfl (hb hby at_19) rfl rfl k) ?_
  refine own_pre (B := T19.setTop (mkF m 21 #[.val (.long q1), .second, .val (.long q2), .second, .val (.long q3), .second, .val (.long q4), .second, .val (.int p5), .val (.long q6), .second, .unset, .unset, .unset, .unset, .unset, .unset, .unset, .unset, .unset, .unset, .unset, .unset, .unset, .unset, .unset, .unset, .unset, .unset, .unset, .unset, .unset] [(.int (2 : Int32)), (.ref b8), (.ref b8)])) (fun t k => XS.iconst Xh20.here hx rfl (hb hby at_20) k) ?_
  refine own_pre (B := T19.setTop (mkF m 23 #[.val (.long q1), .second, .val (.long q2), .second, .val (.long q3), .second, .val (.long q4), .second, .val (.int p5), .val (.long q6), .second, .unset, .unset, .unset, .unset, .unset, .unset, .unset, .unset, .unset, .unset, .unset, .unset, .unset, .unset, .unset, .unset, .unset, .unset, .unset, .unset, .unset] [(.int p5), (.int (2 : Int32)), (.ref b8), (.ref b8)])) (fun t k => XS.iload Xh20.here hx rfl (hb hby at_21) rfl k) ?_
  refine own_pre (B := T19.setTop (mkF m 24 #[.val (.long q1), .second, .val (.long q2), .second, .val (.long q3), .second, .val (.long q4), .second, .val (.int p5), .val (.long q6), .second, .unset, .unset, .unset, .unset, .unset, .unset, .unset, .unset, .unset, .unset, .unset, .unset, .unset, .unset, .unset, .unset, .unset, .unset, .unset, .unset, .unset] [(.int (2 : Int32)), (.int p5), (.int (2 : Int32)), (.ref b8), (.ref b8)])) (fun t k => XS.iconst Xh20.here hx rfl (hb hby at_23) k) ?_
  refine own_pre (B := T19.setTop (mkF m 25 #[.val (.long q1), .second, .val (.long q2), .second, .val (.long q3), .second, .val (.long q4), .second, .val (.int p5), .val (.long q6), .second, .unset, .unset, .unset, .unset, .unset, .unset, .unset, .unset, .unset, .unset, .unset, .unset, .unset, .unset, .unset, .unset, .unset, .unset, .unset, .unset, .unset] [(.int ((p5.toUInt32 >>> ((2 : Int32) &&& 31).toUInt32).toInt32)), (.int (2 : Int32)), (.ref b8), (.ref b8)])) (fun t k => XS.iushr Xh20.here hx rfl (hb hby at_24) rfl k) ?_
  refine own_pre (B := T19.setTop (mkF m 27 #[.val (.long q1), .second, .val (.long q2), .second, .val (.long q3), .second, .val (.long q4), .second, .val (.int p5), .val (.long q6), .second, .unset, .unset, .unset, .unset, .unset, .unset, .unset, .unset, .unset, .unset, .unset, .unset, .unset, .unset, .unset, .unset, .unset, .unset, .unset, .unset, .unset] [(.long q3), (.int ((p5.toUInt32 >>> ((2 : Int32) &&& 31).toUInt32).toInt32)), (.int (2 : Int32)), (.ref b8), (.ref b8)])) (fun t k => XS.lload Xh20.here hx rfl (hb hby at_25) rfl k) ?_
  refine own_pre (B := T19.setTop (mkF m 29 #[.val (.long q1), .second, .val (.long q2), .second, .val (.long q3), .second, .val (.long q4), .second, .val (.int p5), .val (.long q6), .second, .unset, .unset, .unset, .unset, .unset, .unset, .unset, .unset, .unset, .unset, .unset, .unset, .unset, .unset, .unset, .unset, .unset, .unset, .unset, .unset, .unset] [(.long q4), (.long q3), (.int ((p5.toUInt32 >>> ((2 : Int32) &&& 31).toUInt32).toInt32)), (.int (2 : Int32)), (.ref b8), (.ref b8)])) (fun t k => XS.lload Xh20.here hx rfl (hb hby at_27) rfl k) ?_
  have sz21 : n0 ≤ h19.size := (Nat.le_trans sz13 (Keep.of_wr W19).1)
  obtain ⟨_, _, ⟨T22, L22, k22, n22⟩, -, X22, ⟨Lc22, hQ22, l22, y22, z22⟩, st22⟩ := Jvm.LawKit.callS Xh20 hx (y := (⟨"com/example/rangewise/rangewise/BuilderAddPinLaw", "pick", "(IJJ)J"⟩ : MethodName)) hown (mvT hZ (hw _ (ow 1 rfl))) (mvT hZ (hw _ (ow 2 rfl))) (mvT hZ (hw _ (ow 3 rfl))) (mvT hZ (hw _ (ow 4 rfl))) (by decide) (backOf (W := 3) (rm1 l Z a0 hw [] ((p5.toUInt32 >>> ((2 : Int32) &&& 31).toUInt32).toInt32) q3 q4 h19 n0 sz21 ) hZ (hw _ (ow 4 rfl)) (hw _ (ow 3 rfl)) (by decide) (by decide)) (g := (mkF m 29 #[.val (.long q1), .second, .val (.long q2), .second, .val (.long q3), .second, .val (.long q4), .second, .val (.int p5), .val (.long q6), .second, .unset, .unset, .unset, .unset, .unset, .unset, .unset, .unset, .unset, .unset, .unset, .unset, .unset, .unset, .unset, .unset, .unset, .unset, .unset, .unset, .unset] [(.long q4), (.long q3), (.int ((p5.toUInt32 >>> ((2 : Int32) &&& 31).toUInt32).toInt32)), (.int (2 : Int32)), (.ref b8), (.ref b8)])) rfl (by rw [hml]; rfl) (argsL := [(.int ((p5.toUInt32 >>> ((2 : Int32) &&& 31).toUInt32).toInt32)), (.long q3), (.long q4)]) (rest := [(.int (2 : Int32)), (.ref b8), (.ref b8)]) (lenOf pd_0 rfl) rfl (by show 2 * 0 + _ ≤ _; exact Nat.le_of_eq rfl) (hb hby at_29) (fun _ _ => ⟨rfl, e19, (by decide : 1 + 0 ≤ _), (by decide : 4 + 0 ≤ _)⟩)
  dsimp only [Pt.U, Pt.locs, Pt.cells, Pt.slots] at X22 l22 y22 z22 st22 hQ22
  subst l22 y22 z22
  obtain ⟨rfl, N22q, e22⟩ := hQ22
  have N22 := Fr.app Nh20 N22q
  obtain ⟨Lh23, Xh23, Nh23⟩ := own_hide X22 N22
  obtain ⟨z24, hz24⟩ : ∃ z : Int64, z = (own_f1 ((p5.toUInt32 >>> ((2 : Int32) &&& 31).toUInt32).toInt32) q3 q4) := ⟨_, rfl⟩
  rw [← hz24] at st22
  refine own_pre (B := T22.setTop (mkF m 32 #[.val (.long q1), .second, .val (.long q2), .second, .val (.long q3), .second, .val (.long q4), .second, .val (.int p5), .val (.long q6), .second, .unset, .unset, .unset, .unset, .unset, .unset, .unset, .unset, .unset, .unset, .unset, .unset, .unset, .unset, .unset, .unset, .unset, .unset, .unset, .unset, .unset] [(.long z24), (.int (2 : Int32)), (.ref b8), (.ref b8)])) (fun t k => st22 t k) ?_
  have K25 : Keep h0 h19 [] := (Keep.wr K17 W19 (Or.inr s_b8))
  obtain ⟨cl26, Ar26, q26, S26, N26v, H26v, G26v⟩ := V19
  have V19 : Arv Z h19 b8 k8 .long (4 : Int32) [(.long q1), (.long z16), (.long (0 : Int64)), (.long (0 : Int64))] (.long (0 : Int64)) := ⟨cl26, Ar26, q26, S26, N26v, H26v, G26v⟩
  have hin26 : ¬ ((2 : Int32) < 0 ∨ cl26.slots.size ≤ ((2 : Int32)).toNatClampNeg) := inb_of S26 ⟨by decide, by decide⟩
  obtain ⟨T27, h27, X27, e27, W27, st27⟩ := stJ Xh23 hx hZ e22 Ar26 (j := (2 : Int32)) hin26 (g := (mkF m 32 #[.val (.long q1), .second, .val (.long q2), .second, .val (.long q3), .second, .val (.long q4), .second, .val (.int p5), .val (.long q6), .second, .unset, .unset, .unset, .unset, .unset, .unset, .unset, .unset, .unset, .unset, .unset, .unset, .unset, .unset, .unset, .unset, .unset, .unset, .unset, .unset, .unset] [(.long z24), (.int (2 : Int32)), (.ref b8), (.ref b8)])) rfl rfl (hb hby at_32)
  have V27 : Arv Z h27 b8 k8 .long (4 : Int32) [(.long q1), (.long z16), (.long z24), (.long (0 : Int64))] (.long (0 : Int64)) := Arv.set Ar26 q26 S26 N26v H26v G26v rfl W27 2 rfl (Nat.le_of_ble_eq_true rfl)
  have N27 := Fr.snoc X27 Nh23 g_b8
  obtain ⟨Lh28, Xh28, Nh28⟩ := own_hide X27 N27
  refine own_pre (B := T27.setTop (mkF m 33 #[.val (.long q1), .second, .val (.long q2), .second, .val (.long q3), .second, .val (.long q4), .second, .val (.int p5), .val (.long q6), .second, .unset, .unset, .unset, .unset, .unset, .unset, .unset, .unset, .unset, .unset, .unset, .unset, .unset, .unset, .unset, .unset, .unset, .unset, .unset, .unset, .unset] [(.ref b8)])) (fun t k => st27 t k) ?_
  refine own_pre (B := T27.setTop (mkF m 34 #[.val (.long q1), .second, .val (.long q2), .second, .val (.long q3), .second, .val (.long q4), .second, .val (.int p5), .val (.long q6), .second, .unset, .unset, .unset, .unset, .unset, .unset, .unset, .unset, .unset, .unset, .unset, .unset, .unset, .unset, .unset, .unset, .unset, .unset, .unset, .unset, .unset] [(.ref b8), (.ref b8)])) (fun t k => XS.dup Xh28.here hx rfl (hb hby at_33) rfl rfl k) ?_
  refine own_pre (B := T27.setTop (mkF m 35 #[.val (.long q1), .second, .val (.long q2), .second, .val (.long q3), .second, .val (.long q4), .second, .val (.int p5), .val (.long q6), .second, .unset, .unset, .unset, .unset, .unset, .unset, .unset, .unset, .unset, .unset, .unset, .unset, .unset, .unset, .unset, .unset, .unset, .unset, .unset, .unset, .unset] [(.int (3 : Int32)), (.ref b8), (.ref b8)])) (fun t k => XS.iconst Xh28.here hx rfl (hb hby at_34) k) ?_
  refine own_pre (B := T27.setTop (mkF m 37 #[.val (.long q1), .second, .val (.long q2), .second, .val (.long q3), .second, .val (.long q4), .second, .val (.int p5), .val (.long q6), .second, .unset, .unset, .unset, .unset, .unset, .unset, .unset, .unset, .unset, .unset, .unset, .unset, .unset, .unset, .unset, .unset, .unset, .unset, .unset, .unset, .unset] [(.int p5), (.int (3 : Int32)), (.ref b8), (.ref b8)])) (fun t k => XS.iload Xh28.here hx rfl (hb hby at_35) rfl k) ?_
  refine own_pre (B := T27.setTop (mkF m 38 #[.val (.long q1), .second, .val (.long q2), .second, .val (.long q3), .second, .val (.long q4), .second, .val (.int p5), .val (.long q6), .second, .unset, .unset, .unset, .unset, .unset, .unset, .unset, .unset, .unset, .unset, .unset, .unset, .unset, .unset, .unset, .unset, .unset, .unset, .unset, .unset, .unset] [(.int (4 : Int32)), (.int p5), (.int (3 : Int32)), (.ref b8), (.ref b8)])) (fun t k => XS.iconst Xh28.here hx rfl (hb hby at_37) k) ?_
  refine own_pre (B := T27.setTop (mkF m 39 #[.val (.long q1), .second, .val (.long q2), .second, .val (.long q3), .second, .val (.long q4), .second, .val (.int p5), .val (.long q6), .second, .unset, .unset, .unset, .unset, .unset, .unset, .unset, .unset, .unset, .unset, .unset, .unset, .unset, .unset, .unset, .unset, .unset, .unset, .unset, .unset, .unset] [(.int ((p5.toUInt32 >>> ((4 : Int32) &&& 31).toUInt32).toInt32)), (.int (3 : Int32)), (.ref b8), (.ref b8)])) (fun t k => XS.iushr Xh28.here hx rfl (hb hby at_38) rfl k) ?_
  refine own_pre (B := T27.setTop (mkF m 41 #[.val (.long q1), .second, .val (.long q2), .second, .val (.long q3), .second, .val (.long q4), .second, .val (.int p5), .val (.long q6), .second, .unset, .unset, .unset, .unset, .unset, .unset, .unset, .unset, .unset, .unset, .unset, .unset, .unset, .unset, .unset, .unset, .unset, .unset, .unset, .unset, .unset] [(.long q3), (.int ((p5.toUInt32 >>> ((4 : Int32) &&& 31).toUInt32).toInt32)), (.int (3 : Int32)), (.ref b8), (.ref b8)])) (fun t k => XS.lload Xh28.here hx rfl (hb hby at_39) rfl k) ?_
  refine own_pre (B := T27.setTop (mkF m 43 #[.val (.long q1), .second, .val (.long q2), .second, .val (.long q3), .second, .val (.long q4), .second, .val (.int p5), .val (.long q6), .second, .unset, .unset, .unset, .unset, .unset, .unset, .unset, .unset, .unset, .unset, .unset, .unset, .unset, .unset, .unset, .unset, .unset, .unset, .unset, .unset, .unset] [(.long q4), (.long q3), (.int ((p5.toUInt32 >>> ((4 : Int32) &&& 31).toUInt32).toInt32)), (.int (3 : Int32)), (.ref b8), (.ref b8)])) (fun t k => XS.lload Xh28.here hx rfl (hb hby at_41) rfl k) ?_
  have sz29 : n0 ≤ h27.size := (Nat.le_trans sz21 (Keep.of_wr W27).1)
  obtain ⟨_, _, ⟨T30, L30, k30, n30⟩, -, X30, ⟨Lc30, hQ30, l30, y30, z30⟩, st30⟩ := Jvm.LawKit.callS Xh28 hx (y := (⟨"com/example/rangewise/rangewise/BuilderAddPinLaw", "pick", "(IJJ)J"⟩ : MethodName)) hown (mvT hZ (hw _ (ow 1 rfl))) (mvT hZ (hw _ (ow 2 rfl))) (mvT hZ (hw _ (ow 3 rfl))) (mvT hZ (hw _ (ow 4 rfl))) (by decide) (backOf (W := 3) (rm1 l Z a0 hw [] ((p5.toUInt32 >>> ((4 : Int32) &&& 31).toUInt32).toInt32) q3 q4 h27 n0 sz29 ) hZ (hw _ (ow 4 rfl)) (hw _ (ow 3 rfl)) (by decide) (by decide)) (g := (mkF m 43 #[.val (.long q1), .second, .val (.long q2), .second, .val (.long q3), .second, .val (.long q4), .second, .val (.int p5), .val (.long q6), .second, .unset, .unset, .unset, .unset, .unset, .unset, .unset, .unset, .unset, .unset, .unset, .unset, .unset, .unset, .unset, .unset, .unset, .unset, .unset, .unset, .unset] [(.long q4), (.long q3), (.int ((p5.toUInt32 >>> ((4 : Int32) &&& 31).toUInt32).toInt32)), (.int (3 : Int32)), (.ref b8), (.ref b8)])) rfl (by rw [hml]; rfl) (argsL := [(.int ((p5.toUInt32 >>> ((4 : Int32) &&& 31).toUInt32).toInt32)), (.long q3), (.long q4)]) (rest := [(.int (3 : Int32)), (.ref b8), (.ref b8)]) (lenOf pd_0 rfl) rfl (by show 2 * 0 + _ ≤ _; exact Nat.le_of_eq rfl) (hb hby at_43) (fun _ _ => ⟨rfl, e27, (by decide : 1 + 0 ≤ _), (by decide : 4 + 0 ≤ _)⟩)
  dsimp only [Pt.U, Pt.locs, Pt.cells, Pt.slots] at X30 l30 y30 z30 st30 hQ30
  subst l30 y30 z30
  obtain ⟨rfl, N30q, e30⟩ := hQ30
  have N30 := Fr.app Nh28 N30q
  obtain ⟨Lh31, Xh31, Nh31⟩ := own_hide X30 N30
  obtain ⟨z32, hz32⟩ : ∃ z : Int64, z = (own_f1 ((p5.toUInt32 >>> ((4 : Int32) &&& 31).toUInt32).toInt32) q3 q4) := ⟨_, rfl⟩
  rw [← hz32] at st30
  refine own_pre (B := T30.setTop (mkF m 46 #[.val (.long q1), .second, .val (.long q2), .second, .val (.long q3), .second, .val (.long q4), .second, .val (.int p5), .val (.long q6), .second, .unset, .unset, .unset, .unset, .unset, .unset, .unset, .unset, .unset, .unset, .unset, .unset, .unset, .unset, .unset, .unset, .unset, .unset, .unset, .unset, .unset] [(.long z32), (.int (3 : Int32)), (.ref b8), (.ref b8)])) (fun t k => st30 t k) ?_
  have K33 : Keep h0 h27 [] := (Keep.wr K25 W27 (Or.inr s_b8))
  obtain ⟨cl34, Ar34, q34, S34, N34v, H34v, G34v⟩ := V27
  have V27 : Arv Z h27 b8 k8 .long (4 : Int32) [(.long q1), (.long z16), (.long z24), (.long (0 : Int64))] (.long (0 : Int64)) := ⟨cl34, Ar34, q34, S34, N34v, H34v, G34v⟩
  have hin34 : ¬ ((3 : Int32) < 0 ∨ cl34.slots.size ≤ ((3 : Int32)).toNatClampNeg) := inb_of S34 ⟨by decide, by decide⟩
  obtain ⟨T35, h35, X35, e35, W35, st35⟩ := stJ Xh31 hx hZ e30 Ar34 (j := (3 : Int32)) hin34 (g := (mkF m 46 #[.val (.long q1), .second, .val (.long q2), .second, .val (.long q3), .second, .val (.long q4), .second, .val (.int p5), .val (.long q6), .second, .unset, .unset, .unset, .unset, .unset, .unset, .unset, .unset, .unset, .unset, .unset, .unset, .unset, .unset, .unset, .unset, .unset, .unset, .unset, .unset, .unset] [(.long z32), (.int (3 : Int32)), (.ref b8), (.ref b8)])) rfl rfl (hb hby at_46)
  have V35 : Arv Z h35 b8 k8 .long (4 : Int32) [(.long q1), (.long z16), (.long z24), (.long z32)] (.long (0 : Int64)) := Arv.set Ar34 q34 S34 N34v H34v G34v rfl W35 3 rfl (Nat.le_of_ble_eq_true rfl)
  have N35 := Fr.snoc X35 Nh31 g_b8
  obtain ⟨Lh36, Xh36, Nh36⟩ := own_hide X35 N35
  refine own_pre (B := T35.setTop (mkF m 47 #[.val (.long q1), .second, .val (.long q2), .second, .val (.long q3), .second, .val (.long q4), .second, .val (.int p5), .val (.long q6), .second, .unset, .unset, .unset, .unset, .unset, .unset, .unset, .unset, .unset, .unset, .unset, .unset, .unset, .unset, .unset, .unset, .unset, .unset, .unset, .unset, .unset] [(.ref b8)])) (fun t k => st35 t k) ?_
  refine own_pre (B := T35.setTop (mkF m 49 #[.val (.long q1), .second, .val (.long q2), .second, .val (.long q3), .second, .val (.long q4), .second, .val (.int p5), .val (.long q6), .second, .val (.ref b8), .unset, .unset, .unset, .unset, .unset, .unset, .unset, .unset, .unset, .unset, .unset, .unset, .unset, .unset, .unset, .unset, .unset, .unset, .unset, .unset] [])) (fun t k => XS.astore Xh36.here hx rfl (hb hby at_47) rfl rfl (l' := #[.val (.long q1), .second, .val (.long q2), .second, .val (.long q3), .second, .val (.long q4), .second, .val (.int p5), .val (.long q6), .second, .val (.ref b8), .unset, .unset, .unset, .unset, .unset, .unset, .unset, .unset, .unset, .unset, .unset, .unset, .unset, .unset, .unset, .unset, .unset, .unset, .unset, .unset]) rfl k) ?_
  refine own_pre (B := T35.setTop (mkF m 50 #[.val (.long q1), .second, .val (.long q2), .second, .val (.long q3), .second, .val (.long q4), .second, .val (.int p5), .val (.long q6), .second, .val (.ref b8), .unset, .unset, .unset, .unset, .unset, .unset, .unset, .unset, .unset, .unset, .unset, .unset, .unset, .unset, .unset, .unset, .unset, .unset, .unset, .unset] [(.int (4 : Int32))])) (fun t k => XS.iconst Xh36.here hx rfl (hb hby at_49) k) ?_
  have K37 : Keep h0 h35 [] := (Keep.wr K33 W35 (Or.inr s_b8))
  have sz38 : n0 ≤ h35.size := (Nat.le_trans sz29 (Keep.of_wr W35).1)
  obtain ⟨T39, h39, k39, X39, e39, E39, A39, st39⟩ := newP Xh36 hx hZ (hw _ (ow 0 rfl)) e35 (g := (mkF m 50 #[.val (.long q1), .second, .val (.long q2), .second, .val (.long q3), .second, .val (.long q4), .second, .val (.int p5), .val (.long q6), .second, .val (.ref b8), .unset, .unset, .unset, .unset, .unset, .unset, .unset, .unset, .unset, .unset, .unset, .unset, .unset, .unset, .unset, .unset, .unset, .unset, .unset, .unset] [(.int (4 : Int32))])) rfl (hb hby at_50) rfl (by decide) (cap := 4) (by decide) (by decide) (by decide) (by decide)
  obtain ⟨b39, g39⟩ : ∃ z, z = h35.size := ⟨_, rfl⟩
  rw [← g39] at A39 st39
  have g_b39 : n0 ≤ b39 := Nat.le_trans sz38 (Nat.le_of_eq g39.symm)
  have s_b39 : h0.size ≤ b39 := Nat.le_trans K37.1 (Nat.le_of_eq g39.symm)
  have ne40 : b8 ≠ b39 := Nat.ne_of_lt (Nat.lt_of_lt_of_le (Arv.lt V35) (Nat.le_of_eq g39.symm))
  have V_b39 : Arv Z h39 b39 k39 .long (4 : Int32) [(.long (0 : Int64)), (.long (0 : Int64)), (.long (0 : Int64)), (.long (0 : Int64))] (.long (0 : Int64)) := (Arv.new A39 (by decide)).pad (pad_rep [] (.long (0 : Int64)) 4)
  refine own_pre (B := T39.setTop (mkF m 52 #[.val (.long q1), .second, .val (.long q2), .second, .val (.long q3), .second, .val (.long q4), .second, .val (.int p5), .val (.long q6), .second, .val (.ref b8), .unset, .unset, .unset, .unset, .unset, .unset, .unset, .unset, .unset, .unset, .unset, .unset, .unset, .unset, .unset, .unset, .unset, .unset, .unset, .unset] [(.ref b39)])) (fun t k => st39 t k) ?_
  refine own_pre (B := T39.setTop (mkF m 53 #[.val (.long q1), .second, .val (.long q2), .second, .val (.long q3), .second, .val (.long q4), .second, .val (.int p5), .val (.long q6), .second, .val (.ref b8), .unset, .unset, .unset, .unset, .unset, .unset, .unset, .unset, .unset, .unset, .unset, .unset, .unset, .unset, .unset, .unset, .unset, .unset, .unset, .unset] [(.ref b39), (.ref b39)])) (fun t k => XS.dup X39.here hx rfl (hb hby at_52) rfl rfl k) ?_
  refine own_pre (B := T39.setTop (mkF m 54 #[.val (.long q1), .second, .val (.long q2), .second, .val (.long q3), .second, .val (.long q4), .second, .val (.int p5), .val (.long q6), .second, .val (.ref b8), .unset, .unset, .unset, .unset, .unset, .unset, .unset, .unset, .unset, .unset, .unset, .unset, .unset, .unset, .unset, .unset, .unset, .unset, .unset, .unset] [(.int (0 : Int32)), (.ref b39), (.ref b39)])) (fun t k => XS.iconst X39.here hx rfl (hb hby at_53) k) ?_
  refine own_pre (B := T39.setTop (mkF m 55 #[.val (.long q1), .second, .val (.long q2), .second, .val (.long q3), .second, .val (.long q4), .second, .val (.int p5), .val (.long q6), .second, .val (.ref b8), .unset, .unset, .unset, .unset, .unset, .unset, .unset, .unset, .unset, .unset, .unset, .unset, .unset, .unset, .unset, .unset, .unset, .unset, .unset, .unset] [(.long q2), (.int (0 : Int32)), (.ref b39), (.ref b39)])) (fun t k => XS.lloadN X39.here hx rfl (hb hby at_54) rfl k) ?_
  have K41 : Keep h0 h39 [] := (Keep.ext K37 E39)
  obtain ⟨cl42, Ar42, q42, S42, N42v, H42v, G42v⟩ := V_b39
  have V_b39 : Arv Z h39 b39 k39 .long (4 : Int32) [(.long (0 : Int64)), (.long (0 : Int64)), (.long (0 : Int64)), (.long (0 : Int64))] (.long (0 : Int64)) := ⟨cl42, Ar42, q42, S42, N42v, H42v, G42v⟩
  have hin42 : ¬ ((0 : Int32) < 0 ∨ cl42.slots.size ≤ ((0 : Int32)).toNatClampNeg) := inb_of S42 ⟨by decide, by decide⟩
  obtain ⟨T43, h43, X43, e43, W43, st43⟩ := stJ X39 hx hZ e39 Ar42 (j := (0 : Int32)) hin42 (g := (mkF m 55 #[.val (.long q1), .second, .val (.long q2), .second, .val (.long q3), .second, .val (.long q4), .second, .val (.int p5), .val (.long q6), .second, .val (.ref b8), .unset, .unset, .unset, .unset, .unset, .unset, .unset, .unset, .unset, .unset, .unset, .unset, .unset, .unset, .unset, .unset, .unset, .unset, .unset, .unset] [(.long q2), (.int (0 : Int32)), (.ref b39), (.ref b39)])) rfl rfl (hb hby at_55)
  have V43 : Arv Z h43 b39 k39 .long (4 : Int32) [(.long q2), (.long (0 : Int64)), (.long (0 : Int64)), (.long (0 : Int64))] (.long (0 : Int64)) := Arv.set Ar42 q42 S42 N42v H42v G42v rfl W43 0 rfl (Nat.le_of_ble_eq_true rfl)
  have N43 := Fr.snoc X43 Nh36 g_b39
  obtain ⟨Lh44, Xh44, Nh44⟩ := own_hide X43 N43
  refine own_pre (B := T43.setTop (mkF m 56 #[.val (.long q1), .second, .val (.long q2), .second, .val (.long q3), .second, .val (.long q4), .second, .val (.int p5), .val (.long q6), .second, .val (.ref b8), .unset, .unset, .unset, .unset, .unset, .unset, .unset, .unset, .unset, .unset, .unset, .unset, .unset, .unset, .unset, .unset, .unset, .unset, .unset, .unset] [(.ref b39)])) (fun t k => st43 t k) ?_
  refine own_pre (B := T43.setTop (mkF m 57 #[.val (.long q1), .second, .val (.long q2), .second, .val (.long q3), .second, .val (.long q4), .second, .val (.int p5), .val (.long q6), .second, .val (.ref b8), .unset, .unset, .unset, .unset, .unset, .unset, .unset, .unset, .unset, .unset, .unset, .unset, .unset, .unset, .unset, .unset, .unset, .unset, .unset, .unset] [(.ref b39), (.ref b39)])) (fun t k => XS.dup Xh44.here hx rfl (hb hby at_56) rfl rfl k) ?_
  refine own_pre (B := T43.setTop (mkF m 58 #[.val (.long q1), .second, .val (.long q2), .second, .val (.long q3), .second, .val (.long q4), .second, .val (.int p5), .val (.long q6), .second, .val (.ref b8), .unset, .unset, .unset, .unset, .unset, .unset, .unset, .unset, .unset, .unset, .unset, .unset, .unset, .unset, .unset, .unset, .unset, .unset, .unset, .unset] [(.int (1 : Int32)), (.ref b39), (.ref b39)])) (fun t k => XS.iconst Xh44.here hx rfl (hb hby at_57) k) ?_
  refine own_pre (B := T43.setTop (mkF m 60 #[.val (.long q1), .second, .val (.long q2), .second, .val (.long q3), .second, .val (.long q4), .second, .val (.int p5), .val (.long q6), .second, .val (.ref b8), .unset, .unset, .unset, .unset, .unset, .unset, .unset, .unset, .unset, .unset, .unset, .unset, .unset, .unset, .unset, .unset, .unset, .unset, .unset, .unset] [(.int p5), (.int (1 : Int32)), (.ref b39), (.ref b39)])) (fun t k => XS.iload Xh44.here hx rfl (hb hby at_58) rfl k) ?_
  refine own_pre (B := T43.setTop (mkF m 62 #[.val (.long q1), .second, .val (.long q2), .second, .val (.long q3), .second, .val (.long q4), .second, .val (.int p5), .val (.long q6), .second, .val (.ref b8), .unset, .unset, .unset, .unset, .unset, .unset, .unset, .unset, .unset, .unset, .unset, .unset, .unset, .unset, .unset, .unset, .unset, .unset, .unset, .unset] [(.int (6 : Int32)), (.int p5), (.int (1 : Int32)), (.ref b39), (.ref b39)])) (fun t k => XS.bipush Xh44.here hx rfl (hb hby at_60) k) ?_
  refine own_pre (B := T43.setTop (mkF m 63 #[.val (.long q1), .second, .val (.long q2), .second, .val (.long q3), .second, .val (.long q4), .second, .val (.int p5), .val (.long q6), .second, .val (.ref b8), .unset, .unset, .unset, .unset, .unset, .unset, .unset, .unset, .unset, .unset, .unset, .unset, .unset, .unset, .unset, .unset, .unset, .unset, .unset, .unset] [(.int ((p5.toUInt32 >>> ((6 : Int32) &&& 31).toUInt32).toInt32)), (.int (1 : Int32)), (.ref b39), (.ref b39)])) (fun t k => XS.iushr Xh44.here hx rfl (hb hby at_62) rfl k) ?_
  refine own_pre (B := T43.setTop (mkF m 65 #[.val (.long q1), .second, .val (.long q2), .second, .val (.long q3), .second, .val (.long q4), .second, .val (.int p5), .val (.long q6), .second, .val (.ref b8), .unset, .unset, .unset, .unset, .unset, .unset, .unset, .unset, .unset, .unset, .unset, .unset, .unset, .unset, .unset, .unset, .unset, .unset, .unset, .unset] [(.long q3), (.int ((p5.toUInt32 >>> ((6 : Int32) &&& 31).toUInt32).toInt32)), (.int (1 : Int32)), (.ref b39), (.ref b39)])) (fun t k => XS.lload Xh44.here hx rfl (hb hby at_63) rfl k) ?_
  refine own_pre (B := T43.setTop (mkF m 67 #[.val (.long q1), .second, .val (.long q2), .second, .val (.long q3), .second, .val (.long q4), .second, .val (.int p5), .val (.long q6), .second, .val (.ref b8), .unset, .unset, .unset, .unset, .unset, .unset, .unset, .unset, .unset, .unset, .unset, .unset, .unset, .unset, .unset, .unset, .unset, .unset, .unset, .unset] [(.long q4), (.long q3), (.int ((p5.toUInt32 >>> ((6 : Int32) &&& 31).toUInt32).toInt32)), (.int (1 : Int32)), (.ref b39), (.ref b39)])) (fun t k => XS.lload Xh44.here hx rfl (hb hby at_65) rfl k) ?_
  have sz45 : n0 ≤ h43.size := (Nat.le_trans (Nat.le_trans sz38 E39.1) (Keep.of_wr W43).1)
  obtain ⟨_, _, ⟨T46, L46, k46, n46⟩, -, X46, ⟨Lc46, hQ46, l46, y46, z46⟩, st46⟩ := Jvm.LawKit.callS Xh44 hx (y := (⟨"com/example/rangewise/rangewise/BuilderAddPinLaw", "pick", "(IJJ)J"⟩ : MethodName)) hown (mvT hZ (hw _ (ow 1 rfl))) (mvT hZ (hw _ (ow 2 rfl))) (mvT hZ (hw _ (ow 3 rfl))) (mvT hZ (hw _ (ow 4 rfl))) (by decide) (backOf (W := 3) (rm1 l Z a0 hw [] ((p5.toUInt32 >>> ((6 : Int32) &&& 31).toUInt32).toInt32) q3 q4 h43 n0 sz45 ) hZ (hw _ (ow 4 rfl)) (hw _ (ow 3 rfl)) (by decide) (by decide)) (g := (mkF m 67 #[.val (.long q1), .second, .val (.long q2), .second, .val (.long q3), .second, .val (.long q4), .second, .val (.int p5), .val (.long q6), .second, .val (.ref b8), .unset, .unset, .unset, .unset, .unset, .unset, .unset, .unset, .unset, .unset, .unset, .unset, .unset, .unset, .unset, .unset, .unset, .unset, .unset, .unset] [(.long q4), (.long q3), (.int ((p5.toUInt32 >>> ((6 : Int32) &&& 31).toUInt32).toInt32)), (.int (1 : Int32)), (.ref b39), (.ref b39)])) rfl (by rw [hml]; rfl) (argsL := [(.int ((p5.toUInt32 >>> ((6 : Int32) &&& 31).toUInt32).toInt32)), (.long q3), (.long q4)]) (rest := [(.int (1 : Int32)), (.ref b39), (.ref b39)]) (lenOf pd_0 rfl) rfl (by show 2 * 0 + _ ≤ _; exact Nat.le_of_eq rfl) (hb hby at_67) (fun _ _ => ⟨rfl, e43, (by decide : 2 + 0 ≤ _), (by decide : 8 + 0 ≤ _)⟩)
  dsimp only [Pt.U, Pt.locs, Pt.cells, Pt.slots] at X46 l46 y46 z46 st46 hQ46
  subst l46 y46 z46
  obtain ⟨rfl, N46q, e46⟩ := hQ46
  have N46 := Fr.app Nh44 N46q
  obtain ⟨Lh47, Xh47, Nh47⟩ := own_hide X46 N46
  obtain ⟨z48, hz48⟩ : ∃ z : Int64, z = (own_f1 ((p5.toUInt32 >>> ((6 : Int32) &&& 31).toUInt32).toInt32) q3 q4) := ⟨_, rfl⟩
  rw [← hz48] at st46
  refine own_pre (B := T46.setTop (mkF m 70 #[.val (.long q1), .second, .val (.long q2), .second, .val (.long q3), .second, .val (.long q4), .second, .val (.int p5), .val (.long q6), .second, .val (.ref b8), .unset, .unset, .unset, .unset, .unset, .unset, .unset, .unset, .unset, .unset, .unset, .unset, .unset, .unset, .unset, .unset, .unset, .unset, .unset, .unset] [(.long z48), (.int (1 : Int32)), (.ref b39), (.ref b39)])) (fun t k => st46 t k) ?_
  have K49 : Keep h0 h43 [] := (Keep.wr K41 W43 (Or.inr s_b39))
  obtain ⟨cl50, Ar50, q50, S50, N50v, H50v, G50v⟩ := V43
  have V43 : Arv Z h43 b39 k39 .long (4 : Int32) [(.long q2), (.long (0 : Int64)), (.long (0 : Int64)), (.long (0 : Int64))] (.long (0 : Int64)) := ⟨cl50, Ar50, q50, S50, N50v, H50v, G50v⟩
  have hin50 : ¬ ((1 : Int32) < 0 ∨ cl50.slots.size ≤ ((1 : Int32)).toNatClampNeg) := inb_of S50 ⟨by decide, by decide⟩
  obtain ⟨T51, h51, X51, e51, W51, st51⟩ := stJ Xh47 hx hZ e46 Ar50 (j := (1 : Int32)) hin50 (g := (mkF m 70 #[.val (.long q1), .second, .val (.long q2), .second, .val (.long q3), .second, .val (.long q4), .second, .val (.int p5), .val (.long q6), .second, .val (.ref b8), .unset, .unset, .unset, .unset, .unset, .unset, .unset, .unset, .unset, .unset, .unset, .unset, .unset, .unset, .unset, .unset, .unset, .unset, .unset, .unset] [(.long z48), (.int (1 : Int32)), (.ref b39), (.ref b39)])) rfl rfl (hb hby at_70)
  have V51 : Arv Z h51 b39 k39 .long (4 : Int32) [(.long q2), (.long z48), (.long (0 : Int64)), (.long (0 : Int64))] (.long (0 : Int64)) := Arv.set Ar50 q50 S50 N50v H50v G50v rfl W51 1 rfl (Nat.le_of_ble_eq_true rfl)
  have N51 := Fr.snoc X51 Nh47 g_b39
  obtain ⟨Lh52, Xh52, Nh52⟩ := own_hide X51 N51
  refine own_pre (B := T51.setTop (mkF m 71 #[.val (.long q1), .second, .val (.long q2), .second, .val (.long q3), .second, .val (.long q4), .second, .val (.int p5), .val (.long q6), .second, .val (.ref b8), .unset, .unset, .unset, .unset, .unset, .unset, .unset, .unset, .unset, .unset, .unset, .unset, .unset, .unset, .unset, .unset, .unset, .unset, .unset, .unset] [(.ref b39)])) (fun t k => st51 t k) ?_
  refine own_pre (B := T51.setTop (mkF m 72 #[.val (.long q1), .second, .val (.long q2), .second, .val (.long q3), .second, .val (.long q4), .second, .val (.int p5), .val (.long q6), .second, .val (.ref b8), .unset, .unset, .unset, .unset, .unset, .unset, .unset, .unset, .unset, .unset, .unset, .unset, .unset, .unset, .unset, .unset, .unset, .unset, .unset, .unset] [(.ref b39), (.ref b39)])) (fun t k => XS.dup Xh52.here hx rfl (hb hby at_71) rfl rfl k) ?_
  refine own_pre (B := T51.setTop (mkF m 73 #[.val (.long q1), .second, .val (.long q2), .second, .val (.long q3), .second, .val (.long q4), .second, .val (.int p5), .val (.long q6), .second, .val (.ref b8), .unset, .unset, .unset, .unset, .unset, .unset, .unset, .unset, .unset, .unset, .unset, .unset, .unset, .unset, .unset, .unset, .unset, .unset, .unset, .unset] [(.int (2 : Int32)), (.ref b39), (.ref b39)])) (fun t k => XS.iconst Xh52.here hx rfl (hb hby at_72) k) ?_
  refine own_pre (B := T51.setTop (mkF m 75 #[.val (.long q1), .second, .val (.long q2), .second, .val (.long q3), .second, .val (.long q4), .second, .val (.int p5), .val (.long q6), .second, .val (.ref b8), .unset, .unset, .unset, .unset, .unset, .unset, .unset, .unset, .unset, .unset, .unset, .unset, .unset, .unset, .unset, .unset, .unset, .unset, .unset, .unset] [(.int p5), (.int (2 : Int32)), (.ref b39), (.ref b39)])) (fun t k => XS.iload Xh52.here hx rfl (hb hby at_73) rfl k) ?_
  refine own_pre (B := T51.setTop (mkF m 77 #[.val (.long q1), .second, .val (.long q2), .second, .val (.long q3), .second, .val (.long q4), .second, .val (.int p5), .val (.long q6), .second, .val (.ref b8), .unset, .unset, .unset, .unset, .unset, .unset, .unset, .unset, .unset, .unset, .unset, .unset, .unset, .unset, .unset, .unset, .unset, .unset, .unset, .unset] [(.int (8 : Int32)), (.int p5), (.int (2 : Int32)), (.ref b39), (.ref b39)])) (fun t k => XS.bipush Xh52.here hx rfl (hb hby at_75) k) ?_
  refine own_pre (B := T51.setTop (mkF m 78 #[.val (.long q1), .second, .val (.long q2), .second, .val (.long q3), .second, .val (.long q4), .second, .val (.int p5), .val (.long q6), .second, .val (.ref b8), .unset, .unset, .unset, .unset, .unset, .unset, .unset, .unset, .unset, .unset, .unset, .unset, .unset, .unset, .unset, .unset, .unset, .unset, .unset, .unset] [(.int ((p5.toUInt32 >>> ((8 : Int32) &&& 31).toUInt32).toInt32)), (.int (2 : Int32)), (.ref b39), (.ref b39)])) (fun t k => XS.iushr Xh52.here hx rfl (hb hby at_77) rfl k) ?_
  refine own_pre (B := T51.setTop (mkF m 80 #[.val (.long q1), .second, .val (.long q2), .second, .val (.long q3), .second, .val (.long q4), .second, .val (.int p5), .val (.long q6), .second, .val (.ref b8), .unset, .unset, .unset, .unset, .unset, .unset, .unset, .unset, .unset, .unset, .unset, .unset, .unset, .unset, .unset, .unset, .unset, .unset, .unset, .unset] [(.long q3), (.int ((p5.toUInt32 >>> ((8 : Int32) &&& 31).toUInt32).toInt32)), (.int (2 : Int32)), (.ref b39), (.ref b39)])) (fun t k => XS.lload Xh52.here hx rfl (hb hby at_78) rfl k) ?_
  refine own_pre (B := T51.setTop (mkF m 82 #[.val (.long q1), .second, .val (.long q2), .second, .val (.long q3), .second, .val (.long q4), .second, .val (.int p5), .val (.long q6), .second, .val (.ref b8), .unset, .unset, .unset, .unset, .unset, .unset, .unset, .unset, .unset, .unset, .unset, .unset, .unset, .unset, .unset, .unset, .unset, .unset, .unset, .unset] [(.long q4), (.long q3), (.int ((p5.toUInt32 >>> ((8 : Int32) &&& 31).toUInt32).toInt32)), (.int (2 : Int32)), (.ref b39), (.ref b39)])) (fun t k => XS.lload Xh52.here hx rfl (hb hby at_80) rfl k) ?_
  have sz53 : n0 ≤ h51.size := (Nat.le_trans sz45 (Keep.of_wr W51).1)
  obtain ⟨_, _, ⟨T54, L54, k54, n54⟩, -, X54, ⟨Lc54, hQ54, l54, y54, z54⟩, st54⟩ := Jvm.LawKit.callS Xh52 hx (y := (⟨"com/example/rangewise/rangewise/BuilderAddPinLaw", "pick", "(IJJ)J"⟩ : MethodName)) hown (mvT hZ (hw _ (ow 1 rfl))) (mvT hZ (hw _ (ow 2 rfl))) (mvT hZ (hw _ (ow 3 rfl))) (mvT hZ (hw _ (ow 4 rfl))) (by decide) (backOf (W := 3) (rm1 l Z a0 hw [] ((p5.toUInt32 >>> ((8 : Int32) &&& 31).toUInt32).toInt32) q3 q4 h51 n0 sz53 ) hZ (hw _ (ow 4 rfl)) (hw _ (ow 3 rfl)) (by decide) (by decide)) (g := (mkF m 82 #[.val (.long q1), .second, .val (.long q2), .second, .val (.long q3), .second, .val (.long q4), .second, .val (.int p5), .val (.long q6), .second, .val (.ref b8), .unset, .unset, .unset, .unset, .unset, .unset, .unset, .unset, .unset, .unset, .unset, .unset, .unset, .unset, .unset, .unset, .unset, .unset, .unset, .unset] [(.long q4), (.long q3), (.int ((p5.toUInt32 >>> ((8 : Int32) &&& 31).toUInt32).toInt32)), (.int (2 : Int32)), (.ref b39), (.ref b39)])) rfl (by rw [hml]; rfl) (argsL := [(.int ((p5.toUInt32 >>> ((8 : Int32) &&& 31).toUInt32).toInt32)), (.long q3), (.long q4)]) (rest := [(.int (2 : Int32)), (.ref b39), (.ref b39)]) (lenOf pd_0 rfl) rfl (by show 2 * 0 + _ ≤ _; exact Nat.le_of_eq rfl) (hb hby at_82) (fun _ _ => ⟨rfl, e51, (by decide : 2 + 0 ≤ _), (by decide : 8 + 0 ≤ _)⟩)
  dsimp only [Pt.U, Pt.locs, Pt.cells, Pt.slots] at X54 l54 y54 z54 st54 hQ54
  subst l54 y54 z54
  obtain ⟨rfl, N54q, e54⟩ := hQ54
  have N54 := Fr.app Nh52 N54q
  obtain ⟨Lh55, Xh55, Nh55⟩ := own_hide X54 N54
  obtain ⟨z56, hz56⟩ : ∃ z : Int64, z = (own_f1 ((p5.toUInt32 >>> ((8 : Int32) &&& 31).toUInt32).toInt32) q3 q4) := ⟨_, rfl⟩
  rw [← hz56] at st54
  refine own_pre (B := T54.setTop (mkF m 85 #[.val (.long q1), .second, .val (.long q2), .second, .val (.long q3), .second, .val (.long q4), .second, .val (.int p5), .val (.long q6), .second, .val (.ref b8), .unset, .unset, .unset, .unset, .unset, .unset, .unset, .unset, .unset, .unset, .unset, .unset, .unset, .unset, .unset, .unset, .unset, .unset, .unset, .unset] [(.long z56), (.int (2 : Int32)), (.ref b39), (.ref b39)])) (fun t k => st54 t k) ?_
  have K57 : Keep h0 h51 [] := (Keep.wr K49 W51 (Or.inr s_b39))
  obtain ⟨cl58, Ar58, q58, S58, N58v, H58v, G58v⟩ := V51
  have V51 : Arv Z h51 b39 k39 .long (4 : Int32) [(.long q2), (.long z48), (.long (0 : Int64)), (.long (0 : Int64))] (.long (0 : Int64)) := ⟨cl58, Ar58, q58, S58, N58v, H58v, G58v⟩
  have hin58 : ¬ ((2 : Int32) < 0 ∨ cl58.slots.size ≤ ((2 : Int32)).toNatClampNeg) := inb_of S58 ⟨by decide, by decide⟩
  obtain ⟨T59, h59, X59, e59, W59, st59⟩ := stJ Xh55 hx hZ e54 Ar58 (j := (2 : Int32)) hin58 (g := (mkF m 85 #[.val (.long q1), .second, .val (.long q2), .second, .val (.long q3), .second, .val (.long q4), .second, .val (.int p5), .val (.long q6), .second, .val (.ref b8), .unset, .unset, .unset, .unset, .unset, .unset, .unset, .unset, .unset, .unset, .unset, .unset, .unset, .unset, .unset, .unset, .unset, .unset, .unset, .unset] [(.long z56), (.int (2 : Int32)), (.ref b39), (.ref b39)])) rfl rfl (hb hby at_85)
  have V59 : Arv Z h59 b39 k39 .long (4 : Int32) [(.long q2), (.long z48), (.long z56), (.long (0 : Int64))] (.long (0 : Int64)) := Arv.set Ar58 q58 S58 N58v H58v G58v rfl W59 2 rfl (Nat.le_of_ble_eq_true rfl)
  have N59 := Fr.snoc X59 Nh55 g_b39
  obtain ⟨Lh60, Xh60, Nh60⟩ := own_hide X59 N59
  refine own_pre (B := T59.setTop (mkF m 86 #[.val (.long q1), .second, .val (.long q2), .second, .val (.long q3), .second, .val (.long q4), .second, .val (.int p5), .val (.long q6), .second, .val (.ref b8), .unset, .unset, .unset, .unset, .unset, .unset, .unset, .unset, .unset, .unset, .unset, .unset, .unset, .unset, .unset, .unset, .unset, .unset, .unset, .unset] [(.ref b39)])) (fun t k => st59 t k) ?_
  refine own_pre (B := T59.setTop (mkF m 87 #[.val (.long q1), .second, .val (.long q2), .second, .val (.long q3), .second, .val (.long q4), .second, .val (.int p5), .val (.long q6), .second, .val (.ref b8), .unset, .unset, .unset, .unset, .unset, .unset, .unset, .unset, .unset, .unset, .unset, .unset, .unset, .unset, .unset, .unset, .unset, .unset, .unset, .unset] [(.ref b39), (.ref b39)])) (fun t k => XS.dup Xh60.here hx rfl (hb hby at_86) rfl rfl k) ?_
  refine own_pre (B := T59.setTop (mkF m 88 #[.val (.long q1), .second, .val (.long q2), .second, .val (.long q3), .second, .val (.long q4), .second, .val (.int p5), .val (.long q6), .second, .val (.ref b8), .unset, .unset, .unset, .unset, .unset, .unset, .unset, .unset, .unset, .unset, .unset, .unset, .unset, .unset, .unset, .unset, .unset, .unset, .unset, .unset] [(.int (3 : Int32)), (.ref b39), (.ref b39)])) (fun t k => XS.iconst Xh60.here hx rfl (hb hby at_87) k) ?_
  refine own_pre (B := T59.setTop (mkF m 90 #[.val (.long q1), .second, .val (.long q2), .second, .val (.long q3), .second, .val (.long q4), .second, .val (.int p5), .val (.long q6), .second, .val (.ref b8), .unset, .unset, .unset, .unset, .unset, .unset, .unset, .unset, .unset, .unset, .unset, .unset, .unset, .unset, .unset, .unset, .unset, .unset, .unset, .unset] [(.int p5), (.int (3 : Int32)), (.ref b39), (.ref b39)])) (fun t k => XS.iload Xh60.here hx rfl (hb hby at_88) rfl k) ?_
  refine own_pre (B := T59.setTop (mkF m 92 #[.val (.long q1), .second, .val (.long q2), .second, .val (.long q3), .second, .val (.long q4), .second, .val (.int p5), .val (.long q6), .second, .val (.ref b8), .unset, .unset, .unset, .unset, .unset, .unset, .unset, .unset, .unset, .unset, .unset, .unset, .unset, .unset, .unset, .unset, .unset, .unset, .unset, .unset] [(.int (10 : Int32)), (.int p5), (.int (3 : Int32)), (.ref b39), (.ref b39)])) (fun t k => XS.bipush Xh60.here hx rfl (hb hby at_90) k) ?_
  refine own_pre (B := T59.setTop (mkF m 93 #[.val (.long q1), .second, .val (.long q2), .second, .val (.long q3), .second, .val (.long q4), .second, .val (.int p5), .val (.long q6), .second, .val (.ref b8), .unset, .unset, .unset, .unset, .unset, .unset, .unset, .unset, .unset, .unset, .unset, .unset, .unset, .unset, .unset, .unset, .unset, .unset, .unset, .unset] [(.int ((p5.toUInt32 >>> ((10 : Int32) &&& 31).toUInt32).toInt32)), (.int (3 : Int32)), (.ref b39), (.ref b39)])) (fun t k => XS.iushr Xh60.here hx rfl (hb hby at_92) rfl k) ?_
  refine own_pre (B := T59.setTop (mkF m 95 #[.val (.long q1), .second, .val (.long q2), .second, .val (.long q3), .second, .val (.long q4), .second, .val (.int p5), .val (.long q6), .second, .val (.ref b8), .unset, .unset, .unset, .unset, .unset, .unset, .unset, .unset, .unset, .unset, .unset, .unset, .unset, .unset, .unset, .unset, .unset, .unset, .unset, .unset] [(.long q3), (.int ((p5.toUInt32 >>> ((10 : Int32) &&& 31).toUInt32).toInt32)), (.int (3 : Int32)), (.ref b39), (.ref b39)])) (fun t k => XS.lload Xh60.here hx rfl (hb hby at_93) rfl k) ?_
  refine own_pre (B := T59.setTop (mkF m 97 #[.val (.long q1), .second, .val (.long q2), .second, .val (.long q3), .second, .val (.long q4), .second, .val (.int p5), .val (.long q6), .second, .val (.ref b8), .unset, .unset, .unset, .unset, .unset, .unset, .unset, .unset, .unset, .unset, .unset, .unset, .unset, .unset, .unset, .unset, .unset, .unset, .unset, .unset] [(.long q4), (.long q3), (.int ((p5.toUInt32 >>> ((10 : Int32) &&& 31).toUInt32).toInt32)), (.int (3 : Int32)), (.ref b39), (.ref b39)])) (fun t k => XS.lload Xh60.here hx rfl (hb hby at_95) rfl k) ?_
  have sz61 : n0 ≤ h59.size := (Nat.le_trans sz53 (Keep.of_wr W59).1)
  obtain ⟨_, _, ⟨T62, L62, k62, n62⟩, -, X62, ⟨Lc62, hQ62, l62, y62, z62⟩, st62⟩ := Jvm.LawKit.callS Xh60 hx (y := (⟨"com/example/rangewise/rangewise/BuilderAddPinLaw", "pick", "(IJJ)J"⟩ : MethodName)) hown (mvT hZ (hw _ (ow 1 rfl))) (mvT hZ (hw _ (ow 2 rfl))) (mvT hZ (hw _ (ow 3 rfl))) (mvT hZ (hw _ (ow 4 rfl))) (by decide) (backOf (W := 3) (rm1 l Z a0 hw [] ((p5.toUInt32 >>> ((10 : Int32) &&& 31).toUInt32).toInt32) q3 q4 h59 n0 sz61 ) hZ (hw _ (ow 4 rfl)) (hw _ (ow 3 rfl)) (by decide) (by decide)) (g := (mkF m 97 #[.val (.long q1), .second, .val (.long q2), .second, .val (.long q3), .second, .val (.long q4), .second, .val (.int p5), .val (.long q6), .second, .val (.ref b8), .unset, .unset, .unset, .unset, .unset, .unset, .unset, .unset, .unset, .unset, .unset, .unset, .unset, .unset, .unset, .unset, .unset, .unset, .unset, .unset] [(.long q4), (.long q3), (.int ((p5.toUInt32 >>> ((10 : Int32) &&& 31).toUInt32).toInt32)), (.int (3 : Int32)), (.ref b39), (.ref b39)])) rfl (by rw [hml]; rfl) (argsL := [(.int ((p5.toUInt32 >>> ((10 : Int32) &&& 31).toUInt32).toInt32)), (.long q3), (.long q4)]) (rest := [(.int (3 : Int32)), (.ref b39), (.ref b39)]) (lenOf pd_0 rfl) rfl (by show 2 * 0 + _ ≤ _; exact Nat.le_of_eq rfl) (hb hby at_97) (fun _ _ => ⟨rfl, e59, (by decide : 2 + 0 ≤ _), (by decide : 8 + 0 ≤ _)⟩)
  dsimp only [Pt.U, Pt.locs, Pt.cells, Pt.slots] at X62 l62 y62 z62 st62 hQ62
  subst l62 y62 z62
  obtain ⟨rfl, N62q, e62⟩ := hQ62
  have N62 := Fr.app Nh60 N62q
  obtain ⟨Lh63, Xh63, Nh63⟩ := own_hide X62 N62
  obtain ⟨z64, hz64⟩ : ∃ z : Int64, z = (own_f1 ((p5.toUInt32 >>> ((10 : Int32) &&& 31).toUInt32).toInt32) q3 q4) := ⟨_, rfl⟩
  rw [← hz64] at st62
  refine own_pre (B := T62.setTop (mkF m 100 #[.val (.long q1), .second, .val (.long q2), .second, .val (.long q3), .second, .val (.long q4), .second, .val (.int p5), .val (.long q6), .second, .val (.ref b8), .unset, .unset, .unset, .unset, .unset, .unset, .unset, .unset, .unset, .unset, .unset, .unset, .unset, .unset, .unset, .unset, .unset, .unset, .unset, .unset] [(.long z64), (.int (3 : Int32)), (.ref b39), (.ref b39)])) (fun t k => st62 t k) ?_
  have K65 : Keep h0 h59 [] := (Keep.wr K57 W59 (Or.inr s_b39))
  obtain ⟨cl66, Ar66, q66, S66, N66v, H66v, G66v⟩ := V59
  have V59 : Arv Z h59 b39 k39 .long (4 : Int32) [(.long q2), (.long z48), (.long z56), (.long (0 : Int64))] (.long (0 : Int64)) := ⟨cl66, Ar66, q66, S66, N66v, H66v, G66v⟩
  have hin66 : ¬ ((3 : Int32) < 0 ∨ cl66.slots.size ≤ ((3 : Int32)).toNatClampNeg) := inb_of S66 ⟨by decide, by decide⟩
  obtain ⟨T67, h67, X67, e67, W67, st67⟩ := stJ Xh63 hx hZ e62 Ar66 (j := (3 : Int32)) hin66 (g := (mkF m 100 #[.val (.long q1), .second, .val (.long q2), .second, .val (.long q3), .second, .val (.long q4), .second, .val (.int p5), .val (.long q6), .second, .val (.ref b8), .unset, .unset, .unset, .unset, .unset, .unset, .unset, .unset, .unset, .unset, .unset, .unset, .unset, .unset, .unset, .unset, .unset, .unset, .unset, .unset] [(.long z64), (.int (3 : Int32)), (.ref b39), (.ref b39)])) rfl rfl (hb hby at_100)
  have V67 : Arv Z h67 b39 k39 .long (4 : Int32) [(.long q2), (.long z48), (.long z56), (.long z64)] (.long (0 : Int64)) := Arv.set Ar66 q66 S66 N66v H66v G66v rfl W67 3 rfl (Nat.le_of_ble_eq_true rfl)
  have N67 := Fr.snoc X67 Nh63 g_b39
  obtain ⟨Lh68, Xh68, Nh68⟩ := own_hide X67 N67
  refine own_pre (B := T67.setTop (mkF m 101 #[.val (.long q1), .second, .val (.long q2), .second, .val (.long q3), .second, .val (.long q4), .second, .val (.int p5), .val (.long q6), .second, .val (.ref b8), .unset, .unset, .unset, .unset, .unset, .unset, .unset, .unset, .unset, .unset, .unset, .unset, .unset, .unset, .unset, .unset, .unset, .unset, .unset, .unset] [(.ref b39)])) (fun t k => st67 t k) ?_
  refine own_pre (B := T67.setTop (mkF m 103 #[.val (.long q1), .second, .val (.long q2), .second, .val (.long q3), .second, .val (.long q4), .second, .val (.int p5), .val (.long q6), .second, .val (.ref b8), .val (.ref b39), .unset, .unset, .unset, .unset, .unset, .unset, .unset, .unset, .unset, .unset, .unset, .unset, .unset, .unset, .unset, .unset, .unset, .unset, .unset] [])) (fun t k => XS.astore Xh68.here hx rfl (hb hby at_101) rfl rfl (l' := #[.val (.long q1), .second, .val (.long q2), .second, .val (.long q3), .second, .val (.long q4), .second, .val (.int p5), .val (.long q6), .second, .val (.ref b8), .val (.ref b39), .unset, .unset, .unset, .unset, .unset, .unset, .unset, .unset, .unset, .unset, .unset, .unset, .unset, .unset, .unset, .unset, .unset, .unset, .unset]) rfl k) ?_
  refine own_pre (B := T67.setTop (mkF m 105 #[.val (.long q1), .second, .val (.long q2), .second, .val (.long q3), .second, .val (.long q4), .second, .val (.int p5), .val (.long q6), .second, .val (.ref b8), .val (.ref b39), .unset, .unset, .unset, .unset, .unset, .unset, .unset, .unset, .unset, .unset, .unset, .unset, .unset, .unset, .unset, .unset, .unset, .unset, .unset] [(.ref b8)])) (fun t k => XS.aload Xh68.here hx rfl (hb hby at_103) rfl rfl k) ?_
  refine own_pre (B := T67.setTop (mkF m 106 #[.val (.long q1), .second, .val (.long q2), .second, .val (.long q3), .second, .val (.long q4), .second, .val (.int p5), .val (.long q6), .second, .val (.ref b8), .val (.ref b39), .unset, .unset, .unset, .unset, .unset, .unset, .unset, .unset, .unset, .unset, .unset, .unset, .unset, .unset, .unset, .unset, .unset, .unset, .unset] [(.int (0 : Int32)), (.ref b8)])) (fun t k => XS.iconst Xh68.here hx rfl (hb hby at_105) k) ?_
  have c69 := (Arv.other (Arv.other (Arv.other (Arv.other (Arv.ext V35 E39) W43 ne40) W51 ne40) W59 ne40) W67 ne40)
  obtain ⟨cl70, Ar70, q70, S70, N70v, H70v, G70v⟩ := c69
  have c69 : Arv Z h67 b8 k8 .long (4 : Int32) [(.long q1), (.long z16), (.long z24), (.long z32)] (.long (0 : Int64)) := ⟨cl70, Ar70, q70, S70, N70v, H70v, G70v⟩
  have hin70 : ¬ ((0 : Int32) < 0 ∨ cl70.slots.size ≤ ((0 : Int32)).toNatClampNeg) := inb_of S70 ⟨by decide, by decide⟩
  have hat70 : cl70.slots[((0 : Int32)).toNatClampNeg]? = some (.long q1) := H70v.at hin70 rfl
  refine own_pre (B := T67.setTop (mkF m 107 #[.val (.long q1), .second, .val (.long q2), .second, .val (.long q3), .second, .val (.long q4), .second, .val (.int p5), .val (.long q6), .second, .val (.ref b8), .val (.ref b39), .unset, .unset, .unset, .unset, .unset, .unset, .unset, .unset, .unset, .unset, .unset, .unset, .unset, .unset, .unset, .unset, .unset, .unset, .unset] [(.long q1)])) (fun t k => Xh68.laload hx (j := (0 : Int32)) (v := (.long q1)) (by rw [e67]; exact Ar70.1) (State.isArrayOf_alike hZ.alike Ar70.2.1) Ar70.2.2 hin70 hat70 (g := (mkF m 106 #[.val (.long q1), .second, .val (.long q2), .second, .val (.long q3), .second, .val (.long q4), .second, .val (.int p5), .val (.long q6), .second, .val (.ref b8), .val (.ref b39), .unset, .unset, .unset, .unset, .unset, .unset, .unset, .unset, .unset, .unset, .unset, .unset, .unset, .unset, .unset, .unset, .unset, .unset, .unset] [(.int (0 : Int32)), (.ref b8)])) rfl rfl (hb hby at_106) t k) ?_
  refine own_pre (B := T67.setTop (mkF m 109 #[.val (.long q1), .second, .val (.long q2), .second, .val (.long q3), .second, .val (.long q4), .second, .val (.int p5), .val (.long q6), .second, .val (.ref b8), .val (.ref b39), .unset, .unset, .unset, .unset, .unset, .unset, .unset, .unset, .unset, .unset, .unset, .unset, .unset, .unset, .unset, .unset, .unset, .unset, .unset] [(.ref b39), (.long q1)])) (fun t k => XS.aload Xh68.here hx rfl (hb hby at_107) rfl rfl k) ?_
  refine own_pre (B := T67.setTop (mkF m 110 #[.val (.long q1), .second, .val (.long q2), .second, .val (.long q3), .second, .val (.long q4), .second, .val (.int p5), .val (.long q6), .second, .val (.ref b8), .val (.ref b39), .unset, .unset, .unset, .unset, .unset, .unset, .unset, .unset, .unset, .unset, .unset, .unset, .unset, .unset, .unset, .unset, .unset, .unset, .unset] [(.int (0 : Int32)), (.ref b39), (.long q1)])) (fun t k => XS.iconst Xh68.here hx rfl (hb hby at_109) k) ?_
  obtain ⟨cl71, Ar71, q71, S71, N71v, H71v, G71v⟩ := V67
  have V67 : Arv Z h67 b39 k39 .long (4 : Int32) [(.long q2), (.long z48), (.long z56), (.long z64)] (.long (0 : Int64)) := ⟨cl71, Ar71, q71, S71, N71v, H71v, G71v⟩
  have hin71 : ¬ ((0 : Int32) < 0 ∨ cl71.slots.size ≤ ((0 : Int32)).toNatClampNeg) := inb_of S71 ⟨by decide, by decide⟩
  have hat71 : cl71.slots[((0 : Int32)).toNatClampNeg]? = some (.long q2) := H71v.at hin71 rfl
  refine own_pre (B := T67.setTop (mkF m 111 #[.val (.long q1), .second, .val (.long q2), .second, .val (.long q3), .second, .val (.long q4), .second, .val (.int p5), .val (.long q6), .second, .val (.ref b8), .val (.ref b39), .unset, .unset, .unset, .unset, .unset, .unset, .unset, .unset, .unset, .unset, .unset, .unset, .unset, .unset, .unset, .unset, .unset, .unset, .unset] [(.long q2), (.long q1)])) (fun t k => Xh68.laload hx (j := (0 : Int32)) (v := (.long q2)) (by rw [e67]; exact Ar71.1) (State.isArrayOf_alike hZ.alike Ar71.2.1) Ar71.2.2 hin71 hat71 (g := (mkF m 110 #[.val (.long q1), .second, .val (.long q2), .second, .val (.long q3), .second, .val (.long q4), .second, .val (.int p5), .val (.long q6), .second, .val (.ref b8), .val (.ref b39), .unset, .unset, .unset, .unset, .unset, .unset, .unset, .unset, .unset, .unset, .unset, .unset, .unset, .unset, .unset, .unset, .unset, .unset, .unset] [(.int (0 : Int32)), (.ref b39), (.long q1)])) rfl rfl (hb hby at_110) t k) ?_
  refine own_pre (B := T67.setTop (mkF m 112 #[.val (.long q1), .second, .val (.long q2), .second, .val (.long q3), .second, .val (.long q4), .second, .val (.int p5), .val (.long q6), .second, .val (.ref b8), .val (.ref b39), .unset, .unset, .unset, .unset, .unset, .unset, .unset, .unset, .unset, .unset, .unset, .unset, .unset, .unset, .unset, .unset, .unset, .unset, .unset] [(.long (0 : Int64)), (.long q2), (.long q1)])) (fun t k => XS.lconst Xh68.here hx rfl (hb hby at_111) k) ?_
  have sz72 : n0 ≤ h67.size := (Nat.le_trans sz61 (Keep.of_wr W67).1)
  obtain ⟨_, _, ⟨T73, L73, k73, n73⟩, -, X73, ⟨Lc73, hQ73, l73, y73, z73⟩, st73⟩ := Jvm.LawKit.callS Xh68 hx (y := (⟨"com/example/rangewise/rangewise/BuilderAddPinLaw", "carryOut", "(JJJ)J"⟩ : MethodName)) hown (mvT hZ (hw _ (ow 5 rfl))) (mvT hZ (hw _ (ow 6 rfl))) (mvT hZ (hw _ (ow 3 rfl))) (mvT hZ (hw _ (ow 7 rfl))) (by decide) (backOf (W := 0) (rm2 l Z a0 hw [] q1 q2 (0 : Int64) h67 n0 sz72 ) hZ (hw _ (ow 7 rfl)) (hw _ (ow 3 rfl)) (by decide) (by decide)) (g := (mkF m 112 #[.val (.long q1), .second, .val (.long q2), .second, .val (.long q3), .second, .val (.long q4), .second, .val (.int p5), .val (.long q6), .second, .val (.ref b8), .val (.ref b39), .unset, .unset, .unset, .unset, .unset, .unset, .unset, .unset, .unset, .unset, .unset, .unset, .unset, .unset, .unset, .unset, .unset, .unset, .unset] [(.long (0 : Int64)), (.long q2), (.long q1)])) rfl (by rw [hml]; rfl) (argsL := [(.long q1), (.long q2), (.long (0 : Int64))]) (rest := []) (lenOf pd_1 rfl) rfl (by show 2 * 0 + _ ≤ _; exact Nat.le_of_eq rfl) (hb hby at_112) (fun _ _ => ⟨rfl, e67, (by decide : 2 + 0 ≤ _), (by decide : 8 + 0 ≤ _)⟩)
  dsimp only [Pt.U, Pt.locs, Pt.cells, Pt.slots] at X73 l73 y73 z73 st73 hQ73
  subst l73 y73 z73
  obtain ⟨rfl, N73q, e73⟩ := hQ73
  have N73 := Fr.app Nh68 N73q
  obtain ⟨Lh74, Xh74, Nh74⟩ := own_hide X73 N73
  obtain ⟨z75, hz75⟩ : ∃ z : Int64, z = (own_f2 q1 q2 (0 : Int64)) := ⟨_, rfl⟩
  rw [← hz75] at st73
  refine own_pre (B := T73.setTop (mkF m 115 #[.val (.long q1), .second, .val (.long q2), .second, .val (.long q3), .second, .val (.long q4), .second, .val (.int p5), .val (.long q6), .second, .val (.ref b8), .val (.ref b39), .unset, .unset, .unset, .unset, .unset, .unset, .unset, .unset, .unset, .unset, .unset, .unset, .unset, .unset, .unset, .unset, .unset, .unset, .unset] [(.long z75)])) (fun t k => st73 t k) ?_
  refine own_pre (B := T73.setTop (mkF m 117 #[.val (.long q1), .second, .val (.long q2), .second, .val (.long q3), .second, .val (.long q4), .second, .val (.int p5), .val (.long q6), .second, .val (.ref b8), .val (.ref b39), .val (.long z75), .second, .unset, .unset, .unset, .unset, .unset, .unset, .unset, .unset, .unset, .unset, .unset, .unset, .unset, .unset, .unset, .unset, .unset] [])) (fun t k => XS.lstore Xh74.here hx rfl (hb hby at_115) rfl (l' := #[.val (.long q1), .second, .val (.long q2), .second, .val (.long q3), .second, .val (.long q4), .second, .val (.int p5), .val (.long q6), .second, .val (.ref b8), .val (.ref b39), .val (.long z75), .second, .unset, .unset, .unset, .unset, .unset, .unset, .unset, .unset, .unset, .unset, .unset, .unset, .unset, .unset, .unset, .unset, .unset]) rfl k) ?_
  refine own_pre (B := T73.setTop (mkF m 119 #[.val (.long q1), .second, .val (.long q2), .second, .val (.long q3), .second, .val (.long q4), .second, .val (.int p5), .val (.long q6), .second, .val (.ref b8), .val (.ref b39), .val (.long z75), .second, .unset, .unset, .unset, .unset, .unset, .unset, .unset, .unset, .unset, .unset, .unset, .unset, .unset, .unset, .unset, .unset, .unset] [(.ref b8)])) (fun t k => XS.aload Xh74.here hx rfl (hb hby at_117) rfl rfl k) ?_
  refine own_pre (B := T73.setTop (mkF m 120 #[.val (.long q1), .second, .val (.long q2), .second, .val (.long q3), .second, .val (.long q4), .second, .val (.int p5), .val (.long q6), .second, .val (.ref b8), .val (.ref b39), .val (.long z75), .second, .unset, .unset, .unset, .unset, .unset, .unset, .unset, .unset, .unset, .unset, .unset, .unset, .unset, .unset, .unset, .unset, .unset] [(.int (0 : Int32)), (.ref b8)])) (fun t k => XS.iconst Xh74.here hx rfl (hb hby at_119) k) ?_
  obtain ⟨cl76, Ar76, q76, S76, N76v, H76v, G76v⟩ := c69
  have c69 : Arv Z h67 b8 k8 .long (4 : Int32) [(.long q1), (.long z16), (.long z24), (.long z32)] (.long (0 : Int64)) := ⟨cl76, Ar76, q76, S76, N76v, H76v, G76v⟩
  have hin76 : ¬ ((0 : Int32) < 0 ∨ cl76.slots.size ≤ ((0 : Int32)).toNatClampNeg) := inb_of S76 ⟨by decide, by decide⟩
  have hat76 : cl76.slots[((0 : Int32)).toNatClampNeg]? = some (.long q1) := H76v.at hin76 rfl
  refine own_pre (B := T73.setTop (mkF m 121 #[.val (.long q1), .second, .val (.long q2), .second, .val (.long q3), .second, .val (.long q4), .second, .val (.int p5), .val (.long q6), .second, .val (.ref b8), .val (.ref b39), .val (.long z75), .second, .unset, .unset, .unset, .unset, .unset, .unset, .unset, .unset, .unset, .unset, .unset, .unset, .unset, .unset, .unset, .unset, .unset] [(.long q1)])) (fun t k => Xh74.laload hx (j := (0 : Int32)) (v := (.long q1)) (by rw [e73]; exact Ar76.1) (State.isArrayOf_alike hZ.alike Ar76.2.1) Ar76.2.2 hin76 hat76 (g := (mkF m 120 #[.val (.long q1), .second, .val (.long q2), .second, .val (.long q3), .second, .val (.long q4), .second, .val (.int p5), .val (.long q6), .second, .val (.ref b8), .val (.ref b39), .val (.long z75), .second, .unset, .unset, .unset, .unset, .unset, .unset, .unset, .unset, .unset, .unset, .unset, .unset, .unset, .unset, .unset, .unset, .unset] [(.int (0 : Int32)), (.ref b8)])) rfl rfl (hb hby at_120) t k) ?_
  refine own_pre (B := T73.setTop (mkF m 123 #[.val (.long q1), .second, .val (.long q2), .second, .val (.long q3), .second, .val (.long q4), .second, .val (.int p5), .val (.long q6), .second, .val (.ref b8), .val (.ref b39), .val (.long z75), .second, .unset, .unset, .unset, .unset, .unset, .unset, .unset, .unset, .unset, .unset, .unset, .unset, .unset, .unset, .unset, .unset, .unset] [(.ref b39), (.long q1)])) (fun t k => XS.aload Xh74.here hx rfl (hb hby at_121) rfl rfl k) ?_
  refine own_pre (B := T73.setTop (mkF m 124 #[.val (.long q1), .second, .val (.long q2), .second, .val (.long q3), .second, .val (.long q4), .second, .val (.int p5), .val (.long q6), .second, .val (.ref b8), .val (.ref b39), .val (.long z75), .second, .unset, .unset, .unset, .unset, .unset, .unset, .unset, .unset, .unset, .unset, .unset, .unset, .unset, .unset, .unset, .unset, .unset] [(.int (0 : Int32)), (.ref b39), (.long q1)])) (fun t k => XS.iconst Xh74.here hx rfl (hb hby at_123) k) ?_
  obtain ⟨cl77, Ar77, q77, S77, N77v, H77v, G77v⟩ := V67
  have V67 : Arv Z h67 b39 k39 .long (4 : Int32) [(.long q2), (.long z48), (.long z56), (.long z64)] (.long (0 : Int64)) := ⟨cl77, Ar77, q77, S77, N77v, H77v, G77v⟩
  have hin77 : ¬ ((0 : Int32) < 0 ∨ cl77.slots.size ≤ ((0 : Int32)).toNatClampNeg) := inb_of S77 ⟨by decide, by decide⟩
  have hat77 : cl77.slots[((0 : Int32)).toNatClampNeg]? = some (.long q2) := H77v.at hin77 rfl
  refine own_pre (B := T73.setTop (mkF m 125 #[.val (.long q1), .second, .val (.long q2), .second, .val (.long q3), .second, .val (.long q4), .second, .val (.int p5), .val (.long q6), .second, .val (.ref b8), .val (.ref b39), .val (.long z75), .second, .unset, .unset, .unset, .unset, .unset, .unset, .unset, .unset, .unset, .unset, .unset, .unset, .unset, .unset, .unset, .unset, .unset] [(.long q2), (.long q1)])) (fun t k => Xh74.laload hx (j := (0 : Int32)) (v := (.long q2)) (by rw [e73]; exact Ar77.1) (State.isArrayOf_alike hZ.alike Ar77.2.1) Ar77.2.2 hin77 hat77 (g := (mkF m 124 #[.val (.long q1), .second, .val (.long q2), .second, .val (.long q3), .second, .val (.long q4), .second, .val (.int p5), .val (.long q6), .second, .val (.ref b8), .val (.ref b39), .val (.long z75), .second, .unset, .unset, .unset, .unset, .unset, .unset, .unset, .unset, .unset, .unset, .unset, .unset, .unset, .unset, .unset, .unset, .unset] [(.int (0 : Int32)), (.ref b39), (.long q1)])) rfl rfl (hb hby at_124) t k) ?_
  refine own_pre (B := T73.setTop (mkF m 126 #[.val (.long q1), .second, .val (.long q2), .second, .val (.long q3), .second, .val (.long q4), .second, .val (.int p5), .val (.long q6), .second, .val (.ref b8), .val (.ref b39), .val (.long z75), .second, .unset, .unset, .unset, .unset, .unset, .unset, .unset, .unset, .unset, .unset, .unset, .unset, .unset, .unset, .unset, .unset, .unset] [(.long (q1 + q2))])) (fun t k => XS.ladd Xh74.here hx rfl (hb hby at_125) rfl k) ?_
  refine own_pre (B := T73.setTop (mkF m 128 #[.val (.long q1), .second, .val (.long q2), .second, .val (.long q3), .second, .val (.long q4), .second, .val (.int p5), .val (.long q6), .second, .val (.ref b8), .val (.ref b39), .val (.long z75), .second, .val (.long (q1 + q2)), .second, .unset, .unset, .unset, .unset, .unset, .unset, .unset, .unset, .unset, .unset, .unset, .unset, .unset, .unset, .unset] [])) (fun t k => XS.lstore Xh74.here hx rfl (hb hby at_126) rfl (l' := #[.val (.long q1), .second, .val (.long q2), .second, .val (.long q3), .second, .val (.long q4), .second, .val (.int p5), .val (.long q6), .second, .val (.ref b8), .val (.ref b39), .val (.long z75), .second, .val (.long (q1 + q2)), .second, .unset, .unset, .unset, .unset, .unset, .unset, .unset, .unset, .unset, .unset, .unset, .unset, .unset, .unset, .unset]) rfl k) ?_
  refine own_pre (B := T73.setTop (mkF m 130 #[.val (.long q1), .second, .val (.long q2), .second, .val (.long q3), .second, .val (.long q4), .second, .val (.int p5), .val (.long q6), .second, .val (.ref b8), .val (.ref b39), .val (.long z75), .second, .val (.long (q1 + q2)), .second, .unset, .unset, .unset, .unset, .unset, .unset, .unset, .unset, .unset, .unset, .unset, .unset, .unset, .unset, .unset] [(.ref b8)])) (fun t k => XS.aload Xh74.here hx rfl (hb hby at_128) rfl rfl k) ?_
  refine own_pre (B := T73.setTop (mkF m 131 #[.val (.long q1), .second, .val (.long q2), .second, .val (.long q3), .second, .val (.long q4), .second, .val (.int p5), .val (.long q6), .second, .val (.ref b8), .val (.ref b39), .val (.long z75), .second, .val (.long (q1 + q2)), .second, .unset, .unset, .unset, .unset, .unset, .unset, .unset, .unset, .unset, .unset, .unset, .unset, .unset, .unset, .unset] [(.int (1 : Int32)), (.ref b8)])) (fun t k => XS.iconst Xh74.here hx rfl (hb hby at_130) k) ?_
  obtain ⟨cl78, Ar78, q78, S78, N78v, H78v, G78v⟩ := c69
  have c69 : Arv Z h67 b8 k8 .long (4 : Int32) [(.long q1), (.long z16), (.long z24), (.long z32)] (.long (0 : Int64)) := ⟨cl78, Ar78, q78, S78, N78v, H78v, G78v⟩
  have hin78 : ¬ ((1 : Int32) < 0 ∨ cl78.slots.size ≤ ((1 : Int32)).toNatClampNeg) := inb_of S78 ⟨by decide, by decide⟩
  have hat78 : cl78.slots[((1 : Int32)).toNatClampNeg]? = some (.long z16) := H78v.at hin78 rfl
  refine own_pre (B := T73.setTop (mkF m 132 #[.val (.long q1), .second, .val (.long q2), .second, .val (.long q3), .second, .val (.long q4), .second, .val (.int p5), .val (.long q6), .second, .val (.ref b8), .val (.ref b39), .val (.long z75), .second, .val (.long (q1 + q2)), .second, .unset, .unset, .unset, .unset, .unset, .unset, .unset, .unset, .unset, .unset, .unset, .unset, .unset, .unset, .unset] [(.long z16)])) (fun t k => Xh74.laload hx (j := (1 : Int32)) (v := (.long z16)) (by rw [e73]; exact Ar78.1) (State.isArrayOf_alike hZ.alike Ar78.2.1) Ar78.2.2 hin78 hat78 (g := (mkF m 131 #[.val (.long q1), .second, .val (.long q2), .second, .val (.long q3), .second, .val (.long q4), .second, .val (.int p5), .val (.long q6), .second, .val (.ref b8), .val (.ref b39), .val (.long z75), .second, .val (.long (q1 + q2)), .second, .unset, .unset, .unset, .unset, .unset, .unset, .unset, .unset, .unset, .unset, .unset, .unset, .unset, .unset, .unset] [(.int (1 : Int32)), (.ref b8)])) rfl rfl (hb hby at_131) t k) ?_
  refine own_pre (B := T73.setTop (mkF m 134 #[.val (.long q1), .second, .val (.long q2), .second, .val (.long q3), .second, .val (.long q4), .second, .val (.int p5), .val (.long q6), .second, .val (.ref b8), .val (.ref b39), .val (.long z75), .second, .val (.long (q1 + q2)), .second, .unset, .unset, .unset, .unset, .unset, .unset, .unset, .unset, .unset, .unset, .unset, .unset, .unset, .unset, .unset] [(.ref b39), (.long z16)])) (fun t k => XS.aload Xh74.here hx rfl (hb hby at_132) rfl rfl k) ?_
  refine own_pre (B := T73.setTop (mkF m 135 #[.val (.long q1), .second, .val (.long q2), .second, .val (.long q3), .second, .val (.long q4), .second, .val (.int p5), .val (.long q6), .second, .val (.ref b8), .val (.ref b39), .val (.long z75), .second, .val (.long (q1 + q2)), .second, .unset, .unset, .unset, .unset, .unset, .unset, .unset, .unset, .unset, .unset, .unset, .unset, .unset, .unset, .unset] [(.int (1 : Int32)), (.ref b39), (.long z16)])) (fun t k => XS.iconst Xh74.here hx rfl (hb hby at_134) k) ?_
  obtain ⟨cl79, Ar79, q79, S79, N79v, H79v, G79v⟩ := V67
  have V67 : Arv Z h67 b39 k39 .long (4 : Int32) [(.long q2), (.long z48), (.long z56), (.long z64)] (.long (0 : Int64)) := ⟨cl79, Ar79, q79, S79, N79v, H79v, G79v⟩
  have hin79 : ¬ ((1 : Int32) < 0 ∨ cl79.slots.size ≤ ((1 : Int32)).toNatClampNeg) := inb_of S79 ⟨by decide, by decide⟩
  have hat79 : cl79.slots[((1 : Int32)).toNatClampNeg]? = some (.long z48) := H79v.at hin79 rfl
  refine own_pre (B := T73.setTop (mkF m 136 #[.val (.long q1), .second, .val (.long q2), .second, .val (.long q3), .second, .val (.long q4), .second, .val (.int p5), .val (.long q6), .second, .val (.ref b8), .val (.ref b39), .val (.long z75), .second, .val (.long (q1 + q2)), .second, .unset, .unset, .unset, .unset, .unset, .unset, .unset, .unset, .unset, .unset, .unset, .unset, .unset, .unset, .unset] [(.long z48), (.long z16)])) (fun t k => Xh74.laload hx (j := (1 : Int32)) (v := (.long z48)) (by rw [e73]; exact Ar79.1) (State.isArrayOf_alike hZ.alike Ar79.2.1) Ar79.2.2 hin79 hat79 (g := (mkF m 135 #[.val (.long q1), .second, .val (.long q2), .second, .val (.long q3), .second, .val (.long q4), .second, .val (.int p5), .val (.long q6), .second, .val (.ref b8), .val (.ref b39), .val (.long z75), .second, .val (.long (q1 + q2)), .second, .unset, .unset, .unset, .unset, .unset, .unset, .unset, .unset, .unset, .unset, .unset, .unset, .unset, .unset, .unset] [(.int (1 : Int32)), (.ref b39), (.long z16)])) rfl rfl (hb hby at_135) t k) ?_
  refine own_pre (B := T73.setTop (mkF m 138 #[.val (.long q1), .second, .val (.long q2), .second, .val (.long q3), .second, .val (.long q4), .second, .val (.int p5), .val (.long q6), .second, .val (.ref b8), .val (.ref b39), .val (.long z75), .second, .val (.long (q1 + q2)), .second, .unset, .unset, .unset, .unset, .unset, .unset, .unset, .unset, .unset, .unset, .unset, .unset, .unset, .unset, .unset] [(.long z75), (.long z48), (.long z16)])) (fun t k => XS.lload Xh74.here hx rfl (hb hby at_136) rfl k) ?_
  obtain ⟨_, _, ⟨T80, L80, k80, n80⟩, -, X80, ⟨Lc80, hQ80, l80, y80, z80⟩, st80⟩ := Jvm.LawKit.callS Xh74 hx (y := (⟨"com/example/rangewise/rangewise/BuilderAddPinLaw", "carryOut", "(JJJ)J"⟩ : MethodName)) hown (mvT hZ (hw _ (ow 5 rfl))) (mvT hZ (hw _ (ow 6 rfl))) (mvT hZ (hw _ (ow 3 rfl))) (mvT hZ (hw _ (ow 7 rfl))) (by decide) (backOf (W := 0) (rm2 l Z a0 hw [] z16 z48 z75 h67 n0 sz72 ) hZ (hw _ (ow 7 rfl)) (hw _ (ow 3 rfl)) (by decide) (by decide)) (g := (mkF m 138 #[.val (.long q1), .second, .val (.long q2), .second, .val (.long q3), .second, .val (.long q4), .second, .val (.int p5), .val (.long q6), .second, .val (.ref b8), .val (.ref b39), .val (.long z75), .second, .val (.long (q1 + q2)), .second, .unset, .unset, .unset, .unset, .unset, .unset, .unset, .unset, .unset, .unset, .unset, .unset, .unset, .unset, .unset] [(.long z75), (.long z48), (.long z16)])) rfl (by rw [hml]; rfl) (argsL := [(.long z16), (.long z48), (.long z75)]) (rest := []) (lenOf pd_1 rfl) rfl (by show 2 * 0 + _ ≤ _; exact Nat.le_of_eq rfl) (hb hby at_138) (fun _ _ => ⟨rfl, e73, (by decide : 2 + 0 ≤ _), (by decide : 8 + 0 ≤ _)⟩)
  dsimp only [Pt.U, Pt.locs, Pt.cells, Pt.slots] at X80 l80 y80 z80 st80 hQ80
  subst l80 y80 z80
  obtain ⟨rfl, N80q, e80⟩ := hQ80
  have N80 := Fr.app Nh74 N80q
  obtain ⟨Lh81, Xh81, Nh81⟩ := own_hide X80 N80
  obtain ⟨z82, hz82⟩ : ∃ z : Int64, z = (own_f2 z16 z48 z75) := ⟨_, rfl⟩
  rw [← hz82] at st80
  refine own_pre (B := T80.setTop (mkF m 141 #[.val (.long q1), .second, .val (.long q2), .second, .val (.long q3), .second, .val (.long q4), .second, .val (.int p5), .val (.long q6), .second, .val (.ref b8), .val (.ref b39), .val (.long z75), .second, .val (.long (q1 + q2)), .second, .unset, .unset, .unset, .unset, .unset, .unset, .unset, .unset, .unset, .unset, .unset, .unset, .unset, .unset, .unset] [(.long z82)])) (fun t k => st80 t k) ?_
  refine own_pre (B := T80.setTop (mkF m 143 #[.val (.long q1), .second, .val (.long q2), .second, .val (.long q3), .second, .val (.long q4), .second, .val (.int p5), .val (.long q6), .second, .val (.ref b8), .val (.ref b39), .val (.long z75), .second, .val (.long (q1 + q2)), .second, .val (.long z82), .second, .unset, .unset, .unset, .unset, .unset, .unset, .unset, .unset, .unset, .unset, .unset, .unset, .unset] [])) (fun t k => XS.lstore Xh81.here hx rfl (hb hby at_141) rfl (l' := #[.val (.long q1), .second, .val (.long q2), .second, .val (.long q3), .second, .val (.long q4), .second, .val (.int p5), .val (.long q6), .second, .val (.ref b8), .val (.ref b39), .val (.long z75), .second, .val (.long (q1 + q2)), .second, .val (.long z82), .second, .unset, .unset, .unset, .unset, .unset, .unset, .unset, .unset, .unset, .unset, .unset, .unset, .unset]) rfl k) ?_
  refine own_pre (B := T80.setTop (mkF m 145 #[.val (.long q1), .second, .val (.long q2), .second, .val (.long q3), .second, .val (.long q4), .second, .val (.int p5), .val (.long q6), .second, .val (.ref b8), .val (.ref b39), .val (.long z75), .second, .val (.long (q1 + q2)), .second, .val (.long z82), .second, .unset, .unset, .unset, .unset, .unset, .unset, .unset, .unset, .unset, .unset, .unset, .unset, .unset] [(.ref b8)])) (fun t k => XS.aload Xh81.here hx rfl (hb hby at_143) rfl rfl k) ?_
  refine own_pre (B := T80.setTop (mkF m 146 #[.val (.long q1), .second, .val (.long q2), .second, .val (.long q3), .second, .val (.long q4), .second, .val (.int p5), .val (.long q6), .second, .val (.ref b8), .val (.ref b39), .val (.long z75), .second, .val (.long (q1 + q2)), .second, .val (.long z82), .second, .unset, .unset, .unset, .unset, .unset, .unset, .unset, .unset, .unset, .unset, .unset, .unset, .unset] [(.int (1 : Int32)), (.ref b8)])) (fun t k => XS.iconst Xh81.here hx rfl (hb hby at_145) k) ?_
  obtain ⟨cl83, Ar83, q83, S83, N83v, H83v, G83v⟩ := c69
  have c69 : Arv Z h67 b8 k8 .long (4 : Int32) [(.long q1), (.long z16), (.long z24), (.long z32)] (.long (0 : Int64)) := ⟨cl83, Ar83, q83, S83, N83v, H83v, G83v⟩
  have hin83 : ¬ ((1 : Int32) < 0 ∨ cl83.slots.size ≤ ((1 : Int32)).toNatClampNeg) := inb_of S83 ⟨by decide, by decide⟩
  have hat83 : cl83.slots[((1 : Int32)).toNatClampNeg]? = some (.long z16) := H83v.at hin83 rfl
  refine own_pre (B := T80.setTop (mkF m 147 #[.val (.long q1), .second, .val (.long q2), .second, .val (.long q3), .second, .val (.long q4), .second, .val (.int p5), .val (.long q6), .second, .val (.ref b8), .val (.ref b39), .val (.long z75), .second, .val (.long (q1 + q2)), .second, .val (.long z82), .second, .unset, .unset, .unset, .unset, .unset, .unset, .unset, .unset, .unset, .unset, .unset, .unset, .unset] [(.long z16)])) (fun t k => Xh81.laload hx (j := (1 : Int32)) (v := (.long z16)) (by rw [e80]; exact Ar83.1) (State.isArrayOf_alike hZ.alike Ar83.2.1) Ar83.2.2 hin83 hat83 (g := (mkF m 146 #[.val (.long q1), .second, .val (.long q2), .second, .val (.long q3), .second, .val (.long q4), .second, .val (.int p5), .val (.long q6), .second, .val (.ref b8), .val (.ref b39), .val (.long z75), .second, .val (.long (q1 + q2)), .second, .val (.long z82), .second, .unset, .unset, .unset, .unset, .unset, .unset, .unset, .unset, .unset, .unset, .unset, .unset, .unset] [(.int (1 : Int32)), (.ref b8)])) rfl rfl (hb hby at_146) t k) ?_
  refine own_pre (B := T80.setTop (mkF m 149 #[.val (.long q1), .second, .val (.long q2), .second, .val (.long q3), .second, .val (.long q4), .second, .val (.int p5), .val (.long q6), .second, .val (.ref b8), .val (.ref b39), .val (.long z75), .second, .val (.long (q1 + q2)), .second, .val (.long z82), .second, .unset, .unset, .unset, .unset, .unset, .unset, .unset, .unset, .unset, .unset, .unset, .unset, .unset] [(.ref b39), (.long z16)])) (fun t k => XS.aload Xh81.here hx rfl (hb hby at_147) rfl rfl k) ?_
  refine own_pre (B := T80.setTop (mkF m 150 #[.val (.long q1), .second, .val (.long q2), .second, .val (.long q3), .second, .val (.long q4), .second, .val (.int p5), .val (.long q6), .second, .val (.ref b8), .val (.ref b39), .val (.long z75), .second, .val (.long (q1 + q2)), .second, .val (.long z82), .second, .unset, .unset, .unset, .unset, .unset, .unset, .unset, .unset, .unset, .unset, .unset, .unset, .unset] [(.int (1 : Int32)), (.ref b39), (.long z16)])) (fun t k => XS.iconst Xh81.here hx rfl (hb hby at_149) k) ?_
  obtain ⟨cl84, Ar84, q84, S84, N84v, H84v, G84v⟩ := V67
  have V67 : Arv Z h67 b39 k39 .long (4 : Int32) [(.long q2), (.long z48), (.long z56), (.long z64)] (.long (0 : Int64)) := ⟨cl84, Ar84, q84, S84, N84v, H84v, G84v⟩
  have hin84 : ¬ ((1 : Int32) < 0 ∨ cl84.slots.size ≤ ((1 : Int32)).toNatClampNeg) := inb_of S84 ⟨by decide, by decide⟩
  have hat84 : cl84.slots[((1 : Int32)).toNatClampNeg]? = some (.long z48) := H84v.at hin84 rfl
  refine own_pre (B := T80.setTop (mkF m 151 #[.val (.long q1), .second, .val (.long q2), .second, .val (.long q3), .second, .val (.long q4), .second, .val (.int p5), .val (.long q6), .second, .val (.ref b8), .val (.ref b39), .val (.long z75), .second, .val (.long (q1 + q2)), .second, .val (.long z82), .second, .unset, .unset, .unset, .unset, .unset, .unset, .unset, .unset, .unset, .unset, .unset, .unset, .unset] [(.long z48), (.long z16)])) (fun t k => Xh81.laload hx (j := (1 : Int32)) (v := (.long z48)) (by rw [e80]; exact Ar84.1) (State.isArrayOf_alike hZ.alike Ar84.2.1) Ar84.2.2 hin84 hat84 (g := (mkF m 150 #[.val (.long q1), .second, .val (.long q2), .second, .val (.long q3), .second, .val (.long q4), .second, .val (.int p5), .val (.long q6), .second, .val (.ref b8), .val (.ref b39), .val (.long z75), .second, .val (.long (q1 + q2)), .second, .val (.long z82), .second, .unset, .unset, .unset, .unset, .unset, .unset, .unset, .unset, .unset, .unset, .unset, .unset, .unset] [(.int (1 : Int32)), (.ref b39), (.long z16)])) rfl rfl (hb hby at_150) t k) ?_
  refine own_pre (B := T80.setTop (mkF m 152 #[.val (.long q1), .second, .val (.long q2), .second, .val (.long q3), .second, .val (.long q4), .second, .val (.int p5), .val (.long q6), .second, .val (.ref b8), .val (.ref b39), .val (.long z75), .second, .val (.long (q1 + q2)), .second, .val (.long z82), .second, .unset, .unset, .unset, .unset, .unset, .unset, .unset, .unset, .unset, .unset, .unset, .unset, .unset] [(.long (z16 + z48))])) (fun t k => XS.ladd Xh81.here hx rfl (hb hby at_151) rfl k) ?_
  refine own_pre (B := T80.setTop (mkF m 154 #[.val (.long q1), .second, .val (.long q2), .second, .val (.long q3), .second, .val (.long q4), .second, .val (.int p5), .val (.long q6), .second, .val (.ref b8), .val (.ref b39), .val (.long z75), .second, .val (.long (q1 + q2)), .second, .val (.long z82), .second, .unset, .unset, .unset, .unset, .unset, .unset, .unset, .unset, .unset, .unset, .unset, .unset, .unset] [(.long z75), (.long (z16 + z48))])) (fun t k => XS.lload Xh81.here hx rfl (hb hby at_152) rfl k) ?_
  refine own_pre (B := T80.setTop (mkF m 155 #[.val (.long q1), .second, .val (.long q2), .second, .val (.long q3), .second, .val (.long q4), .second, .val (.int p5), .val (.long q6), .second, .val (.ref b8), .val (.ref b39), .val (.long z75), .second, .val (.long (q1 + q2)), .second, .val (.long z82), .second, .unset, .unset, .unset, .unset, .unset, .unset, .unset, .unset, .unset, .unset, .unset, .unset, .unset] [(.long ((z16 + z48) + z75))])) (fun t k => XS.ladd Xh81.here hx rfl (hb hby at_154) rfl k) ?_
  refine own_pre (B := T80.setTop (mkF m 157 #[.val (.long q1), .second, .val (.long q2), .second, .val (.long q3), .second, .val (.long q4), .second, .val (.int p5), .val (.long q6), .second, .val (.ref b8), .val (.ref b39), .val (.long z75), .second, .val (.long (q1 + q2)), .second, .val (.long z82), .second, .val (.long ((z16 + z48) + z75)), .second, .unset, .unset, .unset, .unset, .unset, .unset, .unset, .unset, .unset, .unset, .unset] [])) (fun t k => XS.lstore Xh81.here hx rfl (hb hby at_155) rfl (l' := #[.val (.long q1), .second, .val (.long q2), .second, .val (.long q3), .second, .val (.long q4), .second, .val (.int p5), .val (.long q6), .second, .val (.ref b8), .val (.ref b39), .val (.long z75), .second, .val (.long (q1 + q2)), .second, .val (.long z82), .second, .val (.long ((z16 + z48) + z75)), .second, .unset, .unset, .unset, .unset, .unset, .unset, .unset, .unset, .unset, .unset, .unset]) rfl k) ?_
  refine own_pre (B := T80.setTop (mkF m 159 #[.val (.long q1), .second, .val (.long q2), .second, .val (.long q3), .second, .val (.long q4), .second, .val (.int p5), .val (.long q6), .second, .val (.ref b8), .val (.ref b39), .val (.long z75), .second, .val (.long (q1 + q2)), .second, .val (.long z82), .second, .val (.long ((z16 + z48) + z75)), .second, .unset, .unset, .unset, .unset, .unset, .unset, .unset, .unset, .unset, .unset, .unset] [(.ref b8)])) (fun t k => XS.aload Xh81.here hx rfl (hb hby at_157) rfl rfl k) ?_
  refine own_pre (B := T80.setTop (mkF m 160 #[.val (.long q1), .second, .val (.long q2), .second, .val (.long q3), .second, .val (.long q4), .second, .val (.int p5), .val (.long q6), .second, .val (.ref b8), .val (.ref b39), .val (.long z75), .second, .val (.long (q1 + q2)), .second, .val (.long z82), .second, .val (.long ((z16 + z48) + z75)), .second, .unset, .unset, .unset, .unset, .unset, .unset, .unset, .unset, .unset, .unset, .unset] [(.int (2 : Int32)), (.ref b8)])) (fun t k => XS.iconst Xh81.here hx rfl (hb hby at_159) k) ?_
  obtain ⟨cl85, Ar85, q85, S85, N85v, H85v, G85v⟩ := c69
  have c69 : Arv Z h67 b8 k8 .long (4 : Int32) [(.long q1), (.long z16), (.long z24), (.long z32)] (.long (0 : Int64)) := ⟨cl85, Ar85, q85, S85, N85v, H85v, G85v⟩
  have hin85 : ¬ ((2 : Int32) < 0 ∨ cl85.slots.size ≤ ((2 : Int32)).toNatClampNeg) := inb_of S85 ⟨by decide, by decide⟩
  have hat85 : cl85.slots[((2 : Int32)).toNatClampNeg]? = some (.long z24) := H85v.at hin85 rfl
  refine own_pre (B := T80.setTop (mkF m 161 #[.val (.long q1), .second, .val (.long q2), .second, .val (.long q3), .second, .val (.long q4), .second, .val (.int p5), .val (.long q6), .second, .val (.ref b8), .val (.ref b39), .val (.long z75), .second, .val (.long (q1 + q2)), .second, .val (.long z82), .second, .val (.long ((z16 + z48) + z75)), .second, .unset, .unset, .unset, .unset, .unset, .unset, .unset, .unset, .unset, .unset, .unset] [(.long z24)])) (fun t k => Xh81.laload hx (j := (2 : Int32)) (v := (.long z24)) (by rw [e80]; exact Ar85.1) (State.isArrayOf_alike hZ.alike Ar85.2.1) Ar85.2.2 hin85 hat85 (g := (mkF m 160 #[.val (.long q1), .second, .val (.long q2), .second, .val (.long q3), .second, .val (.long q4), .second, .val (.int p5), .val (.long q6), .second, .val (.ref b8), .val (.ref b39), .val (.long z75), .second, .val (.long (q1 + q2)), .second, .val (.long z82), .second, .val (.long ((z16 + z48) + z75)), .second, .unset, .unset, .unset, .unset, .unset, .unset, .unset, .unset, .unset, .unset, .unset] [(.int (2 : Int32)), (.ref b8)])) rfl rfl (hb hby at_160) t k) ?_
  refine own_pre (B := T80.setTop (mkF m 163 #[.val (.long q1), .second, .val (.long q2), .second, .val (.long q3), .second, .val (.long q4), .second, .val (.int p5), .val (.long q6), .second, .val (.ref b8), .val (.ref b39), .val (.long z75), .second, .val (.long (q1 + q2)), .second, .val (.long z82), .second, .val (.long ((z16 + z48) + z75)), .second, .unset, .unset, .unset, .unset, .unset, .unset, .unset, .unset, .unset, .unset, .unset] [(.ref b39), (.long z24)])) (fun t k => XS.aload Xh81.here hx rfl (hb hby at_161) rfl rfl k) ?_
  refine own_pre (B := T80.setTop (mkF m 164 #[.val (.long q1), .second, .val (.long q2), .second, .val (.long q3), .second, .val (.long q4), .second, .val (.int p5), .val (.long q6), .second, .val (.ref b8), .val (.ref b39), .val (.long z75), .second, .val (.long (q1 + q2)), .second, .val (.long z82), .second, .val (.long ((z16 + z48) + z75)), .second, .unset, .unset, .unset, .unset, .unset, .unset, .unset, .unset, .unset, .unset, .unset] [(.int (2 : Int32)), (.ref b39), (.long z24)])) (fun t k => XS.iconst Xh81.here hx rfl (hb hby at_163) k) ?_
  obtain ⟨cl86, Ar86, q86, S86, N86v, H86v, G86v⟩ := V67
  have V67 : Arv Z h67 b39 k39 .long (4 : Int32) [(.long q2), (.long z48), (.long z56), (.long z64)] (.long (0 : Int64)) := ⟨cl86, Ar86, q86, S86, N86v, H86v, G86v⟩
  have hin86 : ¬ ((2 : Int32) < 0 ∨ cl86.slots.size ≤ ((2 : Int32)).toNatClampNeg) := inb_of S86 ⟨by decide, by decide⟩
  have hat86 : cl86.slots[((2 : Int32)).toNatClampNeg]? = some (.long z56) := H86v.at hin86 rfl
  refine own_pre (B := T80.setTop (mkF m 165 #[.val (.long q1), .second, .val (.long q2), .second, .val (.long q3), .second, .val (.long q4), .second, .val (.int p5), .val (.long q6), .second, .val (.ref b8), .val (.ref b39), .val (.long z75), .second, .val (.long (q1 + q2)), .second, .val (.long z82), .second, .val (.long ((z16 + z48) + z75)), .second, .unset, .unset, .unset, .unset, .unset, .unset, .unset, .unset, .unset, .unset, .unset] [(.long z56), (.long z24)])) (fun t k => Xh81.laload hx (j := (2 : Int32)) (v := (.long z56)) (by rw [e80]; exact Ar86.1) (State.isArrayOf_alike hZ.alike Ar86.2.1) Ar86.2.2 hin86 hat86 (g := (mkF m 164 #[.val (.long q1), .second, .val (.long q2), .second, .val (.long q3), .second, .val (.long q4), .second, .val (.int p5), .val (.long q6), .second, .val (.ref b8), .val (.ref b39), .val (.long z75), .second, .val (.long (q1 + q2)), .second, .val (.long z82), .second, .val (.long ((z16 + z48) + z75)), .second, .unset, .unset, .unset, .unset, .unset, .unset, .unset, .unset, .unset, .unset, .unset] [(.int (2 : Int32)), (.ref b39), (.long z24)])) rfl rfl (hb hby at_164) t k) ?_
  refine own_pre (B := T80.setTop (mkF m 167 #[.val (.long q1), .second, .val (.long q2), .second, .val (.long q3), .second, .val (.long q4), .second, .val (.int p5), .val (.long q6), .second, .val (.ref b8), .val (.ref b39), .val (.long z75), .second, .val (.long (q1 + q2)), .second, .val (.long z82), .second, .val (.long ((z16 + z48) + z75)), .second, .unset, .unset, .unset, .unset, .unset, .unset, .unset, .unset, .unset, .unset, .unset] [(.long z82), (.long z56), (.long z24)])) (fun t k => XS.lload Xh81.here hx rfl (hb hby at_165) rfl k) ?_
  obtain ⟨_, _, ⟨T87, L87, k87, n87⟩, -, X87, ⟨Lc87, hQ87, l87, y87, z87⟩, st87⟩ := Jvm.LawKit.callS Xh81 hx (y := (⟨"com/example/rangewise/rangewise/BuilderAddPinLaw", "carryOut", "(JJJ)J"⟩ : MethodName)) hown (mvT hZ (hw _ (ow 5 rfl))) (mvT hZ (hw _ (ow 6 rfl))) (mvT hZ (hw _ (ow 3 rfl))) (mvT hZ (hw _ (ow 7 rfl))) (by decide) (backOf (W := 0) (rm2 l Z a0 hw [] z24 z56 z82 h67 n0 sz72 ) hZ (hw _ (ow 7 rfl)) (hw _ (ow 3 rfl)) (by decide) (by decide)) (g := (mkF m 167 #[.val (.long q1), .second, .val (.long q2), .second, .val (.long q3), .second, .val (.long q4), .second, .val (.int p5), .val (.long q6), .second, .val (.ref b8), .val (.ref b39), .val (.long z75), .second, .val (.long (q1 + q2)), .second, .val (.long z82), .second, .val (.long ((z16 + z48) + z75)), .second, .unset, .unset, .unset, .unset, .unset, .unset, .unset, .unset, .unset, .unset, .unset] [(.long z82), (.long z56), (.long z24)])) rfl (by rw [hml]; rfl) (argsL := [(.long z24), (.long z56), (.long z82)]) (rest := []) (lenOf pd_1 rfl) rfl (by show 2 * 0 + _ ≤ _; exact Nat.le_of_eq rfl) (hb hby at_167) (fun _ _ => ⟨rfl, e80, (by decide : 2 + 0 ≤ _), (by decide : 8 + 0 ≤ _)⟩)
  dsimp only [Pt.U, Pt.locs, Pt.cells, Pt.slots] at X87 l87 y87 z87 st87 hQ87
  subst l87 y87 z87
  obtain ⟨rfl, N87q, e87⟩ := hQ87
  have N87 := Fr.app Nh81 N87q
  obtain ⟨Lh88, Xh88, Nh88⟩ := own_hide X87 N87
  obtain ⟨z89, hz89⟩ : ∃ z : Int64, z = (own_f2 z24 z56 z82) := ⟨_, rfl⟩
  rw [← hz89] at st87
  refine own_pre (B := T87.setTop (mkF m 170 #[.val (.long q1), .second, .val (.long q2), .second, .val (.long q3), .second, .val (.long q4), .second, .val (.int p5), .val (.long q6), .second, .val (.ref b8), .val (.ref b39), .val (.long z75), .second, .val (.long (q1 + q2)), .second, .val (.long z82), .second, .val (.long ((z16 + z48) + z75)), .second, .unset, .unset, .unset, .unset, .unset, .unset, .unset, .unset, .unset, .unset, .unset] [(.long z89)])) (fun t k => st87 t k) ?_
  refine own_pre (B := T87.setTop (mkF m 172 #[.val (.long q1), .second, .val (.long q2), .second, .val (.long q3), .second, .val (.long q4), .second, .val (.int p5), .val (.long q6), .second, .val (.ref b8), .val (.ref b39), .val (.long z75), .second, .val (.long (q1 + q2)), .second, .val (.long z82), .second, .val (.long ((z16 + z48) + z75)), .second, .val (.long z89), .second, .unset, .unset, .unset, .unset, .unset, .unset, .unset, .unset, .unset] [])) (fun t k => XS.lstore Xh88.here hx rfl (hb hby at_170) rfl (l' := #[.val (.long q1), .second, .val (.long q2), .second, .val (.long q3), .second, .val (.long q4), .second, .val (.int p5), .val (.long q6), .second, .val (.ref b8), .val (.ref b39), .val (.long z75), .second, .val (.long (q1 + q2)), .second, .val (.long z82), .second, .val (.long ((z16 + z48) + z75)), .second, .val (.long z89), .second, .unset, .unset, .unset, .unset, .unset, .unset, .unset, .unset, .unset]) rfl k) ?_
  refine own_pre (B := T87.setTop (mkF m 174 #[.val (.long q1), .second, .val (.long q2), .second, .val (.long q3), .second, .val (.long q4), .second, .val (.int p5), .val (.long q6), .second, .val (.ref b8), .val (.ref b39), .val (.long z75), .second, .val (.long (q1 + q2)), .second, .val (.long z82), .second, .val (.long ((z16 + z48) + z75)), .second, .val (.long z89), .second, .unset, .unset, .unset, .unset, .unset, .unset, .unset, .unset, .unset] [(.ref b8)])) (fun t k => XS.aload Xh88.here hx rfl (hb hby at_172) rfl rfl k) ?_
  refine own_pre (B := T87.setTop (mkF m 175 #[.val (.long q1), .second, .val (.long q2), .second, .val (.long q3), .second, .val (.long q4), .second, .val (.int p5), .val (.long q6), .second, .val (.ref b8), .val (.ref b39), .val (.long z75), .second, .val (.long (q1 + q2)), .second, .val (.long z82), .second, .val (.long ((z16 + z48) + z75)), .second, .val (.long z89), .second, .unset, .unset, .unset, .unset, .unset, .unset, .unset, .unset, .unset] [(.int (2 : Int32)), (.ref b8)])) (fun t k => XS.iconst Xh88.here hx rfl (hb hby at_174) k) ?_
  obtain ⟨cl90, Ar90, q90, S90, N90v, H90v, G90v⟩ := c69
  have c69 : Arv Z h67 b8 k8 .long (4 : Int32) [(.long q1), (.long z16), (.long z24), (.long z32)] (.long (0 : Int64)) := ⟨cl90, Ar90, q90, S90, N90v, H90v, G90v⟩
  have hin90 : ¬ ((2 : Int32) < 0 ∨ cl90.slots.size ≤ ((2 : Int32)).toNatClampNeg) := inb_of S90 ⟨by decide, by decide⟩
  have hat90 : cl90.slots[((2 : Int32)).toNatClampNeg]? = some (.long z24) := H90v.at hin90 rfl
  refine own_pre (B := T87.setTop (mkF m 176 #[.val (.long q1), .second, .val (.long q2), .second, .val (.long q3), .second, .val (.long q4), .second, .val (.int p5), .val (.long q6), .second, .val (.ref b8), .val (.ref b39), .val (.long z75), .second, .val (.long (q1 + q2)), .second, .val (.long z82), .second, .val (.long ((z16 + z48) + z75)), .second, .val (.long z89), .second, .unset, .unset, .unset, .unset, .unset, .unset, .unset, .unset, .unset] [(.long z24)])) (fun t k => Xh88.laload hx (j := (2 : Int32)) (v := (.long z24)) (by rw [e87]; exact Ar90.1) (State.isArrayOf_alike hZ.alike Ar90.2.1) Ar90.2.2 hin90 hat90 (g := (mkF m 175 #[.val (.long q1), .second, .val (.long q2), .second, .val (.long q3), .second, .val (.long q4), .second, .val (.int p5), .val (.long q6), .second, .val (.ref b8), .val (.ref b39), .val (.long z75), .second, .val (.long (q1 + q2)), .second, .val (.long z82), .second, .val (.long ((z16 + z48) + z75)), .second, .val (.long z89), .second, .unset, .unset, .unset, .unset, .unset, .unset, .unset, .unset, .unset] [(.int (2 : Int32)), (.ref b8)])) rfl rfl (hb hby at_175) t k) ?_
  refine own_pre (B := T87.setTop (mkF m 178 #[.val (.long q1), .second, .val (.long q2), .second, .val (.long q3), .second, .val (.long q4), .second, .val (.int p5), .val (.long q6), .second, .val (.ref b8), .val (.ref b39), .val (.long z75), .second, .val (.long (q1 + q2)), .second, .val (.long z82), .second, .val (.long ((z16 + z48) + z75)), .second, .val (.long z89), .second, .unset, .unset, .unset, .unset, .unset, .unset, .unset, .unset, .unset] [(.ref b39), (.long z24)])) (fun t k => XS.aload Xh88.here hx rfl (hb hby at_176) rfl rfl k) ?_
  refine own_pre (B := T87.setTop (mkF m 179 #[.val (.long q1), .second, .val (.long q2), .second, .val (.long q3), .second, .val (.long q4), .second, .val (.int p5), .val (.long q6), .second, .val (.ref b8), .val (.ref b39), .val (.long z75), .second, .val (.long (q1 + q2)), .second, .val (.long z82), .second, .val (.long ((z16 + z48) + z75)), .second, .val (.long z89), .second, .unset, .unset, .unset, .unset, .unset, .unset, .unset, .unset, .unset] [(.int (2 : Int32)), (.ref b39), (.long z24)])) (fun t k => XS.iconst Xh88.here hx rfl (hb hby at_178) k) ?_
  obtain ⟨cl91, Ar91, q91, S91, N91v, H91v, G91v⟩ := V67
  have V67 : Arv Z h67 b39 k39 .long (4 : Int32) [(.long q2), (.long z48), (.long z56), (.long z64)] (.long (0 : Int64)) := ⟨cl91, Ar91, q91, S91, N91v, H91v, G91v⟩
  have hin91 : ¬ ((2 : Int32) < 0 ∨ cl91.slots.size ≤ ((2 : Int32)).toNatClampNeg) := inb_of S91 ⟨by decide, by decide⟩
  have hat91 : cl91.slots[((2 : Int32)).toNatClampNeg]? = some (.long z56) := H91v.at hin91 rfl
  refine own_pre (B := T87.setTop (mkF m 180 #[.val (.long q1), .second, .val (.long q2), .second, .val (.long q3), .second, .val (.long q4), .second, .val (.int p5), .val (.long q6), .second, .val (.ref b8), .val (.ref b39), .val (.long z75), .second, .val (.long (q1 + q2)), .second, .val (.long z82), .second, .val (.long ((z16 + z48) + z75)), .second, .val (.long z89), .second, .unset, .unset, .unset, .unset, .unset, .unset, .unset, .unset, .unset] [(.long z56), (.long z24)])) (fun t k => Xh88.laload hx (j := (2 : Int32)) (v := (.long z56)) (by rw [e87]; exact Ar91.1) (State.isArrayOf_alike hZ.alike Ar91.2.1) Ar91.2.2 hin91 hat91 (g := (mkF m 179 #[.val (.long q1), .second, .val (.long q2), .second, .val (.long q3), .second, .val (.long q4), .second, .val (.int p5), .val (.long q6), .second, .val (.ref b8), .val (.ref b39), .val (.long z75), .second, .val (.long (q1 + q2)), .second, .val (.long z82), .second, .val (.long ((z16 + z48) + z75)), .second, .val (.long z89), .second, .unset, .unset, .unset, .unset, .unset, .unset, .unset, .unset, .unset] [(.int (2 : Int32)), (.ref b39), (.long z24)])) rfl rfl (hb hby at_179) t k) ?_
  refine own_pre (B := T87.setTop (mkF m 181 #[.val (.long q1), .second, .val (.long q2), .second, .val (.long q3), .second, .val (.long q4), .second, .val (.int p5), .val (.long q6), .second, .val (.ref b8), .val (.ref b39), .val (.long z75), .second, .val (.long (q1 + q2)), .second, .val (.long z82), .second, .val (.long ((z16 + z48) + z75)), .second, .val (.long z89), .second, .unset, .unset, .unset, .unset, .unset, .unset, .unset, .unset, .unset] [(.long (z24 + z56))])) (fun t k => XS.ladd Xh88.here hx rfl (hb hby at_180) rfl k) ?_
  refine own_pre (B := T87.setTop (mkF m 183 #[.val (.long q1), .second, .val (.long q2), .second, .val (.long q3), .second, .val (.long q4), .second, .val (.int p5), .val (.long q6), .second, .val (.ref b8), .val (.ref b39), .val (.long z75), .second, .val (.long (q1 + q2)), .second, .val (.long z82), .second, .val (.long ((z16 + z48) + z75)), .second, .val (.long z89), .second, .unset, .unset, .unset, .unset, .unset, .unset, .unset, .unset, .unset] [(.long z82), (.long (z24 + z56))])) (fun t k => XS.lload Xh88.here hx rfl (hb hby at_181) rfl k) ?_
  refine own_pre (B := T87.setTop (mkF m 184 #[.val (.long q1), .second, .val (.long q2), .second, .val (.long q3), .second, .val (.long q4), .second, .val (.int p5), .val (.long q6), .second, .val (.ref b8), .val (.ref b39), .val (.long z75), .second, .val (.long (q1 + q2)), .second, .val (.long z82), .second, .val (.long ((z16 + z48) + z75)), .second, .val (.long z89), .second, .unset, .unset, .unset, .unset, .unset, .unset, .unset, .unset, .unset] [(.long ((z24 + z56) + z82))])) (fun t k => XS.ladd Xh88.here hx rfl (hb hby at_183) rfl k) ?_
  refine own_pre (B := T87.setTop (mkF m 186 #[.val (.long q1), .second, .val (.long q2), .second, .val (.long q3), .second, .val (.long q4), .second, .val (.int p5), .val (.long q6), .second, .val (.ref b8), .val (.ref b39), .val (.long z75), .second, .val (.long (q1 + q2)), .second, .val (.long z82), .second, .val (.long ((z16 + z48) + z75)), .second, .val (.long z89), .second, .val (.long ((z24 + z56) + z82)), .second, .unset, .unset, .unset, .unset, .unset, .unset, .unset] [])) (fun t k => XS.lstore Xh88.here hx rfl (hb hby at_184) rfl (l' := #[.val (.long q1), .second, .val (.long q2), .second, .val (.long q3), .second, .val (.long q4), .second, .val (.int p5), .val (.long q6), .second, .val (.ref b8), .val (.ref b39), .val (.long z75), .second, .val (.long (q1 + q2)), .second, .val (.long z82), .second, .val (.long ((z16 + z48) + z75)), .second, .val (.long z89), .second, .val (.long ((z24 + z56) + z82)), .second, .unset, .unset, .unset, .unset, .unset, .unset, .unset]) rfl k) ?_
  refine own_pre (B := T87.setTop (mkF m 188 #[.val (.long q1), .second, .val (.long q2), .second, .val (.long q3), .second, .val (.long q4), .second, .val (.int p5), .val (.long q6), .second, .val (.ref b8), .val (.ref b39), .val (.long z75), .second, .val (.long (q1 + q2)), .second, .val (.long z82), .second, .val (.long ((z16 + z48) + z75)), .second, .val (.long z89), .second, .val (.long ((z24 + z56) + z82)), .second, .unset, .unset, .unset, .unset, .unset, .unset, .unset] [(.ref b8)])) (fun t k => XS.aload Xh88.here hx rfl (hb hby at_186) rfl rfl k) ?_
  refine own_pre (B := T87.setTop (mkF m 189 #[.val (.long q1), .second, .val (.long q2), .second, .val (.long q3), .second, .val (.long q4), .second, .val (.int p5), .val (.long q6), .second, .val (.ref b8), .val (.ref b39), .val (.long z75), .second, .val (.long (q1 + q2)), .second, .val (.long z82), .second, .val (.long ((z16 + z48) + z75)), .second, .val (.long z89), .second, .val (.long ((z24 + z56) + z82)), .second, .unset, .unset, .unset, .unset, .unset, .unset, .unset] [(.int (3 : Int32)), (.ref b8)])) (fun t k => XS.iconst Xh88.here hx rfl (hb hby at_188) k) ?_
  obtain ⟨cl92, Ar92, q92, S92, N92v, H92v, G92v⟩ := c69
  have c69 : Arv Z h67 b8 k8 .long (4 : Int32) [(.long q1), (.long z16), (.long z24), (.long z32)] (.long (0 : Int64)) := ⟨cl92, Ar92, q92, S92, N92v, H92v, G92v⟩
  have hin92 : ¬ ((3 : Int32) < 0 ∨ cl92.slots.size ≤ ((3 : Int32)).toNatClampNeg) := inb_of S92 ⟨by decide, by decide⟩
  have hat92 : cl92.slots[((3 : Int32)).toNatClampNeg]? = some (.long z32) := H92v.at hin92 rfl
  refine own_pre (B := T87.setTop (mkF m 190 #[.val (.long q1), .second, .val (.long q2), .second, .val (.long q3), .second, .val (.long q4), .second, .val (.int p5), .val (.long q6), .second, .val (.ref b8), .val (.ref b39), .val (.long z75), .second, .val (.long (q1 + q2)), .second, .val (.long z82), .second, .val (.long ((z16 + z48) + z75)), .second, .val (.long z89), .second, .val (.long ((z24 + z56) + z82)), .second, .unset, .unset, .unset, .unset, .unset, .unset, .unset] [(.long z32)])) (fun t k => Xh88.laload hx (j := (3 : Int32)) (v := (.long z32)) (by rw [e87]; exact Ar92.1) (State.isArrayOf_alike hZ.alike Ar92.2.1) Ar92.2.2 hin92 hat92 (g := (mkF m 189 #[.val (.long q1), .second, .val (.long q2), .second, .val (.long q3), .second, .val (.long q4), .second, .val (.int p5), .val (.long q6), .second, .val (.ref b8), .val (.ref b39), .val (.long z75), .second, .val (.long (q1 + q2)), .second, .val (.long z82), .second, .val (.long ((z16 + z48) + z75)), .second, .val (.long z89), .second, .val (.long ((z24 + z56) + z82)), .second, .unset, .unset, .unset, .unset, .unset, .unset, .unset] [(.int (3 : Int32)), (.ref b8)])) rfl rfl (hb hby at_189) t k) ?_
  refine own_pre (B := T87.setTop (mkF m 192 #[.val (.long q1), .second, .val (.long q2), .second, .val (.long q3), .second, .val (.long q4), .second, .val (.int p5), .val (.long q6), .second, .val (.ref b8), .val (.ref b39), .val (.long z75), .second, .val (.long (q1 + q2)), .second, .val (.long z82), .second, .val (.long ((z16 + z48) + z75)), .second, .val (.long z89), .second, .val (.long ((z24 + z56) + z82)), .second, .unset, .unset, .unset, .unset, .unset, .unset, .unset] [(.ref b39), (.long z32)])) (fun t k => XS.aload Xh88.here hx rfl (hb hby at_190) rfl rfl k) ?_
  refine own_pre (B := T87.setTop (mkF m 193 #[.val (.long q1), .second, .val (.long q2), .second, .val (.long q3), .second, .val (.long q4), .second, .val (.int p5), .val (.long q6), .second, .val (.ref b8), .val (.ref b39), .val (.long z75), .second, .val (.long (q1 + q2)), .second, .val (.long z82), .second, .val (.long ((z16 + z48) + z75)), .second, .val (.long z89), .second, .val (.long ((z24 + z56) + z82)), .second, .unset, .unset, .unset, .unset, .unset, .unset, .unset] [(.int (3 : Int32)), (.ref b39), (.long z32)])) (fun t k => XS.iconst Xh88.here hx rfl (hb hby at_192) k) ?_
  obtain ⟨cl93, Ar93, q93, S93, N93v, H93v, G93v⟩ := V67
  have V67 : Arv Z h67 b39 k39 .long (4 : Int32) [(.long q2), (.long z48), (.long z56), (.long z64)] (.long (0 : Int64)) := ⟨cl93, Ar93, q93, S93, N93v, H93v, G93v⟩
  have hin93 : ¬ ((3 : Int32) < 0 ∨ cl93.slots.size ≤ ((3 : Int32)).toNatClampNeg) := inb_of S93 ⟨by decide, by decide⟩
  have hat93 : cl93.slots[((3 : Int32)).toNatClampNeg]? = some (.long z64) := H93v.at hin93 rfl
  refine own_pre (B := T87.setTop (mkF m 194 #[.val (.long q1), .second, .val (.long q2), .second, .val (.long q3), .second, .val (.long q4), .second, .val (.int p5), .val (.long q6), .second, .val (.ref b8), .val (.ref b39), .val (.long z75), .second, .val (.long (q1 + q2)), .second, .val (.long z82), .second, .val (.long ((z16 + z48) + z75)), .second, .val (.long z89), .second, .val (.long ((z24 + z56) + z82)), .second, .unset, .unset, .unset, .unset, .unset, .unset, .unset] [(.long z64), (.long z32)])) (fun t k => Xh88.laload hx (j := (3 : Int32)) (v := (.long z64)) (by rw [e87]; exact Ar93.1) (State.isArrayOf_alike hZ.alike Ar93.2.1) Ar93.2.2 hin93 hat93 (g := (mkF m 193 #[.val (.long q1), .second, .val (.long q2), .second, .val (.long q3), .second, .val (.long q4), .second, .val (.int p5), .val (.long q6), .second, .val (.ref b8), .val (.ref b39), .val (.long z75), .second, .val (.long (q1 + q2)), .second, .val (.long z82), .second, .val (.long ((z16 + z48) + z75)), .second, .val (.long z89), .second, .val (.long ((z24 + z56) + z82)), .second, .unset, .unset, .unset, .unset, .unset, .unset, .unset] [(.int (3 : Int32)), (.ref b39), (.long z32)])) rfl rfl (hb hby at_193) t k) ?_
  refine own_pre (B := T87.setTop (mkF m 195 #[.val (.long q1), .second, .val (.long q2), .second, .val (.long q3), .second, .val (.long q4), .second, .val (.int p5), .val (.long q6), .second, .val (.ref b8), .val (.ref b39), .val (.long z75), .second, .val (.long (q1 + q2)), .second, .val (.long z82), .second, .val (.long ((z16 + z48) + z75)), .second, .val (.long z89), .second, .val (.long ((z24 + z56) + z82)), .second, .unset, .unset, .unset, .unset, .unset, .unset, .unset] [(.long (z32 + z64))])) (fun t k => XS.ladd Xh88.here hx rfl (hb hby at_194) rfl k) ?_
  refine own_pre (B := T87.setTop (mkF m 197 #[.val (.long q1), .second, .val (.long q2), .second, .val (.long q3), .second, .val (.long q4), .second, .val (.int p5), .val (.long q6), .second, .val (.ref b8), .val (.ref b39), .val (.long z75), .second, .val (.long (q1 + q2)), .second, .val (.long z82), .second, .val (.long ((z16 + z48) + z75)), .second, .val (.long z89), .second, .val (.long ((z24 + z56) + z82)), .second, .unset, .unset, .unset, .unset, .unset, .unset, .unset] [(.long z89), (.long (z32 + z64))])) (fun t k => XS.lload Xh88.here hx rfl (hb hby at_195) rfl k) ?_
  refine own_pre (B := T87.setTop (mkF m 198 #[.val (.long q1), .second, .val (.long q2), .second, .val (.long q3), .second, .val (.long q4), .second, .val (.int p5), .val (.long q6), .second, .val (.ref b8), .val (.ref b39), .val (.long z75), .second, .val (.long (q1 + q2)), .second, .val (.long z82), .second, .val (.long ((z16 + z48) + z75)), .second, .val (.long z89), .second, .val (.long ((z24 + z56) + z82)), .second, .unset, .unset, .unset, .unset, .unset, .unset, .unset] [(.long ((z32 + z64) + z89))])) (fun t k => XS.ladd Xh88.here hx rfl (hb hby at_197) rfl k) ?_
  refine own_pre (B := T87.setTop (mkF m 200 #[.val (.long q1), .second, .val (.long q2), .second, .val (.long q3), .second, .val (.long q4), .second, .val (.int p5), .val (.long q6), .second, .val (.ref b8), .val (.ref b39), .val (.long z75), .second, .val (.long (q1 + q2)), .second, .val (.long z82), .second, .val (.long ((z16 + z48) + z75)), .second, .val (.long z89), .second, .val (.long ((z24 + z56) + z82)), .second, .val (.long ((z32 + z64) + z89)), .second, .unset, .unset, .unset, .unset, .unset] [])) (fun t k => XS.lstore Xh88.here hx rfl (hb hby at_198) rfl (l' := #[.val (.long q1), .second, .val (.long q2), .second, .val (.long q3), .second, .val (.long q4), .second, .val (.int p5), .val (.long q6), .second, .val (.ref b8), .val (.ref b39), .val (.long z75), .second, .val (.long (q1 + q2)), .second, .val (.long z82), .second, .val (.long ((z16 + z48) + z75)), .second, .val (.long z89), .second, .val (.long ((z24 + z56) + z82)), .second, .val (.long ((z32 + z64) + z89)), .second, .unset, .unset, .unset, .unset, .unset]) rfl k) ?_
  refine own_pre (B := T87.setTop (mkF m 202 #[.val (.long q1), .second, .val (.long q2), .second, .val (.long q3), .second, .val (.long q4), .second, .val (.int p5), .val (.long q6), .second, .val (.ref b8), .val (.ref b39), .val (.long z75), .second, .val (.long (q1 + q2)), .second, .val (.long z82), .second, .val (.long ((z16 + z48) + z75)), .second, .val (.long z89), .second, .val (.long ((z24 + z56) + z82)), .second, .val (.long ((z32 + z64) + z89)), .second, .unset, .unset, .unset, .unset, .unset] [(.long q6)])) (fun t k => XS.lload Xh88.here hx rfl (hb hby at_200) rfl k) ?_
  refine own_pre (B := T87.setTop (mkF m 204 #[.val (.long q1), .second, .val (.long q2), .second, .val (.long q3), .second, .val (.long q4), .second, .val (.int p5), .val (.long q6), .second, .val (.ref b8), .val (.ref b39), .val (.long z75), .second, .val (.long (q1 + q2)), .second, .val (.long z82), .second, .val (.long ((z16 + z48) + z75)), .second, .val (.long z89), .second, .val (.long ((z24 + z56) + z82)), .second, .val (.long ((z32 + z64) + z89)), .second, .unset, .unset, .unset, .unset, .unset] [(.long q4), (.long q6)])) (fun t k => XS.lload Xh88.here hx rfl (hb hby at_202) rfl k) ?_
  refine own_pre (B := T87.setTop (mkF m 205 #[.val (.long q1), .second, .val (.long q2), .second, .val (.long q3), .second, .val (.long q4), .second, .val (.int p5), .val (.long q6), .second, .val (.ref b8), .val (.ref b39), .val (.long z75), .second, .val (.long (q1 + q2)), .second, .val (.long z82), .second, .val (.long ((z16 + z48) + z75)), .second, .val (.long z89), .second, .val (.long ((z24 + z56) + z82)), .second, .val (.long ((z32 + z64) + z89)), .second, .unset, .unset, .unset, .unset, .unset] [(.long (q6 + q4))])) (fun t k => XS.ladd Xh88.here hx rfl (hb hby at_204) rfl k) ?_
  refine own_pre (B := T87.setTop (mkF m 207 #[.val (.long q1), .second, .val (.long q2), .second, .val (.long q3), .second, .val (.long q4), .second, .val (.int p5), .val (.long q6), .second, .val (.ref b8), .val (.ref b39), .val (.long z75), .second, .val (.long (q1 + q2)), .second, .val (.long z82), .second, .val (.long ((z16 + z48) + z75)), .second, .val (.long z89), .second, .val (.long ((z24 + z56) + z82)), .second, .val (.long ((z32 + z64) + z89)), .second, .val (.long (q6 + q4)), .second, .unset, .unset, .unset] [])) (fun t k => XS.lstore Xh88.here hx rfl (hb hby at_205) rfl (l' := #[.val (.long q1), .second, .val (.long q2), .second, .val (.long q3), .second, .val (.long q4), .second, .val (.int p5), .val (.long q6), .second, .val (.ref b8), .val (.ref b39), .val (.long z75), .second, .val (.long (q1 + q2)), .second, .val (.long z82), .second, .val (.long ((z16 + z48) + z75)), .second, .val (.long z89), .second, .val (.long ((z24 + z56) + z82)), .second, .val (.long ((z32 + z64) + z89)), .second, .val (.long (q6 + q4)), .second, .unset, .unset, .unset]) rfl k) ?_
  have K94 : Keep h0 h67 [] := (Keep.wr K65 W67 (Or.inr s_b39))
  obtain ⟨T95, h95, X95, e95, E95, A95, D95, -, st95⟩ := newO Xh88 hx hZ hown (hw _ (ow 9 rfl)) (hw _ (ow 10 rfl)) (hw _ (ow 11 rfl)) e87 (g := (mkF m 207 #[.val (.long q1), .second, .val (.long q2), .second, .val (.long q3), .second, .val (.long q4), .second, .val (.int p5), .val (.long q6), .second, .val (.ref b8), .val (.ref b39), .val (.long z75), .second, .val (.long (q1 + q2)), .second, .val (.long z82), .second, .val (.long ((z16 + z48) + z75)), .second, .val (.long z89), .second, .val (.long ((z24 + z56) + z82)), .second, .val (.long ((z32 + z64) + z89)), .second, .val (.long (q6 + q4)), .second, .unset, .unset, .unset] [])) rfl (hb hby at_207) (by decide) (by decide)
  obtain ⟨b95, g95⟩ : ∃ z, z = h67.size := ⟨_, rfl⟩
  rw [← g95] at A95 D95 st95
  have g_b95 : n0 ≤ b95 := Nat.le_trans sz72 (Nat.le_of_eq g95.symm)
  have s_b95 : h0.size ≤ b95 := Nat.le_trans K94.1 (Nat.le_of_eq g95.symm)
  have ne96 : b8 ≠ b95 := Nat.ne_of_lt (Nat.lt_of_lt_of_le (Arv.lt c69) (Nat.le_of_eq g95.symm))
  have ne97 : b39 ≠ b95 := Nat.ne_of_lt (Nat.lt_of_lt_of_le (Arv.lt V67) (Nat.le_of_eq g95.symm))
  have F_sum_b95 : Fld Z h95 b95 "com/example/rangewise/rangewise/Fingerprint$Builder" "sum" "[J" .null := D95 (Or.inr (hw _ (ow 19 rfl))) (ty := (.array .long)) (by decide)
  have F_count_b95 : Fld Z h95 b95 "com/example/rangewise/rangewise/Fingerprint$Builder" "count" "J" (.long (0 : Int64)) := D95 (Or.inl (hw _ (ow 31 rfl))) (ty := .long) (by decide)
  refine own_pre (B := T95.setTop (mkF m 210 #[.val (.long q1), .second, .val (.long q2), .second, .val (.long q3), .second, .val (.long q4), .second, .val (.int p5), .val (.long q6), .second, .val (.ref b8), .val (.ref b39), .val (.long z75), .second, .val (.long (q1 + q2)), .second, .val (.long z82), .second, .val (.long ((z16 + z48) + z75)), .second, .val (.long z89), .second, .val (.long ((z24 + z56) + z82)), .second, .val (.long ((z32 + z64) + z89)), .second, .val (.long (q6 + q4)), .second, .unset, .unset, .unset] [(.ref b95)])) (fun t k => st95 t k) ?_
  refine own_pre (B := T95.setTop (mkF m 211 #[.val (.long q1), .second, .val (.long q2), .second, .val (.long q3), .second, .val (.long q4), .second, .val (.int p5), .val (.long q6), .second, .val (.ref b8), .val (.ref b39), .val (.long z75), .second, .val (.long (q1 + q2)), .second, .val (.long z82), .second, .val (.long ((z16 + z48) + z75)), .second, .val (.long z89), .second, .val (.long ((z24 + z56) + z82)), .second, .val (.long ((z32 + z64) + z89)), .second, .val (.long (q6 + q4)), .second, .unset, .unset, .unset] [(.ref b95), (.ref b95)])) (fun t k => XS.dup X95.here hx rfl (hb hby at_210) rfl rfl k) ?_
  have sz98 : n0 ≤ h95.size := (Nat.le_trans sz72 E95.1)
  obtain ⟨_, _, ⟨T99, L99, k99, n99⟩, -, X99, ⟨Lc99, hQ99, l99, y99, z99⟩, st99⟩ := X95.specialBack hx (y := (⟨"com/example/rangewise/rangewise/Fingerprint$Builder", "<init>", "()V"⟩ : MethodName)) rfl hown (mvT hZ (hw _ (ow 12 rfl))) (mvT hZ (hw _ (ow 13 rfl))) (mvT hZ (hw _ (ow 14 rfl))) (by decide) (backOf (W := 1) (rm3 l Z a0 hw [] b95 (0 : Int64) .null h95 n0 sz98 F_count_b95 A95 F_sum_b95 g_b95) hZ (hw _ (ow 14 rfl)) (hw _ (ow 11 rfl)) (by decide) (by decide)) (g := (mkF m 211 #[.val (.long q1), .second, .val (.long q2), .second, .val (.long q3), .second, .val (.long q4), .second, .val (.int p5), .val (.long q6), .second, .val (.ref b8), .val (.ref b39), .val (.long z75), .second, .val (.long (q1 + q2)), .second, .val (.long z82), .second, .val (.long ((z16 + z48) + z75)), .second, .val (.long z89), .second, .val (.long ((z24 + z56) + z82)), .second, .val (.long ((z32 + z64) + z89)), .second, .val (.long (q6 + q4)), .second, .unset, .unset, .unset] [(.ref b95), (.ref b95)])) rfl (by rw [hml]; rfl) (Steps.refl _) (a := b95) (argsL := []) (rest := [(.ref b95)]) (lenOf pd_2 rfl) rfl (by show 2 * 0 + _ ≤ _; exact Nat.le_of_eq rfl) (hb hby at_211) (fun _ _ => ⟨rfl, e95, (by decide : 3 + 1 ≤ _), (by decide : 10 + 4 ≤ _)⟩)
  dsimp only [Pt.U, Pt.locs, Pt.cells, Pt.slots] at X99 l99 y99 z99 st99 hQ99
  subst l99 y99 z99
  obtain ⟨b4_99, k4_99, rfl, N99q, K99, q99_0, q99_1, q99_2, q99_3, q99_4, q99_5⟩ := hQ99
  have N99 := Fr.app Nh88 N99q
  have K100 : Keep h0 h95 [] := (Keep.ext K94 E95)
  have ne101 : b95 ≠ b4_99 := Nat.ne_of_lt (Nat.lt_of_lt_of_le (Exa.lt A95) q99_4)
  have c102 := (Arv.ext c69 E95)
  have ne103 : b8 ≠ b4_99 := Nat.ne_of_lt (Nat.lt_of_lt_of_le (Arv.lt c102) q99_4)
  have c104 := (Arv.ext V67 E95)
  have ne105 : b39 ≠ b4_99 := Nat.ne_of_lt (Nat.lt_of_lt_of_le (Arv.lt c104) q99_4)
  have s_b4_99 : h0.size ≤ b4_99 := Nat.le_trans K100.1 q99_4
  obtain ⟨Lh106, Xh106, Nh106⟩ := own_hide X99 N99
  refine own_pre (B := T99.setTop (mkF m 214 #[.val (.long q1), .second, .val (.long q2), .second, .val (.long q3), .second, .val (.long q4), .second, .val (.int p5), .val (.long q6), .second, .val (.ref b8), .val (.ref b39), .val (.long z75), .second, .val (.long (q1 + q2)), .second, .val (.long z82), .second, .val (.long ((z16 + z48) + z75)), .second, .val (.long z89), .second, .val (.long ((z24 + z56) + z82)), .second, .val (.long ((z32 + z64) + z89)), .second, .val (.long (q6 + q4)), .second, .unset, .unset, .unset] [(.ref b95)])) (fun t k => st99.trans k) ?_
  refine own_pre (B := T99.setTop (mkF m 216 #[.val (.long q1), .second, .val (.long q2), .second, .val (.long q3), .second, .val (.long q4), .second, .val (.int p5), .val (.long q6), .second, .val (.ref b8), .val (.ref b39), .val (.long z75), .second, .val (.long (q1 + q2)), .second, .val (.long z82), .second, .val (.long ((z16 + z48) + z75)), .second, .val (.long z89), .second, .val (.long ((z24 + z56) + z82)), .second, .val (.long ((z32 + z64) + z89)), .second, .val (.long (q6 + q4)), .second, .val (.ref b95), .unset, .unset] [])) (fun t k => XS.astore Xh106.here hx rfl (hb hby at_214) rfl rfl (l' := #[.val (.long q1), .second, .val (.long q2), .second, .val (.long q3), .second, .val (.long q4), .second, .val (.int p5), .val (.long q6), .second, .val (.ref b8), .val (.ref b39), .val (.long z75), .second, .val (.long (q1 + q2)), .second, .val (.long z82), .second, .val (.long ((z16 + z48) + z75)), .second, .val (.long z89), .second, .val (.long ((z24 + z56) + z82)), .second, .val (.long ((z32 + z64) + z89)), .second, .val (.long (q6 + q4)), .second, .val (.ref b95), .unset, .unset]) rfl k) ?_
  refine own_pre (B := T99.setTop (mkF m 218 #[.val (.long q1), .second, .val (.long q2), .second, .val (.long q3), .second, .val (.long q4), .second, .val (.int p5), .val (.long q6), .second, .val (.ref b8), .val (.ref b39), .val (.long z75), .second, .val (.long (q1 + q2)), .second, .val (.long z82), .second, .val (.long ((z16 + z48) + z75)), .second, .val (.long z89), .second, .val (.long ((z24 + z56) + z82)), .second, .val (.long ((z32 + z64) + z89)), .second, .val (.long (q6 + q4)), .second, .val (.ref b95), .unset, .unset] [(.ref b95)])) (fun t k => XS.aload Xh106.here hx rfl (hb hby at_216) rfl rfl k) ?_
  refine own_pre (B := T99.setTop (mkF m 220 #[.val (.long q1), .second, .val (.long q2), .second, .val (.long q3), .second, .val (.long q4), .second, .val (.int p5), .val (.long q6), .second, .val (.ref b8), .val (.ref b39), .val (.long z75), .second, .val (.long (q1 + q2)), .second, .val (.long z82), .second, .val (.long ((z16 + z48) + z75)), .second, .val (.long z89), .second, .val (.long ((z24 + z56) + z82)), .second, .val (.long ((z32 + z64) + z89)), .second, .val (.long (q6 + q4)), .second, .val (.ref b95), .unset, .unset] [(.ref b8), (.ref b95)])) (fun t k => XS.aload Xh106.here hx rfl (hb hby at_218) rfl rfl k) ?_
  refine own_pre (B := T99.setTop (mkF m 222 #[.val (.long q1), .second, .val (.long q2), .second, .val (.long q3), .second, .val (.long q4), .second, .val (.int p5), .val (.long q6), .second, .val (.ref b8), .val (.ref b39), .val (.long z75), .second, .val (.long (q1 + q2)), .second, .val (.long z82), .second, .val (.long ((z16 + z48) + z75)), .second, .val (.long z89), .second, .val (.long ((z24 + z56) + z82)), .second, .val (.long ((z32 + z64) + z89)), .second, .val (.long (q6 + q4)), .second, .val (.ref b95), .unset, .unset] [(.long q6), (.ref b8), (.ref b95)])) (fun t k => XS.lload Xh106.here hx rfl (hb hby at_220) rfl k) ?_
  have c107 := (Arv.keep c102 K99 (ninS ne96 nin0))
  have sz108 : n0 ≤ T99.heap.size := (Nat.le_trans sz98 K99.1)
  obtain ⟨cq109, kq109, q109a, q109b, q109c⟩ := isOf hZ rfl q99_0
  obtain ⟨_, _, ⟨T109, L109, k109, n109⟩, -, X109, ⟨Lc109, hQ109, l109, y109, z109⟩, st109⟩ := Xh106.virtualBack hx (y := (⟨"com/example/rangewise/rangewise/Fingerprint$Builder", "add", "([JJ)Lcom/example/rangewise/rangewise/Fingerprint$Builder;"⟩ : MethodName)) (z := (⟨"com/example/rangewise/rangewise/Fingerprint$Builder", "add", "([JJ)Lcom/example/rangewise/rangewise/Fingerprint$Builder;"⟩ : MethodName)) hown (mvT hZ (hw _ (ow 20 rfl))) (mvT hZ (hw _ (ow 21 rfl))) (notFace_of_selects (args := #[]) (mvT hZ (hw _ (ow 23 rfl)))) (mvT hZ (hw _ (ow 23 rfl))) (mvT hZ (hw _ (ow 22 rfl))) (by decide) (backOf (W := 0) (rm5 l Z a0 hw [] b95 b8 q6 b4_99 k4_99 (0 : Int64) (0 : Int64) (0 : Int64) (0 : Int64) k8 q1 z16 z24 z32 (0 : Int64) T99.heap n0 sz108 q99_2 q99_5 c107 ne101 (Ne.symm ne96) ne103 q99_3 q99_0 q99_1 g_b95) hZ (hw _ (ow 24 rfl)) (hw _ (ow 11 rfl)) (by decide) (by decide)) q109a q109c (g := (mkF m 222 #[.val (.long q1), .second, .val (.long q2), .second, .val (.long q3), .second, .val (.long q4), .second, .val (.int p5), .val (.long q6), .second, .val (.ref b8), .val (.ref b39), .val (.long z75), .second, .val (.long (q1 + q2)), .second, .val (.long z82), .second, .val (.long ((z16 + z48) + z75)), .second, .val (.long z89), .second, .val (.long ((z24 + z56) + z82)), .second, .val (.long ((z32 + z64) + z89)), .second, .val (.long (q6 + q4)), .second, .val (.ref b95), .unset, .unset] [(.long q6), (.ref b8), (.ref b95)])) rfl (by rw [hml]; rfl) (Steps.refl _) (argsL := [(.ref b8), (.long q6)]) (rest := []) (lenOf pd_3 rfl) rfl (by show 2 * 0 + _ ≤ _; exact Nat.le_of_eq rfl) (hb hby at_222) (fun _ _ => ⟨rfl, rfl, (by decide : 4 + 0 ≤ _), (by decide : 14 + 0 ≤ _)⟩)
  dsimp only [Pt.U, Pt.locs, Pt.cells, Pt.slots] at X109 l109 y109 z109 st109 hQ109
  subst l109 y109 z109
  obtain ⟨rfl, N109q, K109, q109_0, q109_1, q109_2, q109_3⟩ := hQ109
  have N109 := Fr.app Nh106 N109q
  have K110 : Keep h0 T99.heap [] := (Keep.trans K100 K99 (allS (P := fun x => x ∈ [] ∨ h0.size ≤ x) (Or.inr s_b95) all0))
  obtain ⟨z111, hz111⟩ : ∃ z : Int64, z = ((0 : Int64) + q6) := ⟨_, rfl⟩
  rw [← hz111] at q109_2
  obtain ⟨z112, hz112⟩ : ∃ z : Int64, z = (((0 : Int64) + q1) + (0 : Int64)) := ⟨_, rfl⟩
  rw [← hz112] at q109_3
  obtain ⟨z113, hz113⟩ : ∃ z : Int64, z = (((0 : Int64) + z16) + (own_f6_0 q1 (0 : Int64) (0 : Int64))) := ⟨_, rfl⟩
  rw [← hz113] at q109_3
  obtain ⟨z114, hz114⟩ : ∃ z : Int64, z = (((0 : Int64) + z24) + (own_f6_1 z16 (own_f6_0 q1 (0 : Int64) (0 : Int64)) (0 : Int64))) := ⟨_, rfl⟩
  rw [← hz114] at q109_3
  obtain ⟨z115, hz115⟩ : ∃ z : Int64, z = (((0 : Int64) + z32) + (own_f6_2 z24 (own_f6_1 z16 (own_f6_0 q1 (0 : Int64) (0 : Int64)) (0 : Int64)) (0 : Int64))) := ⟨_, rfl⟩
  rw [← hz115] at q109_3
  obtain ⟨Lh116, Xh116, Nh116⟩ := own_hide X109 N109
  refine own_pre (B := T109.setTop (mkF m 225 #[.val (.long q1), .second, .val (.long q2), .second, .val (.long q3), .second, .val (.long q4), .second, .val (.int p5), .val (.long q6), .second, .val (.ref b8), .val (.ref b39), .val (.long z75), .second, .val (.long (q1 + q2)), .second, .val (.long z82), .second, .val (.long ((z16 + z48) + z75)), .second, .val (.long z89), .second, .val (.long ((z24 + z56) + z82)), .second, .val (.long ((z32 + z64) + z89)), .second, .val (.long (q6 + q4)), .second, .val (.ref b95), .unset, .unset] [(.ref b95)])) (fun t k => st109.trans k) ?_
  refine own_pre (B := T109.setTop (mkF m 227 #[.val (.long q1), .second, .val (.long q2), .second, .val (.long q3), .second, .val (.long q4), .second, .val (.int p5), .val (.long q6), .second, .val (.ref b8), .val (.ref b39), .val (.long z75), .second, .val (.long (q1 + q2)), .second, .val (.long z82), .second, .val (.long ((z16 + z48) + z75)), .second, .val (.long z89), .second, .val (.long ((z24 + z56) + z82)), .second, .val (.long ((z32 + z64) + z89)), .second, .val (.long (q6 + q4)), .second, .val (.ref b95), .val (.ref b95), .unset] [])) (fun t k => XS.astore Xh116.here hx rfl (hb hby at_225) rfl rfl (l' := #[.val (.long q1), .second, .val (.long q2), .second, .val (.long q3), .second, .val (.long q4), .second, .val (.int p5), .val (.long q6), .second, .val (.ref b8), .val (.ref b39), .val (.long z75), .second, .val (.long (q1 + q2)), .second, .val (.long z82), .second, .val (.long ((z16 + z48) + z75)), .second, .val (.long z89), .second, .val (.long ((z24 + z56) + z82)), .second, .val (.long ((z32 + z64) + z89)), .second, .val (.long (q6 + q4)), .second, .val (.ref b95), .val (.ref b95), .unset]) rfl k) ?_
  refine own_pre (B := T109.setTop (mkF m 229 #[.val (.long q1), .second, .val (.long q2), .second, .val (.long q3), .second, .val (.long q4), .second, .val (.int p5), .val (.long q6), .second, .val (.ref b8), .val (.ref b39), .val (.long z75), .second, .val (.long (q1 + q2)), .second, .val (.long z82), .second, .val (.long ((z16 + z48) + z75)), .second, .val (.long z89), .second, .val (.long ((z24 + z56) + z82)), .second, .val (.long ((z32 + z64) + z89)), .second, .val (.long (q6 + q4)), .second, .val (.ref b95), .val (.ref b95), .unset] [(.ref b95)])) (fun t k => XS.aload Xh116.here hx rfl (hb hby at_227) rfl rfl k) ?_
  refine own_pre (B := T109.setTop (mkF m 231 #[.val (.long q1), .second, .val (.long q2), .second, .val (.long q3), .second, .val (.long q4), .second, .val (.int p5), .val (.long q6), .second, .val (.ref b8), .val (.ref b39), .val (.long z75), .second, .val (.long (q1 + q2)), .second, .val (.long z82), .second, .val (.long ((z16 + z48) + z75)), .second, .val (.long z89), .second, .val (.long ((z24 + z56) + z82)), .second, .val (.long ((z32 + z64) + z89)), .second, .val (.long (q6 + q4)), .second, .val (.ref b95), .val (.ref b95), .unset] [(.ref b39), (.ref b95)])) (fun t k => XS.aload Xh116.here hx rfl (hb hby at_229) rfl rfl k) ?_
  refine own_pre (B := T109.setTop (mkF m 233 #[.val (.long q1), .second, .val (.long q2), .second, .val (.long q3), .second, .val (.long q4), .second, .val (.int p5), .val (.long q6), .second, .val (.ref b8), .val (.ref b39), .val (.long z75), .second, .val (.long (q1 + q2)), .second, .val (.long z82), .second, .val (.long ((z16 + z48) + z75)), .second, .val (.long z89), .second, .val (.long ((z24 + z56) + z82)), .second, .val (.long ((z32 + z64) + z89)), .second, .val (.long (q6 + q4)), .second, .val (.ref b95), .val (.ref b95), .unset] [(.long q4), (.ref b39), (.ref b95)])) (fun t k => XS.lload Xh116.here hx rfl (hb hby at_231) rfl k) ?_
  have c117 := (Arv.keep (Arv.keep c104 K99 (ninS ne97 nin0)) K109 (ninS ne97 (ninS ne105 nin0)))
  have sz118 : n0 ≤ T109.heap.size := (Nat.le_trans sz108 K109.1)
  obtain ⟨cq119, kq119, q119a, q119b, q119c⟩ := isOf hZ rfl q109_0
  obtain ⟨_, _, ⟨T119, L119, k119, n119⟩, -, X119, ⟨Lc119, hQ119, l119, y119, z119⟩, st119⟩ := Xh116.virtualBack hx (y := (⟨"com/example/rangewise/rangewise/Fingerprint$Builder", "add", "([JJ)Lcom/example/rangewise/rangewise/Fingerprint$Builder;"⟩ : MethodName)) (z := (⟨"com/example/rangewise/rangewise/Fingerprint$Builder", "add", "([JJ)Lcom/example/rangewise/rangewise/Fingerprint$Builder;"⟩ : MethodName)) hown (mvT hZ (hw _ (ow 20 rfl))) (mvT hZ (hw _ (ow 21 rfl))) (notFace_of_selects (args := #[]) (mvT hZ (hw _ (ow 23 rfl)))) (mvT hZ (hw _ (ow 23 rfl))) (mvT hZ (hw _ (ow 22 rfl))) (by decide) (backOf (W := 0) (rm5 l Z a0 hw [] b95 b39 q4 b4_99 k4_99 z112 z113 z114 z115 k39 q2 z48 z56 z64 z111 T109.heap n0 sz118 q109_1 q109_3 c117 ne101 (Ne.symm ne97) ne105 q99_3 q109_0 q109_2 g_b95) hZ (hw _ (ow 24 rfl)) (hw _ (ow 11 rfl)) (by decide) (by decide)) q119a q119c (g := (mkF m 233 #[.val (.long q1), .second, .val (.long q2), .second, .val (.long q3), .second, .val (.long q4), .second, .val (.int p5), .val (.long q6), .second, .val (.ref b8), .val (.ref b39), .val (.long z75), .second, .val (.long (q1 + q2)), .second, .val (.long z82), .second, .val (.long ((z16 + z48) + z75)), .second, .val (.long z89), .second, .val (.long ((z24 + z56) + z82)), .second, .val (.long ((z32 + z64) + z89)), .second, .val (.long (q6 + q4)), .second, .val (.ref b95), .val (.ref b95), .unset] [(.long q4), (.ref b39), (.ref b95)])) rfl (by rw [hml]; rfl) (Steps.refl _) (argsL := [(.ref b39), (.long q4)]) (rest := []) (lenOf pd_3 rfl) rfl (by show 2 * 0 + _ ≤ _; exact Nat.le_of_eq rfl) (hb hby at_233) (fun _ _ => ⟨rfl, rfl, (by decide : 4 + 0 ≤ _), (by decide : 14 + 0 ≤ _)⟩)
  dsimp only [Pt.U, Pt.locs, Pt.cells, Pt.slots] at X119 l119 y119 z119 st119 hQ119
  subst l119 y119 z119
  obtain ⟨rfl, N119q, K119, q119_0, q119_1, q119_2, q119_3⟩ := hQ119
  have N119 := Fr.app Nh116 N119q
  have K120 : Keep h0 T109.heap [] := (Keep.trans K110 K109 (allS (P := fun x => x ∈ [] ∨ h0.size ≤ x) (Or.inr s_b95) (allS (P := fun x => x ∈ [] ∨ h0.size ≤ x) (Or.inr s_b4_99) all0)))
  obtain ⟨z121, hz121⟩ : ∃ z : Int64, z = (z111 + q4) := ⟨_, rfl⟩
  rw [← hz121] at q119_2
  obtain ⟨z122, hz122⟩ : ∃ z : Int64, z = ((z112 + q2) + (0 : Int64)) := ⟨_, rfl⟩
  rw [← hz122] at q119_3
  obtain ⟨z123, hz123⟩ : ∃ z : Int64, z = ((z113 + z48) + (own_f6_0 q2 (0 : Int64) z112)) := ⟨_, rfl⟩
  rw [← hz123] at q119_3
  obtain ⟨z124, hz124⟩ : ∃ z : Int64, z = ((z114 + z56) + (own_f6_1 z48 (own_f6_0 q2 (0 : Int64) z112) z113)) := ⟨_, rfl⟩
  rw [← hz124] at q119_3
  obtain ⟨z125, hz125⟩ : ∃ z : Int64, z = ((z115 + z64) + (own_f6_2 z56 (own_f6_1 z48 (own_f6_0 q2 (0 : Int64) z112) z113) z114)) := ⟨_, rfl⟩
  rw [← hz125] at q119_3
  obtain ⟨Lh126, Xh126, Nh126⟩ := own_hide X119 N119
  refine own_pre (B := T119.setTop (mkF m 236 #[.val (.long q1), .second, .val (.long q2), .second, .val (.long q3), .second, .val (.long q4), .second, .val (.int p5), .val (.long q6), .second, .val (.ref b8), .val (.ref b39), .val (.long z75), .second, .val (.long (q1 + q2)), .second, .val (.long z82), .second, .val (.long ((z16 + z48) + z75)), .second, .val (.long z89), .second, .val (.long ((z24 + z56) + z82)), .second, .val (.long ((z32 + z64) + z89)), .second, .val (.long (q6 + q4)), .second, .val (.ref b95), .val (.ref b95), .unset] [(.ref b95)])) (fun t k => st119.trans k) ?_
  refine own_pre (B := T119.setTop (mkF m 238 #[.val (.long q1), .second, .val (.long q2), .second, .val (.long q3), .second, .val (.long q4), .second, .val (.int p5), .val (.long q6), .second, .val (.ref b8), .val (.ref b39), .val (.long z75), .second, .val (.long (q1 + q2)), .second, .val (.long z82), .second, .val (.long ((z16 + z48) + z75)), .second, .val (.long z89), .second, .val (.long ((z24 + z56) + z82)), .second, .val (.long ((z32 + z64) + z89)), .second, .val (.long (q6 + q4)), .second, .val (.ref b95), .val (.ref b95), .val (.ref b95)] [])) (fun t k => XS.astore Xh126.here hx rfl (hb hby at_236) rfl rfl (l' := #[.val (.long q1), .second, .val (.long q2), .second, .val (.long q3), .second, .val (.long q4), .second, .val (.int p5), .val (.long q6), .second, .val (.ref b8), .val (.ref b39), .val (.long z75), .second, .val (.long (q1 + q2)), .second, .val (.long z82), .second, .val (.long ((z16 + z48) + z75)), .second, .val (.long z89), .second, .val (.long ((z24 + z56) + z82)), .second, .val (.long ((z32 + z64) + z89)), .second, .val (.long (q6 + q4)), .second, .val (.ref b95), .val (.ref b95), .val (.ref b95)]) rfl k) ?_
  refine own_pre (B := T119.setTop (mkF m 240 #[.val (.long q1), .second, .val (.long q2), .second, .val (.long q3), .second, .val (.long q4), .second, .val (.int p5), .val (.long q6), .second, .val (.ref b8), .val (.ref b39), .val (.long z75), .second, .val (.long (q1 + q2)), .second, .val (.long z82), .second, .val (.long ((z16 + z48) + z75)), .second, .val (.long z89), .second, .val (.long ((z24 + z56) + z82)), .second, .val (.long ((z32 + z64) + z89)), .second, .val (.long (q6 + q4)), .second, .val (.ref b95), .val (.ref b95), .val (.ref b95)] [(.ref b95)])) (fun t k => XS.aload Xh126.here hx rfl (hb hby at_238) rfl rfl k) ?_
  refine own_pre (B := T119.setTop (mkF m 242 #[.val (.long q1), .second, .val (.long q2), .second, .val (.long q3), .second, .val (.long q4), .second, .val (.int p5), .val (.long q6), .second, .val (.ref b8), .val (.ref b39), .val (.long z75), .second, .val (.long (q1 + q2)), .second, .val (.long z82), .second, .val (.long ((z16 + z48) + z75)), .second, .val (.long z89), .second, .val (.long ((z24 + z56) + z82)), .second, .val (.long ((z32 + z64) + z89)), .second, .val (.long (q6 + q4)), .second, .val (.ref b95), .val (.ref b95), .val (.ref b95)] [(.ref b95), (.ref b95)])) (fun t k => XS.aload Xh126.here hx rfl (hb hby at_240) rfl rfl k) ?_
  refine own_pre (B := T119.setTop (mkF m 245 #[.val (.long q1), .second, .val (.long q2), .second, .val (.long q3), .second, .val (.long q4), .second, .val (.int p5), .val (.long q6), .second, .val (.ref b8), .val (.ref b39), .val (.long z75), .second, .val (.long (q1 + q2)), .second, .val (.long z82), .second, .val (.long ((z16 + z48) + z75)), .second, .val (.long z89), .second, .val (.long ((z24 + z56) + z82)), .second, .val (.long ((z32 + z64) + z89)), .second, .val (.long (q6 + q4)), .second, .val (.ref b95), .val (.ref b95), .val (.ref b95)] [])) (fun t k => Jvm.RoadKit.acmp (g := (mkF m 242 #[.val (.long q1), .second, .val (.long q2), .second, .val (.long q3), .second, .val (.long q4), .second, .val (.int p5), .val (.long q6), .second, .val (.ref b8), .val (.ref b39), .val (.long z75), .second, .val (.long (q1 + q2)), .second, .val (.long z82), .second, .val (.long ((z16 + z48) + z75)), .second, .val (.long z89), .second, .val (.long ((z24 + z56) + z82)), .second, .val (.long ((z32 + z64) + z89)), .second, .val (.long (q6 + q4)), .second, .val (.ref b95), .val (.ref b95), .val (.ref b95)] [(.ref b95), (.ref b95)])) Xh126 hx rfl rfl rfl (pc0 := 242) (pc' := 245) (same := true) rfl (hb hby at_242) rfl (decide_eq_true rfl) (by decide) (by decide) k) ?_
  refine own_pre (B := T119.setTop (mkF m 247 #[.val (.long q1), .second, .val (.long q2), .second, .val (.long q3), .second, .val (.long q4), .second, .val (.int p5), .val (.long q6), .second, .val (.ref b8), .val (.ref b39), .val (.long z75), .second, .val (.long (q1 + q2)), .second, .val (.long z82), .second, .val (.long ((z16 + z48) + z75)), .second, .val (.long z89), .second, .val (.long ((z24 + z56) + z82)), .second, .val (.long ((z32 + z64) + z89)), .second, .val (.long (q6 + q4)), .second, .val (.ref b95), .val (.ref b95), .val (.ref b95)] [(.ref b95)])) (fun t k => XS.aload Xh126.here hx rfl (hb hby at_245) rfl rfl k) ?_
  refine own_pre (B := T119.setTop (mkF m 249 #[.val (.long q1), .second, .val (.long q2), .second, .val (.long q3), .second, .val (.long q4), .second, .val (.int p5), .val (.long q6), .second, .val (.ref b8), .val (.ref b39), .val (.long z75), .second, .val (.long (q1 + q2)), .second, .val (.long z82), .second, .val (.long ((z16 + z48) + z75)), .second, .val (.long z89), .second, .val (.long ((z24 + z56) + z82)), .second, .val (.long ((z32 + z64) + z89)), .second, .val (.long (q6 + q4)), .second, .val (.ref b95), .val (.ref b95), .val (.ref b95)] [(.ref b95), (.ref b95)])) (fun t k => XS.aload Xh126.here hx rfl (hb hby at_247) rfl rfl k) ?_
  refine own_pre (B := T119.setTop (mkF m 252 #[.val (.long q1), .second, .val (.long q2), .second, .val (.long q3), .second, .val (.long q4), .second, .val (.int p5), .val (.long q6), .second, .val (.ref b8), .val (.ref b39), .val (.long z75), .second, .val (.long (q1 + q2)), .second, .val (.long z82), .second, .val (.long ((z16 + z48) + z75)), .second, .val (.long z89), .second, .val (.long ((z24 + z56) + z82)), .second, .val (.long ((z32 + z64) + z89)), .second, .val (.long (q6 + q4)), .second, .val (.ref b95), .val (.ref b95), .val (.ref b95)] [])) (fun t k => Jvm.RoadKit.acmp (g := (mkF m 249 #[.val (.long q1), .second, .val (.long q2), .second, .val (.long q3), .second, .val (.long q4), .second, .val (.int p5), .val (.long q6), .second, .val (.ref b8), .val (.ref b39), .val (.long z75), .second, .val (.long (q1 + q2)), .second, .val (.long z82), .second, .val (.long ((z16 + z48) + z75)), .second, .val (.long z89), .second, .val (.long ((z24 + z56) + z82)), .second, .val (.long ((z32 + z64) + z89)), .second, .val (.long (q6 + q4)), .second, .val (.ref b95), .val (.ref b95), .val (.ref b95)] [(.ref b95), (.ref b95)])) Xh126 hx rfl rfl rfl (pc0 := 249) (pc' := 252) (same := true) rfl (hb hby at_249) rfl (decide_eq_true rfl) (by decide) (by decide) k) ?_
  refine own_pre (B := T119.setTop (mkF m 254 #[.val (.long q1), .second, .val (.long q2), .second, .val (.long q3), .second, .val (.long q4), .second, .val (.int p5), .val (.long q6), .second, .val (.ref b8), .val (.ref b39), .val (.long z75), .second, .val (.long (q1 + q2)), .second, .val (.long z82), .second, .val (.long ((z16 + z48) + z75)), .second, .val (.long z89), .second, .val (.long ((z24 + z56) + z82)), .second, .val (.long ((z32 + z64) + z89)), .second, .val (.long (q6 + q4)), .second, .val (.ref b95), .val (.ref b95), .val (.ref b95)] [(.ref b95)])) (fun t k => XS.aload Xh126.here hx rfl (hb hby at_252) rfl rfl k) ?_
  refine own_pre (B := T119.setTop (mkF m 255 #[.val (.long q1), .second, .val (.long q2), .second, .val (.long q3), .second, .val (.long q4), .second, .val (.int p5), .val (.long q6), .second, .val (.ref b8), .val (.ref b39), .val (.long z75), .second, .val (.long (q1 + q2)), .second, .val (.long z82), .second, .val (.long ((z16 + z48) + z75)), .second, .val (.long z89), .second, .val (.long ((z24 + z56) + z82)), .second, .val (.long ((z32 + z64) + z89)), .second, .val (.long (q6 + q4)), .second, .val (.ref b95), .val (.ref b95), .val (.ref b95)] [(.int (0 : Int32)), (.ref b95)])) (fun t k => XS.iconst Xh126.here hx rfl (hb hby at_254) k) ?_
  have sz127 : n0 ≤ T119.heap.size := (Nat.le_trans sz118 K119.1)
  obtain ⟨cq128, kq128, q128a, q128b, q128c⟩ := isOf hZ rfl q119_0
  obtain ⟨_, _, ⟨T128, L128, k128, n128⟩, -, X128, ⟨Lc128, hQ128, l128, y128, z128⟩, st128⟩ := Xh126.virtualBack hx (y := (⟨"com/example/rangewise/rangewise/Fingerprint$Builder", "word", "(I)J"⟩ : MethodName)) (z := (⟨"com/example/rangewise/rangewise/Fingerprint$Builder", "word", "(I)J"⟩ : MethodName)) hown (mvT hZ (hw _ (ow 32 rfl))) (mvT hZ (hw _ (ow 33 rfl))) (notFace_of_selects (args := #[]) (mvT hZ (hw _ (ow 35 rfl)))) (mvT hZ (hw _ (ow 35 rfl))) (mvT hZ (hw _ (ow 34 rfl))) (by decide) (backOf (W := 0) (rm7_0 l Z a0 hw [] b95 b4_99 k4_99 z122 z123 z124 z125 T119.heap n0 sz127 q119_1 q119_3) hZ (hw _ (ow 36 rfl)) (hw _ (ow 11 rfl)) (by decide) (by decide)) q128a q128c (g := (mkF m 255 #[.val (.long q1), .second, .val (.long q2), .second, .val (.long q3), .second, .val (.long q4), .second, .val (.int p5), .val (.long q6), .second, .val (.ref b8), .val (.ref b39), .val (.long z75), .second, .val (.long (q1 + q2)), .second, .val (.long z82), .second, .val (.long ((z16 + z48) + z75)), .second, .val (.long z89), .second, .val (.long ((z24 + z56) + z82)), .second, .val (.long ((z32 + z64) + z89)), .second, .val (.long (q6 + q4)), .second, .val (.ref b95), .val (.ref b95), .val (.ref b95)] [(.int (0 : Int32)), (.ref b95)])) rfl (by rw [hml]; rfl) (Steps.refl _) (argsL := [(.int (0 : Int32))]) (rest := []) (lenOf pd_4 rfl) rfl (by show 2 * 0 + _ ≤ _; exact Nat.le_of_eq rfl) (hb hby at_255) (fun _ _ => ⟨rfl, rfl, (by decide : 4 + 0 ≤ _), (by decide : 14 + 0 ≤ _)⟩)
  dsimp only [Pt.U, Pt.locs, Pt.cells, Pt.slots] at X128 l128 y128 z128 st128 hQ128
  subst l128 y128 z128
  obtain ⟨rfl, N128q, e128⟩ := hQ128
  have N128 := Fr.app Nh126 N128q
  obtain ⟨Lh129, Xh129, Nh129⟩ := own_hide X128 N128
  obtain ⟨z130, hz130⟩ : ∃ z : Int64, z = (own_f7_0 z122 z123 z124 z125) := ⟨_, rfl⟩
  rw [← hz130] at st128
  refine own_pre (B := T128.setTop (mkF m 258 #[.val (.long q1), .second, .val (.long q2), .second, .val (.long q3), .second, .val (.long q4), .second, .val (.int p5), .val (.long q6), .second, .val (.ref b8), .val (.ref b39), .val (.long z75), .second, .val (.long (q1 + q2)), .second, .val (.long z82), .second, .val (.long ((z16 + z48) + z75)), .second, .val (.long z89), .second, .val (.long ((z24 + z56) + z82)), .second, .val (.long ((z32 + z64) + z89)), .second, .val (.long (q6 + q4)), .second, .val (.ref b95), .val (.ref b95), .val (.ref b95)] [(.long z130)])) (fun t k => st128.trans k) ?_
  refine own_pre (B := T128.setTop (mkF m 260 #[.val (.long q1), .second, .val (.long q2), .second, .val (.long q3), .second, .val (.long q4), .second, .val (.int p5), .val (.long q6), .second, .val (.ref b8), .val (.ref b39), .val (.long z75), .second, .val (.long (q1 + q2)), .second, .val (.long z82), .second, .val (.long ((z16 + z48) + z75)), .second, .val (.long z89), .second, .val (.long ((z24 + z56) + z82)), .second, .val (.long ((z32 + z64) + z89)), .second, .val (.long (q6 + q4)), .second, .val (.ref b95), .val (.ref b95), .val (.ref b95)] [(.long (q1 + q2)), (.long z130)])) (fun t k => XS.lload Xh129.here hx rfl (hb hby at_258) rfl k) ?_
  refine own_pre (B := T128.setTop (mkF m 261 #[.val (.long q1), .second, .val (.long q2), .second, .val (.long q3), .second, .val (.long q4), .second, .val (.int p5), .val (.long q6), .second, .val (.ref b8), .val (.ref b39), .val (.long z75), .second, .val (.long (q1 + q2)), .second, .val (.long z82), .second, .val (.long ((z16 + z48) + z75)), .second, .val (.long z89), .second, .val (.long ((z24 + z56) + z82)), .second, .val (.long ((z32 + z64) + z89)), .second, .val (.long (q6 + q4)), .second, .val (.ref b95), .val (.ref b95), .val (.ref b95)] [(.int (lcmpW z130 (q1 + q2)))])) (fun t k => XS.lcmp Xh129.here hx rfl (hb hby at_260) rfl k) ?_
  refine own_pre (B := T128.setTop (mkF m 264 #[.val (.long q1), .second, .val (.long q2), .second, .val (.long q3), .second, .val (.long q4), .second, .val (.int p5), .val (.long q6), .second, .val (.ref b8), .val (.ref b39), .val (.long z75), .second, .val (.long (q1 + q2)), .second, .val (.long z82), .second, .val (.long ((z16 + z48) + z75)), .second, .val (.long z89), .second, .val (.long ((z24 + z56) + z82)), .second, .val (.long ((z32 + z64) + z89)), .second, .val (.long (q6 + q4)), .second, .val (.ref b95), .val (.ref b95), .val (.ref b95)] [])) (fun t k => XS.ifNo Xh129.here hx rfl (hb hby at_261) rfl ((if0 _ _).trans (teq ((lw_eq z130 (q1 + q2)).mpr (own_w0 hz112 hz113 hz114 hz115 hz122 hz123 hz124 hz125 hz130))).2) k) ?_
  refine own_pre (B := T128.setTop (mkF m 266 #[.val (.long q1), .second, .val (.long q2), .second, .val (.long q3), .second, .val (.long q4), .second, .val (.int p5), .val (.long q6), .second, .val (.ref b8), .val (.ref b39), .val (.long z75), .second, .val (.long (q1 + q2)), .second, .val (.long z82), .second, .val (.long ((z16 + z48) + z75)), .second, .val (.long z89), .second, .val (.long ((z24 + z56) + z82)), .second, .val (.long ((z32 + z64) + z89)), .second, .val (.long (q6 + q4)), .second, .val (.ref b95), .val (.ref b95), .val (.ref b95)] [(.ref b95)])) (fun t k => XS.aload Xh129.here hx rfl (hb hby at_264) rfl rfl k) ?_
  refine own_pre (B := T128.setTop (mkF m 267 #[.val (.long q1), .second, .val (.long q2), .second, .val (.long q3), .second, .val (.long q4), .second, .val (.int p5), .val (.long q6), .second, .val (.ref b8), .val (.ref b39), .val (.long z75), .second, .val (.long (q1 + q2)), .second, .val (.long z82), .second, .val (.long ((z16 + z48) + z75)), .second, .val (.long z89), .second, .val (.long ((z24 + z56) + z82)), .second, .val (.long ((z32 + z64) + z89)), .second, .val (.long (q6 + q4)), .second, .val (.ref b95), .val (.ref b95), .val (.ref b95)] [(.int (1 : Int32)), (.ref b95)])) (fun t k => XS.iconst Xh129.here hx rfl (hb hby at_266) k) ?_
  obtain ⟨cq131, kq131, q131a, q131b, q131c⟩ := isOf hZ e128 q119_0
  obtain ⟨_, _, ⟨T131, L131, k131, n131⟩, -, X131, ⟨Lc131, hQ131, l131, y131, z131⟩, st131⟩ := Xh129.virtualBack hx (y := (⟨"com/example/rangewise/rangewise/Fingerprint$Builder", "word", "(I)J"⟩ : MethodName)) (z := (⟨"com/example/rangewise/rangewise/Fingerprint$Builder", "word", "(I)J"⟩ : MethodName)) hown (mvT hZ (hw _ (ow 32 rfl))) (mvT hZ (hw _ (ow 33 rfl))) (notFace_of_selects (args := #[]) (mvT hZ (hw _ (ow 35 rfl)))) (mvT hZ (hw _ (ow 35 rfl))) (mvT hZ (hw _ (ow 34 rfl))) (by decide) (backOf (W := 0) (rm7_1 l Z a0 hw [] b95 b4_99 k4_99 z122 z123 z124 z125 T119.heap n0 sz127 q119_1 q119_3) hZ (hw _ (ow 36 rfl)) (hw _ (ow 11 rfl)) (by decide) (by decide)) q131a q131c (g := (mkF m 267 #[.val (.long q1), .second, .val (.long q2), .second, .val (.long q3), .second, .val (.long q4), .second, .val (.int p5), .val (.long q6), .second, .val (.ref b8), .val (.ref b39), .val (.long z75), .second, .val (.long (q1 + q2)), .second, .val (.long z82), .second, .val (.long ((z16 + z48) + z75)), .second, .val (.long z89), .second, .val (.long ((z24 + z56) + z82)), .second, .val (.long ((z32 + z64) + z89)), .second, .val (.long (q6 + q4)), .second, .val (.ref b95), .val (.ref b95), .val (.ref b95)] [(.int (1 : Int32)), (.ref b95)])) rfl (by rw [hml]; rfl) (Steps.refl _) (argsL := [(.int (1 : Int32))]) (rest := []) (lenOf pd_4 rfl) rfl (by show 2 * 0 + _ ≤ _; exact Nat.le_of_eq rfl) (hb hby at_267) (fun _ _ => ⟨rfl, e128, (by decide : 4 + 0 ≤ _), (by decide : 14 + 0 ≤ _)⟩)
  dsimp only [Pt.U, Pt.locs, Pt.cells, Pt.slots] at X131 l131 y131 z131 st131 hQ131
  subst l131 y131 z131
  obtain ⟨rfl, N131q, e131⟩ := hQ131
  have N131 := Fr.app Nh129 N131q
  obtain ⟨Lh132, Xh132, Nh132⟩ := own_hide X131 N131
  obtain ⟨z133, hz133⟩ : ∃ z : Int64, z = (own_f7_1 z122 z123 z124 z125) := ⟨_, rfl⟩
  rw [← hz133] at st131
  refine own_pre (B := T131.setTop (mkF m 270 #[.val (.long q1), .second, .val (.long q2), .second, .val (.long q3), .second, .val (.long q4), .second, .val (.int p5), .val (.long q6), .second, .val (.ref b8), .val (.ref b39), .val (.long z75), .second, .val (.long (q1 + q2)), .second, .val (.long z82), .second, .val (.long ((z16 + z48) + z75)), .second, .val (.long z89), .second, .val (.long ((z24 + z56) + z82)), .second, .val (.long ((z32 + z64) + z89)), .second, .val (.long (q6 + q4)), .second, .val (.ref b95), .val (.ref b95), .val (.ref b95)] [(.long z133)])) (fun t k => st131.trans k) ?_
  refine own_pre (B := T131.setTop (mkF m 272 #[.val (.long q1), .second, .val (.long q2), .second, .val (.long q3), .second, .val (.long q4), .second, .val (.int p5), .val (.long q6), .second, .val (.ref b8), .val (.ref b39), .val (.long z75), .second, .val (.long (q1 + q2)), .second, .val (.long z82), .second, .val (.long ((z16 + z48) + z75)), .second, .val (.long z89), .second, .val (.long ((z24 + z56) + z82)), .second, .val (.long ((z32 + z64) + z89)), .second, .val (.long (q6 + q4)), .second, .val (.ref b95), .val (.ref b95), .val (.ref b95)] [(.long ((z16 + z48) + z75)), (.long z133)])) (fun t k => XS.lload Xh132.here hx rfl (hb hby at_270) rfl k) ?_
  refine own_pre (B := T131.setTop (mkF m 273 #[.val (.long q1), .second, .val (.long q2), .second, .val (.long q3), .second, .val (.long q4), .second, .val (.int p5), .val (.long q6), .second, .val (.ref b8), .val (.ref b39), .val (.long z75), .second, .val (.long (q1 + q2)), .second, .val (.long z82), .second, .val (.long ((z16 + z48) + z75)), .second, .val (.long z89), .second, .val (.long ((z24 + z56) + z82)), .second, .val (.long ((z32 + z64) + z89)), .second, .val (.long (q6 + q4)), .second, .val (.ref b95), .val (.ref b95), .val (.ref b95)] [(.int (lcmpW z133 ((z16 + z48) + z75)))])) (fun t k => XS.lcmp Xh132.here hx rfl (hb hby at_272) rfl k) ?_
  refine own_pre (B := T131.setTop (mkF m 276 #[.val (.long q1), .second, .val (.long q2), .second, .val (.long q3), .second, .val (.long q4), .second, .val (.int p5), .val (.long q6), .second, .val (.ref b8), .val (.ref b39), .val (.long z75), .second, .val (.long (q1 + q2)), .second, .val (.long z82), .second, .val (.long ((z16 + z48) + z75)), .second, .val (.long z89), .second, .val (.long ((z24 + z56) + z82)), .second, .val (.long ((z32 + z64) + z89)), .second, .val (.long (q6 + q4)), .second, .val (.ref b95), .val (.ref b95), .val (.ref b95)] [])) (fun t k => XS.ifNo Xh132.here hx rfl (hb hby at_273) rfl ((if0 _ _).trans (teq ((lw_eq z133 ((z16 + z48) + z75)).mpr (own_w1 hz75 hz112 hz113 hz114 hz115 hz122 hz123 hz124 hz125 hz133))).2) k) ?_
  refine own_pre (B := T131.setTop (mkF m 278 #[.val (.long q1), .second, .val (.long q2), .second, .val (.long q3), .second, .val (.long q4), .second, .val (.int p5), .val (.long q6), .second, .val (.ref b8), .val (.ref b39), .val (.long z75), .second, .val (.long (q1 + q2)), .second, .val (.long z82), .second, .val (.long ((z16 + z48) + z75)), .second, .val (.long z89), .second, .val (.long ((z24 + z56) + z82)), .second, .val (.long ((z32 + z64) + z89)), .second, .val (.long (q6 + q4)), .second, .val (.ref b95), .val (.ref b95), .val (.ref b95)] [(.ref b95)])) (fun t k => XS.aload Xh132.here hx rfl (hb hby at_276) rfl rfl k) ?_
  refine own_pre (B := T131.setTop (mkF m 279 #[.val (.long q1), .second, .val (.long q2), .second, .val (.long q3), .second, .val (.long q4), .second, .val (.int p5), .val (.long q6), .second, .val (.ref b8), .val (.ref b39), .val (.long z75), .second, .val (.long (q1 + q2)), .second, .val (.long z82), .second, .val (.long ((z16 + z48) + z75)), .second, .val (.long z89), .second, .val (.long ((z24 + z56) + z82)), .second, .val (.long ((z32 + z64) + z89)), .second, .val (.long (q6 + q4)), .second, .val (.ref b95), .val (.ref b95), .val (.ref b95)] [(.int (2 : Int32)), (.ref b95)])) (fun t k => XS.iconst Xh132.here hx rfl (hb hby at_278) k) ?_
  obtain ⟨cq134, kq134, q134a, q134b, q134c⟩ := isOf hZ e131 q119_0
  obtain ⟨_, _, ⟨T134, L134, k134, n134⟩, -, X134, ⟨Lc134, hQ134, l134, y134, z134⟩, st134⟩ := Xh132.virtualBack hx (y := (⟨"com/example/rangewise/rangewise/Fingerprint$Builder", "word", "(I)J"⟩ : MethodName)) (z := (⟨"com/example/rangewise/rangewise/Fingerprint$Builder", "word", "(I)J"⟩ : MethodName)) hown (mvT hZ (hw _ (ow 32 rfl))) (mvT hZ (hw _ (ow 33 rfl))) (notFace_of_selects (args := #[]) (mvT hZ (hw _ (ow 35 rfl)))) (mvT hZ (hw _ (ow 35 rfl))) (mvT hZ (hw _ (ow 34 rfl))) (by decide) (backOf (W := 0) (rm7_2 l Z a0 hw [] b95 b4_99 k4_99 z122 z123 z124 z125 T119.heap n0 sz127 q119_1 q119_3) hZ (hw _ (ow 36 rfl)) (hw _ (ow 11 rfl)) (by decide) (by decide)) q134a q134c (g := (mkF m 279 #[.val (.long q1), .second, .val (.long q2), .second, .val (.long q3), .second, .val (.long q4), .second, .val (.int p5), .val (.long q6), .second, .val (.ref b8), .val (.ref b39), .val (.long z75), .second, .val (.long (q1 + q2)), .second, .val (.long z82), .second, .val (.long ((z16 + z48) + z75)), .second, .val (.long z89), .second, .val (.long ((z24 + z56) + z82)), .second, .val (.long ((z32 + z64) + z89)), .second, .val (.long (q6 + q4)), .second, .val (.ref b95), .val (.ref b95), .val (.ref b95)] [(.int (2 : Int32)), (.ref b95)])) rfl (by rw [hml]; rfl) (Steps.refl _) (argsL := [(.int (2 : Int32))]) (rest := []) (lenOf pd_4 rfl) rfl (by show 2 * 0 + _ ≤ _; exact Nat.le_of_eq rfl) (hb hby at_279) (fun _ _ => ⟨rfl, e131, (by decide : 4 + 0 ≤ _), (by decide : 14 + 0 ≤ _)⟩)
  dsimp only [Pt.U, Pt.locs, Pt.cells, Pt.slots] at X134 l134 y134 z134 st134 hQ134
  subst l134 y134 z134
  obtain ⟨rfl, N134q, e134⟩ := hQ134
  have N134 := Fr.app Nh132 N134q
  obtain ⟨Lh135, Xh135, Nh135⟩ := own_hide X134 N134
  obtain ⟨z136, hz136⟩ : ∃ z : Int64, z = (own_f7_2 z122 z123 z124 z125) := ⟨_, rfl⟩
  rw [← hz136] at st134
  refine own_pre (B := T134.setTop (mkF m 282 #[.val (.long q1), .second, .val (.long q2), .second, .val (.long q3), .second, .val (.long q4), .second, .val (.int p5), .val (.long q6), .second, .val (.ref b8), .val (.ref b39), .val (.long z75), .second, .val (.long (q1 + q2)), .second, .val (.long z82), .second, .val (.long ((z16 + z48) + z75)), .second, .val (.long z89), .second, .val (.long ((z24 + z56) + z82)), .second, .val (.long ((z32 + z64) + z89)), .second, .val (.long (q6 + q4)), .second, .val (.ref b95), .val (.ref b95), .val (.ref b95)] [(.long z136)])) (fun t k => st134.trans k) ?_
  refine own_pre (B := T134.setTop (mkF m 284 #[.val (.long q1), .second, .val (.long q2), .second, .val (.long q3), .second, .val (.long q4), .second, .val (.int p5), .val (.long q6), .second, .val (.ref b8), .val (.ref b39), .val (.long z75), .second, .val (.long (q1 + q2)), .second, .val (.long z82), .second, .val (.long ((z16 + z48) + z75)), .second, .val (.long z89), .second, .val (.long ((z24 + z56) + z82)), .second, .val (.long ((z32 + z64) + z89)), .second, .val (.long (q6 + q4)), .second, .val (.ref b95), .val (.ref b95), .val (.ref b95)] [(.long ((z24 + z56) + z82)), (.long z136)])) (fun t k => XS.lload Xh135.here hx rfl (hb hby at_282) rfl k) ?_
  refine own_pre (B := T134.setTop (mkF m 285 #[.val (.long q1), .second, .val (.long q2), .second, .val (.long q3), .second, .val (.long q4), .second, .val (.int p5), .val (.long q6), .second, .val (.ref b8), .val (.ref b39), .val (.long z75), .second, .val (.long (q1 + q2)), .second, .val (.long z82), .second, .val (.long ((z16 + z48) + z75)), .second, .val (.long z89), .second, .val (.long ((z24 + z56) + z82)), .second, .val (.long ((z32 + z64) + z89)), .second, .val (.long (q6 + q4)), .second, .val (.ref b95), .val (.ref b95), .val (.ref b95)] [(.int (lcmpW z136 ((z24 + z56) + z82)))])) (fun t k => XS.lcmp Xh135.here hx rfl (hb hby at_284) rfl k) ?_
  refine own_pre (B := T134.setTop (mkF m 288 #[.val (.long q1), .second, .val (.long q2), .second, .val (.long q3), .second, .val (.long q4), .second, .val (.int p5), .val (.long q6), .second, .val (.ref b8), .val (.ref b39), .val (.long z75), .second, .val (.long (q1 + q2)), .second, .val (.long z82), .second, .val (.long ((z16 + z48) + z75)), .second, .val (.long z89), .second, .val (.long ((z24 + z56) + z82)), .second, .val (.long ((z32 + z64) + z89)), .second, .val (.long (q6 + q4)), .second, .val (.ref b95), .val (.ref b95), .val (.ref b95)] [])) (fun t k => XS.ifNo Xh135.here hx rfl (hb hby at_285) rfl ((if0 _ _).trans (teq ((lw_eq z136 ((z24 + z56) + z82)).mpr (own_w2 hz75 hz82 hz112 hz113 hz114 hz115 hz122 hz123 hz124 hz125 hz136))).2) k) ?_
  refine own_pre (B := T134.setTop (mkF m 290 #[.val (.long q1), .second, .val (.long q2), .second, .val (.long q3), .second, .val (.long q4), .second, .val (.int p5), .val (.long q6), .second, .val (.ref b8), .val (.ref b39), .val (.long z75), .second, .val (.long (q1 + q2)), .second, .val (.long z82), .second, .val (.long ((z16 + z48) + z75)), .second, .val (.long z89), .second, .val (.long ((z24 + z56) + z82)), .second, .val (.long ((z32 + z64) + z89)), .second, .val (.long (q6 + q4)), .second, .val (.ref b95), .val (.ref b95), .val (.ref b95)] [(.ref b95)])) (fun t k => XS.aload Xh135.here hx rfl (hb hby at_288) rfl rfl k) ?_
  refine own_pre (B := T134.setTop (mkF m 291 #[.val (.long q1), .second, .val (.long q2), .second, .val (.long q3), .second, .val (.long q4), .second, .val (.int p5), .val (.long q6), .second, .val (.ref b8), .val (.ref b39), .val (.long z75), .second, .val (.long (q1 + q2)), .second, .val (.long z82), .second, .val (.long ((z16 + z48) + z75)), .second, .val (.long z89), .second, .val (.long ((z24 + z56) + z82)), .second, .val (.long ((z32 + z64) + z89)), .second, .val (.long (q6 + q4)), .second, .val (.ref b95), .val (.ref b95), .val (.ref b95)] [(.int (3 : Int32)), (.ref b95)])) (fun t k => XS.iconst Xh135.here hx rfl (hb hby at_290) k) ?_
  obtain ⟨cq137, kq137, q137a, q137b, q137c⟩ := isOf hZ e134 q119_0
  obtain ⟨_, _, ⟨T137, L137, k137, n137⟩, -, X137, ⟨Lc137, hQ137, l137, y137, z137⟩, st137⟩ := Xh135.virtualBack hx (y := (⟨"com/example/rangewise/rangewise/Fingerprint$Builder", "word", "(I)J"⟩ : MethodName)) (z := (⟨"com/example/rangewise/rangewise/Fingerprint$Builder", "word", "(I)J"⟩ : MethodName)) hown (mvT hZ (hw _ (ow 32 rfl))) (mvT hZ (hw _ (ow 33 rfl))) (notFace_of_selects (args := #[]) (mvT hZ (hw _ (ow 35 rfl)))) (mvT hZ (hw _ (ow 35 rfl))) (mvT hZ (hw _ (ow 34 rfl))) (by decide) (backOf (W := 0) (rm7_3 l Z a0 hw [] b95 b4_99 k4_99 z122 z123 z124 z125 T119.heap n0 sz127 q119_1 q119_3) hZ (hw _ (ow 36 rfl)) (hw _ (ow 11 rfl)) (by decide) (by decide)) q137a q137c (g := (mkF m 291 #[.val (.long q1), .second, .val (.long q2), .second, .val (.long q3), .second, .val (.long q4), .second, .val (.int p5), .val (.long q6), .second, .val (.ref b8), .val (.ref b39), .val (.long z75), .second, .val (.long (q1 + q2)), .second, .val (.long z82), .second, .val (.long ((z16 + z48) + z75)), .second, .val (.long z89), .second, .val (.long ((z24 + z56) + z82)), .second, .val (.long ((z32 + z64) + z89)), .second, .val (.long (q6 + q4)), .second, .val (.ref b95), .val (.ref b95), .val (.ref b95)] [(.int (3 : Int32)), (.ref b95)])) rfl (by rw [hml]; rfl) (Steps.refl _) (argsL := [(.int (3 : Int32))]) (rest := []) (lenOf pd_4 rfl) rfl (by show 2 * 0 + _ ≤ _; exact Nat.le_of_eq rfl) (hb hby at_291) (fun _ _ => ⟨rfl, e134, (by decide : 4 + 0 ≤ _), (by decide : 14 + 0 ≤ _)⟩)
  dsimp only [Pt.U, Pt.locs, Pt.cells, Pt.slots] at X137 l137 y137 z137 st137 hQ137
  subst l137 y137 z137
  obtain ⟨rfl, N137q, e137⟩ := hQ137
  have N137 := Fr.app Nh135 N137q
  obtain ⟨Lh138, Xh138, Nh138⟩ := own_hide X137 N137
  obtain ⟨z139, hz139⟩ : ∃ z : Int64, z = (own_f7_3 z122 z123 z124 z125) := ⟨_, rfl⟩
  rw [← hz139] at st137
  refine own_pre (B := T137.setTop (mkF m 294 #[.val (.long q1), .second, .val (.long q2), .second, .val (.long q3), .second, .val (.long q4), .second, .val (.int p5), .val (.long q6), .second, .val (.ref b8), .val (.ref b39), .val (.long z75), .second, .val (.long (q1 + q2)), .second, .val (.long z82), .second, .val (.long ((z16 + z48) + z75)), .second, .val (.long z89), .second, .val (.long ((z24 + z56) + z82)), .second, .val (.long ((z32 + z64) + z89)), .second, .val (.long (q6 + q4)), .second, .val (.ref b95), .val (.ref b95), .val (.ref b95)] [(.long z139)])) (fun t k => st137.trans k) ?_
  refine own_pre (B := T137.setTop (mkF m 296 #[.val (.long q1), .second, .val (.long q2), .second, .val (.long q3), .second, .val (.long q4), .second, .val (.int p5), .val (.long q6), .second, .val (.ref b8), .val (.ref b39), .val (.long z75), .second, .val (.long (q1 + q2)), .second, .val (.long z82), .second, .val (.long ((z16 + z48) + z75)), .second, .val (.long z89), .second, .val (.long ((z24 + z56) + z82)), .second, .val (.long ((z32 + z64) + z89)), .second, .val (.long (q6 + q4)), .second, .val (.ref b95), .val (.ref b95), .val (.ref b95)] [(.long ((z32 + z64) + z89)), (.long z139)])) (fun t k => XS.lload Xh138.here hx rfl (hb hby at_294) rfl k) ?_
  refine own_pre (B := T137.setTop (mkF m 297 #[.val (.long q1), .second, .val (.long q2), .second, .val (.long q3), .second, .val (.long q4), .second, .val (.int p5), .val (.long q6), .second, .val (.ref b8), .val (.ref b39), .val (.long z75), .second, .val (.long (q1 + q2)), .second, .val (.long z82), .second, .val (.long ((z16 + z48) + z75)), .second, .val (.long z89), .second, .val (.long ((z24 + z56) + z82)), .second, .val (.long ((z32 + z64) + z89)), .second, .val (.long (q6 + q4)), .second, .val (.ref b95), .val (.ref b95), .val (.ref b95)] [(.int (lcmpW z139 ((z32 + z64) + z89)))])) (fun t k => XS.lcmp Xh138.here hx rfl (hb hby at_296) rfl k) ?_
  refine own_pre (B := T137.setTop (mkF m 300 #[.val (.long q1), .second, .val (.long q2), .second, .val (.long q3), .second, .val (.long q4), .second, .val (.int p5), .val (.long q6), .second, .val (.ref b8), .val (.ref b39), .val (.long z75), .second, .val (.long (q1 + q2)), .second, .val (.long z82), .second, .val (.long ((z16 + z48) + z75)), .second, .val (.long z89), .second, .val (.long ((z24 + z56) + z82)), .second, .val (.long ((z32 + z64) + z89)), .second, .val (.long (q6 + q4)), .second, .val (.ref b95), .val (.ref b95), .val (.ref b95)] [])) (fun t k => XS.ifNo Xh138.here hx rfl (hb hby at_297) rfl ((if0 _ _).trans (teq ((lw_eq z139 ((z32 + z64) + z89)).mpr (own_w3 hz75 hz82 hz89 hz112 hz113 hz114 hz115 hz122 hz123 hz124 hz125 hz139))).2) k) ?_
  refine own_pre (B := T137.setTop (mkF m 302 #[.val (.long q1), .second, .val (.long q2), .second, .val (.long q3), .second, .val (.long q4), .second, .val (.int p5), .val (.long q6), .second, .val (.ref b8), .val (.ref b39), .val (.long z75), .second, .val (.long (q1 + q2)), .second, .val (.long z82), .second, .val (.long ((z16 + z48) + z75)), .second, .val (.long z89), .second, .val (.long ((z24 + z56) + z82)), .second, .val (.long ((z32 + z64) + z89)), .second, .val (.long (q6 + q4)), .second, .val (.ref b95), .val (.ref b95), .val (.ref b95)] [(.ref b95)])) (fun t k => XS.aload Xh138.here hx rfl (hb hby at_300) rfl rfl k) ?_
  obtain ⟨cq140, kq140, q140a, q140b, q140c⟩ := isOf hZ e137 q119_0
  obtain ⟨_, _, ⟨T140, L140, k140, n140⟩, -, X140, ⟨Lc140, hQ140, l140, y140, z140⟩, st140⟩ := Xh138.virtualBack hx (y := (⟨"com/example/rangewise/rangewise/Fingerprint$Builder", "count", "()J"⟩ : MethodName)) (z := (⟨"com/example/rangewise/rangewise/Fingerprint$Builder", "count", "()J"⟩ : MethodName)) hown (mvT hZ (hw _ (ow 37 rfl))) (mvT hZ (hw _ (ow 38 rfl))) (notFace_of_selects (args := #[]) (mvT hZ (hw _ (ow 40 rfl)))) (mvT hZ (hw _ (ow 40 rfl))) (mvT hZ (hw _ (ow 39 rfl))) (by decide) (backOf (W := 0) (rm8 l Z a0 hw [] b95 z121 T119.heap n0 sz127 q119_2) hZ (hw _ (ow 41 rfl)) (hw _ (ow 11 rfl)) (by decide) (by decide)) q140a q140c (g := (mkF m 302 #[.val (.long q1), .second, .val (.long q2), .second, .val (.long q3), .second, .val (.long q4), .second, .val (.int p5), .val (.long q6), .second, .val (.ref b8), .val (.ref b39), .val (.long z75), .second, .val (.long (q1 + q2)), .second, .val (.long z82), .second, .val (.long ((z16 + z48) + z75)), .second, .val (.long z89), .second, .val (.long ((z24 + z56) + z82)), .second, .val (.long ((z32 + z64) + z89)), .second, .val (.long (q6 + q4)), .second, .val (.ref b95), .val (.ref b95), .val (.ref b95)] [(.ref b95)])) rfl (by rw [hml]; rfl) (Steps.refl _) (argsL := []) (rest := []) (lenOf pd_5 rfl) rfl (by show 2 * 0 + _ ≤ _; exact Nat.le_of_eq rfl) (hb hby at_302) (fun _ _ => ⟨rfl, e137, (by decide : 4 + 0 ≤ _), (by decide : 14 + 0 ≤ _)⟩)
  dsimp only [Pt.U, Pt.locs, Pt.cells, Pt.slots] at X140 l140 y140 z140 st140 hQ140
  subst l140 y140 z140
  obtain ⟨rfl, N140q, e140⟩ := hQ140
  have N140 := Fr.app Nh138 N140q
  obtain ⟨Lh141, Xh141, Nh141⟩ := own_hide X140 N140
  obtain ⟨z142, hz142⟩ : ∃ z : Int64, z = (own_f8 z121) := ⟨_, rfl⟩
  rw [← hz142] at st140
  refine own_pre (B := T140.setTop (mkF m 305 #[.val (.long q1), .second, .val (.long q2), .second, .val (.long q3), .second, .val (.long q4), .second, .val (.int p5), .val (.long q6), .second, .val (.ref b8), .val (.ref b39), .val (.long z75), .second, .val (.long (q1 + q2)), .second, .val (.long z82), .second, .val (.long ((z16 + z48) + z75)), .second, .val (.long z89), .second, .val (.long ((z24 + z56) + z82)), .second, .val (.long ((z32 + z64) + z89)), .second, .val (.long (q6 + q4)), .second, .val (.ref b95), .val (.ref b95), .val (.ref b95)] [(.long z142)])) (fun t k => st140.trans k) ?_
  refine own_pre (B := T140.setTop (mkF m 307 #[.val (.long q1), .second, .val (.long q2), .second, .val (.long q3), .second, .val (.long q4), .second, .val (.int p5), .val (.long q6), .second, .val (.ref b8), .val (.ref b39), .val (.long z75), .second, .val (.long (q1 + q2)), .second, .val (.long z82), .second, .val (.long ((z16 + z48) + z75)), .second, .val (.long z89), .second, .val (.long ((z24 + z56) + z82)), .second, .val (.long ((z32 + z64) + z89)), .second, .val (.long (q6 + q4)), .second, .val (.ref b95), .val (.ref b95), .val (.ref b95)] [(.long (q6 + q4)), (.long z142)])) (fun t k => XS.lload Xh141.here hx rfl (hb hby at_305) rfl k) ?_
  refine own_pre (B := T140.setTop (mkF m 308 #[.val (.long q1), .second, .val (.long q2), .second, .val (.long q3), .second, .val (.long q4), .second, .val (.int p5), .val (.long q6), .second, .val (.ref b8), .val (.ref b39), .val (.long z75), .second, .val (.long (q1 + q2)), .second, .val (.long z82), .second, .val (.long ((z16 + z48) + z75)), .second, .val (.long z89), .second, .val (.long ((z24 + z56) + z82)), .second, .val (.long ((z32 + z64) + z89)), .second, .val (.long (q6 + q4)), .second, .val (.ref b95), .val (.ref b95), .val (.ref b95)] [(.int (lcmpW z142 (q6 + q4)))])) (fun t k => XS.lcmp Xh141.here hx rfl (hb hby at_307) rfl k) ?_
  refine own_pre (B := T140.setTop (mkF m 311 #[.val (.long q1), .second, .val (.long q2), .second, .val (.long q3), .second, .val (.long q4), .second, .val (.int p5), .val (.long q6), .second, .val (.ref b8), .val (.ref b39), .val (.long z75), .second, .val (.long (q1 + q2)), .second, .val (.long z82), .second, .val (.long ((z16 + z48) + z75)), .second, .val (.long z89), .second, .val (.long ((z24 + z56) + z82)), .second, .val (.long ((z32 + z64) + z89)), .second, .val (.long (q6 + q4)), .second, .val (.ref b95), .val (.ref b95), .val (.ref b95)] [])) (fun t k => XS.ifNo Xh141.here hx rfl (hb hby at_308) rfl ((if0 _ _).trans (teq ((lw_eq z142 (q6 + q4)).mpr (own_w4 hz111 hz121 hz142))).2) k) ?_
  refine own_pre (B := T140.setTop (mkF m 312 #[.val (.long q1), .second, .val (.long q2), .second, .val (.long q3), .second, .val (.long q4), .second, .val (.int p5), .val (.long q6), .second, .val (.ref b8), .val (.ref b39), .val (.long z75), .second, .val (.long (q1 + q2)), .second, .val (.long z82), .second, .val (.long ((z16 + z48) + z75)), .second, .val (.long z89), .second, .val (.long ((z24 + z56) + z82)), .second, .val (.long ((z32 + z64) + z89)), .second, .val (.long (q6 + q4)), .second, .val (.ref b95), .val (.ref b95), .val (.ref b95)] [(.int (1 : Int32))])) (fun t k => XS.iconst Xh141.here hx rfl (hb hby at_311) k) ?_
  refine own_pre (B := T140.setTop (mkF m 316 #[.val (.long q1), .second, .val (.long q2), .second, .val (.long q3), .second, .val (.long q4), .second, .val (.int p5), .val (.long q6), .second, .val (.ref b8), .val (.ref b39), .val (.long z75), .second, .val (.long (q1 + q2)), .second, .val (.long z82), .second, .val (.long ((z16 + z48) + z75)), .second, .val (.long z89), .second, .val (.long ((z24 + z56) + z82)), .second, .val (.long ((z32 + z64) + z89)), .second, .val (.long (q6 + q4)), .second, .val (.ref b95), .val (.ref b95), .val (.ref b95)] [(.int (1 : Int32))])) (fun t k => XS.goto Xh141.here hx rfl (pc0 := 312) (pc' := 316) rfl (hb hby at_312) (by decide) (by decide) k) ?_
  obtain ⟨fsr143, hrr143, hrunr143, hendedr143, hWr143, hsamer143⟩ := Xh141.leave (v := some (.int (1 : Int32))) (fun h => by rw [Bd.returns] at h; cases h)
  refine ⟨_, _, (retN Xh141 hx (t := .boolean) Bd.returns (by simp) (hb hby at_316) hrr143), hrunr143, hendedr143, _, _, rfl, ?_, ⟨_, rfl⟩, hWr143, hsamer143.mono (by decide) (by decide)⟩
  show Q0 Z q1 q2 q3 q4 p5 q6 h0 n0 _ T140.heap _
  rw [e140]
  exact ⟨rfl, Nh141⟩
set_option maxRecDepth 65536 in
set_option maxHeartbeats 40000000 in
theorem comes_1 {Post : Tables → Env → Array Value → State → Outcome → State → Prop} (hpost : ∀ tb e args s v u, (limb_1_1.after args s (.returned v) u = true ∧ limb_1_2.after args s (.returned v) u = true ∧ True) → FrameEnd s (.returned v) u (Jvm.fieldLocs frame_1_writes args s ++ Jvm.arrayLocs frame_1_arrays args s ++ Jvm.staticLocs frame_1_statics s) 16 128 → Post tb e args s (.returned v) u) :
    ArmFor flags0 classFile x code maxLocals ret World_1 tables_1 room_1 Calls_1 rest_1 Pre_1 Post := by
  intro l hfl _ _ p e ha hc hk s m args below hf hA hF happ hP
  obtain ⟨hcalls, hrest, hpre⟩ := hP
  obtain ⟨-, -, -, hnamed, -, -, -, hat⟩ := (Spec.applies_iff hf).mp happ
  obtain ⟨hg, hn⟩ := and_e (Cond.before_iff.mp (show (Jvm.Cond.and given_1 narrow_1).before args s = true from hpre))
  obtain ⟨g1, g2⟩ := and_e hg
  obtain ⟨g3, g4⟩ := and_e g2
  obtain ⟨g5, g6⟩ := and_e g4
  obtain ⟨g7, g8⟩ := and_e g6
  obtain ⟨g9, g10⟩ := and_e g8
  obtain ⟨g11, g12⟩ := and_e g10
  obtain ⟨w0, w1, w2, w3, w4, w5, rfl⟩ : ∃ w0 w1 w2 w3 w4 w5 : Value, args = #[w0, w1, w2, w3, w4, w5] := by
    have hs : args.size = 6 := by simpa [Cond.value, given_1] using g1
    obtain ⟨L⟩ := args
    match L, hs with
    | [w0, w1, w2, w3, w4, w5], _ => exact ⟨w0, w1, w2, w3, w4, w5, rfl⟩
  have hw := fun d (hd : d ∈ tables_1) => atoms_spec (ws := Jvm.Cond.code x code maxLocals ret :: tables_1) hat d (List.mem_cons_of_mem _ hd)
  have hfit : Fit s := fun {y c} hc i hi => by
    obtain ⟨ha, rfl⟩ := Array.getElem?_eq_some_iff.mp hc
    have q := List.all_eq_true.mp ((Array.all_eq_true_iff_forall_mem.mp hF) _ (Array.getElem_mem ha)) i (List.mem_range.mpr hi)
    simpa [Array.getElem?_eq_getElem hi] using q
  obtain ⟨i0, ei0⟩ := isL_v g3
  obtain rfl : w0 = (.long i0) := Option.some.inj ei0
  obtain ⟨i1, ei1⟩ := isL_v g5
  obtain rfl : w1 = (.long i1) := Option.some.inj ei1
  obtain ⟨i2, ei2⟩ := isL_v g7
  obtain rfl : w2 = (.long i2) := Option.some.inj ei2
  obtain ⟨i3, ei3⟩ := isL_v g9
  obtain rfl : w3 = (.long i3) := Option.some.inj ei3
  obtain ⟨i4, ei4⟩ := is_v g11
  obtain rfl : w4 = (.int i4) := Option.some.inj ei4
  obtain ⟨i5, ei5⟩ := isL_v g12
  obtain rfl : w5 = (.long i5) := Option.some.inj ei5
  obtain ⟨n, o, h1, h2, h3, _, L, rfl, ⟨rfl, N⟩, hq⟩ := rm0 l s _ hw tables_1 i0 i1 i2 i3 i4 i5  s.heap s.heap.size (Nat.le_refl _)  p e ha hc hk s m _ below hf ((Spec.applies_iff_loose hf).mp happ).1 ⟨rfl, State.Warmed39.refl s, rfl⟩ trivial
  refine ⟨n, _, h1, h2, h3, hpost _ _ _ _ _ _ ⟨Cond.after_iff.mpr rfl, Cond.after_iff.mpr (eq_i res_at (Term.int_eval (1)) rfl), trivial⟩ ⟨hq.1, hq.2.1, (hq.2.2.sift fun y hy => Or.inr (N y hy)).mono (by decide) (by decide)⟩⟩
theorem main_1_1 : Claimed_1_1 := comes_1 fun _ _ _ _ _ _ h hF => ⟨h.1, hF⟩
theorem main_1_2 : Claimed_1_2 := comes_1 fun _ _ _ _ _ _ h hF => ⟨h.2.1, hF⟩
end Jvm.Pilot.@@N@@
namespace Jvm.Pilot.@@N@@
open Jvm Jvm.ClassFile Sem Op Lib Jvm.Free Jvm.Stand Jvm.Pilot.@@N@@.Jvm.D
/-! MADE BY PROGRAM (witnessworld.py) out of the Statement's table words and the real class files: 11 classes; the members and pool entries that the words name. The judged class is class 1, her method 3. -/
namespace start1
open Jvm.ClassFile
def u (s : String) : CpInfo := .utf8 (stringToUtf16 s)
/-- a pool by its gaps: so many unusable entries, then the entry; so many at the end -/
def gap : Nat → List CpInfo → List CpInfo
  | 0, r => r
  | n + 1, r => .unusable :: gap n r
def poolList (es : List (Nat × CpInfo)) (last : Nat) : List CpInfo := es.foldr (fun e r => gap e.1 (e.2 :: r)) (gap last [])
def pool (es : List (Nat × CpInfo)) (last : Nat) : Array CpInfo := ⟨poolList es last⟩
def fileOf (pool : Array CpInfo) (this : Nat) (attrs : Array Attribute := #[]) (ms : Array MethodInfo := #[]) (fl : Nat := 33) (sup : Nat := 0) (ifs : Array Nat := #[]) (fds : Array FieldInfo := #[]) : ClassFile where
  minorVersion := 0
  majorVersion := 65
  constantPool := pool
  accessFlags := fl
  thisClass := this
  superClass := sup
  interfaces := ifs
  fields := fds
  methods := ms
  attributes := attrs
def plain (name : String) (sup : Option ClassId) : Class where
  name := name
  kind := .ordinary
  loader := none
  accessFlags := 33
  super := sup
  interfaces := #[]
  cf := none
  fields := #[]
  methods := #[]
  instanceTypes := #[]
  staticTypes := #[]
  resolved := #[]
  callSites := []
  init := .initialized
  statics := none
  mirror := none

def pool0 : Array CpInfo := pool [(5, u "<init>"), (0, u "()V"), (1, .class_ 10), (1, u "java/lang/Object")] 113

def k0c0 : Code := { maxStack := 0, maxLocals := 1, code := object_method_1_code, exceptionTable := #[], attributes := #[] }
def k0m0 : Method := { name := "<init>", desc := "()V", sig := { parameters := [], returnType := none }, accessFlags := 1, code := some k0c0 }
/-- java/lang/Object -/
def k0 : Class := { plain "java/lang/Object" none with
  accessFlags := 33
  interfaces := #[]
  cf := some (fileOf pool0 8 #[] #[{ accessFlags := 1, nameIndex := 5, descriptorIndex := 6, attributes := #[] }] 33 0 #[] #[])
  fields := #[]
  methods := #[k0m0]
  instanceTypes := #[]
  staticTypes := #[]
  resolved := Array.replicate 124 none
  statics := none }

def pool1 : Array CpInfo := pool [(2, .class_ 4), (0, .nameAndType 5 6), (0, u "java/lang/Object"), (0, u "<init>"), (0, u "()V"), (0, .long 18446744073709551615), (1, .long 4294967295), (1, .methodref 12 13), (0, .class_ 14), (0, .nameAndType 15 16), (0, u "com/example/rangewise/rangewise/BuilderAddPinLaw"), (0, u "pick"), (0, u "(IJJ)J"), (0, .methodref 12 18), (0, .nameAndType 19 20), (0, u "carryOut"), (0, u "(JJJ)J"), (0, .class_ 22), (0, u "com/example/rangewise/rangewise/Fingerprint$Builder"), (0, .methodref 21 3), (0, .methodref 21 25), (0, .nameAndType 26 27), (0, u "add"), (0, u "([JJ)Lcom/example/rangewise/rangewise/Fingerprint$Builder;"), (0, .methodref 21 29), (0, .nameAndType 30 31), (0, u "word"), (0, u "(I)J"), (0, .methodref 21 33), (0, .nameAndType 34 35), (0, u "count"), (0, u "()J"), (3, u "law"), (0, u "(JJJJIJ)Z")] 8

def k1m0 : Method := { name := "<init>", desc := "()V", sig := { parameters := [], returnType := none }, accessFlags := 1, code := none }
def k1c1 : Code := { maxStack := 2, maxLocals := 6, code := method_2_code, exceptionTable := #[], attributes := #[] }
def k1m1 : Method := { name := "pick", desc := "(IJJ)J", sig := { parameters := [.int, .long, .long], returnType := some .long }, accessFlags := 10, code := some k1c1 }
def k1c2 : Code := { maxStack := 6, maxLocals := 10, code := method_3_code, exceptionTable := #[], attributes := #[] }
def k1m2 : Method := { name := "carryOut", desc := "(JJJ)J", sig := { parameters := [.long, .long, .long], returnType := some .long }, accessFlags := 10, code := some k1c2 }
def k1c3 : Code := { maxStack := 8, maxLocals := 32, code := code, exceptionTable := #[], attributes := #[] }
def k1m3 : Method := { name := "law", desc := "(JJJJIJ)Z", sig := { parameters := [.long, .long, .long, .long, .int, .long], returnType := some .boolean }, accessFlags := 9, code := some k1c3 }
/-- com/example/rangewise/rangewise/BuilderAddPinLaw -/
def k1 : Class := { plain "com/example/rangewise/rangewise/BuilderAddPinLaw" (some 0) with
  accessFlags := 49
  interfaces := #[]
  cf := some (fileOf pool1 12 #[] #[{ accessFlags := 1, nameIndex := 5, descriptorIndex := 6, attributes := #[] }, { accessFlags := 10, nameIndex := 15, descriptorIndex := 16, attributes := #[] }, { accessFlags := 10, nameIndex := 19, descriptorIndex := 20, attributes := #[] }, { accessFlags := 9, nameIndex := 39, descriptorIndex := 40, attributes := #[] }] 49 2 #[] #[])
  fields := #[]
  methods := #[k1m0, k1m1, k1m2, k1m3]
  instanceTypes := #[]
  staticTypes := #[]
  resolved := Array.replicate 49 none
  statics := none }

def pool2 : Array CpInfo := pool [(5, .methodref 6 7), (0, .class_ 8), (0, .nameAndType 9 10), (0, u "java/lang/Object"), (0, u "<init>"), (0, u "()V"), (0, .class_ 12), (0, u "com/example/rangewise/rangewise/Fingerprint$Builder"), (0, .fieldref 11 14), (0, .nameAndType 15 16), (0, u "sum"), (0, u "[J"), (2, u "word"), (0, u "(I)J"), (2, u "add"), (5, .methodref 11 30), (0, .nameAndType 31 32), (0, u "addWord"), (0, u "(IJJ)J"), (0, .fieldref 11 34), (0, .nameAndType 35 36), (0, u "count"), (0, u "J"), (2, u "([JJ)Lcom/example/rangewise/rangewise/Fingerprint$Builder;"), (7, .class_ 49), (1, u "com/example/rangewise/rangewise/Fingerprint"), (2, .long 18446744073709551615), (1, u "WORDS"), (0, u "I"), (7, u "()J")] 9

def k2c0 : Code := { maxStack := 2, maxLocals := 1, code := prog_22_method_1_code, exceptionTable := #[], attributes := #[] }
def k2m0 : Method := { name := "<init>", desc := "()V", sig := { parameters := [], returnType := none }, accessFlags := 1, code := some k2c0 }
def k2c1 : Code := { maxStack := 6, maxLocals := 7, code := prog_22_method_5_code, exceptionTable := #[], attributes := #[] }
def k2m1 : Method := { name := "add", desc := "([JJ)Lcom/example/rangewise/rangewise/Fingerprint$Builder;", sig := { parameters := [(.array .long), .long], returnType := some (.object "com/example/rangewise/rangewise/Fingerprint$Builder") }, accessFlags := 0, code := some k2c1 }
def k2c2 : Code := { maxStack := 2, maxLocals := 1, code := prog_22_method_6_code, exceptionTable := #[], attributes := #[] }
def k2m2 : Method := { name := "count", desc := "()J", sig := { parameters := [], returnType := some .long }, accessFlags := 0, code := some k2c2 }
def k2c3 : Code := { maxStack := 2, maxLocals := 2, code := prog_22_method_7_code, exceptionTable := #[], attributes := #[] }
def k2m3 : Method := { name := "word", desc := "(I)J", sig := { parameters := [.int], returnType := some .long }, accessFlags := 0, code := some k2c3 }
def k2c4 : Code := { maxStack := 8, maxLocals := 10, code := prog_22_method_10_code, exceptionTable := #[], attributes := #[] }
def k2m4 : Method := { name := "addWord", desc := "(IJJ)J", sig := { parameters := [.int, .long, .long], returnType := some .long }, accessFlags := 2, code := some k2c4 }
/-- com/example/rangewise/rangewise/Fingerprint$Builder -/
def k2 : Class := { plain "com/example/rangewise/rangewise/Fingerprint$Builder" (some 0) with
  accessFlags := 49
  interfaces := #[]
  cf := some (fileOf pool2 11 #[.nestHost 47] #[{ accessFlags := 1, nameIndex := 9, descriptorIndex := 10, attributes := #[] }, { accessFlags := 0, nameIndex := 23, descriptorIndex := 39, attributes := #[] }, { accessFlags := 0, nameIndex := 35, descriptorIndex := 63, attributes := #[] }, { accessFlags := 0, nameIndex := 19, descriptorIndex := 20, attributes := #[] }, { accessFlags := 2, nameIndex := 31, descriptorIndex := 32, attributes := #[] }] 49 6 #[] #[{ accessFlags := 26, nameIndex := 54, descriptorIndex := 55, attributes := #[] }, { accessFlags := 18, nameIndex := 15, descriptorIndex := 16, attributes := #[] }, { accessFlags := 2, nameIndex := 35, descriptorIndex := 36, attributes := #[] }])
  fields := #[{ name := "WORDS", type := .int, accessFlags := 26, slot := 0, constantValue := 0 }, { name := "sum", type := (.array .long), accessFlags := 18, slot := 0, constantValue := 0 }, { name := "count", type := .long, accessFlags := 2, slot := 1, constantValue := 0 }]
  methods := #[k2m0, k2m1, k2m2, k2m3, k2m4]
  instanceTypes := #[(.array .long), .long]
  staticTypes := #[.int]
  resolved := Array.replicate 73 none
  statics := none }

def pool3 : Array CpInfo := pool [(1, u "java/lang/Cloneable"), (0, .class_ 1), (0, u "java/lang/Object"), (0, .class_ 3)] 3

/-- java/lang/Cloneable -/
def k3 : Class := { plain "java/lang/Cloneable" (some 0) with
  accessFlags := 1537
  interfaces := #[]
  cf := some (fileOf pool3 2 #[] #[] 1537 4 #[] #[])
  fields := #[]
  methods := #[]
  instanceTypes := #[]
  staticTypes := #[]
  resolved := Array.replicate 8 none
  statics := none }

def pool4 : Array CpInfo := pool [(1, u "java/io/Serializable"), (0, .class_ 1), (0, u "java/lang/Object"), (0, .class_ 3)] 3

/-- java/io/Serializable -/
def k4 : Class := { plain "java/io/Serializable" (some 0) with
  accessFlags := 1537
  interfaces := #[]
  cf := some (fileOf pool4 2 #[] #[] 1537 4 #[] #[])
  fields := #[]
  methods := #[]
  instanceTypes := #[]
  staticTypes := #[]
  resolved := Array.replicate 8 none
  statics := none }

/-- the primitive byte -/
def k5 : Class := { plain "byte" none with kind := .primitive 'B', accessFlags := 0x411 }
/-- [B -/
def k6 : Class := { plain "[B" (some 0) with kind := .array 5 .byte, interfaces := #[3, 4], accessFlags := 1041 }

/-- the primitive int -/
def k7 : Class := { plain "int" none with kind := .primitive 'I', accessFlags := 0x411 }
/-- [I -/
def k8 : Class := { plain "[I" (some 0) with kind := .array 7 .int, interfaces := #[3, 4], accessFlags := 1041 }

/-- the primitive long -/
def k9 : Class := { plain "long" none with kind := .primitive 'J', accessFlags := 0x411 }
/-- [J -/
def k10 : Class := { plain "[J" (some 0) with kind := .array 9 .long, interfaces := #[3, 4], accessFlags := 1041 }

def heap : Heap := #[]
def classes : Array Class := #[k0, k1, k2, k3, k4, k5, k6, k7, k8, k9, k10]
def interned : List (Array UInt16 × Addr) := []
def slotsUsed : Nat := 0
def theMethod : MethodId := ⟨1, 3⟩
def args0 : Array Value := #[.long 5, .long 6, .long 7, .long 8, .int 25, .long 9]
def aboutOver (below : List Frame) : State where
  vm := { classes := classes, interned := interned.toArray }
  heap := heap
  slotsUsed := slotsUsed
  threads := #[{ frames := .invoking theMethod args0 :: below }]
def below0 : List Frame := [.native { method := ⟨0, 0⟩, args := #[] }]
def about1 : State := aboutOver below0
def p0 : Program := .bare "" "" ""
def e0 : Env := launch0.env 0 0 0
theorem w_frames : about1.frames = Frame.invoking theMethod args0 :: below0 := rfl
set_option maxRecDepth 65536 in
theorem w_args : argsFit about1.vm theMethod args0 = true := by decide +kernel
set_option maxRecDepth 65536 in
theorem w_heap : heapFits about1 = true := by decide +kernel
set_option maxRecDepth 65536 in
theorem w_runnable : about1.curStatus? = some .runnable := by decide +kernel
set_option maxRecDepth 65536 in
theorem w_alone : about1.alone = true := by decide +kernel
set_option maxRecDepth 65536 in
theorem w_named : about1.methodNamed? x = some theMethod := by decide +kernel
set_option maxRecDepth 65536 in
theorem w_hears : about1.hears theMethod below0 = true := by decide +kernel
set_option maxRecDepth 65536 in
theorem w_ripe : about1.ripe theMethod args0 below0 = true := by decide +kernel
theorem w_running : about1.status = .running := rfl
set_option maxRecDepth 65536 in
theorem w_room : about1.hasRoom e0.platform room_1 = true :=
  launch0.hasRoom_least _ room_1 (by decide +kernel) (by decide +kernel) (by decide +kernel) (by decide +kernel) (by decide +kernel) (by decide +kernel)
theorem allAtoms_all (ts : List Jvm.Cond) (a : Array Jvm.Value) (st : Jvm.State) : (allAtoms ts).before a st = ts.all (fun c => c.before a st) := by
  induction ts with
  | nil => rfl
  | cons c t ih =>
    show (Jvm.Cond.and c (allAtoms t)).before a st = _
    rw [Jvm.Cond.before_and, ih, List.all_cons]
def words1 : List Jvm.Cond := Jvm.Cond.code x code maxLocals ret :: tables_1
/-- a 'code' word, met by the world's own term for the bytes: nothing is compared byte by byte -/
theorem code_word {y : MethodName} {bytes : ByteArray} {mx : Nat} {rt : Option FieldType} {a : Array Value} {s : State} {m : MethodId} {meth : Method} {c : Code} (h1 : s.methodNamed? y = some m) (h2 : s.vm.method? m = some meth) (h3 : meth.code = some c) (h4 : c.code = bytes)
    (h5 : (c.maxLocals == mx && c.exceptionTable.isEmpty && decide (c.maxStack ≤ mostOperands) && decide (meth.sig.returnType = rt) && !meth.locks && decide (parseMethodDescriptor y.desc = some meth.sig)) = true) : (Jvm.Cond.code y bytes mx rt).before a s = true := by
  simp only [Bool.and_eq_true, beq_iff_eq, Bool.not_eq_true', decide_eq_true_eq] at h5
  obtain ⟨⟨⟨⟨⟨g1, g2⟩, g3⟩, g4⟩, g5⟩, g6⟩ := h5
  simp [Cond.before, Cond.holds, Cond.value, h1, h2, h3, h4, g1, g2, g3, g4, g5, g6]
def isCode : Jvm.Cond → Bool
  | .code _ _ _ _ => true
  | _ => false
theorem all_split {L : List Jvm.Cond} {P : Jvm.Cond → Bool} (h1 : L.all (fun c => isCode c || P c) = true) (h2 : ∀ c ∈ L.filter isCode, P c = true) : L.all P = true := by
  refine List.all_eq_true.mpr fun c hc => ?_
  have h := List.all_eq_true.mp h1 c hc
  rcases Bool.eq_false_or_eq_true (isCode c) with hi | hi
  · exact h2 c (List.mem_filter.mpr ⟨hc, hi⟩)
  · simpa [hi] using h
set_option maxRecDepth 65536 in
theorem w_c0 : (Jvm.Cond.code x code maxLocals ret).before args0 about1 = true := code_word (m := ⟨1, 3⟩) (meth := k1m3) (c := k1c3) (by decide +kernel) rfl rfl rfl (by decide +kernel)
set_option maxRecDepth 65536 in
theorem w_c1 : (Jvm.Cond.code ({ cls := "com/example/rangewise/rangewise/BuilderAddPinLaw", name := "pick", desc := "(IJJ)J" } : Jvm.MethodName) method_2_code (6 : Nat) (Option.some Jvm.ClassFile.FieldType.long)).before args0 about1 = true := code_word (m := ⟨1, 1⟩) (meth := k1m1) (c := k1c1) (by decide +kernel) rfl rfl rfl (by decide +kernel)
set_option maxRecDepth 65536 in
theorem w_c2 : (Jvm.Cond.code ({ cls := "com/example/rangewise/rangewise/BuilderAddPinLaw", name := "carryOut", desc := "(JJJ)J" } : Jvm.MethodName) method_3_code (10 : Nat) (Option.some Jvm.ClassFile.FieldType.long)).before args0 about1 = true := code_word (m := ⟨1, 2⟩) (meth := k1m2) (c := k1c2) (by decide +kernel) rfl rfl rfl (by decide +kernel)
set_option maxRecDepth 65536 in
theorem w_c3 : (Jvm.Cond.code ({ cls := "com/example/rangewise/rangewise/Fingerprint$Builder", name := "<init>", desc := "()V" } : Jvm.MethodName) prog_22_method_1_code (1 : Nat) (Option.none : Option Jvm.ClassFile.FieldType)).before args0 about1 = true := code_word (m := ⟨2, 0⟩) (meth := k2m0) (c := k2c0) (by decide +kernel) rfl rfl rfl (by decide +kernel)
set_option maxRecDepth 65536 in
theorem w_c4 : (Jvm.Cond.code ({ cls := "java/lang/Object", name := "<init>", desc := "()V" } : Jvm.MethodName) object_method_1_code (1 : Nat) (Option.none : Option Jvm.ClassFile.FieldType)).before args0 about1 = true := code_word (m := ⟨0, 0⟩) (meth := k0m0) (c := k0c0) (by decide +kernel) rfl rfl rfl (by decide +kernel)
set_option maxRecDepth 65536 in
theorem w_c5 : (Jvm.Cond.code ({ cls := "com/example/rangewise/rangewise/Fingerprint$Builder", name := "add", desc := "([JJ)Lcom/example/rangewise/rangewise/Fingerprint$Builder;" } : Jvm.MethodName) prog_22_method_5_code (7 : Nat) (Option.some (Jvm.ClassFile.FieldType.object "com/example/rangewise/rangewise/Fingerprint$Builder"))).before args0 about1 = true := code_word (m := ⟨2, 1⟩) (meth := k2m1) (c := k2c1) (by decide +kernel) rfl rfl rfl (by decide +kernel)
set_option maxRecDepth 65536 in
theorem w_c6 : (Jvm.Cond.code ({ cls := "com/example/rangewise/rangewise/Fingerprint$Builder", name := "addWord", desc := "(IJJ)J" } : Jvm.MethodName) prog_22_method_10_code (10 : Nat) (Option.some Jvm.ClassFile.FieldType.long)).before args0 about1 = true := code_word (m := ⟨2, 4⟩) (meth := k2m4) (c := k2c4) (by decide +kernel) rfl rfl rfl (by decide +kernel)
set_option maxRecDepth 65536 in
theorem w_c7 : (Jvm.Cond.code ({ cls := "com/example/rangewise/rangewise/Fingerprint$Builder", name := "word", desc := "(I)J" } : Jvm.MethodName) prog_22_method_7_code (2 : Nat) (Option.some Jvm.ClassFile.FieldType.long)).before args0 about1 = true := code_word (m := ⟨2, 3⟩) (meth := k2m3) (c := k2c3) (by decide +kernel) rfl rfl rfl (by decide +kernel)
set_option maxRecDepth 65536 in
theorem w_c8 : (Jvm.Cond.code ({ cls := "com/example/rangewise/rangewise/Fingerprint$Builder", name := "count", desc := "()J" } : Jvm.MethodName) prog_22_method_6_code (1 : Nat) (Option.some Jvm.ClassFile.FieldType.long)).before args0 about1 = true := code_word (m := ⟨2, 2⟩) (meth := k2m2) (c := k2c2) (by decide +kernel) rfl rfl rfl (by decide +kernel)
def codes1 : List Jvm.Cond := [Jvm.Cond.code x code maxLocals ret, Jvm.Cond.code ({ cls := "com/example/rangewise/rangewise/BuilderAddPinLaw", name := "pick", desc := "(IJJ)J" } : Jvm.MethodName) method_2_code (6 : Nat) (Option.some Jvm.ClassFile.FieldType.long), Jvm.Cond.code ({ cls := "com/example/rangewise/rangewise/BuilderAddPinLaw", name := "carryOut", desc := "(JJJ)J" } : Jvm.MethodName) method_3_code (10 : Nat) (Option.some Jvm.ClassFile.FieldType.long), Jvm.Cond.code ({ cls := "com/example/rangewise/rangewise/Fingerprint$Builder", name := "<init>", desc := "()V" } : Jvm.MethodName) prog_22_method_1_code (1 : Nat) (Option.none : Option Jvm.ClassFile.FieldType), Jvm.Cond.code ({ cls := "java/lang/Object", name := "<init>", desc := "()V" } : Jvm.MethodName) object_method_1_code (1 : Nat) (Option.none : Option Jvm.ClassFile.FieldType), Jvm.Cond.code ({ cls := "com/example/rangewise/rangewise/Fingerprint$Builder", name := "add", desc := "([JJ)Lcom/example/rangewise/rangewise/Fingerprint$Builder;" } : Jvm.MethodName) prog_22_method_5_code (7 : Nat) (Option.some (Jvm.ClassFile.FieldType.object "com/example/rangewise/rangewise/Fingerprint$Builder")), Jvm.Cond.code ({ cls := "com/example/rangewise/rangewise/Fingerprint$Builder", name := "addWord", desc := "(IJJ)J" } : Jvm.MethodName) prog_22_method_10_code (10 : Nat) (Option.some Jvm.ClassFile.FieldType.long), Jvm.Cond.code ({ cls := "com/example/rangewise/rangewise/Fingerprint$Builder", name := "word", desc := "(I)J" } : Jvm.MethodName) prog_22_method_7_code (2 : Nat) (Option.some Jvm.ClassFile.FieldType.long), Jvm.Cond.code ({ cls := "com/example/rangewise/rangewise/Fingerprint$Builder", name := "count", desc := "()J" } : Jvm.MethodName) prog_22_method_6_code (1 : Nat) (Option.some Jvm.ClassFile.FieldType.long)]
set_option maxRecDepth 65536 in
theorem codes_eq : words1.filter isCode = codes1 := rfl
theorem w_codes : ∀ c ∈ words1.filter isCode, c.before args0 about1 = true := by
  rw [codes_eq]
  intro c hc
  simp only [codes1, List.mem_cons, List.not_mem_nil, or_false] at hc
  rcases hc with rfl | rfl | rfl | rfl | rfl | rfl | rfl | rfl | rfl
  · exact w_c0
  · exact w_c1
  · exact w_c2
  · exact w_c3
  · exact w_c4
  · exact w_c5
  · exact w_c6
  · exact w_c7
  · exact w_c8
set_option maxRecDepth 65536 in
theorem w_t1 : (words1.take 24).all (fun c => isCode c || c.before args0 about1) = true := by decide +kernel
set_option maxRecDepth 65536 in
theorem w_t2 : (words1.drop 24).all (fun c => isCode c || c.before args0 about1) = true := by decide +kernel
theorem w_tables : (allAtoms (Jvm.Cond.code x code maxLocals ret :: tables_1)).before args0 about1 = true := by
  rw [allAtoms_all]
  show words1.all (fun c => c.before args0 about1) = true
  refine all_split ?_ w_codes
  rw [← List.take_append_drop 24 words1, List.all_append, w_t1, w_t2]
  rfl
set_option maxRecDepth 65536 in
theorem w_case : (Jvm.Cond.and given_1 narrow_1).before args0 about1 = true := by decide +kernel
theorem w_applies : (headSpec (Jvm.Cond.code x code maxLocals ret :: tables_1) room_1).applies x e0.platform about1 = true :=
  (Spec.applies_iff w_frames).mpr ⟨w_running, w_runnable, w_alone, w_named, w_hears, w_ripe, w_room, w_tables⟩
theorem atStart : AtStart classFile x code maxLocals ret World_1 tables_1 room_1 Calls_1 rest_1 Pre_1 launch0 p0 e0 about1 theMethod args0 below0 :=
  ⟨lists_1, trivial, launch0.admits_env _ _ _, launch0.least_env, fairChoices_fair.cas, fairChoices_fair.clock, w_frames, w_args, w_heap, w_applies, trivial, trivial, w_case⟩
end start1
theorem witness_1 : WitnessClaimed_1 := ⟨start1.p0, start1.e0, start1.about1, start1.theMethod, start1.args0, start1.below0, start1.atStart⟩
end Jvm.Pilot.@@N@@
