import JvmDerived
import JvmDerived.Pilot.@@N@@Statement
import JvmDerived.Pilot.@@N@@Code
set_option linter.unusedVariables false
set_option linter.unusedSimpArgs false
namespace Jvm.RoadKit
open Sem ClassFile Op Lib Jvm.Stand Jvm.Free Jvm.LawKit
section New
variable {p : Program} {l : Launch} {e : Env} {R : Room} {s : State} {m : MethodId} {args : Array Value} {below : List Frame} {meth : Method} {c : Code} {T : State} {locs : List Loc} {cells slots : Nat}
theorem retI (X : Stand p l e R s m args below meth c T locs cells slots) (hx : p.tables.exec = Jvm.exec) {pc : Nat} {Ls : Array Slot} {z : Int32} {rest : List Value} (hret : meth.sig.returnType = some .int) (hd : decode c.code pc = .ok (.ireturn, 1)) {fs : List Frame}
    (hl : ∀ (f : JFrame) (acts : List Action), f.method = m → f.locked = none → f.entered = [] → (doReturn e (T.setTop f) acts (some (.int z))).1 = T.setFrames fs) : Steps p.tables e below (T.setTop (mkF m pc Ls (.int z :: rest))) (T.setFrames fs) := by
  have hm' : T.vm.method? m = some meth := X.method'
  have hn : narrow .int (.int z) = .int z := rfl
  show Steps p.tables e below (T.setTop { method := m, pc := pc, locals := Ls, stack := _ :: rest, locked := none }) _
  jvm_step X.here [X.here.top, hx, hd, hm', hret, hn]
  first | (intro acts; rw [hl _ acts rfl rfl rfl]) | rw [hl _ _ rfl rfl rfl]
  exact Steps.refl _
end New
end Jvm.RoadKit
namespace Jvm.Pilot.@@N@@
open Jvm Jvm.ClassFile Sem Op Lib Jvm.Free Jvm.Stand Jvm.LawKit Jvm.RoadKit Bundle Jvm.Pilot.@@N@@.Jvm.D
/-! the goal of a walk, gone through forwards: from the state A the run comes to an end that answers R -/
def own_G (tb : Tables) (e : Env) (below : List Frame) (R : State → Outcome → Prop) (A : State) : Prop := ∃ t o, Steps tb e below A t ∧ t.status = .running ∧ Ended t below o ∧ R t o
theorem own_in {tb : Tables} {e : Env} {below : List Frame} {R : State → Outcome → Prop} {A : State} (h : own_G tb e below R A) : ∃ t o, Steps tb e below A t ∧ t.status = .running ∧ Ended t below o ∧ R t o := h
theorem own_pre {tb : Tables} {e : Env} {below : List Frame} {R : State → Outcome → Prop} {A B : State} (k : ∀ t, Steps tb e below B t → Steps tb e below A t) (h : own_G tb e below R B) : own_G tb e below R A := by
  obtain ⟨t, o, h1, h2⟩ := h
  exact ⟨t, o, k t h1, h2⟩
/-! a part of a walk: from A the run comes to some state that answers P -/
def own_J (tb : Tables) (e : Env) (below : List Frame) (P : State → Prop) (A : State) : Prop := ∃ B, P B ∧ ∀ t, Steps tb e below B t → Steps tb e below A t
theorem own_preJ {tb : Tables} {e : Env} {below : List Frame} {P : State → Prop} {A B : State} (k : ∀ t, Steps tb e below B t → Steps tb e below A t) (h : own_J tb e below P B) : own_J tb e below P A := by
  obtain ⟨C, h1, h2⟩ := h
  exact ⟨C, h1, fun t q => k t (h2 t q)⟩
theorem own_more {p : Program} {l : Launch} {e : Env} {R : Room} {s : State} {m : MethodId} {args : Array Value} {below : List Frame} {meth : Method} {c : Code} {T : State} {locs : List Loc} {cells slots cells' slots' : Nat} (X : Stand p l e R s m args below meth c T locs cells slots) (h : cells ≤ cells') (h' : slots ≤ slots') : Stand p l e R s m args below meth c T locs cells' slots' :=
  { X with same := X.same.mono h h' }
theorem ow {d : Jvm.Cond} (i : Nat) (h : tables_1[i]? = some d) : d ∈ tables_1 := List.mem_of_getElem? h
theorem own_root {Z : State} {a0 : Array Value} {O K : String} {n : Nat} (w : (Jvm.Cond.noSuperclass O).before a0 Z = true) (wk : (Jvm.Cond.instantiable K n).before a0 Z = true) (hn : O ≠ K) : NS Z O K := by
  obtain ⟨c, k, h1, h2, h3, -, -⟩ := Cond.noSuperclass_spec w
  obtain ⟨t, kt, g1, -⟩ := Cond.instantiable_spec wk
  have ne := ids_ne h1 g1 hn
  exact ⟨c, t, h1, g1, fun fuel => by cases fuel <;> simp [Vm.isSubclassAux, ne, h2, h3]⟩
theorem own_nosub {Z : State} {a0 : Array Value} {C S K : String} {n : Nat} (w : (Jvm.Cond.superclass C S).before a0 Z = true) (wk : (Jvm.Cond.instantiable K n).before a0 Z = true) (N : NS Z C K) (hn : C ≠ K) : ∃ c t, Z.vm.findClass C = some c ∧ Z.vm.findClass K = some t ∧ Z.vm.assignable c t = false := by
  obtain ⟨c, t, h0, g0, n3⟩ := N
  obtain ⟨p, k, kp, -, h2, -, -, h5, -, -⟩ := Cond.superclass_spec h0 w
  obtain ⟨t', k', g1, g2, g3, g4, -⟩ := Cond.instantiable_spec wk
  cases g0.symm.trans g1
  have ne := ids_ne h0 g0 hn
  have g5 : k'.isInterface = false := by simp at g4; exact g4.1
  refine ⟨c, t, h0, g0, ?_⟩
  show Z.vm.assignableAux (255 + 1) c t = false
  simp [Vm.assignableAux, ne, h2, g2, h5, g3, g5, Vm.isSubclass, n3]
theorem own_cache {Z : State} {args : Array Value} {C CC D : String} {Y : Jvm.Cond} (h1 : (Jvm.Cond.arrayOf (.static CC "cache" D) (.object C)).before args Z = true) (h2 : (Jvm.Cond.eq (.length (.static CC "cache" D)) (.int 256)).before args Z = true)
    (h3 : (Jvm.Cond.all (.static CC "cache" D) (.and (.exactly (.elem (.static CC "cache" D) (.index 0)) C) Y)).before args Z = true) :
    ∃ arr c, (Term.static CC "cache" D).eval args Z none [] Z = some (.ref arr) ∧ Arr Z Z.heap arr c (.object C) ∧ c.slots.size = 256 ∧ ∀ j, j < 256 → ∃ r, c.slots[j]? = some (.ref r) ∧ Exa Z Z.heap r C := by
  obtain ⟨arr, ev⟩ := arr_v (Cond.before_iff.mp h1)
  obtain ⟨c, A⟩ := Arr.start ev (Cond.before_iff.mp h1)
  obtain ⟨hs, hl⟩ := IntBox.length_fwd h2 ev A.1 A.2.1 A.2.2
  have hat := IntBox.arrayAt_of A.1 A.2.1 A.2.2
  have h256 : c.slots.size = 256 := by
    have e := len_toInt hs
    rw [hl] at e
    have e2 : (256 : Int32).toInt = 256 := by decide
    omega
  have hall := Cond.all_elim ev hat (Cond.before_iff.mp h3)
  refine ⟨arr, c, ev, A, h256, fun j hj => ?_⟩
  obtain ⟨q, -⟩ := and_e (hall j (by omega))
  have hx' : (Jvm.Cond.exactly (.elem (.static CC "cache" D) (.index 0)) C).holds args Z none Z [j] = true := by simp [Cond.holds, q]
  obtain ⟨r, c', cell, k, e1, e2, e3, e4, e5, rfl, e7⟩ := Cond.exactly_spec hx'
  have ev' : (Term.static CC "cache" D).eval args Z none [j] Z = some (.ref arr) := ev
  obtain ⟨hn, hb⟩ := IntBox.place_nonneg j hj
  have hi : (Term.index 0).eval args Z none [j] Z = some (.int j.toInt32) := rfl
  obtain ⟨-, hv⟩ := elem_in e1 ev' hi A.1
  rw [hb] at hv
  exact ⟨r, hv, cell, k, e3, e2, e4, e5, e7⟩
theorem own_notI {Z : State} {a0 : Array Value} (hw : ∀ d ∈ tables_1, d.before a0 Z = true) : ∃ c t, Z.vm.findClass "java/lang/Integer" = some c ∧ Z.vm.findClass "com/example/rikusen/rikusen/core/Hex" = some t ∧ Z.vm.assignable c t = false :=
  own_nosub (hw _ (ow 50 rfl)) (hw _ (ow 2 rfl)) (NS.step (hw _ (ow 50 rfl)) (NS.step (hw _ (ow 51 rfl)) (own_root (hw _ (ow 52 rfl)) (hw _ (ow 2 rfl)) (by decide)) (by decide)) (by decide)) (by decide)
theorem own_notB {Z : State} {a0 : Array Value} (hw : ∀ d ∈ tables_1, d.before a0 Z = true) : ∃ c t, Z.vm.findClass "com/example/rikusen/rikusen/core/Box" = some c ∧ Z.vm.findClass "com/example/rikusen/rikusen/core/Hex" = some t ∧ Z.vm.assignable c t = false :=
  own_nosub (hw _ (ow 90 rfl)) (hw _ (ow 2 rfl)) (NS.step (hw _ (ow 90 rfl)) (NS.step (hw _ (ow 91 rfl)) (own_root (hw _ (ow 52 rfl)) (hw _ (ow 2 rfl)) (by decide)) (by decide)) (by decide)) (by decide)
theorem d2_0 : decode jdk_30_method_1_code 0 = .ok (.aload_n 0, 1) := by decide +kernel
theorem d2_1 : decode jdk_30_method_1_code 1 = .ok (.invokespecial 1, 3) := by decide +kernel
theorem d2_4 : decode jdk_30_method_1_code 4 = .ok (.return_, 1) := by decide +kernel
theorem pn_2 : plainName "java/lang/Record" = true := by first | (simp [plainName, overriddenIn]; done) | decide +kernel
theorem ef_2 (m : MethodId) (x0 : Addr) : entryFrame m #[(.ref x0)] 1 = mkF m 0 #[.val (.ref x0)] [] := by first | (simp [entryFrame, mkF, argsToLocals, Value.category]; done) | rfl
def Q2 (Z : State) (a1 : Addr) (h0 : Heap) (n0 : Nat) (v : Option Value) (h : Heap) (L : List Loc) : Prop := v = none ∧ Fr n0 L ∧ h = h0
set_option maxRecDepth 65536 in
set_option maxHeartbeats 40000000 in
theorem rm2 (l : Launch) (Z : State) (a0 : Array Value) (hw : ∀ d ∈ tables_1, d.before a0 Z = true) (ws : List Jvm.Cond) (a1 : Addr) (h0 : Heap) (n0 : Nat) (Z0 : n0 ≤ h0.size) :
    MetFree l (⟨"java/lang/Record", "<init>", "()V"⟩ : MethodName) (head1 (Jvm.Cond.code (⟨"java/lang/Record", "<init>", "()V"⟩ : MethodName) jdk_30_method_1_code 1 none :: ws) ({ frames := 1, cells := 0, slots := 0, locals := 12 } : Room)) (fun a U => a = #[(.ref a1)] ∧ Z.Warmed39 U.vm ∧ U.heap = h0) (fun _ _ _ _ _ => True) (fun _ U o U' => ∃ v L, o = .returned v ∧ Q2 Z a1 h0 n0 v U'.heap L ∧ FrameEnd U o U' L ({ frames := 1, cells := 0, slots := 0, locals := 12 } : Room).cells ({ frames := 1, cells := 0, slots := 0, locals := 12 } : Room).slots) := by
  refine MetFree.of_bodySF (plainFor_of_name pn_2) hisR ?_
  intro p e s m args below meth c s₁ Bd hml0 hP hK
  obtain ⟨rfl, hZ, hh⟩ := hP
  have hx := Bd.exec
  have hby := Bd.bytes
  have hml : c.maxLocals = 1 := hml0
  have hown : s.vm.findClass "java/lang/Record" = some m.cls := findClass_of_methodNamed Bd.named
  have hnm := (name_of_methodNamed Bd.named Bd.method).1
  have X0 : Stand p l e ({ frames := 1, cells := 0, slots := 0, locals := 12 } : Room) s m #[(.ref a1)] below meth c s₁ [] 0 0 := Stand.of_body Bd
  have e0 : s₁.heap = h0 := by rw [← hh, Bd.state]; rfl
  have N0 := Fr.nil n0
  apply own_in
  refine own_pre (B := s₁.setTop (mkF m 0 #[.val (.ref a1)] [])) (fun t k => castTop (ef_2 m a1) k) ?_
  refine own_pre (B := s₁.setTop (mkF m 1 #[.val (.ref a1)] [(.ref a1)])) (fun t k => XS.aloadN X0.here hx rfl (hb hby d2_0) rfl rfl k) ?_
  obtain ⟨T2, X2, e2, st2⟩ := initO X0 hx hZ hown (hw _ (ow 12 rfl)) (hw _ (ow 13 rfl)) (hw _ (ow 14 rfl)) e0 (g := (mkF m 1 #[.val (.ref a1)] [(.ref a1)])) rfl (by rw [hml]; rfl) rfl (hb hby d2_1) (by decide) (W := 0) (by show 2 * 0 + _ ≤ _; exact Nat.le_of_eq rfl) (by decide)
  refine own_pre (B := T2.setTop (mkF m 4 #[.val (.ref a1)] [])) (fun t k => st2 t k) ?_
  obtain ⟨fsr3, hrr3, hrunr3, hendedr3, hWr3, hsamer3⟩ := X2.leave (v := none) (fun _ => rfl)
  refine ⟨_, _, (X2.returnOut hx Bd.returns (hb hby d2_4) hrr3), hrunr3, hendedr3, _, _, rfl, ?_, ⟨_, rfl⟩, hWr3, hsamer3.mono (by decide) (by decide)⟩
  show Q2 Z a1 h0 n0 _ T2.heap _
  rw [e2]
  exact ⟨rfl, N0, rfl⟩
theorem d4_0 : decode prog_29_method_11_code 0 = .ok (.iload_n 0, 1) := by decide +kernel
theorem d4_1 : decode prog_29_method_11_code 1 = .ok (.ifCond .lt 13, 3) := by decide +kernel
theorem d4_4 : decode prog_29_method_11_code 4 = .ok (.iload_n 0, 1) := by decide +kernel
theorem d4_5 : decode prog_29_method_11_code 5 = .ok (.bipush 100, 2) := by decide +kernel
theorem d4_7 : decode prog_29_method_11_code 7 = .ok (.if_icmp .ge 7, 3) := by decide +kernel
theorem d4_10 : decode prog_29_method_11_code 10 = .ok (.iconst 1, 1) := by decide +kernel
theorem d4_11 : decode prog_29_method_11_code 11 = .ok (.goto 4, 3) := by decide +kernel
theorem d4_14 : decode prog_29_method_11_code 14 = .ok (.iconst 0, 1) := by decide +kernel
theorem d4_15 : decode prog_29_method_11_code 15 = .ok (.ireturn, 1) := by decide +kernel
theorem pn_4 : plainName "com/example/rikusen/rikusen/core/Hex" = true := by first | (simp [plainName, overriddenIn]; done) | decide +kernel
theorem ef_4 (m : MethodId) (x0 : Int32) : entryFrame m #[(.int x0)] 1 = mkF m 0 #[.val (.int x0)] [] := by first | (simp [entryFrame, mkF, argsToLocals, Value.category]; done) | rfl
def own_f4 (p1 : Int32) : Int32 := (if p1 < (0 : Int32) then (0 : Int32) else (if p1 < (100 : Int32) then (1 : Int32) else (0 : Int32)))
def Q4 (Z : State) (p1 : Int32) (h0 : Heap) (n0 : Nat) (v : Option Value) (h : Heap) (L : List Loc) : Prop := v = some (.int (own_f4 p1)) ∧ Fr n0 L ∧ h = h0
set_option maxRecDepth 65536 in
set_option maxHeartbeats 40000000 in
theorem rm4 (l : Launch) (Z : State) (a0 : Array Value) (hw : ∀ d ∈ tables_1, d.before a0 Z = true) (ws : List Jvm.Cond) (p1 : Int32) (h0 : Heap) (n0 : Nat) (Z0 : n0 ≤ h0.size) :
    MetFree l (⟨"com/example/rikusen/rikusen/core/Hex", "fitsTwoDigits", "(I)Z"⟩ : MethodName) (head1 (Jvm.Cond.code (⟨"com/example/rikusen/rikusen/core/Hex", "fitsTwoDigits", "(I)Z"⟩ : MethodName) prog_29_method_11_code 1 (some .boolean) :: ws) ({ frames := 0, cells := 0, slots := 0, locals := 0 } : Room)) (fun a U => a = #[(.int p1)] ∧ Z.Warmed39 U.vm ∧ U.heap = h0) (fun _ _ _ _ _ => True) (fun _ U o U' => ∃ v L, o = .returned v ∧ Q4 Z p1 h0 n0 v U'.heap L ∧ FrameEnd U o U' L ({ frames := 0, cells := 0, slots := 0, locals := 0 } : Room).cells ({ frames := 0, cells := 0, slots := 0, locals := 0 } : Room).slots) := by
  refine MetFree.of_bodySF (plainFor_of_name pn_4) hisR ?_
  intro p e s m args below meth c s₁ Bd hml0 hP hK
  obtain ⟨rfl, hZ, hh⟩ := hP
  have hx := Bd.exec
  have hby := Bd.bytes
  have hml : c.maxLocals = 1 := hml0
  have hown : s.vm.findClass "com/example/rikusen/rikusen/core/Hex" = some m.cls := findClass_of_methodNamed Bd.named
  have hnm := (name_of_methodNamed Bd.named Bd.method).1
  have X0 : Stand p l e ({ frames := 0, cells := 0, slots := 0, locals := 0 } : Room) s m #[(.int p1)] below meth c s₁ [] 0 0 := Stand.of_body Bd
  have e0 : s₁.heap = h0 := by rw [← hh, Bd.state]; rfl
  have N0 := Fr.nil n0
  apply own_in
  refine own_pre (B := s₁.setTop (mkF m 0 #[.val (.int p1)] [])) (fun t k => castTop (ef_4 m p1) k) ?_
  refine own_pre (B := s₁.setTop (mkF m 1 #[.val (.int p1)] [(.int p1)])) (fun t k => XS.iloadN X0.here hx rfl (hb hby d4_0) rfl k) ?_
  by_cases hc1_2 : p1 < (0 : Int32)
  · refine own_pre (B := s₁.setTop (mkF m 14 #[.val (.int p1)] [])) (fun t k => XS.ifYes X0.here hx rfl (pc0 := 1) (pc' := 14) rfl (hb hby d4_1) rfl ((if0 _ _).trans (tlt hc1_2).1) (by decide) (by decide) k) ?_
    refine own_pre (B := s₁.setTop (mkF m 15 #[.val (.int p1)] [(.int (0 : Int32))])) (fun t k => XS.iconst X0.here hx rfl (hb hby d4_14) k) ?_
    obtain ⟨fsr3, hrr3, hrunr3, hendedr3, hWr3, hsamer3⟩ := X0.leave (v := some (.int (0 : Int32))) (fun h => by rw [Bd.returns] at h; cases h)
    refine ⟨_, _, (retN X0 hx (t := .boolean) Bd.returns (by simp) (hb hby d4_15) hrr3), hrunr3, hendedr3, _, _, rfl, ?_, ⟨_, rfl⟩, hWr3, hsamer3.mono (by decide) (by decide)⟩
    show Q4 Z p1 h0 n0 _ s₁.heap _
    rw [e0]
    exact ⟨(by unfold own_f4; rw [if_pos hc1_2]), N0, rfl⟩
  · refine own_pre (B := s₁.setTop (mkF m 4 #[.val (.int p1)] [])) (fun t k => XS.ifNo X0.here hx rfl (hb hby d4_1) rfl ((if0 _ _).trans (flt hc1_2).1) k) ?_
    refine own_pre (B := s₁.setTop (mkF m 5 #[.val (.int p1)] [(.int p1)])) (fun t k => XS.iloadN X0.here hx rfl (hb hby d4_4) rfl k) ?_
    refine own_pre (B := s₁.setTop (mkF m 7 #[.val (.int p1)] [(.int (100 : Int32)), (.int p1)])) (fun t k => XS.bipush X0.here hx rfl (hb hby d4_5) k) ?_
    by_cases hc7_4 : p1 < (100 : Int32)
    · refine own_pre (B := s₁.setTop (mkF m 10 #[.val (.int p1)] [])) (fun t k => XS.icmpNo X0.here hx rfl (hb hby d4_7) rfl (tlt hc7_4).2.1 k) ?_
      refine own_pre (B := s₁.setTop (mkF m 11 #[.val (.int p1)] [(.int (1 : Int32))])) (fun t k => XS.iconst X0.here hx rfl (hb hby d4_10) k) ?_
      refine own_pre (B := s₁.setTop (mkF m 15 #[.val (.int p1)] [(.int (1 : Int32))])) (fun t k => XS.goto X0.here hx rfl (pc0 := 11) (pc' := 15) rfl (hb hby d4_11) (by decide) (by decide) k) ?_
      obtain ⟨fsr5, hrr5, hrunr5, hendedr5, hWr5, hsamer5⟩ := X0.leave (v := some (.int (1 : Int32))) (fun h => by rw [Bd.returns] at h; cases h)
      refine ⟨_, _, (retN X0 hx (t := .boolean) Bd.returns (by simp) (hb hby d4_15) hrr5), hrunr5, hendedr5, _, _, rfl, ?_, ⟨_, rfl⟩, hWr5, hsamer5.mono (by decide) (by decide)⟩
      show Q4 Z p1 h0 n0 _ s₁.heap _
      rw [e0]
      exact ⟨(by unfold own_f4; rw [if_neg hc1_2, if_pos hc7_4]), N0, rfl⟩
    · refine own_pre (B := s₁.setTop (mkF m 14 #[.val (.int p1)] [])) (fun t k => XS.icmpYes X0.here hx rfl (pc0 := 7) (pc' := 14) rfl (hb hby d4_7) rfl (flt hc7_4).2.1 (by decide) (by decide) k) ?_
      refine own_pre (B := s₁.setTop (mkF m 15 #[.val (.int p1)] [(.int (0 : Int32))])) (fun t k => XS.iconst X0.here hx rfl (hb hby d4_14) k) ?_
      obtain ⟨fsr6, hrr6, hrunr6, hendedr6, hWr6, hsamer6⟩ := X0.leave (v := some (.int (0 : Int32))) (fun h => by rw [Bd.returns] at h; cases h)
      refine ⟨_, _, (retN X0 hx (t := .boolean) Bd.returns (by simp) (hb hby d4_15) hrr6), hrunr6, hendedr6, _, _, rfl, ?_, ⟨_, rfl⟩, hWr6, hsamer6.mono (by decide) (by decide)⟩
      show Q4 Z p1 h0 n0 _ s₁.heap _
      rw [e0]
      exact ⟨(by unfold own_f4; rw [if_neg hc1_2, if_neg hc7_4]), N0, rfl⟩
theorem own_fit (a : Int32) : ¬ own_f4 ((a &&& (2147483647 : Int32)) % (100 : Int32)) = 0 := by
  have m := c_mask a 2147483647 31 (by decide) (by decide)
  have r := (c_irem (a &&& 2147483647) 100 100 (by decide)).1
  have e0 : (0 : Int32).toInt = 0 := by decide
  have e1 : (100 : Int32).toInt = 100 := by decide
  unfold own_f4
  rw [if_neg (by rw [Int32.lt_iff_toInt_lt]; omega), if_pos (by rw [Int32.lt_iff_toInt_lt]; omega)]
  decide
theorem own_fit2 {a c z : Int32} {P : Prop} [Decidable P] (h : z = (if P then ((c &&& (2147483647 : Int32)) % (100 : Int32)) else ((a &&& (2147483647 : Int32)) % (100 : Int32)))) : ¬ own_f4 z = 0 := by
  rw [h]; split <;> exact own_fit _
theorem pd_0 : parseMethodDescriptor "()V" = some ⟨[], none⟩ := by decide +kernel
theorem pd_1 : parseMethodDescriptor "(I)Z" = some ⟨[.int], some .boolean⟩ := by decide +kernel
theorem d1_0 : decode prog_29_method_1_code 0 = .ok (.aload_n 0, 1) := by decide +kernel
theorem d1_1 : decode prog_29_method_1_code 1 = .ok (.invokespecial 3, 3) := by decide +kernel
theorem d1_4 : decode prog_29_method_1_code 4 = .ok (.iload_n 1, 1) := by decide +kernel
theorem d1_5 : decode prog_29_method_1_code 5 = .ok (.invokestatic 9, 3) := by decide +kernel
theorem d1_8 : decode prog_29_method_1_code 8 = .ok (.ifCond .eq 10, 3) := by decide +kernel
theorem d1_11 : decode prog_29_method_1_code 11 = .ok (.iload_n 2, 1) := by decide +kernel
theorem d1_12 : decode prog_29_method_1_code 12 = .ok (.invokestatic 9, 3) := by decide +kernel
theorem d1_15 : decode prog_29_method_1_code 15 = .ok (.ifCond .ne 18, 3) := by decide +kernel
theorem d1_33 : decode prog_29_method_1_code 33 = .ok (.aload_n 0, 1) := by decide +kernel
theorem d1_34 : decode prog_29_method_1_code 34 = .ok (.iload_n 1, 1) := by decide +kernel
theorem d1_35 : decode prog_29_method_1_code 35 = .ok (.putfield 22, 3) := by decide +kernel
theorem d1_38 : decode prog_29_method_1_code 38 = .ok (.aload_n 0, 1) := by decide +kernel
theorem d1_39 : decode prog_29_method_1_code 39 = .ok (.iload_n 2, 1) := by decide +kernel
theorem d1_40 : decode prog_29_method_1_code 40 = .ok (.putfield 26, 3) := by decide +kernel
theorem d1_43 : decode prog_29_method_1_code 43 = .ok (.return_, 1) := by decide +kernel
theorem pn_1 : plainName "com/example/rikusen/rikusen/core/Hex" = true := by first | (simp [plainName, overriddenIn]; done) | decide +kernel
theorem ef_1 (m : MethodId) (x0 : Addr) (x1 : Int32) (x2 : Int32) : entryFrame m #[(.ref x0), (.int x1), (.int x2)] 3 = mkF m 0 #[.val (.ref x0), .val (.int x1), .val (.int x2)] [] := by first | (simp [entryFrame, mkF, argsToLocals, Value.category]; done) | rfl
def Q1 (Z : State) (a1 : Addr) (p2 : Int32) (p3 : Int32) (u_column_a1 : Value) (u_row_a1 : Value) (h0 : Heap) (n0 : Nat) (v : Option Value) (h : Heap) (L : List Loc) : Prop := v = none ∧ Fr n0 L ∧ Keep h0 h [a1] ∧ Exa Z h a1 "com/example/rikusen/rikusen/core/Hex" ∧ Fld Z h a1 "com/example/rikusen/rikusen/core/Hex" "column" "I" (.int p2) ∧ Fld Z h a1 "com/example/rikusen/rikusen/core/Hex" "row" "I" (.int p3)
set_option maxRecDepth 65536 in
set_option maxHeartbeats 40000000 in
theorem rm1 (l : Launch) (Z : State) (a0 : Array Value) (hw : ∀ d ∈ tables_1, d.before a0 Z = true) (ws : List Jvm.Cond) (a1 : Addr) (p2 : Int32) (p3 : Int32) (u_column_a1 : Value) (u_row_a1 : Value) (h0 : Heap) (n0 : Nat) (Z0 : n0 ≤ h0.size) (hcol : ¬ own_f4 p2 = 0) (hrow : ¬ own_f4 p3 = 0) (E_a1 : Exa Z h0 a1 "com/example/rikusen/rikusen/core/Hex") (F_column_a1 : Fld Z h0 a1 "com/example/rikusen/rikusen/core/Hex" "column" "I" u_column_a1) (g_a1 : n0 ≤ a1) (F_row_a1 : Fld Z h0 a1 "com/example/rikusen/rikusen/core/Hex" "row" "I" u_row_a1) :
    MetFree l (⟨"com/example/rikusen/rikusen/core/Hex", "<init>", "(II)V"⟩ : MethodName) (head1 (Jvm.Cond.code (⟨"com/example/rikusen/rikusen/core/Hex", "<init>", "(II)V"⟩ : MethodName) prog_29_method_1_code 3 none :: ws) ({ frames := 2, cells := 0, slots := 0, locals := 24 } : Room)) (fun a U => a = #[(.ref a1), (.int p2), (.int p3)] ∧ Z.Warmed39 U.vm ∧ U.heap = h0) (fun _ _ _ _ _ => True) (fun _ U o U' => ∃ v L, o = .returned v ∧ Q1 Z a1 p2 p3 u_column_a1 u_row_a1 h0 n0 v U'.heap L ∧ FrameEnd U o U' L ({ frames := 2, cells := 0, slots := 0, locals := 24 } : Room).cells ({ frames := 2, cells := 0, slots := 0, locals := 24 } : Room).slots) := by
  refine MetFree.of_bodySF (plainFor_of_name pn_1) hisR ?_
  intro p e s m args below meth c s₁ Bd hml0 hP hK
  obtain ⟨rfl, hZ, hh⟩ := hP
  have hx := Bd.exec
  have hby := Bd.bytes
  have hml : c.maxLocals = 3 := hml0
  have hown : s.vm.findClass "com/example/rikusen/rikusen/core/Hex" = some m.cls := findClass_of_methodNamed Bd.named
  have hnm := (name_of_methodNamed Bd.named Bd.method).1
  have X0 : Stand p l e ({ frames := 2, cells := 0, slots := 0, locals := 24 } : Room) s m #[(.ref a1), (.int p2), (.int p3)] below meth c s₁ [] 0 0 := Stand.of_body Bd
  have e0 : s₁.heap = h0 := by rw [← hh, Bd.state]; rfl
  have N0 := Fr.nil n0
  apply own_in
  refine own_pre (B := s₁.setTop (mkF m 0 #[.val (.ref a1), .val (.int p2), .val (.int p3)] [])) (fun t k => castTop (ef_1 m a1 p2 p3) k) ?_
  refine own_pre (B := s₁.setTop (mkF m 1 #[.val (.ref a1), .val (.int p2), .val (.int p3)] [(.ref a1)])) (fun t k => XS.aloadN X0.here hx rfl (hb hby d1_0) rfl rfl k) ?_
  obtain ⟨_, _, ⟨T4, L4, k4, n4⟩, -, X4, ⟨Lc4, hQ4, l4, y4, z4⟩, st4⟩ := X0.specialBack hx (y := (⟨"java/lang/Record", "<init>", "()V"⟩ : MethodName)) rfl hown (mvT hZ (hw _ (ow 7 rfl))) (mvT hZ (hw _ (ow 8 rfl))) (mvT hZ (hw _ (ow 11 rfl))) (by decide) (backOf (W := 0) (rm2 l Z a0 hw [] a1 h0 n0 Z0 ) hZ (hw _ (ow 11 rfl)) (hw _ (ow 10 rfl)) (by decide) (by decide)) (g := (mkF m 1 #[.val (.ref a1), .val (.int p2), .val (.int p3)] [(.ref a1)])) rfl (by rw [hml]; rfl) (Steps.refl _) (a := a1) (argsL := []) (rest := []) (lenOf pd_0 rfl) rfl (by show 2 * 0 + _ ≤ _; exact Nat.le_of_eq rfl) (hb hby d1_1) (fun _ _ => ⟨rfl, e0, (by decide : 0 + 0 ≤ _), (by decide : 0 + 0 ≤ _)⟩)
  dsimp only [Pt.U, Pt.locs, Pt.cells, Pt.slots] at X4 l4 y4 z4 st4 hQ4
  subst l4 y4 z4
  obtain ⟨rfl, N4q, e4⟩ := hQ4
  have N4 := Fr.app N0 N4q
  refine own_pre (B := T4.setTop (mkF m 4 #[.val (.ref a1), .val (.int p2), .val (.int p3)] [])) (fun t k => st4.trans k) ?_
  refine own_pre (B := T4.setTop (mkF m 5 #[.val (.ref a1), .val (.int p2), .val (.int p3)] [(.int p2)])) (fun t k => XS.iloadN X4.here hx rfl (hb hby d1_4) rfl k) ?_
  obtain ⟨_, _, ⟨T5, L5, k5, n5⟩, -, X5, ⟨Lc5, hQ5, l5, y5, z5⟩, st5⟩ := Jvm.LawKit.callS X4 hx (y := (⟨"com/example/rikusen/rikusen/core/Hex", "fitsTwoDigits", "(I)Z"⟩ : MethodName)) hown (mvT hZ (hw _ (ow 15 rfl))) (mvT hZ (hw _ (ow 16 rfl))) (mvT hZ (hw _ (ow 3 rfl))) (mvT hZ (hw _ (ow 17 rfl))) (by decide) (backOf (W := 0) (rm4 l Z a0 hw [] p2 h0 n0 Z0 ) hZ (hw _ (ow 17 rfl)) (hw _ (ow 3 rfl)) (by decide) (by decide)) (g := (mkF m 5 #[.val (.ref a1), .val (.int p2), .val (.int p3)] [(.int p2)])) rfl (by rw [hml]; rfl) (argsL := [(.int p2)]) (rest := []) (lenOf pd_1 rfl) rfl (by show 2 * 0 + _ ≤ _; exact Nat.le_of_eq rfl) (hb hby d1_5) (fun _ _ => ⟨rfl, e4, (by decide : 0 + 0 ≤ _), (by decide : 0 + 0 ≤ _)⟩)
  dsimp only [Pt.U, Pt.locs, Pt.cells, Pt.slots] at X5 l5 y5 z5 st5 hQ5
  subst l5 y5 z5
  obtain ⟨rfl, N5q, e5⟩ := hQ5
  have N5 := Fr.app N4 N5q
  refine own_pre (B := T5.setTop (mkF m 8 #[.val (.ref a1), .val (.int p2), .val (.int p3)] [(.int (own_f4 p2))])) (fun t k => st5 t k) ?_
  refine own_pre (B := T5.setTop (mkF m 11 #[.val (.ref a1), .val (.int p2), .val (.int p3)] [])) (fun t k => XS.ifNo X5.here hx rfl (hb hby d1_8) rfl ((if0 _ _).trans (feq hcol).1) k) ?_
  refine own_pre (B := T5.setTop (mkF m 12 #[.val (.ref a1), .val (.int p2), .val (.int p3)] [(.int p3)])) (fun t k => XS.iloadN X5.here hx rfl (hb hby d1_11) rfl k) ?_
  obtain ⟨_, _, ⟨T6, L6, k6, n6⟩, -, X6, ⟨Lc6, hQ6, l6, y6, z6⟩, st6⟩ := Jvm.LawKit.callS X5 hx (y := (⟨"com/example/rikusen/rikusen/core/Hex", "fitsTwoDigits", "(I)Z"⟩ : MethodName)) hown (mvT hZ (hw _ (ow 15 rfl))) (mvT hZ (hw _ (ow 16 rfl))) (mvT hZ (hw _ (ow 3 rfl))) (mvT hZ (hw _ (ow 17 rfl))) (by decide) (backOf (W := 0) (rm4 l Z a0 hw [] p3 h0 n0 Z0 ) hZ (hw _ (ow 17 rfl)) (hw _ (ow 3 rfl)) (by decide) (by decide)) (g := (mkF m 12 #[.val (.ref a1), .val (.int p2), .val (.int p3)] [(.int p3)])) rfl (by rw [hml]; rfl) (argsL := [(.int p3)]) (rest := []) (lenOf pd_1 rfl) rfl (by show 2 * 0 + _ ≤ _; exact Nat.le_of_eq rfl) (hb hby d1_12) (fun _ _ => ⟨rfl, e5, (by decide : 0 + 0 ≤ _), (by decide : 0 + 0 ≤ _)⟩)
  dsimp only [Pt.U, Pt.locs, Pt.cells, Pt.slots] at X6 l6 y6 z6 st6 hQ6
  subst l6 y6 z6
  obtain ⟨rfl, N6q, e6⟩ := hQ6
  have N6 := Fr.app N5 N6q
  refine own_pre (B := T6.setTop (mkF m 15 #[.val (.ref a1), .val (.int p2), .val (.int p3)] [(.int (own_f4 p3))])) (fun t k => st6 t k) ?_
  refine own_pre (B := T6.setTop (mkF m 33 #[.val (.ref a1), .val (.int p2), .val (.int p3)] [])) (fun t k => XS.ifYes X6.here hx rfl (pc0 := 15) (pc' := 33) rfl (hb hby d1_15) rfl ((if0 _ _).trans (feq hrow).2) (by decide) (by decide) k) ?_
  refine own_pre (B := T6.setTop (mkF m 34 #[.val (.ref a1), .val (.int p2), .val (.int p3)] [(.ref a1)])) (fun t k => XS.aloadN X6.here hx rfl (hb hby d1_33) rfl rfl k) ?_
  refine own_pre (B := T6.setTop (mkF m 35 #[.val (.ref a1), .val (.int p2), .val (.int p3)] [(.int p2), (.ref a1)])) (fun t k => XS.iloadN X6.here hx rfl (hb hby d1_34) rfl k) ?_
  have K7 : Keep h0 h0 [a1] := (Keep.refl h0 [a1])
  obtain ⟨T8, h8, X8, e8, W8, st8⟩ := putF X6 hx hZ hown (host := "") (Or.inl (hw _ (ow 18 rfl))) Via.refl e6 F_column_a1 E_a1 (Or.inr ⟨(hw _ (ow 19 rfl)), rfl, hnm⟩) (hw _ (ow 2 rfl)) (ty := .int) (by decide) rfl rfl (g := (mkF m 35 #[.val (.ref a1), .val (.int p2), .val (.int p3)] [(.int p2), (.ref a1)])) rfl rfl (hb hby d1_35)
  have Fw8 := Fld.same W8 F_column_a1
  have N8 := Fr.snoc X8 N6 g_a1
  refine own_pre (B := T8.setTop (mkF m 38 #[.val (.ref a1), .val (.int p2), .val (.int p3)] [])) (fun t k => st8 t k) ?_
  refine own_pre (B := T8.setTop (mkF m 39 #[.val (.ref a1), .val (.int p2), .val (.int p3)] [(.ref a1)])) (fun t k => XS.aloadN X8.here hx rfl (hb hby d1_38) rfl rfl k) ?_
  refine own_pre (B := T8.setTop (mkF m 40 #[.val (.ref a1), .val (.int p2), .val (.int p3)] [(.int p3), (.ref a1)])) (fun t k => XS.iloadN X8.here hx rfl (hb hby d1_39) rfl k) ?_
  have c9 := (Exa.wr W8 E_a1)
  have c10 := (Fld.other W8 F_row_a1 (Or.inr (slot_ne (Or.inr (hw _ (ow 21 rfl))) (Or.inr (hw _ (ow 19 rfl))) (by decide) (t := .int) (t' := .int) (by decide) (by decide))))
  have K11 : Keep h0 h8 [a1] := (Keep.wr K7 W8 (Or.inl (List.mem_of_getElem? (i := 0) rfl)))
  obtain ⟨T12, h12, X12, e12, W12, st12⟩ := putF X8 hx hZ hown (host := "") (Or.inl (hw _ (ow 20 rfl))) Via.refl e8 c10 c9 (Or.inr ⟨(hw _ (ow 21 rfl)), rfl, hnm⟩) (hw _ (ow 2 rfl)) (ty := .int) (by decide) rfl rfl (g := (mkF m 40 #[.val (.ref a1), .val (.int p2), .val (.int p3)] [(.int p3), (.ref a1)])) rfl rfl (hb hby d1_40)
  have Fw12 := Fld.same W12 c10
  have N12 := Fr.snoc X12 N8 g_a1
  refine own_pre (B := T12.setTop (mkF m 43 #[.val (.ref a1), .val (.int p2), .val (.int p3)] [])) (fun t k => st12 t k) ?_
  have K13 : Keep h0 h12 [a1] := (Keep.wr K11 W12 (Or.inl (List.mem_of_getElem? (i := 0) rfl)))
  have c14 := (Exa.wr W12 c9)
  have c15 := (Fld.other W12 Fw8 (Or.inr (slot_ne (Or.inr (hw _ (ow 19 rfl))) (Or.inr (hw _ (ow 21 rfl))) (by decide) (t := .int) (t' := .int) (by decide) (by decide))))
  obtain ⟨fsr16, hrr16, hrunr16, hendedr16, hWr16, hsamer16⟩ := X12.leave (v := none) (fun _ => rfl)
  refine ⟨_, _, (X12.returnOut hx Bd.returns (hb hby d1_43) hrr16), hrunr16, hendedr16, _, _, rfl, ?_, ⟨_, rfl⟩, hWr16, hsamer16.mono (by decide) (by decide)⟩
  show Q1 Z a1 p2 p3 u_column_a1 u_row_a1 h0 n0 _ T12.heap _
  rw [e12]
  exact ⟨rfl, N12, K13, c14, c15, Fw12⟩
theorem d8_0 : decode jdk_18_method_1_code 0 = .ok (.aload_n 0, 1) := by decide +kernel
theorem d8_1 : decode jdk_18_method_1_code 1 = .ok (.invokespecial 1, 3) := by decide +kernel
theorem d8_4 : decode jdk_18_method_1_code 4 = .ok (.return_, 1) := by decide +kernel
theorem pn_8 : plainName "java/lang/Number" = true := by first | (simp [plainName, overriddenIn]; done) | decide +kernel
theorem ef_8 (m : MethodId) (x0 : Addr) : entryFrame m #[(.ref x0)] 1 = mkF m 0 #[.val (.ref x0)] [] := by first | (simp [entryFrame, mkF, argsToLocals, Value.category]; done) | rfl
def Q8 (Z : State) (a1 : Addr) (h0 : Heap) (n0 : Nat) (v : Option Value) (h : Heap) (L : List Loc) : Prop := v = none ∧ Fr n0 L ∧ h = h0
set_option maxRecDepth 65536 in
set_option maxHeartbeats 40000000 in
theorem rm8 (l : Launch) (Z : State) (a0 : Array Value) (hw : ∀ d ∈ tables_1, d.before a0 Z = true) (ws : List Jvm.Cond) (a1 : Addr) (h0 : Heap) (n0 : Nat) (Z0 : n0 ≤ h0.size) :
    MetFree l (⟨"java/lang/Number", "<init>", "()V"⟩ : MethodName) (head1 (Jvm.Cond.code (⟨"java/lang/Number", "<init>", "()V"⟩ : MethodName) jdk_18_method_1_code 1 none :: ws) ({ frames := 1, cells := 0, slots := 0, locals := 12 } : Room)) (fun a U => a = #[(.ref a1)] ∧ Z.Warmed39 U.vm ∧ U.heap = h0) (fun _ _ _ _ _ => True) (fun _ U o U' => ∃ v L, o = .returned v ∧ Q8 Z a1 h0 n0 v U'.heap L ∧ FrameEnd U o U' L ({ frames := 1, cells := 0, slots := 0, locals := 12 } : Room).cells ({ frames := 1, cells := 0, slots := 0, locals := 12 } : Room).slots) := by
  refine MetFree.of_bodySF (plainFor_of_name pn_8) hisR ?_
  intro p e s m args below meth c s₁ Bd hml0 hP hK
  obtain ⟨rfl, hZ, hh⟩ := hP
  have hx := Bd.exec
  have hby := Bd.bytes
  have hml : c.maxLocals = 1 := hml0
  have hown : s.vm.findClass "java/lang/Number" = some m.cls := findClass_of_methodNamed Bd.named
  have hnm := (name_of_methodNamed Bd.named Bd.method).1
  have X0 : Stand p l e ({ frames := 1, cells := 0, slots := 0, locals := 12 } : Room) s m #[(.ref a1)] below meth c s₁ [] 0 0 := Stand.of_body Bd
  have e0 : s₁.heap = h0 := by rw [← hh, Bd.state]; rfl
  have N0 := Fr.nil n0
  apply own_in
  refine own_pre (B := s₁.setTop (mkF m 0 #[.val (.ref a1)] [])) (fun t k => castTop (ef_8 m a1) k) ?_
  refine own_pre (B := s₁.setTop (mkF m 1 #[.val (.ref a1)] [(.ref a1)])) (fun t k => XS.aloadN X0.here hx rfl (hb hby d8_0) rfl rfl k) ?_
  obtain ⟨T2, X2, e2, st2⟩ := initO X0 hx hZ hown (hw _ (ow 47 rfl)) (hw _ (ow 13 rfl)) (hw _ (ow 14 rfl)) e0 (g := (mkF m 1 #[.val (.ref a1)] [(.ref a1)])) rfl (by rw [hml]; rfl) rfl (hb hby d8_1) (by decide) (W := 0) (by show 2 * 0 + _ ≤ _; exact Nat.le_of_eq rfl) (by decide)
  refine own_pre (B := T2.setTop (mkF m 4 #[.val (.ref a1)] [])) (fun t k => st2 t k) ?_
  obtain ⟨fsr3, hrr3, hrunr3, hendedr3, hWr3, hsamer3⟩ := X2.leave (v := none) (fun _ => rfl)
  refine ⟨_, _, (X2.returnOut hx Bd.returns (hb hby d8_4) hrr3), hrunr3, hendedr3, _, _, rfl, ?_, ⟨_, rfl⟩, hWr3, hsamer3.mono (by decide) (by decide)⟩
  show Q8 Z a1 h0 n0 _ T2.heap _
  rw [e2]
  exact ⟨rfl, N0, rfl⟩
theorem d7_0 : decode jdk_33_method_23_code 0 = .ok (.aload_n 0, 1) := by decide +kernel
theorem d7_1 : decode jdk_33_method_23_code 1 = .ok (.invokespecial 202, 3) := by decide +kernel
theorem d7_4 : decode jdk_33_method_23_code 4 = .ok (.aload_n 0, 1) := by decide +kernel
theorem d7_5 : decode jdk_33_method_23_code 5 = .ok (.iload_n 1, 1) := by decide +kernel
theorem d7_6 : decode jdk_33_method_23_code 6 = .ok (.putfield 205, 3) := by decide +kernel
theorem d7_9 : decode jdk_33_method_23_code 9 = .ok (.return_, 1) := by decide +kernel
theorem pn_7 : plainName "java/lang/Integer" = true := by first | (simp [plainName, overriddenIn]; done) | decide +kernel
theorem ef_7 (m : MethodId) (x0 : Addr) (x1 : Int32) : entryFrame m #[(.ref x0), (.int x1)] 2 = mkF m 0 #[.val (.ref x0), .val (.int x1)] [] := by first | (simp [entryFrame, mkF, argsToLocals, Value.category]; done) | rfl
def Q7 (Z : State) (a1 : Addr) (p2 : Int32) (u_value_a1 : Value) (h0 : Heap) (n0 : Nat) (v : Option Value) (h : Heap) (L : List Loc) : Prop := v = none ∧ Fr n0 L ∧ Keep h0 h [a1] ∧ Exa Z h a1 "java/lang/Integer" ∧ Fld Z h a1 "java/lang/Integer" "value" "I" (.int p2)
set_option maxRecDepth 65536 in
set_option maxHeartbeats 40000000 in
theorem rm7 (l : Launch) (Z : State) (a0 : Array Value) (hw : ∀ d ∈ tables_1, d.before a0 Z = true) (ws : List Jvm.Cond) (a1 : Addr) (p2 : Int32) (u_value_a1 : Value) (h0 : Heap) (n0 : Nat) (Z0 : n0 ≤ h0.size) (E_a1 : Exa Z h0 a1 "java/lang/Integer") (F_value_a1 : Fld Z h0 a1 "java/lang/Integer" "value" "I" u_value_a1) (g_a1 : n0 ≤ a1) :
    MetFree l (⟨"java/lang/Integer", "<init>", "(I)V"⟩ : MethodName) (head1 (Jvm.Cond.code (⟨"java/lang/Integer", "<init>", "(I)V"⟩ : MethodName) jdk_33_method_23_code 2 none :: ws) ({ frames := 2, cells := 0, slots := 0, locals := 24 } : Room)) (fun a U => a = #[(.ref a1), (.int p2)] ∧ Z.Warmed39 U.vm ∧ U.heap = h0) (fun _ _ _ _ _ => True) (fun _ U o U' => ∃ v L, o = .returned v ∧ Q7 Z a1 p2 u_value_a1 h0 n0 v U'.heap L ∧ FrameEnd U o U' L ({ frames := 2, cells := 0, slots := 0, locals := 24 } : Room).cells ({ frames := 2, cells := 0, slots := 0, locals := 24 } : Room).slots) := by
  refine MetFree.of_bodySF (plainFor_of_name pn_7) hisR ?_
  intro p e s m args below meth c s₁ Bd hml0 hP hK
  obtain ⟨rfl, hZ, hh⟩ := hP
  have hx := Bd.exec
  have hby := Bd.bytes
  have hml : c.maxLocals = 2 := hml0
  have hown : s.vm.findClass "java/lang/Integer" = some m.cls := findClass_of_methodNamed Bd.named
  have hnm := (name_of_methodNamed Bd.named Bd.method).1
  have X0 : Stand p l e ({ frames := 2, cells := 0, slots := 0, locals := 24 } : Room) s m #[(.ref a1), (.int p2)] below meth c s₁ [] 0 0 := Stand.of_body Bd
  have e0 : s₁.heap = h0 := by rw [← hh, Bd.state]; rfl
  have N0 := Fr.nil n0
  apply own_in
  refine own_pre (B := s₁.setTop (mkF m 0 #[.val (.ref a1), .val (.int p2)] [])) (fun t k => castTop (ef_7 m a1 p2) k) ?_
  refine own_pre (B := s₁.setTop (mkF m 1 #[.val (.ref a1), .val (.int p2)] [(.ref a1)])) (fun t k => XS.aloadN X0.here hx rfl (hb hby d7_0) rfl rfl k) ?_
  obtain ⟨_, _, ⟨T3, L3, k3, n3⟩, -, X3, ⟨Lc3, hQ3, l3, y3, z3⟩, st3⟩ := X0.specialBack hx (y := (⟨"java/lang/Number", "<init>", "()V"⟩ : MethodName)) rfl hown (mvT hZ (hw _ (ow 41 rfl))) (mvT hZ (hw _ (ow 42 rfl))) (mvT hZ (hw _ (ow 46 rfl))) (by decide) (backOf (W := 0) (rm8 l Z a0 hw [] a1 h0 n0 Z0 ) hZ (hw _ (ow 46 rfl)) (hw _ (ow 45 rfl)) (by decide) (by decide)) (g := (mkF m 1 #[.val (.ref a1), .val (.int p2)] [(.ref a1)])) rfl (by rw [hml]; rfl) (Steps.refl _) (a := a1) (argsL := []) (rest := []) (lenOf pd_0 rfl) rfl (by show 2 * 0 + _ ≤ _; exact Nat.le_of_eq rfl) (hb hby d7_1) (fun _ _ => ⟨rfl, e0, (by decide : 0 + 0 ≤ _), (by decide : 0 + 0 ≤ _)⟩)
  dsimp only [Pt.U, Pt.locs, Pt.cells, Pt.slots] at X3 l3 y3 z3 st3 hQ3
  subst l3 y3 z3
  obtain ⟨rfl, N3q, e3⟩ := hQ3
  have N3 := Fr.app N0 N3q
  refine own_pre (B := T3.setTop (mkF m 4 #[.val (.ref a1), .val (.int p2)] [])) (fun t k => st3.trans k) ?_
  refine own_pre (B := T3.setTop (mkF m 5 #[.val (.ref a1), .val (.int p2)] [(.ref a1)])) (fun t k => XS.aloadN X3.here hx rfl (hb hby d7_4) rfl rfl k) ?_
  refine own_pre (B := T3.setTop (mkF m 6 #[.val (.ref a1), .val (.int p2)] [(.int p2), (.ref a1)])) (fun t k => XS.iloadN X3.here hx rfl (hb hby d7_5) rfl k) ?_
  have K4 : Keep h0 h0 [a1] := (Keep.refl h0 [a1])
  obtain ⟨T5, h5, X5, e5, W5, st5⟩ := putF X3 hx hZ hown (host := "") (Or.inl (hw _ (ow 48 rfl))) Via.refl e3 F_value_a1 E_a1 (Or.inr ⟨(hw _ (ow 49 rfl)), rfl, hnm⟩) (hw _ (ow 36 rfl)) (ty := .int) (by decide) rfl rfl (g := (mkF m 6 #[.val (.ref a1), .val (.int p2)] [(.int p2), (.ref a1)])) rfl rfl (hb hby d7_6)
  have Fw5 := Fld.same W5 F_value_a1
  have N5 := Fr.snoc X5 N3 g_a1
  refine own_pre (B := T5.setTop (mkF m 9 #[.val (.ref a1), .val (.int p2)] [])) (fun t k => st5 t k) ?_
  have K6 : Keep h0 h5 [a1] := (Keep.wr K4 W5 (Or.inl (List.mem_of_getElem? (i := 0) rfl)))
  have c7 := (Exa.wr W5 E_a1)
  obtain ⟨fsr8, hrr8, hrunr8, hendedr8, hWr8, hsamer8⟩ := X5.leave (v := none) (fun _ => rfl)
  refine ⟨_, _, (X5.returnOut hx Bd.returns (hb hby d7_9) hrr8), hrunr8, hendedr8, _, _, rfl, ?_, ⟨_, rfl⟩, hWr8, hsamer8.mono (by decide) (by decide)⟩
  show Q7 Z a1 p2 u_value_a1 h0 n0 _ T5.heap _
  rw [e5]
  exact ⟨rfl, N5, K6, c7, Fw5⟩
theorem pd_2 : parseMethodDescriptor "(I)V" = some ⟨[.int], none⟩ := by decide +kernel
theorem d6_0 : decode jdk_33_method_22_code 0 = .ok (.iload_n 0, 1) := by decide +kernel
theorem d6_1 : decode jdk_33_method_22_code 1 = .ok (.bipush (-128), 2) := by decide +kernel
theorem d6_3 : decode jdk_33_method_22_code 3 = .ok (.if_icmp .lt 20, 3) := by decide +kernel
theorem d6_6 : decode jdk_33_method_22_code 6 = .ok (.iload_n 0, 1) := by decide +kernel
theorem d6_7 : decode jdk_33_method_22_code 7 = .ok (.getstatic 191, 3) := by decide +kernel
theorem d6_10 : decode jdk_33_method_22_code 10 = .ok (.if_icmp .gt 13, 3) := by decide +kernel
theorem d6_13 : decode jdk_33_method_22_code 13 = .ok (.getstatic 195, 3) := by decide +kernel
theorem d6_16 : decode jdk_33_method_22_code 16 = .ok (.iload_n 0, 1) := by decide +kernel
theorem d6_17 : decode jdk_33_method_22_code 17 = .ok (.sipush 128, 3) := by decide +kernel
theorem d6_20 : decode jdk_33_method_22_code 20 = .ok (.iadd, 1) := by decide +kernel
theorem d6_21 : decode jdk_33_method_22_code 21 = .ok (.aaload, 1) := by decide +kernel
theorem d6_22 : decode jdk_33_method_22_code 22 = .ok (.areturn, 1) := by decide +kernel
theorem d6_23 : decode jdk_33_method_22_code 23 = .ok (.new 1, 3) := by decide +kernel
theorem d6_26 : decode jdk_33_method_22_code 26 = .ok (.dup, 1) := by decide +kernel
theorem d6_27 : decode jdk_33_method_22_code 27 = .ok (.iload_n 0, 1) := by decide +kernel
theorem d6_28 : decode jdk_33_method_22_code 28 = .ok (.invokespecial 199, 3) := by decide +kernel
theorem d6_31 : decode jdk_33_method_22_code 31 = .ok (.areturn, 1) := by decide +kernel
theorem pn_6 : plainName "java/lang/Integer" = true := by first | (simp [plainName, overriddenIn]; done) | decide +kernel
theorem ef_6 (m : MethodId) (x0 : Int32) : entryFrame m #[(.int x0)] 1 = mkF m 0 #[.val (.int x0)] [] := by first | (simp [entryFrame, mkF, argsToLocals, Value.category]; done) | rfl
def Q6 (Z : State) (p1 : Int32) (ca : Addr) (cc : Cell) (h0 : Heap) (n0 : Nat) (v : Option Value) (h : Heap) (L : List Loc) : Prop := ∃ b : Addr, v = some (.ref b) ∧ Fr n0 L ∧ Keep h0 h [] ∧ Exa Z h b "java/lang/Integer"
set_option maxRecDepth 65536 in
set_option maxHeartbeats 40000000 in
theorem rm6 (l : Launch) (Z : State) (a0 : Array Value) (hw : ∀ d ∈ tables_1, d.before a0 Z = true) (ws : List Jvm.Cond) (p1 : Int32) (ca : Addr) (cc : Cell) (h0 : Heap) (n0 : Nat) (Z0 : n0 ≤ h0.size) (O0 : Old Z n0 h0) (SC : Sta Z Z.heap "java/lang/Integer$IntegerCache" "cache" "[Ljava/lang/Integer;" (.ref ca)) (SH : Sta Z Z.heap "java/lang/Integer$IntegerCache" "high" "I" (.int (127 : Int32))) (AC : Arr Z Z.heap ca cc (.object "java/lang/Integer")) (SZ256 : cc.slots.size = 256) (EL : ∀ j, j < 256 → ∃ r, cc.slots[j]? = some (.ref r) ∧ Exa Z Z.heap r "java/lang/Integer") :
    MetFree l (⟨"java/lang/Integer", "valueOf", "(I)Ljava/lang/Integer;"⟩ : MethodName) (head1 (Jvm.Cond.code (⟨"java/lang/Integer", "valueOf", "(I)Ljava/lang/Integer;"⟩ : MethodName) jdk_33_method_22_code 1 (some (.object "java/lang/Integer")) :: ws) ({ frames := 3, cells := 1, slots := 1, locals := 38 } : Room)) (fun a U => a = #[(.int p1)] ∧ Z.Warmed39 U.vm ∧ U.heap = h0) (fun _ _ _ _ _ => True) (fun _ U o U' => ∃ v L, o = .returned v ∧ Q6 Z p1 ca cc h0 n0 v U'.heap L ∧ FrameEnd U o U' L ({ frames := 3, cells := 1, slots := 1, locals := 38 } : Room).cells ({ frames := 3, cells := 1, slots := 1, locals := 38 } : Room).slots) := by
  refine MetFree.of_bodySF (plainFor_of_name pn_6) hisR ?_
  intro p e s m args below meth c s₁ Bd hml0 hP hK
  obtain ⟨rfl, hZ, hh⟩ := hP
  have hx := Bd.exec
  have hby := Bd.bytes
  have hml : c.maxLocals = 1 := hml0
  have hown : s.vm.findClass "java/lang/Integer" = some m.cls := findClass_of_methodNamed Bd.named
  have hnm := (name_of_methodNamed Bd.named Bd.method).1
  have X0 : Stand p l e ({ frames := 3, cells := 1, slots := 1, locals := 38 } : Room) s m #[(.int p1)] below meth c s₁ [] 0 0 := Stand.of_body Bd
  have e0 : s₁.heap = h0 := by rw [← hh, Bd.state]; rfl
  have N0 := Fr.nil n0
  apply own_in
  refine own_pre (B := s₁.setTop (mkF m 0 #[.val (.int p1)] [])) (fun t k => castTop (ef_6 m p1) k) ?_
  refine own_pre (B := s₁.setTop (mkF m 1 #[.val (.int p1)] [(.int p1)])) (fun t k => XS.iloadN X0.here hx rfl (hb hby d6_0) rfl k) ?_
  refine own_pre (B := s₁.setTop (mkF m 3 #[.val (.int p1)] [(.int (-128 : Int32)), (.int p1)])) (fun t k => XS.bipush X0.here hx rfl (hb hby d6_1) k) ?_
  by_cases hc3_2 : p1 < (-128 : Int32)
  · refine own_pre (B := s₁.setTop (mkF m 23 #[.val (.int p1)] [])) (fun t k => XS.icmpYes X0.here hx rfl (pc0 := 3) (pc' := 23) rfl (hb hby d6_3) rfl (tlt hc3_2).1 (by decide) (by decide) k) ?_
    have K3 : Keep h0 h0 [] := (Keep.refl h0 [])
    obtain ⟨T4, h4, X4, e4, E4, A4, D4, -, st4⟩ := newO X0 hx hZ hown (hw _ (ow 35 rfl)) (hw _ (ow 36 rfl)) (hw _ (ow 31 rfl)) e0 (g := (mkF m 23 #[.val (.int p1)] [])) rfl (hb hby d6_23) (by decide) (by decide)
    obtain ⟨b4, g4⟩ : ∃ z, z = h0.size := ⟨_, rfl⟩
    rw [← g4] at A4 D4 st4
    have g_b4 : n0 ≤ b4 := Nat.le_trans Z0 (Nat.le_of_eq g4.symm)
    have s_b4 : h0.size ≤ b4 := Nat.le_trans K3.1 (Nat.le_of_eq g4.symm)
    have F_value_b4 : Fld Z h4 b4 "java/lang/Integer" "value" "I" (.int (0 : Int32)) := D4 (Or.inr (hw _ (ow 49 rfl))) (ty := .int) (by decide)
    refine own_pre (B := T4.setTop (mkF m 26 #[.val (.int p1)] [(.ref b4)])) (fun t k => st4 t k) ?_
    refine own_pre (B := T4.setTop (mkF m 27 #[.val (.int p1)] [(.ref b4), (.ref b4)])) (fun t k => XS.dup X4.here hx rfl (hb hby d6_26) rfl rfl k) ?_
    refine own_pre (B := T4.setTop (mkF m 28 #[.val (.int p1)] [(.int p1), (.ref b4), (.ref b4)])) (fun t k => XS.iloadN X4.here hx rfl (hb hby d6_27) rfl k) ?_
    have sz5 : n0 ≤ h4.size := (Nat.le_trans Z0 E4.1)
    obtain ⟨_, _, ⟨T6, L6, k6, n6⟩, -, X6, ⟨Lc6, hQ6, l6, y6, z6⟩, st6⟩ := X4.specialBack hx (y := (⟨"java/lang/Integer", "<init>", "(I)V"⟩ : MethodName)) rfl hown (mvT hZ (hw _ (ow 37 rfl))) (mvT hZ (hw _ (ow 38 rfl))) (mvT hZ (hw _ (ow 40 rfl))) (by decide) (backOf (W := 1) (rm7 l Z a0 hw [] b4 p1 (.int (0 : Int32)) h4 n0 sz5 A4 F_value_b4 g_b4) hZ (hw _ (ow 40 rfl)) (hw _ (ow 31 rfl)) (by decide) (by decide)) (g := (mkF m 28 #[.val (.int p1)] [(.int p1), (.ref b4), (.ref b4)])) rfl (by rw [hml]; rfl) (Steps.refl _) (a := b4) (argsL := [(.int p1)]) (rest := [(.ref b4)]) (lenOf pd_2 rfl) rfl (by show 2 * 0 + _ ≤ _; exact Nat.le_of_eq rfl) (hb hby d6_28) (fun _ _ => ⟨rfl, e4, (by decide : 1 + 0 ≤ _), (by decide : 1 + 0 ≤ _)⟩)
    dsimp only [Pt.U, Pt.locs, Pt.cells, Pt.slots] at X6 l6 y6 z6 st6 hQ6
    subst l6 y6 z6
    obtain ⟨rfl, N6q, K6, q6_0, q6_1⟩ := hQ6
    have N6 := Fr.app N0 N6q
    have K7 : Keep h0 h4 [] := (Keep.ext K3 E4)
    refine own_pre (B := T6.setTop (mkF m 31 #[.val (.int p1)] [(.ref b4)])) (fun t k => st6.trans k) ?_
    have K8 : Keep h0 T6.heap [] := (Keep.trans K7 K6 (allS (P := fun x => x ∈ [] ∨ h0.size ≤ x) (Or.inr s_b4) all0))
    obtain ⟨fsr9, hrr9, hrunr9, hendedr9, hWr9, hsamer9⟩ := X6.leave (v := some (.ref b4)) (fun h => by rw [Bd.returns] at h; cases h)
    refine ⟨_, _, (retOut X6 hx (i := .areturn) Bd.returns rfl (Or.inr (Or.inr (Or.inr (Or.inr ⟨rfl, rfl, rfl⟩)))) (hb hby d6_31) hrr9), hrunr9, hendedr9, _, _, rfl, ?_, ⟨_, rfl⟩, hWr9, hsamer9.mono (by decide) (by decide)⟩
    show Q6 Z p1 ca cc h0 n0 _ T6.heap _
    exact ⟨b4, rfl, N6, K8, q6_0⟩
  · refine own_pre (B := s₁.setTop (mkF m 6 #[.val (.int p1)] [])) (fun t k => XS.icmpNo X0.here hx rfl (hb hby d6_3) rfl (flt hc3_2).1 k) ?_
    refine own_pre (B := s₁.setTop (mkF m 7 #[.val (.int p1)] [(.int p1)])) (fun t k => XS.iloadN X0.here hx rfl (hb hby d6_6) rfl k) ?_
    obtain ⟨T10, X10, e10, st10⟩ := getS2 X0 hx hZ hown (host := "") (Or.inl (hw _ (ow 33 rfl))) Via.refl e0 (Sta.ext O0.2 SH) (g := (mkF m 7 #[.val (.int p1)] [(.int p1)])) rfl (hb hby d6_7)
    refine own_pre (B := T10.setTop (mkF m 10 #[.val (.int p1)] [(.int (127 : Int32)), (.int p1)])) (fun t k => st10 t k) ?_
    by_cases hc10_11 : (127 : Int32) < p1
    · refine own_pre (B := T10.setTop (mkF m 23 #[.val (.int p1)] [])) (fun t k => XS.icmpYes X10.here hx rfl (pc0 := 10) (pc' := 23) rfl (hb hby d6_10) rfl (tlt hc10_11).2.2.1 (by decide) (by decide) k) ?_
      have K12 : Keep h0 h0 [] := (Keep.refl h0 [])
      obtain ⟨T13, h13, X13, e13, E13, A13, D13, -, st13⟩ := newO X10 hx hZ hown (hw _ (ow 35 rfl)) (hw _ (ow 36 rfl)) (hw _ (ow 31 rfl)) e10 (g := (mkF m 23 #[.val (.int p1)] [])) rfl (hb hby d6_23) (by decide) (by decide)
      obtain ⟨b13, g13⟩ : ∃ z, z = h0.size := ⟨_, rfl⟩
      rw [← g13] at A13 D13 st13
      have g_b13 : n0 ≤ b13 := Nat.le_trans Z0 (Nat.le_of_eq g13.symm)
      have s_b13 : h0.size ≤ b13 := Nat.le_trans K12.1 (Nat.le_of_eq g13.symm)
      have F_value_b13 : Fld Z h13 b13 "java/lang/Integer" "value" "I" (.int (0 : Int32)) := D13 (Or.inr (hw _ (ow 49 rfl))) (ty := .int) (by decide)
      refine own_pre (B := T13.setTop (mkF m 26 #[.val (.int p1)] [(.ref b13)])) (fun t k => st13 t k) ?_
      refine own_pre (B := T13.setTop (mkF m 27 #[.val (.int p1)] [(.ref b13), (.ref b13)])) (fun t k => XS.dup X13.here hx rfl (hb hby d6_26) rfl rfl k) ?_
      refine own_pre (B := T13.setTop (mkF m 28 #[.val (.int p1)] [(.int p1), (.ref b13), (.ref b13)])) (fun t k => XS.iloadN X13.here hx rfl (hb hby d6_27) rfl k) ?_
      have sz14 : n0 ≤ h13.size := (Nat.le_trans Z0 E13.1)
      obtain ⟨_, _, ⟨T15, L15, k15, n15⟩, -, X15, ⟨Lc15, hQ15, l15, y15, z15⟩, st15⟩ := X13.specialBack hx (y := (⟨"java/lang/Integer", "<init>", "(I)V"⟩ : MethodName)) rfl hown (mvT hZ (hw _ (ow 37 rfl))) (mvT hZ (hw _ (ow 38 rfl))) (mvT hZ (hw _ (ow 40 rfl))) (by decide) (backOf (W := 1) (rm7 l Z a0 hw [] b13 p1 (.int (0 : Int32)) h13 n0 sz14 A13 F_value_b13 g_b13) hZ (hw _ (ow 40 rfl)) (hw _ (ow 31 rfl)) (by decide) (by decide)) (g := (mkF m 28 #[.val (.int p1)] [(.int p1), (.ref b13), (.ref b13)])) rfl (by rw [hml]; rfl) (Steps.refl _) (a := b13) (argsL := [(.int p1)]) (rest := [(.ref b13)]) (lenOf pd_2 rfl) rfl (by show 2 * 0 + _ ≤ _; exact Nat.le_of_eq rfl) (hb hby d6_28) (fun _ _ => ⟨rfl, e13, (by decide : 1 + 0 ≤ _), (by decide : 1 + 0 ≤ _)⟩)
      dsimp only [Pt.U, Pt.locs, Pt.cells, Pt.slots] at X15 l15 y15 z15 st15 hQ15
      subst l15 y15 z15
      obtain ⟨rfl, N15q, K15, q15_0, q15_1⟩ := hQ15
      have N15 := Fr.app N0 N15q
      have K16 : Keep h0 h13 [] := (Keep.ext K12 E13)
      refine own_pre (B := T15.setTop (mkF m 31 #[.val (.int p1)] [(.ref b13)])) (fun t k => st15.trans k) ?_
      have K17 : Keep h0 T15.heap [] := (Keep.trans K16 K15 (allS (P := fun x => x ∈ [] ∨ h0.size ≤ x) (Or.inr s_b13) all0))
      obtain ⟨fsr18, hrr18, hrunr18, hendedr18, hWr18, hsamer18⟩ := X15.leave (v := some (.ref b13)) (fun h => by rw [Bd.returns] at h; cases h)
      refine ⟨_, _, (retOut X15 hx (i := .areturn) Bd.returns rfl (Or.inr (Or.inr (Or.inr (Or.inr ⟨rfl, rfl, rfl⟩)))) (hb hby d6_31) hrr18), hrunr18, hendedr18, _, _, rfl, ?_, ⟨_, rfl⟩, hWr18, hsamer18.mono (by decide) (by decide)⟩
      show Q6 Z p1 ca cc h0 n0 _ T15.heap _
      exact ⟨b13, rfl, N15, K17, q15_0⟩
    · refine own_pre (B := T10.setTop (mkF m 13 #[.val (.int p1)] [])) (fun t k => XS.icmpNo X10.here hx rfl (hb hby d6_10) rfl (flt hc10_11).2.2.1 k) ?_
      obtain ⟨T19, X19, e19, st19⟩ := getS2 X10 hx hZ hown (host := "") (Or.inl (hw _ (ow 92 rfl))) Via.refl e10 (Sta.ext O0.2 SC) (g := (mkF m 13 #[.val (.int p1)] [])) rfl (hb hby d6_13)
      refine own_pre (B := T19.setTop (mkF m 16 #[.val (.int p1)] [(.ref ca)])) (fun t k => st19 t k) ?_
      refine own_pre (B := T19.setTop (mkF m 17 #[.val (.int p1)] [(.int p1), (.ref ca)])) (fun t k => XS.iloadN X19.here hx rfl (hb hby d6_16) rfl k) ?_
      refine own_pre (B := T19.setTop (mkF m 20 #[.val (.int p1)] [(.int (128 : Int32)), (.int p1), (.ref ca)])) (fun t k => XS.sipush X19.here hx rfl (hb hby d6_17) k) ?_
      refine own_pre (B := T19.setTop (mkF m 21 #[.val (.int p1)] [(.int (p1 + (128 : Int32))), (.ref ca)])) (fun t k => XS.iadd X19.here hx rfl (hb hby d6_20) rfl k) ?_
      have pk20 := IntBox.place_ok p1 hc3_2 hc10_11
      obtain ⟨r20, hr20, Er20⟩ := EL _ pk20.2
      have hin20 := pk20.1
      rw [← SZ256] at hin20
      have Ax20 := Arr.ext O0.2 AC
      refine own_pre (B := T19.setTop (mkF m 22 #[.val (.int p1)] [(.ref r20)])) (fun t k => X19.aaload hx (j := (p1 + (128 : Int32))) (v := (.ref r20)) (by rw [e19]; exact Ax20.1) (State.isArrayOf_alike hZ.alike Ax20.2.1) rfl Ax20.2.2 hin20 hr20 (g := (mkF m 21 #[.val (.int p1)] [(.int (p1 + (128 : Int32))), (.ref ca)])) rfl rfl (hb hby d6_21) t k) ?_
      have K21 : Keep h0 h0 [] := (Keep.refl h0 [])
      obtain ⟨fsr22, hrr22, hrunr22, hendedr22, hWr22, hsamer22⟩ := X19.leave (v := some (.ref r20)) (fun h => by rw [Bd.returns] at h; cases h)
      refine ⟨_, _, (retOut X19 hx (i := .areturn) Bd.returns rfl (Or.inr (Or.inr (Or.inr (Or.inr ⟨rfl, rfl, rfl⟩)))) (hb hby d6_22) hrr22), hrunr22, hendedr22, _, _, rfl, ?_, ⟨_, rfl⟩, hWr22, hsamer22.mono (by decide) (by decide)⟩
      show Q6 Z p1 ca cc h0 n0 _ T19.heap _
      rw [e19]
      exact ⟨r20, rfl, N0, K21, (Exa.ext O0.2 Er20)⟩
theorem d5_0 : decode prog_29_method_6_code 0 = .ok (.aload_n 1, 1) := by decide +kernel
theorem d5_1 : decode prog_29_method_6_code 1 = .ok (.instanceof 1, 3) := by decide +kernel
theorem d5_4 : decode prog_29_method_6_code 4 = .ok (.ifCond .eq 34, 3) := by decide +kernel
theorem d5_7 : decode prog_29_method_6_code 7 = .ok (.aload_n 1, 1) := by decide +kernel
theorem d5_8 : decode prog_29_method_6_code 8 = .ok (.checkcast 1, 3) := by decide +kernel
theorem d5_11 : decode prog_29_method_6_code 11 = .ok (.astore_n 2, 1) := by decide +kernel
theorem d5_12 : decode prog_29_method_6_code 12 = .ok (.aload_n 0, 1) := by decide +kernel
theorem d5_13 : decode prog_29_method_6_code 13 = .ok (.getfield 22, 3) := by decide +kernel
theorem d5_16 : decode prog_29_method_6_code 16 = .ok (.aload_n 2, 1) := by decide +kernel
theorem d5_17 : decode prog_29_method_6_code 17 = .ok (.getfield 22, 3) := by decide +kernel
theorem d5_20 : decode prog_29_method_6_code 20 = .ok (.if_icmp .ne 18, 3) := by decide +kernel
theorem d5_23 : decode prog_29_method_6_code 23 = .ok (.aload_n 0, 1) := by decide +kernel
theorem d5_24 : decode prog_29_method_6_code 24 = .ok (.getfield 26, 3) := by decide +kernel
theorem d5_27 : decode prog_29_method_6_code 27 = .ok (.aload_n 2, 1) := by decide +kernel
theorem d5_28 : decode prog_29_method_6_code 28 = .ok (.getfield 26, 3) := by decide +kernel
theorem d5_31 : decode prog_29_method_6_code 31 = .ok (.if_icmp .ne 7, 3) := by decide +kernel
theorem d5_34 : decode prog_29_method_6_code 34 = .ok (.iconst 1, 1) := by decide +kernel
theorem d5_35 : decode prog_29_method_6_code 35 = .ok (.goto 4, 3) := by decide +kernel
theorem d5_38 : decode prog_29_method_6_code 38 = .ok (.iconst 0, 1) := by decide +kernel
theorem d5_39 : decode prog_29_method_6_code 39 = .ok (.ireturn, 1) := by decide +kernel
theorem pn_5 : plainName "com/example/rikusen/rikusen/core/Hex" = true := by first | (simp [plainName, overriddenIn]; done) | decide +kernel
theorem ef_5 (m : MethodId) (x0 : Addr) (x1 : Addr) : entryFrame m #[(.ref x0), (.ref x1)] 3 = mkF m 0 #[.val (.ref x0), .val (.ref x1), .unset] [] := by first | (simp [entryFrame, mkF, argsToLocals, Value.category]; done) | rfl
def own_f5 (w_column_a1 : Int32) (w_column_a2 : Int32) (w_row_a1 : Int32) (w_row_a2 : Int32) : Int32 := (if w_column_a1 = w_column_a2 then (if w_row_a1 = w_row_a2 then (1 : Int32) else (0 : Int32)) else (0 : Int32))
def Q5 (Z : State) (a1 : Addr) (a2 : Addr) (w_column_a1 : Int32) (w_column_a2 : Int32) (w_row_a1 : Int32) (w_row_a2 : Int32) (h0 : Heap) (n0 : Nat) (v : Option Value) (h : Heap) (L : List Loc) : Prop := v = some (.int (own_f5 w_column_a1 w_column_a2 w_row_a1 w_row_a2)) ∧ Fr n0 L ∧ h = h0
set_option maxRecDepth 65536 in
set_option maxHeartbeats 40000000 in
theorem rm5 (l : Launch) (Z : State) (a0 : Array Value) (hw : ∀ d ∈ tables_1, d.before a0 Z = true) (ws : List Jvm.Cond) (a1 : Addr) (a2 : Addr) (w_column_a1 : Int32) (w_column_a2 : Int32) (w_row_a1 : Int32) (w_row_a2 : Int32) (h0 : Heap) (n0 : Nat) (Z0 : n0 ≤ h0.size) (E_a2 : Exa Z h0 a2 "com/example/rikusen/rikusen/core/Hex") (F_column_a1 : Fld Z h0 a1 "com/example/rikusen/rikusen/core/Hex" "column" "I" (.int w_column_a1)) (F_column_a2 : Fld Z h0 a2 "com/example/rikusen/rikusen/core/Hex" "column" "I" (.int w_column_a2)) (F_row_a1 : Fld Z h0 a1 "com/example/rikusen/rikusen/core/Hex" "row" "I" (.int w_row_a1)) (F_row_a2 : Fld Z h0 a2 "com/example/rikusen/rikusen/core/Hex" "row" "I" (.int w_row_a2)) :
    MetFree l (⟨"com/example/rikusen/rikusen/core/Hex", "equals", "(Ljava/lang/Object;)Z"⟩ : MethodName) (head1 (Jvm.Cond.code (⟨"com/example/rikusen/rikusen/core/Hex", "equals", "(Ljava/lang/Object;)Z"⟩ : MethodName) prog_29_method_6_code 3 (some .boolean) :: ws) ({ frames := 0, cells := 0, slots := 0, locals := 0 } : Room)) (fun a U => a = #[(.ref a1), (.ref a2)] ∧ Z.Warmed39 U.vm ∧ U.heap = h0) (fun _ _ _ _ _ => True) (fun _ U o U' => ∃ v L, o = .returned v ∧ Q5 Z a1 a2 w_column_a1 w_column_a2 w_row_a1 w_row_a2 h0 n0 v U'.heap L ∧ FrameEnd U o U' L ({ frames := 0, cells := 0, slots := 0, locals := 0 } : Room).cells ({ frames := 0, cells := 0, slots := 0, locals := 0 } : Room).slots) := by
  refine MetFree.of_bodySF (plainFor_of_name pn_5) hisR ?_
  intro p e s m args below meth c s₁ Bd hml0 hP hK
  obtain ⟨rfl, hZ, hh⟩ := hP
  have hx := Bd.exec
  have hby := Bd.bytes
  have hml : c.maxLocals = 3 := hml0
  have hown : s.vm.findClass "com/example/rikusen/rikusen/core/Hex" = some m.cls := findClass_of_methodNamed Bd.named
  have hnm := (name_of_methodNamed Bd.named Bd.method).1
  have X0 : Stand p l e ({ frames := 0, cells := 0, slots := 0, locals := 0 } : Room) s m #[(.ref a1), (.ref a2)] below meth c s₁ [] 0 0 := Stand.of_body Bd
  have e0 : s₁.heap = h0 := by rw [← hh, Bd.state]; rfl
  have N0 := Fr.nil n0
  apply own_in
  refine own_pre (B := s₁.setTop (mkF m 0 #[.val (.ref a1), .val (.ref a2), .unset] [])) (fun t k => castTop (ef_5 m a1 a2) k) ?_
  refine own_pre (B := s₁.setTop (mkF m 1 #[.val (.ref a1), .val (.ref a2), .unset] [(.ref a2)])) (fun t k => XS.aloadN X0.here hx rfl (hb hby d5_0) rfl rfl k) ?_
  obtain ⟨T3, X3, e3, st3⟩ := instY X0 hx hZ hown (hw _ (ow 27 rfl)) e0 (Ins.self E_a2) (g := (mkF m 1 #[.val (.ref a1), .val (.ref a2), .unset] [(.ref a2)])) rfl rfl (hb hby d5_1)
  refine own_pre (B := T3.setTop (mkF m 4 #[.val (.ref a1), .val (.ref a2), .unset] [(.int (1 : Int32))])) (fun t k => st3 t k) ?_
  refine own_pre (B := T3.setTop (mkF m 7 #[.val (.ref a1), .val (.ref a2), .unset] [])) (fun t k => XS.ifNo X3.here hx rfl (hb hby d5_4) rfl ((if0 _ _).trans (feq (by decide : ¬ ((1 : Int32) = (0 : Int32)))).1) k) ?_
  refine own_pre (B := T3.setTop (mkF m 8 #[.val (.ref a1), .val (.ref a2), .unset] [(.ref a2)])) (fun t k => XS.aloadN X3.here hx rfl (hb hby d5_7) rfl rfl k) ?_
  obtain ⟨T4, X4, e4, st4⟩ := castY X3 hx hZ hown (hw _ (ow 27 rfl)) e3 (Ins.self E_a2) (g := (mkF m 8 #[.val (.ref a1), .val (.ref a2), .unset] [(.ref a2)])) rfl rfl (hb hby d5_8)
  refine own_pre (B := T4.setTop (mkF m 11 #[.val (.ref a1), .val (.ref a2), .unset] [(.ref a2)])) (fun t k => st4 t k) ?_
  refine own_pre (B := T4.setTop (mkF m 12 #[.val (.ref a1), .val (.ref a2), .val (.ref a2)] [])) (fun t k => XS.astoreN X4.here hx rfl (hb hby d5_11) rfl rfl (l' := #[.val (.ref a1), .val (.ref a2), .val (.ref a2)]) rfl k) ?_
  refine own_pre (B := T4.setTop (mkF m 13 #[.val (.ref a1), .val (.ref a2), .val (.ref a2)] [(.ref a1)])) (fun t k => XS.aloadN X4.here hx rfl (hb hby d5_12) rfl rfl k) ?_
  obtain ⟨T5, X5, e5, st5⟩ := getF X4 hx hZ hown (host := "") (Or.inl (hw _ (ow 18 rfl))) Via.refl e4 F_column_a1 (g := (mkF m 13 #[.val (.ref a1), .val (.ref a2), .val (.ref a2)] [(.ref a1)])) rfl rfl (hb hby d5_13)
  refine own_pre (B := T5.setTop (mkF m 16 #[.val (.ref a1), .val (.ref a2), .val (.ref a2)] [(.int w_column_a1)])) (fun t k => st5 t k) ?_
  refine own_pre (B := T5.setTop (mkF m 17 #[.val (.ref a1), .val (.ref a2), .val (.ref a2)] [(.ref a2), (.int w_column_a1)])) (fun t k => XS.aloadN X5.here hx rfl (hb hby d5_16) rfl rfl k) ?_
  obtain ⟨T6, X6, e6, st6⟩ := getF X5 hx hZ hown (host := "") (Or.inl (hw _ (ow 18 rfl))) Via.refl e5 F_column_a2 (g := (mkF m 17 #[.val (.ref a1), .val (.ref a2), .val (.ref a2)] [(.ref a2), (.int w_column_a1)])) rfl rfl (hb hby d5_17)
  refine own_pre (B := T6.setTop (mkF m 20 #[.val (.ref a1), .val (.ref a2), .val (.ref a2)] [(.int w_column_a2), (.int w_column_a1)])) (fun t k => st6 t k) ?_
  by_cases hc20_7 : w_column_a1 = w_column_a2
  · refine own_pre (B := T6.setTop (mkF m 23 #[.val (.ref a1), .val (.ref a2), .val (.ref a2)] [])) (fun t k => XS.icmpNo X6.here hx rfl (hb hby d5_20) rfl (teq hc20_7).2 k) ?_
    refine own_pre (B := T6.setTop (mkF m 24 #[.val (.ref a1), .val (.ref a2), .val (.ref a2)] [(.ref a1)])) (fun t k => XS.aloadN X6.here hx rfl (hb hby d5_23) rfl rfl k) ?_
    obtain ⟨T8, X8, e8, st8⟩ := getF X6 hx hZ hown (host := "") (Or.inl (hw _ (ow 20 rfl))) Via.refl e6 F_row_a1 (g := (mkF m 24 #[.val (.ref a1), .val (.ref a2), .val (.ref a2)] [(.ref a1)])) rfl rfl (hb hby d5_24)
    refine own_pre (B := T8.setTop (mkF m 27 #[.val (.ref a1), .val (.ref a2), .val (.ref a2)] [(.int w_row_a1)])) (fun t k => st8 t k) ?_
    refine own_pre (B := T8.setTop (mkF m 28 #[.val (.ref a1), .val (.ref a2), .val (.ref a2)] [(.ref a2), (.int w_row_a1)])) (fun t k => XS.aloadN X8.here hx rfl (hb hby d5_27) rfl rfl k) ?_
    obtain ⟨T9, X9, e9, st9⟩ := getF X8 hx hZ hown (host := "") (Or.inl (hw _ (ow 20 rfl))) Via.refl e8 F_row_a2 (g := (mkF m 28 #[.val (.ref a1), .val (.ref a2), .val (.ref a2)] [(.ref a2), (.int w_row_a1)])) rfl rfl (hb hby d5_28)
    refine own_pre (B := T9.setTop (mkF m 31 #[.val (.ref a1), .val (.ref a2), .val (.ref a2)] [(.int w_row_a2), (.int w_row_a1)])) (fun t k => st9 t k) ?_
    by_cases hc31_10 : w_row_a1 = w_row_a2
    · refine own_pre (B := T9.setTop (mkF m 34 #[.val (.ref a1), .val (.ref a2), .val (.ref a2)] [])) (fun t k => XS.icmpNo X9.here hx rfl (hb hby d5_31) rfl (teq hc31_10).2 k) ?_
      refine own_pre (B := T9.setTop (mkF m 35 #[.val (.ref a1), .val (.ref a2), .val (.ref a2)] [(.int (1 : Int32))])) (fun t k => XS.iconst X9.here hx rfl (hb hby d5_34) k) ?_
      refine own_pre (B := T9.setTop (mkF m 39 #[.val (.ref a1), .val (.ref a2), .val (.ref a2)] [(.int (1 : Int32))])) (fun t k => XS.goto X9.here hx rfl (pc0 := 35) (pc' := 39) rfl (hb hby d5_35) (by decide) (by decide) k) ?_
      obtain ⟨fsr11, hrr11, hrunr11, hendedr11, hWr11, hsamer11⟩ := X9.leave (v := some (.int (1 : Int32))) (fun h => by rw [Bd.returns] at h; cases h)
      refine ⟨_, _, (retN X9 hx (t := .boolean) Bd.returns (by simp) (hb hby d5_39) hrr11), hrunr11, hendedr11, _, _, rfl, ?_, ⟨_, rfl⟩, hWr11, hsamer11.mono (by decide) (by decide)⟩
      show Q5 Z a1 a2 w_column_a1 w_column_a2 w_row_a1 w_row_a2 h0 n0 _ T9.heap _
      rw [e9]
      exact ⟨(by unfold own_f5; rw [if_pos hc20_7, if_pos hc31_10]), N0, rfl⟩
    · refine own_pre (B := T9.setTop (mkF m 38 #[.val (.ref a1), .val (.ref a2), .val (.ref a2)] [])) (fun t k => XS.icmpYes X9.here hx rfl (pc0 := 31) (pc' := 38) rfl (hb hby d5_31) rfl (feq hc31_10).2 (by decide) (by decide) k) ?_
      refine own_pre (B := T9.setTop (mkF m 39 #[.val (.ref a1), .val (.ref a2), .val (.ref a2)] [(.int (0 : Int32))])) (fun t k => XS.iconst X9.here hx rfl (hb hby d5_38) k) ?_
      obtain ⟨fsr12, hrr12, hrunr12, hendedr12, hWr12, hsamer12⟩ := X9.leave (v := some (.int (0 : Int32))) (fun h => by rw [Bd.returns] at h; cases h)
      refine ⟨_, _, (retN X9 hx (t := .boolean) Bd.returns (by simp) (hb hby d5_39) hrr12), hrunr12, hendedr12, _, _, rfl, ?_, ⟨_, rfl⟩, hWr12, hsamer12.mono (by decide) (by decide)⟩
      show Q5 Z a1 a2 w_column_a1 w_column_a2 w_row_a1 w_row_a2 h0 n0 _ T9.heap _
      rw [e9]
      exact ⟨(by unfold own_f5; rw [if_pos hc20_7, if_neg hc31_10]), N0, rfl⟩
  · refine own_pre (B := T6.setTop (mkF m 38 #[.val (.ref a1), .val (.ref a2), .val (.ref a2)] [])) (fun t k => XS.icmpYes X6.here hx rfl (pc0 := 20) (pc' := 38) rfl (hb hby d5_20) rfl (feq hc20_7).2 (by decide) (by decide) k) ?_
    refine own_pre (B := T6.setTop (mkF m 39 #[.val (.ref a1), .val (.ref a2), .val (.ref a2)] [(.int (0 : Int32))])) (fun t k => XS.iconst X6.here hx rfl (hb hby d5_38) k) ?_
    obtain ⟨fsr13, hrr13, hrunr13, hendedr13, hWr13, hsamer13⟩ := X6.leave (v := some (.int (0 : Int32))) (fun h => by rw [Bd.returns] at h; cases h)
    refine ⟨_, _, (retN X6 hx (t := .boolean) Bd.returns (by simp) (hb hby d5_39) hrr13), hrunr13, hendedr13, _, _, rfl, ?_, ⟨_, rfl⟩, hWr13, hsamer13.mono (by decide) (by decide)⟩
    show Q5 Z a1 a2 w_column_a1 w_column_a2 w_row_a1 w_row_a2 h0 n0 _ T6.heap _
    rw [e6]
    exact ⟨(by unfold own_f5; rw [if_neg hc20_7]), N0, rfl⟩
theorem ef_5n (m : MethodId) (x0 : Addr) : entryFrame m #[(.ref x0), .null] 3 = mkF m 0 #[.val (.ref x0), .val .null, .unset] [] := by first | (simp [entryFrame, mkF, argsToLocals, Value.category]; done) | rfl
def own_f5n  : Int32 := (0 : Int32)
def Q5n (Z : State) (a1 : Addr) (h0 : Heap) (n0 : Nat) (v : Option Value) (h : Heap) (L : List Loc) : Prop := v = some (.int own_f5n) ∧ Fr n0 L ∧ h = h0
set_option maxRecDepth 65536 in
set_option maxHeartbeats 40000000 in
theorem rm5n (l : Launch) (Z : State) (a0 : Array Value) (hw : ∀ d ∈ tables_1, d.before a0 Z = true) (ws : List Jvm.Cond) (a1 : Addr) (h0 : Heap) (n0 : Nat) (Z0 : n0 ≤ h0.size) :
    MetFree l (⟨"com/example/rikusen/rikusen/core/Hex", "equals", "(Ljava/lang/Object;)Z"⟩ : MethodName) (head1 (Jvm.Cond.code (⟨"com/example/rikusen/rikusen/core/Hex", "equals", "(Ljava/lang/Object;)Z"⟩ : MethodName) prog_29_method_6_code 3 (some .boolean) :: ws) ({ frames := 0, cells := 0, slots := 0, locals := 0 } : Room)) (fun a U => a = #[(.ref a1), .null] ∧ Z.Warmed39 U.vm ∧ U.heap = h0) (fun _ _ _ _ _ => True) (fun _ U o U' => ∃ v L, o = .returned v ∧ Q5n Z a1 h0 n0 v U'.heap L ∧ FrameEnd U o U' L ({ frames := 0, cells := 0, slots := 0, locals := 0 } : Room).cells ({ frames := 0, cells := 0, slots := 0, locals := 0 } : Room).slots) := by
  refine MetFree.of_bodySF (plainFor_of_name pn_5) hisR ?_
  intro p e s m args below meth c s₁ Bd hml0 hP hK
  obtain ⟨rfl, hZ, hh⟩ := hP
  have hx := Bd.exec
  have hby := Bd.bytes
  have hml : c.maxLocals = 3 := hml0
  have hown : s.vm.findClass "com/example/rikusen/rikusen/core/Hex" = some m.cls := findClass_of_methodNamed Bd.named
  have hnm := (name_of_methodNamed Bd.named Bd.method).1
  have X0 : Stand p l e ({ frames := 0, cells := 0, slots := 0, locals := 0 } : Room) s m #[(.ref a1), .null] below meth c s₁ [] 0 0 := Stand.of_body Bd
  have e0 : s₁.heap = h0 := by rw [← hh, Bd.state]; rfl
  have N0 := Fr.nil n0
  apply own_in
  refine own_pre (B := s₁.setTop (mkF m 0 #[.val (.ref a1), .val .null, .unset] [])) (fun t k => castTop (ef_5n m a1) k) ?_
  refine own_pre (B := s₁.setTop (mkF m 1 #[.val (.ref a1), .val .null, .unset] [.null])) (fun t k => XS.aloadN X0.here hx rfl (hb hby d5_0) rfl rfl k) ?_
  refine own_pre (B := s₁.setTop (mkF m 4 #[.val (.ref a1), .val .null, .unset] [(.int (0 : Int32))])) (fun t k => X0.instanceofNull hx (g := (mkF m 1 #[.val (.ref a1), .val .null, .unset] [.null])) rfl rfl (hb hby d5_1) t k) ?_
  refine own_pre (B := s₁.setTop (mkF m 38 #[.val (.ref a1), .val .null, .unset] [])) (fun t k => XS.ifYes X0.here hx rfl (pc0 := 4) (pc' := 38) rfl (hb hby d5_4) rfl ((if0 _ _).trans (teq (rfl : (0 : Int32) = (0 : Int32))).1) (by decide) (by decide) k) ?_
  refine own_pre (B := s₁.setTop (mkF m 39 #[.val (.ref a1), .val .null, .unset] [(.int (0 : Int32))])) (fun t k => XS.iconst X0.here hx rfl (hb hby d5_38) k) ?_
  obtain ⟨fsr2, hrr2, hrunr2, hendedr2, hWr2, hsamer2⟩ := X0.leave (v := some (.int (0 : Int32))) (fun h => by rw [Bd.returns] at h; cases h)
  refine ⟨_, _, (retN X0 hx (t := .boolean) Bd.returns (by simp) (hb hby d5_39) hrr2), hrunr2, hendedr2, _, _, rfl, ?_, ⟨_, rfl⟩, hWr2, hsamer2.mono (by decide) (by decide)⟩
  show Q5n Z a1 h0 n0 _ s₁.heap _
  rw [e0]
  exact ⟨rfl, N0, rfl⟩
theorem ef_5I (m : MethodId) (x0 : Addr) (x1 : Addr) : entryFrame m #[(.ref x0), (.ref x1)] 3 = mkF m 0 #[.val (.ref x0), .val (.ref x1), .unset] [] := by first | (simp [entryFrame, mkF, argsToLocals, Value.category]; done) | rfl
def own_f5I  : Int32 := (0 : Int32)
def Q5I (Z : State) (a1 : Addr) (a2 : Addr) (h0 : Heap) (n0 : Nat) (v : Option Value) (h : Heap) (L : List Loc) : Prop := v = some (.int own_f5I) ∧ Fr n0 L ∧ h = h0
set_option maxRecDepth 65536 in
set_option maxHeartbeats 40000000 in
theorem rm5I (l : Launch) (Z : State) (a0 : Array Value) (hw : ∀ d ∈ tables_1, d.before a0 Z = true) (ws : List Jvm.Cond) (a1 : Addr) (a2 : Addr) (h0 : Heap) (n0 : Nat) (Z0 : n0 ≤ h0.size) (E_a2 : Exa Z h0 a2 "java/lang/Integer") :
    MetFree l (⟨"com/example/rikusen/rikusen/core/Hex", "equals", "(Ljava/lang/Object;)Z"⟩ : MethodName) (head1 (Jvm.Cond.code (⟨"com/example/rikusen/rikusen/core/Hex", "equals", "(Ljava/lang/Object;)Z"⟩ : MethodName) prog_29_method_6_code 3 (some .boolean) :: ws) ({ frames := 0, cells := 0, slots := 0, locals := 0 } : Room)) (fun a U => a = #[(.ref a1), (.ref a2)] ∧ Z.Warmed39 U.vm ∧ U.heap = h0) (fun _ _ _ _ _ => True) (fun _ U o U' => ∃ v L, o = .returned v ∧ Q5I Z a1 a2 h0 n0 v U'.heap L ∧ FrameEnd U o U' L ({ frames := 0, cells := 0, slots := 0, locals := 0 } : Room).cells ({ frames := 0, cells := 0, slots := 0, locals := 0 } : Room).slots) := by
  refine MetFree.of_bodySF (plainFor_of_name pn_5) hisR ?_
  intro p e s m args below meth c s₁ Bd hml0 hP hK
  obtain ⟨rfl, hZ, hh⟩ := hP
  have hx := Bd.exec
  have hby := Bd.bytes
  have hml : c.maxLocals = 3 := hml0
  have hown : s.vm.findClass "com/example/rikusen/rikusen/core/Hex" = some m.cls := findClass_of_methodNamed Bd.named
  have hnm := (name_of_methodNamed Bd.named Bd.method).1
  have X0 : Stand p l e ({ frames := 0, cells := 0, slots := 0, locals := 0 } : Room) s m #[(.ref a1), (.ref a2)] below meth c s₁ [] 0 0 := Stand.of_body Bd
  have e0 : s₁.heap = h0 := by rw [← hh, Bd.state]; rfl
  have N0 := Fr.nil n0
  apply own_in
  refine own_pre (B := s₁.setTop (mkF m 0 #[.val (.ref a1), .val (.ref a2), .unset] [])) (fun t k => castTop (ef_5I m a1 a2) k) ?_
  refine own_pre (B := s₁.setTop (mkF m 1 #[.val (.ref a1), .val (.ref a2), .unset] [(.ref a2)])) (fun t k => XS.aloadN X0.here hx rfl (hb hby d5_0) rfl rfl k) ?_
  obtain ⟨T3, X3, e3, st3⟩ := instNo X0 hx hZ hown (hw _ (ow 27 rfl)) e0 E_a2 (own_notI hw) (g := (mkF m 1 #[.val (.ref a1), .val (.ref a2), .unset] [(.ref a2)])) rfl rfl (hb hby d5_1)
  refine own_pre (B := T3.setTop (mkF m 4 #[.val (.ref a1), .val (.ref a2), .unset] [(.int (0 : Int32))])) (fun t k => st3 t k) ?_
  refine own_pre (B := T3.setTop (mkF m 38 #[.val (.ref a1), .val (.ref a2), .unset] [])) (fun t k => XS.ifYes X3.here hx rfl (pc0 := 4) (pc' := 38) rfl (hb hby d5_4) rfl ((if0 _ _).trans (teq (rfl : (0 : Int32) = (0 : Int32))).1) (by decide) (by decide) k) ?_
  refine own_pre (B := T3.setTop (mkF m 39 #[.val (.ref a1), .val (.ref a2), .unset] [(.int (0 : Int32))])) (fun t k => XS.iconst X3.here hx rfl (hb hby d5_38) k) ?_
  obtain ⟨fsr4, hrr4, hrunr4, hendedr4, hWr4, hsamer4⟩ := X3.leave (v := some (.int (0 : Int32))) (fun h => by rw [Bd.returns] at h; cases h)
  refine ⟨_, _, (retN X3 hx (t := .boolean) Bd.returns (by simp) (hb hby d5_39) hrr4), hrunr4, hendedr4, _, _, rfl, ?_, ⟨_, rfl⟩, hWr4, hsamer4.mono (by decide) (by decide)⟩
  show Q5I Z a1 a2 h0 n0 _ T3.heap _
  rw [e3]
  exact ⟨rfl, N0, rfl⟩
theorem ef_5B (m : MethodId) (x0 : Addr) (x1 : Addr) : entryFrame m #[(.ref x0), (.ref x1)] 3 = mkF m 0 #[.val (.ref x0), .val (.ref x1), .unset] [] := by first | (simp [entryFrame, mkF, argsToLocals, Value.category]; done) | rfl
def own_f5B  : Int32 := (0 : Int32)
def Q5B (Z : State) (a1 : Addr) (a2 : Addr) (h0 : Heap) (n0 : Nat) (v : Option Value) (h : Heap) (L : List Loc) : Prop := v = some (.int own_f5B) ∧ Fr n0 L ∧ h = h0
set_option maxRecDepth 65536 in
set_option maxHeartbeats 40000000 in
theorem rm5B (l : Launch) (Z : State) (a0 : Array Value) (hw : ∀ d ∈ tables_1, d.before a0 Z = true) (ws : List Jvm.Cond) (a1 : Addr) (a2 : Addr) (h0 : Heap) (n0 : Nat) (Z0 : n0 ≤ h0.size) (E_a2 : Exa Z h0 a2 "com/example/rikusen/rikusen/core/Box") :
    MetFree l (⟨"com/example/rikusen/rikusen/core/Hex", "equals", "(Ljava/lang/Object;)Z"⟩ : MethodName) (head1 (Jvm.Cond.code (⟨"com/example/rikusen/rikusen/core/Hex", "equals", "(Ljava/lang/Object;)Z"⟩ : MethodName) prog_29_method_6_code 3 (some .boolean) :: ws) ({ frames := 0, cells := 0, slots := 0, locals := 0 } : Room)) (fun a U => a = #[(.ref a1), (.ref a2)] ∧ Z.Warmed39 U.vm ∧ U.heap = h0) (fun _ _ _ _ _ => True) (fun _ U o U' => ∃ v L, o = .returned v ∧ Q5B Z a1 a2 h0 n0 v U'.heap L ∧ FrameEnd U o U' L ({ frames := 0, cells := 0, slots := 0, locals := 0 } : Room).cells ({ frames := 0, cells := 0, slots := 0, locals := 0 } : Room).slots) := by
  refine MetFree.of_bodySF (plainFor_of_name pn_5) hisR ?_
  intro p e s m args below meth c s₁ Bd hml0 hP hK
  obtain ⟨rfl, hZ, hh⟩ := hP
  have hx := Bd.exec
  have hby := Bd.bytes
  have hml : c.maxLocals = 3 := hml0
  have hown : s.vm.findClass "com/example/rikusen/rikusen/core/Hex" = some m.cls := findClass_of_methodNamed Bd.named
  have hnm := (name_of_methodNamed Bd.named Bd.method).1
  have X0 : Stand p l e ({ frames := 0, cells := 0, slots := 0, locals := 0 } : Room) s m #[(.ref a1), (.ref a2)] below meth c s₁ [] 0 0 := Stand.of_body Bd
  have e0 : s₁.heap = h0 := by rw [← hh, Bd.state]; rfl
  have N0 := Fr.nil n0
  apply own_in
  refine own_pre (B := s₁.setTop (mkF m 0 #[.val (.ref a1), .val (.ref a2), .unset] [])) (fun t k => castTop (ef_5B m a1 a2) k) ?_
  refine own_pre (B := s₁.setTop (mkF m 1 #[.val (.ref a1), .val (.ref a2), .unset] [(.ref a2)])) (fun t k => XS.aloadN X0.here hx rfl (hb hby d5_0) rfl rfl k) ?_
  obtain ⟨T3, X3, e3, st3⟩ := instNo X0 hx hZ hown (hw _ (ow 27 rfl)) e0 E_a2 (own_notB hw) (g := (mkF m 1 #[.val (.ref a1), .val (.ref a2), .unset] [(.ref a2)])) rfl rfl (hb hby d5_1)
  refine own_pre (B := T3.setTop (mkF m 4 #[.val (.ref a1), .val (.ref a2), .unset] [(.int (0 : Int32))])) (fun t k => st3 t k) ?_
  refine own_pre (B := T3.setTop (mkF m 38 #[.val (.ref a1), .val (.ref a2), .unset] [])) (fun t k => XS.ifYes X3.here hx rfl (pc0 := 4) (pc' := 38) rfl (hb hby d5_4) rfl ((if0 _ _).trans (teq (rfl : (0 : Int32) = (0 : Int32))).1) (by decide) (by decide) k) ?_
  refine own_pre (B := T3.setTop (mkF m 39 #[.val (.ref a1), .val (.ref a2), .unset] [(.int (0 : Int32))])) (fun t k => XS.iconst X3.here hx rfl (hb hby d5_38) k) ?_
  obtain ⟨fsr4, hrr4, hrunr4, hendedr4, hWr4, hsamer4⟩ := X3.leave (v := some (.int (0 : Int32))) (fun h => by rw [Bd.returns] at h; cases h)
  refine ⟨_, _, (retN X3 hx (t := .boolean) Bd.returns (by simp) (hb hby d5_39) hrr4), hrunr4, hendedr4, _, _, rfl, ?_, ⟨_, rfl⟩, hWr4, hsamer4.mono (by decide) (by decide)⟩
  show Q5B Z a1 a2 h0 n0 _ T3.heap _
  rw [e3]
  exact ⟨rfl, N0, rfl⟩
theorem d10_0 : decode jdk_43_method_3_code 0 = .ok (.iload_n 0, 1) := by decide +kernel
theorem d10_1 : decode jdk_43_method_3_code 1 = .ok (.sipush 255, 3) := by decide +kernel
theorem d10_4 : decode jdk_43_method_3_code 4 = .ok (.if_icmp .gt 7, 3) := by decide +kernel
theorem d10_7 : decode jdk_43_method_3_code 7 = .ok (.iconst 1, 1) := by decide +kernel
theorem d10_8 : decode jdk_43_method_3_code 8 = .ok (.goto 4, 3) := by decide +kernel
theorem d10_11 : decode jdk_43_method_3_code 11 = .ok (.iconst 0, 1) := by decide +kernel
theorem d10_12 : decode jdk_43_method_3_code 12 = .ok (.ireturn, 1) := by decide +kernel
theorem pn_10 : plainName "java/lang/StringLatin1" = true := by first | (simp [plainName, overriddenIn]; done) | decide +kernel
theorem ef_10 (m : MethodId) (x0 : Int32) : entryFrame m #[(.int x0)] 1 = mkF m 0 #[.val (.int x0)] [] := by first | (simp [entryFrame, mkF, argsToLocals, Value.category]; done) | rfl
def own_f10 (p1 : Int32) : Int32 := (if (255 : Int32) < p1 then (0 : Int32) else (1 : Int32))
def Q10 (Z : State) (p1 : Int32) (h0 : Heap) (n0 : Nat) (v : Option Value) (h : Heap) (L : List Loc) : Prop := v = some (.int (own_f10 p1)) ∧ Fr n0 L ∧ h = h0
set_option maxRecDepth 65536 in
set_option maxHeartbeats 40000000 in
theorem rm10 (l : Launch) (Z : State) (a0 : Array Value) (hw : ∀ d ∈ tables_1, d.before a0 Z = true) (ws : List Jvm.Cond) (p1 : Int32) (h0 : Heap) (n0 : Nat) (Z0 : n0 ≤ h0.size) :
    MetFree l (⟨"java/lang/StringLatin1", "canEncode", "(C)Z"⟩ : MethodName) (head1 (Jvm.Cond.code (⟨"java/lang/StringLatin1", "canEncode", "(C)Z"⟩ : MethodName) jdk_43_method_3_code 1 (some .boolean) :: ws) ({ frames := 0, cells := 0, slots := 0, locals := 0 } : Room)) (fun a U => a = #[(.int p1)] ∧ Z.Warmed39 U.vm ∧ U.heap = h0) (fun _ _ _ _ _ => True) (fun _ U o U' => ∃ v L, o = .returned v ∧ Q10 Z p1 h0 n0 v U'.heap L ∧ FrameEnd U o U' L ({ frames := 0, cells := 0, slots := 0, locals := 0 } : Room).cells ({ frames := 0, cells := 0, slots := 0, locals := 0 } : Room).slots) := by
  refine MetFree.of_bodySF (plainFor_of_name pn_10) hisR ?_
  intro p e s m args below meth c s₁ Bd hml0 hP hK
  obtain ⟨rfl, hZ, hh⟩ := hP
  have hx := Bd.exec
  have hby := Bd.bytes
  have hml : c.maxLocals = 1 := hml0
  have hown : s.vm.findClass "java/lang/StringLatin1" = some m.cls := findClass_of_methodNamed Bd.named
  have hnm := (name_of_methodNamed Bd.named Bd.method).1
  have X0 : Stand p l e ({ frames := 0, cells := 0, slots := 0, locals := 0 } : Room) s m #[(.int p1)] below meth c s₁ [] 0 0 := Stand.of_body Bd
  have e0 : s₁.heap = h0 := by rw [← hh, Bd.state]; rfl
  have N0 := Fr.nil n0
  apply own_in
  refine own_pre (B := s₁.setTop (mkF m 0 #[.val (.int p1)] [])) (fun t k => castTop (ef_10 m p1) k) ?_
  refine own_pre (B := s₁.setTop (mkF m 1 #[.val (.int p1)] [(.int p1)])) (fun t k => XS.iloadN X0.here hx rfl (hb hby d10_0) rfl k) ?_
  refine own_pre (B := s₁.setTop (mkF m 4 #[.val (.int p1)] [(.int (255 : Int32)), (.int p1)])) (fun t k => XS.sipush X0.here hx rfl (hb hby d10_1) k) ?_
  by_cases hc4_2 : (255 : Int32) < p1
  · refine own_pre (B := s₁.setTop (mkF m 11 #[.val (.int p1)] [])) (fun t k => XS.icmpYes X0.here hx rfl (pc0 := 4) (pc' := 11) rfl (hb hby d10_4) rfl (tlt hc4_2).2.2.1 (by decide) (by decide) k) ?_
    refine own_pre (B := s₁.setTop (mkF m 12 #[.val (.int p1)] [(.int (0 : Int32))])) (fun t k => XS.iconst X0.here hx rfl (hb hby d10_11) k) ?_
    obtain ⟨fsr3, hrr3, hrunr3, hendedr3, hWr3, hsamer3⟩ := X0.leave (v := some (.int (0 : Int32))) (fun h => by rw [Bd.returns] at h; cases h)
    refine ⟨_, _, (retN X0 hx (t := .boolean) Bd.returns (by simp) (hb hby d10_12) hrr3), hrunr3, hendedr3, _, _, rfl, ?_, ⟨_, rfl⟩, hWr3, hsamer3.mono (by decide) (by decide)⟩
    show Q10 Z p1 h0 n0 _ s₁.heap _
    rw [e0]
    exact ⟨(by unfold own_f10; rw [if_pos hc4_2]), N0, rfl⟩
  · refine own_pre (B := s₁.setTop (mkF m 7 #[.val (.int p1)] [])) (fun t k => XS.icmpNo X0.here hx rfl (hb hby d10_4) rfl (flt hc4_2).2.2.1 k) ?_
    refine own_pre (B := s₁.setTop (mkF m 8 #[.val (.int p1)] [(.int (1 : Int32))])) (fun t k => XS.iconst X0.here hx rfl (hb hby d10_7) k) ?_
    refine own_pre (B := s₁.setTop (mkF m 12 #[.val (.int p1)] [(.int (1 : Int32))])) (fun t k => XS.goto X0.here hx rfl (pc0 := 8) (pc' := 12) rfl (hb hby d10_8) (by decide) (by decide) k) ?_
    obtain ⟨fsr4, hrr4, hrunr4, hendedr4, hWr4, hsamer4⟩ := X0.leave (v := some (.int (1 : Int32))) (fun h => by rw [Bd.returns] at h; cases h)
    refine ⟨_, _, (retN X0 hx (t := .boolean) Bd.returns (by simp) (hb hby d10_12) hrr4), hrunr4, hendedr4, _, _, rfl, ?_, ⟨_, rfl⟩, hWr4, hsamer4.mono (by decide) (by decide)⟩
    show Q10 Z p1 h0 n0 _ s₁.heap _
    rw [e0]
    exact ⟨(by unfold own_f10; rw [if_neg hc4_2]), N0, rfl⟩
theorem own_lat (x : Int32) : ¬ own_f10 ((x &&& (255 : Int32)).toUInt32.toUInt16.toUInt32.toInt32) = 0 := by
  have m := c_mask x 255 8 (by decide) (by decide)
  have c := c_i2c (x &&& 255)
  have e : (255 : Int32).toInt = 255 := by decide
  unfold own_f10
  rw [if_neg (by rw [Int32.lt_iff_toInt_lt]; omega)]
  decide
theorem d11_0 : decode jdk_43_method_46_code 0 = .ok (.iconst 1, 1) := by decide +kernel
theorem d11_1 : decode jdk_43_method_46_code 1 = .ok (.newarray .byte, 2) := by decide +kernel
theorem d11_3 : decode jdk_43_method_46_code 3 = .ok (.dup, 1) := by decide +kernel
theorem d11_4 : decode jdk_43_method_46_code 4 = .ok (.iconst 0, 1) := by decide +kernel
theorem d11_5 : decode jdk_43_method_46_code 5 = .ok (.iload_n 0, 1) := by decide +kernel
theorem d11_6 : decode jdk_43_method_46_code 6 = .ok (.i2b, 1) := by decide +kernel
theorem d11_7 : decode jdk_43_method_46_code 7 = .ok (.bastore, 1) := by decide +kernel
theorem d11_8 : decode jdk_43_method_46_code 8 = .ok (.areturn, 1) := by decide +kernel
theorem pn_11 : plainName "java/lang/StringLatin1" = true := by first | (simp [plainName, overriddenIn]; done) | decide +kernel
theorem ef_11 (m : MethodId) (x0 : Int32) : entryFrame m #[(.int x0)] 1 = mkF m 0 #[.val (.int x0)] [] := by first | (simp [entryFrame, mkF, argsToLocals, Value.category]; done) | rfl
def Q11 (Z : State) (p1 : Int32) (h0 : Heap) (n0 : Nat) (v : Option Value) (h : Heap) (L : List Loc) : Prop := ∃ (b3 : Addr) (k3 : ClassId), v = some (.ref b3) ∧ Fr n0 L ∧ Keep h0 h [] ∧ n0 ≤ b3 ∧ h0.size ≤ b3 ∧ Arv Z h b3 k3 .byte (1 : Int32) [(.int (nar .byte (p1.toInt8.toInt32)))] (.int (0 : Int32))
set_option maxRecDepth 65536 in
set_option maxHeartbeats 40000000 in
theorem rm11 (l : Launch) (Z : State) (a0 : Array Value) (hw : ∀ d ∈ tables_1, d.before a0 Z = true) (ws : List Jvm.Cond) (p1 : Int32) (h0 : Heap) (n0 : Nat) (Z0 : n0 ≤ h0.size) :
    MetFree l (⟨"java/lang/StringLatin1", "toBytes", "(C)[B"⟩ : MethodName) (head1 (Jvm.Cond.code (⟨"java/lang/StringLatin1", "toBytes", "(C)[B"⟩ : MethodName) jdk_43_method_46_code 1 (some (.array .byte)) :: ws) ({ frames := 0, cells := 1, slots := 1, locals := 0 } : Room)) (fun a U => a = #[(.int p1)] ∧ Z.Warmed39 U.vm ∧ U.heap = h0) (fun _ _ _ _ _ => True) (fun _ U o U' => ∃ v L, o = .returned v ∧ Q11 Z p1 h0 n0 v U'.heap L ∧ FrameEnd U o U' L ({ frames := 0, cells := 1, slots := 1, locals := 0 } : Room).cells ({ frames := 0, cells := 1, slots := 1, locals := 0 } : Room).slots) := by
  refine MetFree.of_bodySF (plainFor_of_name pn_11) hisR ?_
  intro p e s m args below meth c s₁ Bd hml0 hP hK
  obtain ⟨rfl, hZ, hh⟩ := hP
  have hx := Bd.exec
  have hby := Bd.bytes
  have hml : c.maxLocals = 1 := hml0
  have hown : s.vm.findClass "java/lang/StringLatin1" = some m.cls := findClass_of_methodNamed Bd.named
  have hnm := (name_of_methodNamed Bd.named Bd.method).1
  have X0 : Stand p l e ({ frames := 0, cells := 1, slots := 1, locals := 0 } : Room) s m #[(.int p1)] below meth c s₁ [] 0 0 := Stand.of_body Bd
  have e0 : s₁.heap = h0 := by rw [← hh, Bd.state]; rfl
  have N0 := Fr.nil n0
  apply own_in
  refine own_pre (B := s₁.setTop (mkF m 0 #[.val (.int p1)] [])) (fun t k => castTop (ef_11 m p1) k) ?_
  refine own_pre (B := s₁.setTop (mkF m 1 #[.val (.int p1)] [(.int (1 : Int32))])) (fun t k => XS.iconst X0.here hx rfl (hb hby d11_0) k) ?_
  have K2 : Keep h0 h0 [] := (Keep.refl h0 [])
  obtain ⟨T3, h3, k3, X3, e3, E3, A3, st3⟩ := newP X0 hx hZ (hw _ (ow 70 rfl)) e0 (g := (mkF m 1 #[.val (.int p1)] [(.int (1 : Int32))])) rfl (hb hby d11_1) rfl (by decide) (cap := 1) (by decide) (by decide) (by decide) (by decide)
  obtain ⟨b3, g3⟩ : ∃ z, z = h0.size := ⟨_, rfl⟩
  rw [← g3] at A3 st3
  have g_b3 : n0 ≤ b3 := Nat.le_trans Z0 (Nat.le_of_eq g3.symm)
  have s_b3 : h0.size ≤ b3 := Nat.le_trans K2.1 (Nat.le_of_eq g3.symm)
  have V_b3 : Arv Z h3 b3 k3 .byte (1 : Int32) [(.int (0 : Int32))] (.int (0 : Int32)) := (Arv.new A3 (by decide)).pad (pad_rep [] (.int (0 : Int32)) 1)
  refine own_pre (B := T3.setTop (mkF m 3 #[.val (.int p1)] [(.ref b3)])) (fun t k => st3 t k) ?_
  refine own_pre (B := T3.setTop (mkF m 4 #[.val (.int p1)] [(.ref b3), (.ref b3)])) (fun t k => XS.dup X3.here hx rfl (hb hby d11_3) rfl rfl k) ?_
  refine own_pre (B := T3.setTop (mkF m 5 #[.val (.int p1)] [(.int (0 : Int32)), (.ref b3), (.ref b3)])) (fun t k => XS.iconst X3.here hx rfl (hb hby d11_4) k) ?_
  refine own_pre (B := T3.setTop (mkF m 6 #[.val (.int p1)] [(.int p1), (.int (0 : Int32)), (.ref b3), (.ref b3)])) (fun t k => XS.iloadN X3.here hx rfl (hb hby d11_5) rfl k) ?_
  refine own_pre (B := T3.setTop (mkF m 7 #[.val (.int p1)] [(.int (p1.toInt8.toInt32)), (.int (0 : Int32)), (.ref b3), (.ref b3)])) (fun t k => XS.i2b X3.here hx rfl (hb hby d11_6) rfl k) ?_
  have K4 : Keep h0 h3 [] := (Keep.ext K2 E3)
  obtain ⟨cl5, Ar5, q5, S5, N5v, H5v, G5v⟩ := V_b3
  have V_b3 : Arv Z h3 b3 k3 .byte (1 : Int32) [(.int (0 : Int32))] (.int (0 : Int32)) := ⟨cl5, Ar5, q5, S5, N5v, H5v, G5v⟩
  have hin5 : ¬ ((0 : Int32) < 0 ∨ cl5.slots.size ≤ ((0 : Int32)).toNatClampNeg) := inb_of S5 ⟨by decide, by decide⟩
  obtain ⟨T6, h6, X6, e6, W6, st6⟩ := stB X3 hx hZ e3 Ar5 (j := (0 : Int32)) hin5 (g := (mkF m 7 #[.val (.int p1)] [(.int (p1.toInt8.toInt32)), (.int (0 : Int32)), (.ref b3), (.ref b3)])) rfl rfl (hb hby d11_7)
  have V6 : Arv Z h6 b3 k3 .byte (1 : Int32) [(.int (nar .byte (p1.toInt8.toInt32)))] (.int (0 : Int32)) := Arv.set Ar5 q5 S5 N5v H5v G5v (fits_nar_byte _) W6 0 rfl (Nat.le_of_ble_eq_true rfl)
  have N6 := Fr.snoc X6 N0 g_b3
  refine own_pre (B := T6.setTop (mkF m 8 #[.val (.int p1)] [(.ref b3)])) (fun t k => st6 t k) ?_
  have K7 : Keep h0 h6 [] := (Keep.wr K4 W6 (Or.inr s_b3))
  obtain ⟨fsr8, hrr8, hrunr8, hendedr8, hWr8, hsamer8⟩ := X6.leave (v := some (.ref b3)) (fun h => by rw [Bd.returns] at h; cases h)
  refine ⟨_, _, (retOut X6 hx (i := .areturn) Bd.returns rfl (Or.inr (Or.inr (Or.inr (Or.inr ⟨rfl, rfl, rfl⟩)))) (hb hby d11_8) hrr8), hrunr8, hendedr8, _, _, rfl, ?_, ⟨_, rfl⟩, hWr8, hsamer8.mono (by decide) (by decide)⟩
  show Q11 Z p1 h0 n0 _ T6.heap _
  rw [e6]
  exact ⟨b3, k3, rfl, N6, K7, g_b3, s_b3, V6⟩
theorem d12_0 : decode jdk_42_method_151_code 0 = .ok (.aload_n 0, 1) := by decide +kernel
theorem d12_1 : decode jdk_42_method_151_code 1 = .ok (.invokespecial 1, 3) := by decide +kernel
theorem d12_4 : decode jdk_42_method_151_code 4 = .ok (.aload_n 0, 1) := by decide +kernel
theorem d12_5 : decode jdk_42_method_151_code 5 = .ok (.aload_n 1, 1) := by decide +kernel
theorem d12_6 : decode jdk_42_method_151_code 6 = .ok (.putfield 9, 3) := by decide +kernel
theorem d12_9 : decode jdk_42_method_151_code 9 = .ok (.aload_n 0, 1) := by decide +kernel
theorem d12_10 : decode jdk_42_method_151_code 10 = .ok (.iload_n 2, 1) := by decide +kernel
theorem d12_11 : decode jdk_42_method_151_code 11 = .ok (.putfield 15, 3) := by decide +kernel
theorem d12_14 : decode jdk_42_method_151_code 14 = .ok (.return_, 1) := by decide +kernel
theorem pn_12 : plainName "java/lang/String" = true := by first | (simp [plainName, overriddenIn]; done) | decide +kernel
theorem ef_12 (m : MethodId) (x0 : Addr) (x1 : Addr) (x2 : Int32) : entryFrame m #[(.ref x0), (.ref x1), (.int x2)] 3 = mkF m 0 #[.val (.ref x0), .val (.ref x1), .val (.int x2)] [] := by first | (simp [entryFrame, mkF, argsToLocals, Value.category]; done) | rfl
def Q12 (Z : State) (a1 : Addr) (a2 : Addr) (p3 : Int32) (u_value_a1 : Value) (u_coder_a1 : Value) (h0 : Heap) (n0 : Nat) (v : Option Value) (h : Heap) (L : List Loc) : Prop := v = none ∧ Fr n0 L ∧ Keep h0 h [a1] ∧ Exa Z h a1 "java/lang/String" ∧ Fld Z h a1 "java/lang/String" "value" "[B" (.ref a2) ∧ Fld Z h a1 "java/lang/String" "coder" "B" (.int (p3.toInt8.toInt32))
set_option maxRecDepth 65536 in
set_option maxHeartbeats 40000000 in
theorem rm12 (l : Launch) (Z : State) (a0 : Array Value) (hw : ∀ d ∈ tables_1, d.before a0 Z = true) (ws : List Jvm.Cond) (a1 : Addr) (a2 : Addr) (p3 : Int32) (u_value_a1 : Value) (u_coder_a1 : Value) (h0 : Heap) (n0 : Nat) (Z0 : n0 ≤ h0.size) (E_a1 : Exa Z h0 a1 "java/lang/String") (F_value_a1 : Fld Z h0 a1 "java/lang/String" "value" "[B" u_value_a1) (g_a1 : n0 ≤ a1) (F_coder_a1 : Fld Z h0 a1 "java/lang/String" "coder" "B" u_coder_a1) :
    MetFree l (⟨"java/lang/String", "<init>", "([BB)V"⟩ : MethodName) (head1 (Jvm.Cond.code (⟨"java/lang/String", "<init>", "([BB)V"⟩ : MethodName) jdk_42_method_151_code 3 none :: ws) ({ frames := 1, cells := 0, slots := 0, locals := 12 } : Room)) (fun a U => a = #[(.ref a1), (.ref a2), (.int p3)] ∧ Z.Warmed39 U.vm ∧ U.heap = h0) (fun _ _ _ _ _ => True) (fun _ U o U' => ∃ v L, o = .returned v ∧ Q12 Z a1 a2 p3 u_value_a1 u_coder_a1 h0 n0 v U'.heap L ∧ FrameEnd U o U' L ({ frames := 1, cells := 0, slots := 0, locals := 12 } : Room).cells ({ frames := 1, cells := 0, slots := 0, locals := 12 } : Room).slots) := by
  refine MetFree.of_bodySF (plainFor_of_name pn_12) hisR ?_
  intro p e s m args below meth c s₁ Bd hml0 hP hK
  obtain ⟨rfl, hZ, hh⟩ := hP
  have hx := Bd.exec
  have hby := Bd.bytes
  have hml : c.maxLocals = 3 := hml0
  have hown : s.vm.findClass "java/lang/String" = some m.cls := findClass_of_methodNamed Bd.named
  have hnm := (name_of_methodNamed Bd.named Bd.method).1
  have X0 : Stand p l e ({ frames := 1, cells := 0, slots := 0, locals := 12 } : Room) s m #[(.ref a1), (.ref a2), (.int p3)] below meth c s₁ [] 0 0 := Stand.of_body Bd
  have e0 : s₁.heap = h0 := by rw [← hh, Bd.state]; rfl
  have N0 := Fr.nil n0
  apply own_in
  refine own_pre (B := s₁.setTop (mkF m 0 #[.val (.ref a1), .val (.ref a2), .val (.int p3)] [])) (fun t k => castTop (ef_12 m a1 a2 p3) k) ?_
  refine own_pre (B := s₁.setTop (mkF m 1 #[.val (.ref a1), .val (.ref a2), .val (.int p3)] [(.ref a1)])) (fun t k => XS.aloadN X0.here hx rfl (hb hby d12_0) rfl rfl k) ?_
  obtain ⟨T4, X4, e4, st4⟩ := initO X0 hx hZ hown (hw _ (ow 75 rfl)) (hw _ (ow 13 rfl)) (hw _ (ow 14 rfl)) e0 (g := (mkF m 1 #[.val (.ref a1), .val (.ref a2), .val (.int p3)] [(.ref a1)])) rfl (by rw [hml]; rfl) rfl (hb hby d12_1) (by decide) (W := 0) (by show 2 * 0 + _ ≤ _; exact Nat.le_of_eq rfl) (by decide)
  refine own_pre (B := T4.setTop (mkF m 4 #[.val (.ref a1), .val (.ref a2), .val (.int p3)] [])) (fun t k => st4 t k) ?_
  refine own_pre (B := T4.setTop (mkF m 5 #[.val (.ref a1), .val (.ref a2), .val (.int p3)] [(.ref a1)])) (fun t k => XS.aloadN X4.here hx rfl (hb hby d12_4) rfl rfl k) ?_
  refine own_pre (B := T4.setTop (mkF m 6 #[.val (.ref a1), .val (.ref a2), .val (.int p3)] [(.ref a2), (.ref a1)])) (fun t k => XS.aloadN X4.here hx rfl (hb hby d12_5) rfl rfl k) ?_
  have K5 : Keep h0 h0 [a1] := (Keep.refl h0 [a1])
  obtain ⟨T6, h6, X6, e6, W6, st6⟩ := putF X4 hx hZ hown (host := "") (Or.inl (hw _ (ow 76 rfl))) Via.refl e4 F_value_a1 E_a1 (Or.inr ⟨(hw _ (ow 77 rfl)), rfl, hnm⟩) (hw _ (ow 66 rfl)) (ty := (.array .byte)) (by decide) rfl rfl (g := (mkF m 6 #[.val (.ref a1), .val (.ref a2), .val (.int p3)] [(.ref a2), (.ref a1)])) rfl rfl (hb hby d12_6)
  have Fw6 := Fld.same W6 F_value_a1
  have N6 := Fr.snoc X6 N0 g_a1
  refine own_pre (B := T6.setTop (mkF m 9 #[.val (.ref a1), .val (.ref a2), .val (.int p3)] [])) (fun t k => st6 t k) ?_
  refine own_pre (B := T6.setTop (mkF m 10 #[.val (.ref a1), .val (.ref a2), .val (.int p3)] [(.ref a1)])) (fun t k => XS.aloadN X6.here hx rfl (hb hby d12_9) rfl rfl k) ?_
  refine own_pre (B := T6.setTop (mkF m 11 #[.val (.ref a1), .val (.ref a2), .val (.int p3)] [(.int p3), (.ref a1)])) (fun t k => XS.iloadN X6.here hx rfl (hb hby d12_10) rfl k) ?_
  have c7 := (Exa.wr W6 E_a1)
  have c8 := (Fld.other W6 F_coder_a1 (Or.inr (slot_ne (Or.inr (hw _ (ow 79 rfl))) (Or.inr (hw _ (ow 77 rfl))) (by decide) (t := .byte) (t' := (.array .byte)) (by decide) (by decide))))
  have K9 : Keep h0 h6 [a1] := (Keep.wr K5 W6 (Or.inl (List.mem_of_getElem? (i := 0) rfl)))
  obtain ⟨T10, h10, X10, e10, W10, st10⟩ := putFN X6 hx hZ hown (hw _ (ow 78 rfl)) Via.refl e6 c8 c7 (Or.inr ⟨(hw _ (ow 79 rfl)), rfl, hnm⟩) (hw _ (ow 66 rfl)) (ty := .byte) (v' := (.int p3.toInt8.toInt32)) (by decide) rfl (fits_nar_byte _) (g := (mkF m 11 #[.val (.ref a1), .val (.ref a2), .val (.int p3)] [(.int p3), (.ref a1)])) rfl rfl (hb hby d12_11)
  have Fw10 := Fld.same W10 c8
  have N10 := Fr.snoc X10 N6 g_a1
  refine own_pre (B := T10.setTop (mkF m 14 #[.val (.ref a1), .val (.ref a2), .val (.int p3)] [])) (fun t k => st10 t k) ?_
  have K11 : Keep h0 h10 [a1] := (Keep.wr K9 W10 (Or.inl (List.mem_of_getElem? (i := 0) rfl)))
  have c12 := (Exa.wr W10 c7)
  have c13 := (Fld.other W10 Fw6 (Or.inr (slot_ne (Or.inr (hw _ (ow 77 rfl))) (Or.inr (hw _ (ow 79 rfl))) (by decide) (t := (.array .byte)) (t' := .byte) (by decide) (by decide))))
  obtain ⟨fsr14, hrr14, hrunr14, hendedr14, hWr14, hsamer14⟩ := X10.leave (v := none) (fun _ => rfl)
  refine ⟨_, _, (X10.returnOut hx Bd.returns (hb hby d12_14) hrr14), hrunr14, hendedr14, _, _, rfl, ?_, ⟨_, rfl⟩, hWr14, hsamer14.mono (by decide) (by decide)⟩
  show Q12 Z a1 a2 p3 u_value_a1 u_coder_a1 h0 n0 _ T10.heap _
  rw [e10]
  exact ⟨rfl, N10, K11, c12, c13, Fw10⟩
theorem pd_3 : parseMethodDescriptor "(C)Z" = some ⟨[.char], some .boolean⟩ := by decide +kernel
theorem pd_4 : parseMethodDescriptor "(C)[B" = some ⟨[.char], some (.array .byte)⟩ := by decide +kernel
theorem pd_5 : parseMethodDescriptor "([BB)V" = some ⟨[(.array .byte), .byte], none⟩ := by decide +kernel
theorem d9_0 : decode jdk_42_method_139_code 0 = .ok (.getstatic 38, 3) := by decide +kernel
theorem d9_3 : decode jdk_42_method_139_code 3 = .ok (.ifCond .eq 23, 3) := by decide +kernel
theorem d9_6 : decode jdk_42_method_139_code 6 = .ok (.iload_n 0, 1) := by decide +kernel
theorem d9_7 : decode jdk_42_method_139_code 7 = .ok (.invokestatic 1015, 3) := by decide +kernel
theorem d9_10 : decode jdk_42_method_139_code 10 = .ok (.ifCond .eq 16, 3) := by decide +kernel
theorem d9_13 : decode jdk_42_method_139_code 13 = .ok (.new 10, 3) := by decide +kernel
theorem d9_16 : decode jdk_42_method_139_code 16 = .ok (.dup, 1) := by decide +kernel
theorem d9_17 : decode jdk_42_method_139_code 17 = .ok (.iload_n 0, 1) := by decide +kernel
theorem d9_18 : decode jdk_42_method_139_code 18 = .ok (.invokestatic 1018, 3) := by decide +kernel
theorem d9_21 : decode jdk_42_method_139_code 21 = .ok (.iconst 0, 1) := by decide +kernel
theorem d9_22 : decode jdk_42_method_139_code 22 = .ok (.invokespecial 209, 3) := by decide +kernel
theorem d9_25 : decode jdk_42_method_139_code 25 = .ok (.areturn, 1) := by decide +kernel
theorem pn_9 : plainName "java/lang/String" = true := by first | (simp [plainName, overriddenIn]; done) | decide +kernel
theorem ef_9 (m : MethodId) (x0 : Int32) : entryFrame m #[(.int x0)] 1 = mkF m 0 #[.val (.int x0)] [] := by first | (simp [entryFrame, mkF, argsToLocals, Value.category]; done) | rfl
def Q9 (Z : State) (p1 : Int32) (cs : Int32) (h0 : Heap) (n0 : Nat) (v : Option Value) (h : Heap) (L : List Loc) : Prop := ∃ (b5 b3_7 : Addr) (k3_7 : ClassId), v = some (.ref b5) ∧ Fr n0 L ∧ Keep h0 h [] ∧ n0 ≤ b5 ∧ h0.size ≤ b5 ∧ Exa Z h b5 "java/lang/String" ∧ Fld Z h b5 "java/lang/String" "value" "[B" (.ref b3_7) ∧ Fld Z h b5 "java/lang/String" "coder" "B" (.int ((0 : Int32).toInt8.toInt32)) ∧ n0 ≤ b3_7 ∧ h0.size ≤ b3_7 ∧ Arv Z h b3_7 k3_7 .byte (1 : Int32) [(.int (nar .byte (p1.toInt8.toInt32)))] (.int (0 : Int32)) ∧ b5 ≠ b3_7
set_option maxRecDepth 65536 in
set_option maxHeartbeats 40000000 in
theorem rm9 (l : Launch) (Z : State) (a0 : Array Value) (hw : ∀ d ∈ tables_1, d.before a0 Z = true) (ws : List Jvm.Cond) (p1 : Int32) (cs : Int32) (h0 : Heap) (n0 : Nat) (Z0 : n0 ≤ h0.size) (O0 : Old Z n0 h0) (SCS : Sta Z Z.heap "java/lang/String" "COMPACT_STRINGS" "Z" (.int cs)) (hcs : ¬ cs = (0 : Int32)) (hlat : ¬ own_f10 p1 = 0) :
    MetFree l (⟨"java/lang/String", "valueOf", "(C)Ljava/lang/String;"⟩ : MethodName) (head1 (Jvm.Cond.code (⟨"java/lang/String", "valueOf", "(C)Ljava/lang/String;"⟩ : MethodName) jdk_42_method_139_code 1 (some (.object "java/lang/String")) :: ws) ({ frames := 2, cells := 2, slots := 5, locals := 27 } : Room)) (fun a U => a = #[(.int p1)] ∧ Z.Warmed39 U.vm ∧ U.heap = h0) (fun _ _ _ _ _ => True) (fun _ U o U' => ∃ v L, o = .returned v ∧ Q9 Z p1 cs h0 n0 v U'.heap L ∧ FrameEnd U o U' L ({ frames := 2, cells := 2, slots := 5, locals := 27 } : Room).cells ({ frames := 2, cells := 2, slots := 5, locals := 27 } : Room).slots) := by
  refine MetFree.of_bodySF (plainFor_of_name pn_9) hisR ?_
  intro p e s m args below meth c s₁ Bd hml0 hP hK
  obtain ⟨rfl, hZ, hh⟩ := hP
  have hx := Bd.exec
  have hby := Bd.bytes
  have hml : c.maxLocals = 1 := hml0
  have hown : s.vm.findClass "java/lang/String" = some m.cls := findClass_of_methodNamed Bd.named
  have hnm := (name_of_methodNamed Bd.named Bd.method).1
  have X0 : Stand p l e ({ frames := 2, cells := 2, slots := 5, locals := 27 } : Room) s m #[(.int p1)] below meth c s₁ [] 0 0 := Stand.of_body Bd
  have e0 : s₁.heap = h0 := by rw [← hh, Bd.state]; rfl
  have N0 := Fr.nil n0
  apply own_in
  refine own_pre (B := s₁.setTop (mkF m 0 #[.val (.int p1)] [])) (fun t k => castTop (ef_9 m p1) k) ?_
  obtain ⟨T2, X2, e2, st2⟩ := getS2 X0 hx hZ hown (host := "") (Or.inl (hw _ (ow 60 rfl))) Via.refl e0 (Sta.ext O0.2 SCS) (g := (mkF m 0 #[.val (.int p1)] [])) rfl (hb hby d9_0)
  refine own_pre (B := T2.setTop (mkF m 3 #[.val (.int p1)] [(.int cs)])) (fun t k => st2 t k) ?_
  refine own_pre (B := T2.setTop (mkF m 6 #[.val (.int p1)] [])) (fun t k => XS.ifNo X2.here hx rfl (hb hby d9_3) rfl ((if0 _ _).trans (feq hcs).1) k) ?_
  refine own_pre (B := T2.setTop (mkF m 7 #[.val (.int p1)] [(.int p1)])) (fun t k => XS.iloadN X2.here hx rfl (hb hby d9_6) rfl k) ?_
  obtain ⟨_, _, ⟨T3, L3, k3, n3⟩, -, X3, ⟨Lc3, hQ3, l3, y3, z3⟩, st3⟩ := Jvm.LawKit.callS X2 hx (y := (⟨"java/lang/StringLatin1", "canEncode", "(C)Z"⟩ : MethodName)) hown (mvT hZ (hw _ (ow 61 rfl))) (mvT hZ (hw _ (ow 62 rfl))) (mvT hZ (hw _ (ow 63 rfl))) (mvT hZ (hw _ (ow 64 rfl))) (by decide) (backOf (W := 0) (rm10 l Z a0 hw [] p1 h0 n0 Z0 ) hZ (hw _ (ow 64 rfl)) (hw _ (ow 63 rfl)) (by decide) (by decide)) (g := (mkF m 7 #[.val (.int p1)] [(.int p1)])) rfl (by rw [hml]; rfl) (argsL := [(.int p1)]) (rest := []) (lenOf pd_3 rfl) rfl (by show 2 * 0 + _ ≤ _; exact Nat.le_of_eq rfl) (hb hby d9_7) (fun _ _ => ⟨rfl, e2, (by decide : 0 + 0 ≤ _), (by decide : 0 + 0 ≤ _)⟩)
  dsimp only [Pt.U, Pt.locs, Pt.cells, Pt.slots] at X3 l3 y3 z3 st3 hQ3
  subst l3 y3 z3
  obtain ⟨rfl, N3q, e3⟩ := hQ3
  have N3 := Fr.app N0 N3q
  refine own_pre (B := T3.setTop (mkF m 10 #[.val (.int p1)] [(.int (own_f10 p1))])) (fun t k => st3 t k) ?_
  refine own_pre (B := T3.setTop (mkF m 13 #[.val (.int p1)] [])) (fun t k => XS.ifNo X3.here hx rfl (hb hby d9_10) rfl ((if0 _ _).trans (feq hlat).1) k) ?_
  have K4 : Keep h0 h0 [] := (Keep.refl h0 [])
  obtain ⟨T5, h5, X5, e5, E5, A5, D5, -, st5⟩ := newO X3 hx hZ hown (hw _ (ow 65 rfl)) (hw _ (ow 66 rfl)) (hw _ (ow 58 rfl)) e3 (g := (mkF m 13 #[.val (.int p1)] [])) rfl (hb hby d9_13) (by decide) (by decide)
  obtain ⟨b5, g5⟩ : ∃ z, z = h0.size := ⟨_, rfl⟩
  rw [← g5] at A5 D5 st5
  have g_b5 : n0 ≤ b5 := Nat.le_trans Z0 (Nat.le_of_eq g5.symm)
  have s_b5 : h0.size ≤ b5 := Nat.le_trans K4.1 (Nat.le_of_eq g5.symm)
  have F_value_b5 : Fld Z h5 b5 "java/lang/String" "value" "[B" .null := D5 (Or.inr (hw _ (ow 77 rfl))) (ty := (.array .byte)) (by decide)
  have F_coder_b5 : Fld Z h5 b5 "java/lang/String" "coder" "B" (.int (0 : Int32)) := D5 (Or.inr (hw _ (ow 79 rfl))) (ty := .byte) (by decide)
  refine own_pre (B := T5.setTop (mkF m 16 #[.val (.int p1)] [(.ref b5)])) (fun t k => st5 t k) ?_
  refine own_pre (B := T5.setTop (mkF m 17 #[.val (.int p1)] [(.ref b5), (.ref b5)])) (fun t k => XS.dup X5.here hx rfl (hb hby d9_16) rfl rfl k) ?_
  refine own_pre (B := T5.setTop (mkF m 18 #[.val (.int p1)] [(.int p1), (.ref b5), (.ref b5)])) (fun t k => XS.iloadN X5.here hx rfl (hb hby d9_17) rfl k) ?_
  have sz6 : n0 ≤ h5.size := (Nat.le_trans Z0 E5.1)
  obtain ⟨_, _, ⟨T7, L7, k7, n7⟩, -, X7, ⟨Lc7, hQ7, l7, y7, z7⟩, st7⟩ := Jvm.LawKit.callS X5 hx (y := (⟨"java/lang/StringLatin1", "toBytes", "(C)[B"⟩ : MethodName)) hown (mvT hZ (hw _ (ow 67 rfl))) (mvT hZ (hw _ (ow 68 rfl))) (mvT hZ (hw _ (ow 63 rfl))) (mvT hZ (hw _ (ow 69 rfl))) (by decide) (backOf (W := 2) (rm11 l Z a0 hw [] p1 h5 n0 sz6 ) hZ (hw _ (ow 69 rfl)) (hw _ (ow 63 rfl)) (by decide) (by decide)) (g := (mkF m 18 #[.val (.int p1)] [(.int p1), (.ref b5), (.ref b5)])) rfl (by rw [hml]; rfl) (argsL := [(.int p1)]) (rest := [(.ref b5), (.ref b5)]) (lenOf pd_4 rfl) rfl (by show 2 * 0 + _ ≤ _; exact Nat.le_of_eq rfl) (hb hby d9_18) (fun _ _ => ⟨rfl, e5, (by decide : 1 + 1 ≤ _), (by decide : 4 + 1 ≤ _)⟩)
  dsimp only [Pt.U, Pt.locs, Pt.cells, Pt.slots] at X7 l7 y7 z7 st7 hQ7
  subst l7 y7 z7
  obtain ⟨b3_7, k3_7, rfl, N7q, K7, q7_0, q7_1, q7_2⟩ := hQ7
  have N7 := Fr.app N3 N7q
  have K8 : Keep h0 h5 [] := (Keep.ext K4 E5)
  have ne9 : b5 ≠ b3_7 := Nat.ne_of_lt (Nat.lt_of_lt_of_le (Exa.lt A5) q7_1)
  have s_b3_7 : h0.size ≤ b3_7 := Nat.le_trans K8.1 q7_1
  refine own_pre (B := T7.setTop (mkF m 21 #[.val (.int p1)] [(.ref b3_7), (.ref b5), (.ref b5)])) (fun t k => st7 t k) ?_
  refine own_pre (B := T7.setTop (mkF m 22 #[.val (.int p1)] [(.int (0 : Int32)), (.ref b3_7), (.ref b5), (.ref b5)])) (fun t k => XS.iconst X7.here hx rfl (hb hby d9_21) k) ?_
  have c10 := (Exa.keep A5 K7)
  have c11 := (Fld.keep F_value_b5 K7 nin0)
  have c12 := (Fld.keep F_coder_b5 K7 nin0)
  have sz13 : n0 ≤ T7.heap.size := (Nat.le_trans sz6 K7.1)
  obtain ⟨_, _, ⟨T14, L14, k14, n14⟩, -, X14, ⟨Lc14, hQ14, l14, y14, z14⟩, st14⟩ := X7.specialBack hx (y := (⟨"java/lang/String", "<init>", "([BB)V"⟩ : MethodName)) rfl hown (mvT hZ (hw _ (ow 71 rfl))) (mvT hZ (hw _ (ow 72 rfl))) (mvT hZ (hw _ (ow 74 rfl))) (by decide) (backOf (W := 1) (rm12 l Z a0 hw [] b5 b3_7 (0 : Int32) .null (.int (0 : Int32)) T7.heap n0 sz13 c10 c11 g_b5 c12) hZ (hw _ (ow 74 rfl)) (hw _ (ow 58 rfl)) (by decide) (by decide)) (g := (mkF m 22 #[.val (.int p1)] [(.int (0 : Int32)), (.ref b3_7), (.ref b5), (.ref b5)])) rfl (by rw [hml]; rfl) (Steps.refl _) (a := b5) (argsL := [(.ref b3_7), (.int (0 : Int32))]) (rest := [(.ref b5)]) (lenOf pd_5 rfl) rfl (by show 2 * 0 + _ ≤ _; exact Nat.le_of_eq rfl) (hb hby d9_22) (fun _ _ => ⟨rfl, rfl, (by decide : 2 + 0 ≤ _), (by decide : 5 + 0 ≤ _)⟩)
  dsimp only [Pt.U, Pt.locs, Pt.cells, Pt.slots] at X14 l14 y14 z14 st14 hQ14
  subst l14 y14 z14
  obtain ⟨rfl, N14q, K14, q14_0, q14_1, q14_2⟩ := hQ14
  have N14 := Fr.app N7 N14q
  have K15 : Keep h0 T7.heap [] := (Keep.trans K8 K7 all0)
  refine own_pre (B := T14.setTop (mkF m 25 #[.val (.int p1)] [(.ref b5)])) (fun t k => st14.trans k) ?_
  have K16 : Keep h0 T14.heap [] := (Keep.trans K15 K14 (allS (P := fun x => x ∈ [] ∨ h0.size ≤ x) (Or.inr s_b5) all0))
  have c17 := (Arv.keep q7_2 K14 (ninS (Ne.symm ne9) nin0))
  obtain ⟨fsr18, hrr18, hrunr18, hendedr18, hWr18, hsamer18⟩ := X14.leave (v := some (.ref b5)) (fun h => by rw [Bd.returns] at h; cases h)
  refine ⟨_, _, (retOut X14 hx (i := .areturn) Bd.returns rfl (Or.inr (Or.inr (Or.inr (Or.inr ⟨rfl, rfl, rfl⟩)))) (hb hby d9_25) hrr18), hrunr18, hendedr18, _, _, rfl, ?_, ⟨_, rfl⟩, hWr18, hsamer18.mono (by decide) (by decide)⟩
  show Q9 Z p1 cs h0 n0 _ T14.heap _
  exact ⟨b5, b3_7, k3_7, rfl, N14, K16, g_b5, s_b5, q14_0, q14_1, q14_2, q7_0, s_b3_7, c17, ne9⟩
theorem d13_0 : decode prog_19_method_1_code 0 = .ok (.aload_n 0, 1) := by decide +kernel
theorem d13_1 : decode prog_19_method_1_code 1 = .ok (.invokespecial 1, 3) := by decide +kernel
theorem d13_4 : decode prog_19_method_1_code 4 = .ok (.aload_n 0, 1) := by decide +kernel
theorem d13_5 : decode prog_19_method_1_code 5 = .ok (.aload_n 1, 1) := by decide +kernel
theorem d13_6 : decode prog_19_method_1_code 6 = .ok (.putfield 7, 3) := by decide +kernel
theorem d13_9 : decode prog_19_method_1_code 9 = .ok (.aload_n 0, 1) := by decide +kernel
theorem d13_10 : decode prog_19_method_1_code 10 = .ok (.aload_n 2, 1) := by decide +kernel
theorem d13_11 : decode prog_19_method_1_code 11 = .ok (.putfield 13, 3) := by decide +kernel
theorem d13_14 : decode prog_19_method_1_code 14 = .ok (.aload_n 0, 1) := by decide +kernel
theorem d13_15 : decode prog_19_method_1_code 15 = .ok (.aload_n 3, 1) := by decide +kernel
theorem d13_16 : decode prog_19_method_1_code 16 = .ok (.putfield 16, 3) := by decide +kernel
theorem d13_19 : decode prog_19_method_1_code 19 = .ok (.return_, 1) := by decide +kernel
theorem pn_13 : plainName "com/example/rikusen/rikusen/core/Box" = true := by first | (simp [plainName, overriddenIn]; done) | decide +kernel
theorem ef_13 (m : MethodId) (x0 : Addr) (x1 : Addr) (x2 : Addr) (x3 : Addr) : entryFrame m #[(.ref x0), (.ref x1), (.ref x2), (.ref x3)] 4 = mkF m 0 #[.val (.ref x0), .val (.ref x1), .val (.ref x2), .val (.ref x3)] [] := by first | (simp [entryFrame, mkF, argsToLocals, Value.category]; done) | rfl
def Q13 (Z : State) (a1 : Addr) (a2 : Addr) (a3 : Addr) (a4 : Addr) (u_id_a1 : Value) (u_name_a1 : Value) (u_anchor_a1 : Value) (h0 : Heap) (n0 : Nat) (v : Option Value) (h : Heap) (L : List Loc) : Prop := v = none ∧ Fr n0 L ∧ Keep h0 h [a1] ∧ Exa Z h a1 "com/example/rikusen/rikusen/core/Box" ∧ Fld Z h a1 "com/example/rikusen/rikusen/core/Box" "id" "Ljava/lang/String;" (.ref a2) ∧ Fld Z h a1 "com/example/rikusen/rikusen/core/Box" "name" "Ljava/lang/String;" (.ref a3) ∧ Fld Z h a1 "com/example/rikusen/rikusen/core/Box" "anchor" "Lcom/example/rikusen/rikusen/core/Hex;" (.ref a4)
set_option maxRecDepth 65536 in
set_option maxHeartbeats 40000000 in
theorem rm13 (l : Launch) (Z : State) (a0 : Array Value) (hw : ∀ d ∈ tables_1, d.before a0 Z = true) (ws : List Jvm.Cond) (a1 : Addr) (a2 : Addr) (a3 : Addr) (a4 : Addr) (u_id_a1 : Value) (u_name_a1 : Value) (u_anchor_a1 : Value) (h0 : Heap) (n0 : Nat) (Z0 : n0 ≤ h0.size) (E_a1 : Exa Z h0 a1 "com/example/rikusen/rikusen/core/Box") (F_id_a1 : Fld Z h0 a1 "com/example/rikusen/rikusen/core/Box" "id" "Ljava/lang/String;" u_id_a1) (g_a1 : n0 ≤ a1) (F_name_a1 : Fld Z h0 a1 "com/example/rikusen/rikusen/core/Box" "name" "Ljava/lang/String;" u_name_a1) (F_anchor_a1 : Fld Z h0 a1 "com/example/rikusen/rikusen/core/Box" "anchor" "Lcom/example/rikusen/rikusen/core/Hex;" u_anchor_a1) :
    MetFree l (⟨"com/example/rikusen/rikusen/core/Box", "<init>", "(Ljava/lang/String;Ljava/lang/String;Lcom/example/rikusen/rikusen/core/Hex;)V"⟩ : MethodName) (head1 (Jvm.Cond.code (⟨"com/example/rikusen/rikusen/core/Box", "<init>", "(Ljava/lang/String;Ljava/lang/String;Lcom/example/rikusen/rikusen/core/Hex;)V"⟩ : MethodName) prog_19_method_1_code 4 none :: ws) ({ frames := 2, cells := 0, slots := 0, locals := 24 } : Room)) (fun a U => a = #[(.ref a1), (.ref a2), (.ref a3), (.ref a4)] ∧ Z.Warmed39 U.vm ∧ U.heap = h0) (fun _ _ _ _ _ => True) (fun _ U o U' => ∃ v L, o = .returned v ∧ Q13 Z a1 a2 a3 a4 u_id_a1 u_name_a1 u_anchor_a1 h0 n0 v U'.heap L ∧ FrameEnd U o U' L ({ frames := 2, cells := 0, slots := 0, locals := 24 } : Room).cells ({ frames := 2, cells := 0, slots := 0, locals := 24 } : Room).slots) := by
  refine MetFree.of_bodySF (plainFor_of_name pn_13) hisR ?_
  intro p e s m args below meth c s₁ Bd hml0 hP hK
  obtain ⟨rfl, hZ, hh⟩ := hP
  have hx := Bd.exec
  have hby := Bd.bytes
  have hml : c.maxLocals = 4 := hml0
  have hown : s.vm.findClass "com/example/rikusen/rikusen/core/Box" = some m.cls := findClass_of_methodNamed Bd.named
  have hnm := (name_of_methodNamed Bd.named Bd.method).1
  have X0 : Stand p l e ({ frames := 2, cells := 0, slots := 0, locals := 24 } : Room) s m #[(.ref a1), (.ref a2), (.ref a3), (.ref a4)] below meth c s₁ [] 0 0 := Stand.of_body Bd
  have e0 : s₁.heap = h0 := by rw [← hh, Bd.state]; rfl
  have N0 := Fr.nil n0
  apply own_in
  refine own_pre (B := s₁.setTop (mkF m 0 #[.val (.ref a1), .val (.ref a2), .val (.ref a3), .val (.ref a4)] [])) (fun t k => castTop (ef_13 m a1 a2 a3 a4) k) ?_
  refine own_pre (B := s₁.setTop (mkF m 1 #[.val (.ref a1), .val (.ref a2), .val (.ref a3), .val (.ref a4)] [(.ref a1)])) (fun t k => XS.aloadN X0.here hx rfl (hb hby d13_0) rfl rfl k) ?_
  obtain ⟨_, _, ⟨T5, L5, k5, n5⟩, -, X5, ⟨Lc5, hQ5, l5, y5, z5⟩, st5⟩ := X0.specialBack hx (y := (⟨"java/lang/Record", "<init>", "()V"⟩ : MethodName)) rfl hown (mvT hZ (hw _ (ow 83 rfl))) (mvT hZ (hw _ (ow 8 rfl))) (mvT hZ (hw _ (ow 11 rfl))) (by decide) (backOf (W := 0) (rm2 l Z a0 hw [] a1 h0 n0 Z0 ) hZ (hw _ (ow 11 rfl)) (hw _ (ow 10 rfl)) (by decide) (by decide)) (g := (mkF m 1 #[.val (.ref a1), .val (.ref a2), .val (.ref a3), .val (.ref a4)] [(.ref a1)])) rfl (by rw [hml]; rfl) (Steps.refl _) (a := a1) (argsL := []) (rest := []) (lenOf pd_0 rfl) rfl (by show 2 * 0 + _ ≤ _; exact Nat.le_of_eq rfl) (hb hby d13_1) (fun _ _ => ⟨rfl, e0, (by decide : 0 + 0 ≤ _), (by decide : 0 + 0 ≤ _)⟩)
  dsimp only [Pt.U, Pt.locs, Pt.cells, Pt.slots] at X5 l5 y5 z5 st5 hQ5
  subst l5 y5 z5
  obtain ⟨rfl, N5q, e5⟩ := hQ5
  have N5 := Fr.app N0 N5q
  refine own_pre (B := T5.setTop (mkF m 4 #[.val (.ref a1), .val (.ref a2), .val (.ref a3), .val (.ref a4)] [])) (fun t k => st5.trans k) ?_
  refine own_pre (B := T5.setTop (mkF m 5 #[.val (.ref a1), .val (.ref a2), .val (.ref a3), .val (.ref a4)] [(.ref a1)])) (fun t k => XS.aloadN X5.here hx rfl (hb hby d13_4) rfl rfl k) ?_
  refine own_pre (B := T5.setTop (mkF m 6 #[.val (.ref a1), .val (.ref a2), .val (.ref a3), .val (.ref a4)] [(.ref a2), (.ref a1)])) (fun t k => XS.aloadN X5.here hx rfl (hb hby d13_5) rfl rfl k) ?_
  have K6 : Keep h0 h0 [a1] := (Keep.refl h0 [a1])
  obtain ⟨T7, h7, X7, e7, W7, st7⟩ := putF X5 hx hZ hown (host := "") (Or.inl (hw _ (ow 84 rfl))) Via.refl e5 F_id_a1 E_a1 (Or.inr ⟨(hw _ (ow 85 rfl)), rfl, hnm⟩) (hw _ (ow 54 rfl)) (ty := (.object "java/lang/String")) (by decide) rfl rfl (g := (mkF m 6 #[.val (.ref a1), .val (.ref a2), .val (.ref a3), .val (.ref a4)] [(.ref a2), (.ref a1)])) rfl rfl (hb hby d13_6)
  have Fw7 := Fld.same W7 F_id_a1
  have N7 := Fr.snoc X7 N5 g_a1
  refine own_pre (B := T7.setTop (mkF m 9 #[.val (.ref a1), .val (.ref a2), .val (.ref a3), .val (.ref a4)] [])) (fun t k => st7 t k) ?_
  refine own_pre (B := T7.setTop (mkF m 10 #[.val (.ref a1), .val (.ref a2), .val (.ref a3), .val (.ref a4)] [(.ref a1)])) (fun t k => XS.aloadN X7.here hx rfl (hb hby d13_9) rfl rfl k) ?_
  refine own_pre (B := T7.setTop (mkF m 11 #[.val (.ref a1), .val (.ref a2), .val (.ref a3), .val (.ref a4)] [(.ref a3), (.ref a1)])) (fun t k => XS.aloadN X7.here hx rfl (hb hby d13_10) rfl rfl k) ?_
  have c8 := (Exa.wr W7 E_a1)
  have c9 := (Fld.other W7 F_name_a1 (Or.inr (slot_ne (Or.inr (hw _ (ow 87 rfl))) (Or.inr (hw _ (ow 85 rfl))) (by decide) (t := (.object "java/lang/String")) (t' := (.object "java/lang/String")) (by decide) (by decide))))
  have K10 : Keep h0 h7 [a1] := (Keep.wr K6 W7 (Or.inl (List.mem_of_getElem? (i := 0) rfl)))
  obtain ⟨T11, h11, X11, e11, W11, st11⟩ := putF X7 hx hZ hown (host := "") (Or.inl (hw _ (ow 86 rfl))) Via.refl e7 c9 c8 (Or.inr ⟨(hw _ (ow 87 rfl)), rfl, hnm⟩) (hw _ (ow 54 rfl)) (ty := (.object "java/lang/String")) (by decide) rfl rfl (g := (mkF m 11 #[.val (.ref a1), .val (.ref a2), .val (.ref a3), .val (.ref a4)] [(.ref a3), (.ref a1)])) rfl rfl (hb hby d13_11)
  have Fw11 := Fld.same W11 c9
  have N11 := Fr.snoc X11 N7 g_a1
  refine own_pre (B := T11.setTop (mkF m 14 #[.val (.ref a1), .val (.ref a2), .val (.ref a3), .val (.ref a4)] [])) (fun t k => st11 t k) ?_
  refine own_pre (B := T11.setTop (mkF m 15 #[.val (.ref a1), .val (.ref a2), .val (.ref a3), .val (.ref a4)] [(.ref a1)])) (fun t k => XS.aloadN X11.here hx rfl (hb hby d13_14) rfl rfl k) ?_
  refine own_pre (B := T11.setTop (mkF m 16 #[.val (.ref a1), .val (.ref a2), .val (.ref a3), .val (.ref a4)] [(.ref a4), (.ref a1)])) (fun t k => XS.aloadN X11.here hx rfl (hb hby d13_15) rfl rfl k) ?_
  have c12 := (Exa.wr W11 c8)
  have c13 := (Fld.other W11 (Fld.other W7 F_anchor_a1 (Or.inr (slot_ne (Or.inr (hw _ (ow 89 rfl))) (Or.inr (hw _ (ow 85 rfl))) (by decide) (t := (.object "com/example/rikusen/rikusen/core/Hex")) (t' := (.object "java/lang/String")) (by decide) (by decide)))) (Or.inr (slot_ne (Or.inr (hw _ (ow 89 rfl))) (Or.inr (hw _ (ow 87 rfl))) (by decide) (t := (.object "com/example/rikusen/rikusen/core/Hex")) (t' := (.object "java/lang/String")) (by decide) (by decide))))
  have K14 : Keep h0 h11 [a1] := (Keep.wr K10 W11 (Or.inl (List.mem_of_getElem? (i := 0) rfl)))
  obtain ⟨T15, h15, X15, e15, W15, st15⟩ := putF X11 hx hZ hown (host := "") (Or.inl (hw _ (ow 88 rfl))) Via.refl e11 c13 c12 (Or.inr ⟨(hw _ (ow 89 rfl)), rfl, hnm⟩) (hw _ (ow 54 rfl)) (ty := (.object "com/example/rikusen/rikusen/core/Hex")) (by decide) rfl rfl (g := (mkF m 16 #[.val (.ref a1), .val (.ref a2), .val (.ref a3), .val (.ref a4)] [(.ref a4), (.ref a1)])) rfl rfl (hb hby d13_16)
  have Fw15 := Fld.same W15 c13
  have N15 := Fr.snoc X15 N11 g_a1
  refine own_pre (B := T15.setTop (mkF m 19 #[.val (.ref a1), .val (.ref a2), .val (.ref a3), .val (.ref a4)] [])) (fun t k => st15 t k) ?_
  have K16 : Keep h0 h15 [a1] := (Keep.wr K14 W15 (Or.inl (List.mem_of_getElem? (i := 0) rfl)))
  have c17 := (Exa.wr W15 c12)
  have c18 := (Fld.other W15 (Fld.other W11 Fw7 (Or.inr (slot_ne (Or.inr (hw _ (ow 85 rfl))) (Or.inr (hw _ (ow 87 rfl))) (by decide) (t := (.object "java/lang/String")) (t' := (.object "java/lang/String")) (by decide) (by decide)))) (Or.inr (slot_ne (Or.inr (hw _ (ow 85 rfl))) (Or.inr (hw _ (ow 89 rfl))) (by decide) (t := (.object "java/lang/String")) (t' := (.object "com/example/rikusen/rikusen/core/Hex")) (by decide) (by decide))))
  have c19 := (Fld.other W15 Fw11 (Or.inr (slot_ne (Or.inr (hw _ (ow 87 rfl))) (Or.inr (hw _ (ow 89 rfl))) (by decide) (t := (.object "java/lang/String")) (t' := (.object "com/example/rikusen/rikusen/core/Hex")) (by decide) (by decide))))
  obtain ⟨fsr20, hrr20, hrunr20, hendedr20, hWr20, hsamer20⟩ := X15.leave (v := none) (fun _ => rfl)
  refine ⟨_, _, (X15.returnOut hx Bd.returns (hb hby d13_19) hrr20), hrunr20, hendedr20, _, _, rfl, ?_, ⟨_, rfl⟩, hWr20, hsamer20.mono (by decide) (by decide)⟩
  show Q13 Z a1 a2 a3 a4 u_id_a1 u_name_a1 u_anchor_a1 h0 n0 _ T15.heap _
  rw [e15]
  exact ⟨rfl, N15, K16, c17, c18, c19, Fw15⟩
theorem own_sym (a b c d : Int32) : own_f5 a b c d = own_f5 b a d c := by unfold own_f5; simp only [eq_comm]
theorem own_self (a b : Int32) : ¬ own_f5 a a b b = 0 := by unfold own_f5; simp
theorem pd_6 : parseMethodDescriptor "(II)V" = some ⟨[.int, .int], none⟩ := by decide +kernel
theorem pd_7 : parseMethodDescriptor "(Ljava/lang/Object;)Z" = some ⟨[(.object "java/lang/Object")], some .boolean⟩ := by decide +kernel
theorem pd_8 : parseMethodDescriptor "(C)Ljava/lang/String;" = some ⟨[.char], some (.object "java/lang/String")⟩ := by decide +kernel
theorem pd_9 : parseMethodDescriptor "(Ljava/lang/String;Ljava/lang/String;Lcom/example/rikusen/rikusen/core/Hex;)V" = some ⟨[(.object "java/lang/String"), (.object "java/lang/String"), (.object "com/example/rikusen/rikusen/core/Hex")], none⟩ := by decide +kernel
theorem pd_10 : parseMethodDescriptor "(I)Ljava/lang/Integer;" = some ⟨[.int], some (.object "java/lang/Integer")⟩ := by decide +kernel
theorem pn_0 : plainName "com/example/rikusen/rikusen/core/HexEqualsPinLaw" = true := by first | (simp [plainName, overriddenIn]; done) | decide +kernel
theorem ef_0 (m : MethodId) (x0 : Int32) (x1 : Int32) (x2 : Int32) (x3 : Int32) (x4 : Int32) (x5 : Int32) : entryFrame m #[(.int x0), (.int x1), (.int x2), (.int x3), (.int x4), (.int x5)] maxLocals = mkF m 0 #[.val (.int x0), .val (.int x1), .val (.int x2), .val (.int x3), .val (.int x4), .val (.int x5), .unset, .unset, .unset, .unset, .unset, .unset, .unset, .unset, .unset, .unset] [] := by first | (simp [entryFrame, mkF, argsToLocals, Value.category, maxLocals]; done) | rfl
def Q0 (Z : State) (p1 : Int32) (p2 : Int32) (p3 : Int32) (p4 : Int32) (p5 : Int32) (p6 : Int32) (ca : Addr) (cc : Cell) (cs : Int32) (h0 : Heap) (n0 : Nat) (v : Option Value) (h : Heap) (L : List Loc) : Prop := v = some (.int 1) ∧ Fr n0 L
set_option maxRecDepth 65536 in
set_option maxHeartbeats 40000000 in
theorem rm0 (l : Launch) (Z : State) (a0 : Array Value) (hw : ∀ d ∈ tables_1, d.before a0 Z = true) (ws : List Jvm.Cond) (p1 : Int32) (p2 : Int32) (p3 : Int32) (p4 : Int32) (p5 : Int32) (p6 : Int32) (ca : Addr) (cc : Cell) (cs : Int32) (h0 : Heap) (n0 : Nat) (Z0 : n0 ≤ h0.size) (O0 : Old Z n0 h0) (SC : Sta Z Z.heap "java/lang/Integer$IntegerCache" "cache" "[Ljava/lang/Integer;" (.ref ca)) (SH : Sta Z Z.heap "java/lang/Integer$IntegerCache" "high" "I" (.int (127 : Int32))) (AC : Arr Z Z.heap ca cc (.object "java/lang/Integer")) (SZ256 : cc.slots.size = 256) (EL : ∀ j, j < 256 → ∃ r, cc.slots[j]? = some (.ref r) ∧ Exa Z Z.heap r "java/lang/Integer") (SCS : Sta Z Z.heap "java/lang/String" "COMPACT_STRINGS" "Z" (.int cs)) (hcs : ¬ cs = (0 : Int32)) :
    MetFree l x (head1 (Jvm.Cond.code x code maxLocals ret :: ws) room_1) (fun a U => a = #[(.int p1), (.int p2), (.int p3), (.int p4), (.int p5), (.int p6)] ∧ Z.Warmed39 U.vm ∧ U.heap = h0) (fun _ _ _ _ _ => True) (fun _ U o U' => ∃ v L, o = .returned v ∧ Q0 Z p1 p2 p3 p4 p5 p6 ca cc cs h0 n0 v U'.heap L ∧ FrameEnd U o U' L 7 17) := by
  refine MetFree.of_bodySF (plainFor_of_name pn_0) hisR ?_
  intro p e s m args below meth c s₁ Bd hml0 hP hK
  obtain ⟨rfl, hZ, hh⟩ := hP
  have hx := Bd.exec
  have hby := Bd.bytes
  have hml : c.maxLocals = 16 := hml0
  have hown : s.vm.findClass "com/example/rikusen/rikusen/core/HexEqualsPinLaw" = some m.cls := findClass_of_methodNamed Bd.named
  have hnm := (name_of_methodNamed Bd.named Bd.method).1
  have X0 : Stand p l e room_1 s m #[(.int p1), (.int p2), (.int p3), (.int p4), (.int p5), (.int p6)] below meth c s₁ [] 0 0 := Stand.of_body Bd
  have e0 : s₁.heap = h0 := by rw [← hh, Bd.state]; rfl
  have N0 := Fr.nil n0
  apply own_in
  refine own_pre (B := s₁.setTop (mkF m 0 #[.val (.int p1), .val (.int p2), .val (.int p3), .val (.int p4), .val (.int p5), .val (.int p6), .unset, .unset, .unset, .unset, .unset, .unset, .unset, .unset, .unset, .unset] [])) (fun t k => castTop (ef_0 m p1 p2 p3 p4 p5 p6) k) ?_
  refine own_pre (B := s₁.setTop (mkF m 1 #[.val (.int p1), .val (.int p2), .val (.int p3), .val (.int p4), .val (.int p5), .val (.int p6), .unset, .unset, .unset, .unset, .unset, .unset, .unset, .unset, .unset, .unset] [(.int p1)])) (fun t k => XS.iloadN X0.here hx rfl (hb hby at_0) rfl k) ?_
  refine own_pre (B := s₁.setTop (mkF m 3 #[.val (.int p1), .val (.int p2), .val (.int p3), .val (.int p4), .val (.int p5), .val (.int p6), .unset, .unset, .unset, .unset, .unset, .unset, .unset, .unset, .unset, .unset] [(.int (2147483647 : Int32)), (.int p1)])) (fun t k => X0.ldcInt hx hown (mvT hZ (hw _ (ow 0 rfl))) (g := (mkF m 1 #[.val (.int p1), .val (.int p2), .val (.int p3), .val (.int p4), .val (.int p5), .val (.int p6), .unset, .unset, .unset, .unset, .unset, .unset, .unset, .unset, .unset, .unset] [(.int p1)])) rfl (hb hby at_1) _ k) ?_
  refine own_pre (B := s₁.setTop (mkF m 4 #[.val (.int p1), .val (.int p2), .val (.int p3), .val (.int p4), .val (.int p5), .val (.int p6), .unset, .unset, .unset, .unset, .unset, .unset, .unset, .unset, .unset, .unset] [(.int (p1 &&& (2147483647 : Int32)))])) (fun t k => XS.iand X0.here hx rfl (hb hby at_3) rfl k) ?_
  refine own_pre (B := s₁.setTop (mkF m 6 #[.val (.int p1), .val (.int p2), .val (.int p3), .val (.int p4), .val (.int p5), .val (.int p6), .unset, .unset, .unset, .unset, .unset, .unset, .unset, .unset, .unset, .unset] [(.int (100 : Int32)), (.int (p1 &&& (2147483647 : Int32)))])) (fun t k => XS.bipush X0.here hx rfl (hb hby at_4) k) ?_
  refine own_pre (B := s₁.setTop (mkF m 7 #[.val (.int p1), .val (.int p2), .val (.int p3), .val (.int p4), .val (.int p5), .val (.int p6), .unset, .unset, .unset, .unset, .unset, .unset, .unset, .unset, .unset, .unset] [(.int ((p1 &&& (2147483647 : Int32)) % (100 : Int32)))])) (fun t k => iremM X0 hx rfl (hb hby at_6) rfl (by decide) k) ?_
  refine own_pre (B := s₁.setTop (mkF m 9 #[.val (.int p1), .val (.int p2), .val (.int p3), .val (.int p4), .val (.int p5), .val (.int p6), .val (.int ((p1 &&& (2147483647 : Int32)) % (100 : Int32))), .unset, .unset, .unset, .unset, .unset, .unset, .unset, .unset, .unset] [])) (fun t k => XS.istore X0.here hx rfl (hb hby at_7) rfl (l' := #[.val (.int p1), .val (.int p2), .val (.int p3), .val (.int p4), .val (.int p5), .val (.int p6), .val (.int ((p1 &&& (2147483647 : Int32)) % (100 : Int32))), .unset, .unset, .unset, .unset, .unset, .unset, .unset, .unset, .unset]) rfl k) ?_
  refine own_pre (B := s₁.setTop (mkF m 10 #[.val (.int p1), .val (.int p2), .val (.int p3), .val (.int p4), .val (.int p5), .val (.int p6), .val (.int ((p1 &&& (2147483647 : Int32)) % (100 : Int32))), .unset, .unset, .unset, .unset, .unset, .unset, .unset, .unset, .unset] [(.int p2)])) (fun t k => XS.iloadN X0.here hx rfl (hb hby at_9) rfl k) ?_
  refine own_pre (B := s₁.setTop (mkF m 12 #[.val (.int p1), .val (.int p2), .val (.int p3), .val (.int p4), .val (.int p5), .val (.int p6), .val (.int ((p1 &&& (2147483647 : Int32)) % (100 : Int32))), .unset, .unset, .unset, .unset, .unset, .unset, .unset, .unset, .unset] [(.int (2147483647 : Int32)), (.int p2)])) (fun t k => X0.ldcInt hx hown (mvT hZ (hw _ (ow 0 rfl))) (g := (mkF m 10 #[.val (.int p1), .val (.int p2), .val (.int p3), .val (.int p4), .val (.int p5), .val (.int p6), .val (.int ((p1 &&& (2147483647 : Int32)) % (100 : Int32))), .unset, .unset, .unset, .unset, .unset, .unset, .unset, .unset, .unset] [(.int p2)])) rfl (hb hby at_10) _ k) ?_
  refine own_pre (B := s₁.setTop (mkF m 13 #[.val (.int p1), .val (.int p2), .val (.int p3), .val (.int p4), .val (.int p5), .val (.int p6), .val (.int ((p1 &&& (2147483647 : Int32)) % (100 : Int32))), .unset, .unset, .unset, .unset, .unset, .unset, .unset, .unset, .unset] [(.int (p2 &&& (2147483647 : Int32)))])) (fun t k => XS.iand X0.here hx rfl (hb hby at_12) rfl k) ?_
  refine own_pre (B := s₁.setTop (mkF m 15 #[.val (.int p1), .val (.int p2), .val (.int p3), .val (.int p4), .val (.int p5), .val (.int p6), .val (.int ((p1 &&& (2147483647 : Int32)) % (100 : Int32))), .unset, .unset, .unset, .unset, .unset, .unset, .unset, .unset, .unset] [(.int (100 : Int32)), (.int (p2 &&& (2147483647 : Int32)))])) (fun t k => XS.bipush X0.here hx rfl (hb hby at_13) k) ?_
  refine own_pre (B := s₁.setTop (mkF m 16 #[.val (.int p1), .val (.int p2), .val (.int p3), .val (.int p4), .val (.int p5), .val (.int p6), .val (.int ((p1 &&& (2147483647 : Int32)) % (100 : Int32))), .unset, .unset, .unset, .unset, .unset, .unset, .unset, .unset, .unset] [(.int ((p2 &&& (2147483647 : Int32)) % (100 : Int32)))])) (fun t k => iremM X0 hx rfl (hb hby at_15) rfl (by decide) k) ?_
  refine own_pre (B := s₁.setTop (mkF m 18 #[.val (.int p1), .val (.int p2), .val (.int p3), .val (.int p4), .val (.int p5), .val (.int p6), .val (.int ((p1 &&& (2147483647 : Int32)) % (100 : Int32))), .val (.int ((p2 &&& (2147483647 : Int32)) % (100 : Int32))), .unset, .unset, .unset, .unset, .unset, .unset, .unset, .unset] [])) (fun t k => XS.istore X0.here hx rfl (hb hby at_16) rfl (l' := #[.val (.int p1), .val (.int p2), .val (.int p3), .val (.int p4), .val (.int p5), .val (.int p6), .val (.int ((p1 &&& (2147483647 : Int32)) % (100 : Int32))), .val (.int ((p2 &&& (2147483647 : Int32)) % (100 : Int32))), .unset, .unset, .unset, .unset, .unset, .unset, .unset, .unset]) rfl k) ?_
  refine own_pre (B := s₁.setTop (mkF m 20 #[.val (.int p1), .val (.int p2), .val (.int p3), .val (.int p4), .val (.int p5), .val (.int p6), .val (.int ((p1 &&& (2147483647 : Int32)) % (100 : Int32))), .val (.int ((p2 &&& (2147483647 : Int32)) % (100 : Int32))), .unset, .unset, .unset, .unset, .unset, .unset, .unset, .unset] [(.int p5)])) (fun t k => XS.iload X0.here hx rfl (hb hby at_18) rfl k) ?_
  refine own_pre (B := s₁.setTop (mkF m 21 #[.val (.int p1), .val (.int p2), .val (.int p3), .val (.int p4), .val (.int p5), .val (.int p6), .val (.int ((p1 &&& (2147483647 : Int32)) % (100 : Int32))), .val (.int ((p2 &&& (2147483647 : Int32)) % (100 : Int32))), .unset, .unset, .unset, .unset, .unset, .unset, .unset, .unset] [(.int (2 : Int32)), (.int p5)])) (fun t k => XS.iconst X0.here hx rfl (hb hby at_20) k) ?_
  refine own_pre (B := s₁.setTop (mkF m 22 #[.val (.int p1), .val (.int p2), .val (.int p3), .val (.int p4), .val (.int p5), .val (.int p6), .val (.int ((p1 &&& (2147483647 : Int32)) % (100 : Int32))), .val (.int ((p2 &&& (2147483647 : Int32)) % (100 : Int32))), .unset, .unset, .unset, .unset, .unset, .unset, .unset, .unset] [(.int (p5 &&& (2 : Int32)))])) (fun t k => XS.iand X0.here hx rfl (hb hby at_21) rfl k) ?_
  obtain ⟨z7, hz7⟩ : ∃ z : Int32, z = (if (p5 &&& (2 : Int32)) = (0 : Int32) then ((p3 &&& (2147483647 : Int32)) % (100 : Int32)) else ((p1 &&& (2147483647 : Int32)) % (100 : Int32))) := ⟨_, rfl⟩
  refine own_pre (B := s₁.setTop (mkF m 37 #[.val (.int p1), .val (.int p2), .val (.int p3), .val (.int p4), .val (.int p5), .val (.int p6), .val (.int ((p1 &&& (2147483647 : Int32)) % (100 : Int32))), .val (.int ((p2 &&& (2147483647 : Int32)) % (100 : Int32))), .unset, .unset, .unset, .unset, .unset, .unset, .unset, .unset] [(.int z7)])) (fun t k => ?_) ?_
  · by_cases hc22_8 : (p5 &&& (2 : Int32)) = (0 : Int32)
    · refine XS.ifYes X0.here hx rfl (pc0 := 22) (pc' := 30) rfl (hb hby at_22) rfl ((if0 _ _).trans (teq hc22_8).1) (by decide) (by decide) ?_
      show Steps p.tables e below (s₁.setTop (mkF m 30 #[.val (.int p1), .val (.int p2), .val (.int p3), .val (.int p4), .val (.int p5), .val (.int p6), .val (.int ((p1 &&& (2147483647 : Int32)) % (100 : Int32))), .val (.int ((p2 &&& (2147483647 : Int32)) % (100 : Int32))), .unset, .unset, .unset, .unset, .unset, .unset, .unset, .unset] [])) _
      refine XS.iloadN X0.here hx rfl (hb hby at_30) rfl ?_
      show Steps p.tables e below (s₁.setTop (mkF m 31 #[.val (.int p1), .val (.int p2), .val (.int p3), .val (.int p4), .val (.int p5), .val (.int p6), .val (.int ((p1 &&& (2147483647 : Int32)) % (100 : Int32))), .val (.int ((p2 &&& (2147483647 : Int32)) % (100 : Int32))), .unset, .unset, .unset, .unset, .unset, .unset, .unset, .unset] [(.int p3)])) _
      refine X0.ldcInt hx hown (mvT hZ (hw _ (ow 0 rfl))) (g := (mkF m 31 #[.val (.int p1), .val (.int p2), .val (.int p3), .val (.int p4), .val (.int p5), .val (.int p6), .val (.int ((p1 &&& (2147483647 : Int32)) % (100 : Int32))), .val (.int ((p2 &&& (2147483647 : Int32)) % (100 : Int32))), .unset, .unset, .unset, .unset, .unset, .unset, .unset, .unset] [(.int p3)])) rfl (hb hby at_31) _ ?_
      show Steps p.tables e below (s₁.setTop (mkF m 33 #[.val (.int p1), .val (.int p2), .val (.int p3), .val (.int p4), .val (.int p5), .val (.int p6), .val (.int ((p1 &&& (2147483647 : Int32)) % (100 : Int32))), .val (.int ((p2 &&& (2147483647 : Int32)) % (100 : Int32))), .unset, .unset, .unset, .unset, .unset, .unset, .unset, .unset] [(.int (2147483647 : Int32)), (.int p3)])) _
      refine XS.iand X0.here hx rfl (hb hby at_33) rfl ?_
      show Steps p.tables e below (s₁.setTop (mkF m 34 #[.val (.int p1), .val (.int p2), .val (.int p3), .val (.int p4), .val (.int p5), .val (.int p6), .val (.int ((p1 &&& (2147483647 : Int32)) % (100 : Int32))), .val (.int ((p2 &&& (2147483647 : Int32)) % (100 : Int32))), .unset, .unset, .unset, .unset, .unset, .unset, .unset, .unset] [(.int (p3 &&& (2147483647 : Int32)))])) _
      refine XS.bipush X0.here hx rfl (hb hby at_34) ?_
      show Steps p.tables e below (s₁.setTop (mkF m 36 #[.val (.int p1), .val (.int p2), .val (.int p3), .val (.int p4), .val (.int p5), .val (.int p6), .val (.int ((p1 &&& (2147483647 : Int32)) % (100 : Int32))), .val (.int ((p2 &&& (2147483647 : Int32)) % (100 : Int32))), .unset, .unset, .unset, .unset, .unset, .unset, .unset, .unset] [(.int (100 : Int32)), (.int (p3 &&& (2147483647 : Int32)))])) _
      refine iremM X0 hx rfl (hb hby at_36) rfl (by decide) ?_
      show Steps p.tables e below (s₁.setTop (mkF m 37 #[.val (.int p1), .val (.int p2), .val (.int p3), .val (.int p4), .val (.int p5), .val (.int p6), .val (.int ((p1 &&& (2147483647 : Int32)) % (100 : Int32))), .val (.int ((p2 &&& (2147483647 : Int32)) % (100 : Int32))), .unset, .unset, .unset, .unset, .unset, .unset, .unset, .unset] [(.int ((p3 &&& (2147483647 : Int32)) % (100 : Int32)))])) _
      rw [if_pos hc22_8] at hz7
      subst hz7
      exact k
    · refine XS.ifNo X0.here hx rfl (hb hby at_22) rfl ((if0 _ _).trans (feq hc22_8).1) ?_
      show Steps p.tables e below (s₁.setTop (mkF m 25 #[.val (.int p1), .val (.int p2), .val (.int p3), .val (.int p4), .val (.int p5), .val (.int p6), .val (.int ((p1 &&& (2147483647 : Int32)) % (100 : Int32))), .val (.int ((p2 &&& (2147483647 : Int32)) % (100 : Int32))), .unset, .unset, .unset, .unset, .unset, .unset, .unset, .unset] [])) _
      refine XS.iload X0.here hx rfl (hb hby at_25) rfl ?_
      show Steps p.tables e below (s₁.setTop (mkF m 27 #[.val (.int p1), .val (.int p2), .val (.int p3), .val (.int p4), .val (.int p5), .val (.int p6), .val (.int ((p1 &&& (2147483647 : Int32)) % (100 : Int32))), .val (.int ((p2 &&& (2147483647 : Int32)) % (100 : Int32))), .unset, .unset, .unset, .unset, .unset, .unset, .unset, .unset] [(.int ((p1 &&& (2147483647 : Int32)) % (100 : Int32)))])) _
      refine XS.goto X0.here hx rfl (pc0 := 27) (pc' := 37) rfl (hb hby at_27) (by decide) (by decide) ?_
      show Steps p.tables e below (s₁.setTop (mkF m 37 #[.val (.int p1), .val (.int p2), .val (.int p3), .val (.int p4), .val (.int p5), .val (.int p6), .val (.int ((p1 &&& (2147483647 : Int32)) % (100 : Int32))), .val (.int ((p2 &&& (2147483647 : Int32)) % (100 : Int32))), .unset, .unset, .unset, .unset, .unset, .unset, .unset, .unset] [(.int ((p1 &&& (2147483647 : Int32)) % (100 : Int32)))])) _
      rw [if_neg hc22_8] at hz7
      subst hz7
      exact k
  refine own_pre (B := s₁.setTop (mkF m 39 #[.val (.int p1), .val (.int p2), .val (.int p3), .val (.int p4), .val (.int p5), .val (.int p6), .val (.int ((p1 &&& (2147483647 : Int32)) % (100 : Int32))), .val (.int ((p2 &&& (2147483647 : Int32)) % (100 : Int32))), .val (.int z7), .unset, .unset, .unset, .unset, .unset, .unset, .unset] [])) (fun t k => XS.istore X0.here hx rfl (hb hby at_37) rfl (l' := #[.val (.int p1), .val (.int p2), .val (.int p3), .val (.int p4), .val (.int p5), .val (.int p6), .val (.int ((p1 &&& (2147483647 : Int32)) % (100 : Int32))), .val (.int ((p2 &&& (2147483647 : Int32)) % (100 : Int32))), .val (.int z7), .unset, .unset, .unset, .unset, .unset, .unset, .unset]) rfl k) ?_
  refine own_pre (B := s₁.setTop (mkF m 41 #[.val (.int p1), .val (.int p2), .val (.int p3), .val (.int p4), .val (.int p5), .val (.int p6), .val (.int ((p1 &&& (2147483647 : Int32)) % (100 : Int32))), .val (.int ((p2 &&& (2147483647 : Int32)) % (100 : Int32))), .val (.int z7), .unset, .unset, .unset, .unset, .unset, .unset, .unset] [(.int p5)])) (fun t k => XS.iload X0.here hx rfl (hb hby at_39) rfl k) ?_
  refine own_pre (B := s₁.setTop (mkF m 42 #[.val (.int p1), .val (.int p2), .val (.int p3), .val (.int p4), .val (.int p5), .val (.int p6), .val (.int ((p1 &&& (2147483647 : Int32)) % (100 : Int32))), .val (.int ((p2 &&& (2147483647 : Int32)) % (100 : Int32))), .val (.int z7), .unset, .unset, .unset, .unset, .unset, .unset, .unset] [(.int (4 : Int32)), (.int p5)])) (fun t k => XS.iconst X0.here hx rfl (hb hby at_41) k) ?_
  refine own_pre (B := s₁.setTop (mkF m 43 #[.val (.int p1), .val (.int p2), .val (.int p3), .val (.int p4), .val (.int p5), .val (.int p6), .val (.int ((p1 &&& (2147483647 : Int32)) % (100 : Int32))), .val (.int ((p2 &&& (2147483647 : Int32)) % (100 : Int32))), .val (.int z7), .unset, .unset, .unset, .unset, .unset, .unset, .unset] [(.int (p5 &&& (4 : Int32)))])) (fun t k => XS.iand X0.here hx rfl (hb hby at_42) rfl k) ?_
  obtain ⟨z9, hz9⟩ : ∃ z : Int32, z = (if (p5 &&& (4 : Int32)) = (0 : Int32) then ((p4 &&& (2147483647 : Int32)) % (100 : Int32)) else ((p2 &&& (2147483647 : Int32)) % (100 : Int32))) := ⟨_, rfl⟩
  refine own_pre (B := s₁.setTop (mkF m 58 #[.val (.int p1), .val (.int p2), .val (.int p3), .val (.int p4), .val (.int p5), .val (.int p6), .val (.int ((p1 &&& (2147483647 : Int32)) % (100 : Int32))), .val (.int ((p2 &&& (2147483647 : Int32)) % (100 : Int32))), .val (.int z7), .unset, .unset, .unset, .unset, .unset, .unset, .unset] [(.int z9)])) (fun t k => ?_) ?_
  · by_cases hc43_10 : (p5 &&& (4 : Int32)) = (0 : Int32)
    · refine XS.ifYes X0.here hx rfl (pc0 := 43) (pc' := 51) rfl (hb hby at_43) rfl ((if0 _ _).trans (teq hc43_10).1) (by decide) (by decide) ?_
      show Steps p.tables e below (s₁.setTop (mkF m 51 #[.val (.int p1), .val (.int p2), .val (.int p3), .val (.int p4), .val (.int p5), .val (.int p6), .val (.int ((p1 &&& (2147483647 : Int32)) % (100 : Int32))), .val (.int ((p2 &&& (2147483647 : Int32)) % (100 : Int32))), .val (.int z7), .unset, .unset, .unset, .unset, .unset, .unset, .unset] [])) _
      refine XS.iloadN X0.here hx rfl (hb hby at_51) rfl ?_
      show Steps p.tables e below (s₁.setTop (mkF m 52 #[.val (.int p1), .val (.int p2), .val (.int p3), .val (.int p4), .val (.int p5), .val (.int p6), .val (.int ((p1 &&& (2147483647 : Int32)) % (100 : Int32))), .val (.int ((p2 &&& (2147483647 : Int32)) % (100 : Int32))), .val (.int z7), .unset, .unset, .unset, .unset, .unset, .unset, .unset] [(.int p4)])) _
      refine X0.ldcInt hx hown (mvT hZ (hw _ (ow 0 rfl))) (g := (mkF m 52 #[.val (.int p1), .val (.int p2), .val (.int p3), .val (.int p4), .val (.int p5), .val (.int p6), .val (.int ((p1 &&& (2147483647 : Int32)) % (100 : Int32))), .val (.int ((p2 &&& (2147483647 : Int32)) % (100 : Int32))), .val (.int z7), .unset, .unset, .unset, .unset, .unset, .unset, .unset] [(.int p4)])) rfl (hb hby at_52) _ ?_
      show Steps p.tables e below (s₁.setTop (mkF m 54 #[.val (.int p1), .val (.int p2), .val (.int p3), .val (.int p4), .val (.int p5), .val (.int p6), .val (.int ((p1 &&& (2147483647 : Int32)) % (100 : Int32))), .val (.int ((p2 &&& (2147483647 : Int32)) % (100 : Int32))), .val (.int z7), .unset, .unset, .unset, .unset, .unset, .unset, .unset] [(.int (2147483647 : Int32)), (.int p4)])) _
      refine XS.iand X0.here hx rfl (hb hby at_54) rfl ?_
      show Steps p.tables e below (s₁.setTop (mkF m 55 #[.val (.int p1), .val (.int p2), .val (.int p3), .val (.int p4), .val (.int p5), .val (.int p6), .val (.int ((p1 &&& (2147483647 : Int32)) % (100 : Int32))), .val (.int ((p2 &&& (2147483647 : Int32)) % (100 : Int32))), .val (.int z7), .unset, .unset, .unset, .unset, .unset, .unset, .unset] [(.int (p4 &&& (2147483647 : Int32)))])) _
      refine XS.bipush X0.here hx rfl (hb hby at_55) ?_
      show Steps p.tables e below (s₁.setTop (mkF m 57 #[.val (.int p1), .val (.int p2), .val (.int p3), .val (.int p4), .val (.int p5), .val (.int p6), .val (.int ((p1 &&& (2147483647 : Int32)) % (100 : Int32))), .val (.int ((p2 &&& (2147483647 : Int32)) % (100 : Int32))), .val (.int z7), .unset, .unset, .unset, .unset, .unset, .unset, .unset] [(.int (100 : Int32)), (.int (p4 &&& (2147483647 : Int32)))])) _
      refine iremM X0 hx rfl (hb hby at_57) rfl (by decide) ?_
      show Steps p.tables e below (s₁.setTop (mkF m 58 #[.val (.int p1), .val (.int p2), .val (.int p3), .val (.int p4), .val (.int p5), .val (.int p6), .val (.int ((p1 &&& (2147483647 : Int32)) % (100 : Int32))), .val (.int ((p2 &&& (2147483647 : Int32)) % (100 : Int32))), .val (.int z7), .unset, .unset, .unset, .unset, .unset, .unset, .unset] [(.int ((p4 &&& (2147483647 : Int32)) % (100 : Int32)))])) _
      rw [if_pos hc43_10] at hz9
      subst hz9
      exact k
    · refine XS.ifNo X0.here hx rfl (hb hby at_43) rfl ((if0 _ _).trans (feq hc43_10).1) ?_
      show Steps p.tables e below (s₁.setTop (mkF m 46 #[.val (.int p1), .val (.int p2), .val (.int p3), .val (.int p4), .val (.int p5), .val (.int p6), .val (.int ((p1 &&& (2147483647 : Int32)) % (100 : Int32))), .val (.int ((p2 &&& (2147483647 : Int32)) % (100 : Int32))), .val (.int z7), .unset, .unset, .unset, .unset, .unset, .unset, .unset] [])) _
      refine XS.iload X0.here hx rfl (hb hby at_46) rfl ?_
      show Steps p.tables e below (s₁.setTop (mkF m 48 #[.val (.int p1), .val (.int p2), .val (.int p3), .val (.int p4), .val (.int p5), .val (.int p6), .val (.int ((p1 &&& (2147483647 : Int32)) % (100 : Int32))), .val (.int ((p2 &&& (2147483647 : Int32)) % (100 : Int32))), .val (.int z7), .unset, .unset, .unset, .unset, .unset, .unset, .unset] [(.int ((p2 &&& (2147483647 : Int32)) % (100 : Int32)))])) _
      refine XS.goto X0.here hx rfl (pc0 := 48) (pc' := 58) rfl (hb hby at_48) (by decide) (by decide) ?_
      show Steps p.tables e below (s₁.setTop (mkF m 58 #[.val (.int p1), .val (.int p2), .val (.int p3), .val (.int p4), .val (.int p5), .val (.int p6), .val (.int ((p1 &&& (2147483647 : Int32)) % (100 : Int32))), .val (.int ((p2 &&& (2147483647 : Int32)) % (100 : Int32))), .val (.int z7), .unset, .unset, .unset, .unset, .unset, .unset, .unset] [(.int ((p2 &&& (2147483647 : Int32)) % (100 : Int32)))])) _
      rw [if_neg hc43_10] at hz9
      subst hz9
      exact k
  refine own_pre (B := s₁.setTop (mkF m 60 #[.val (.int p1), .val (.int p2), .val (.int p3), .val (.int p4), .val (.int p5), .val (.int p6), .val (.int ((p1 &&& (2147483647 : Int32)) % (100 : Int32))), .val (.int ((p2 &&& (2147483647 : Int32)) % (100 : Int32))), .val (.int z7), .val (.int z9), .unset, .unset, .unset, .unset, .unset, .unset] [])) (fun t k => XS.istore X0.here hx rfl (hb hby at_58) rfl (l' := #[.val (.int p1), .val (.int p2), .val (.int p3), .val (.int p4), .val (.int p5), .val (.int p6), .val (.int ((p1 &&& (2147483647 : Int32)) % (100 : Int32))), .val (.int ((p2 &&& (2147483647 : Int32)) % (100 : Int32))), .val (.int z7), .val (.int z9), .unset, .unset, .unset, .unset, .unset, .unset]) rfl k) ?_
  have K11 : Keep h0 h0 [] := (Keep.refl h0 [])
  obtain ⟨T12, h12, X12, e12, E12, A12, D12, -, st12⟩ := newO X0 hx hZ hown (hw _ (ow 1 rfl)) (hw _ (ow 2 rfl)) (hw _ (ow 3 rfl)) e0 (g := (mkF m 60 #[.val (.int p1), .val (.int p2), .val (.int p3), .val (.int p4), .val (.int p5), .val (.int p6), .val (.int ((p1 &&& (2147483647 : Int32)) % (100 : Int32))), .val (.int ((p2 &&& (2147483647 : Int32)) % (100 : Int32))), .val (.int z7), .val (.int z9), .unset, .unset, .unset, .unset, .unset, .unset] [])) rfl (hb hby at_60) (by decide) (by decide)
  obtain ⟨b12, g12⟩ : ∃ z, z = h0.size := ⟨_, rfl⟩
  rw [← g12] at A12 D12 st12
  have g_b12 : n0 ≤ b12 := Nat.le_trans Z0 (Nat.le_of_eq g12.symm)
  have s_b12 : h0.size ≤ b12 := Nat.le_trans K11.1 (Nat.le_of_eq g12.symm)
  have F_column_b12 : Fld Z h12 b12 "com/example/rikusen/rikusen/core/Hex" "column" "I" (.int (0 : Int32)) := D12 (Or.inr (hw _ (ow 19 rfl))) (ty := .int) (by decide)
  have F_row_b12 : Fld Z h12 b12 "com/example/rikusen/rikusen/core/Hex" "row" "I" (.int (0 : Int32)) := D12 (Or.inr (hw _ (ow 21 rfl))) (ty := .int) (by decide)
  refine own_pre (B := T12.setTop (mkF m 63 #[.val (.int p1), .val (.int p2), .val (.int p3), .val (.int p4), .val (.int p5), .val (.int p6), .val (.int ((p1 &&& (2147483647 : Int32)) % (100 : Int32))), .val (.int ((p2 &&& (2147483647 : Int32)) % (100 : Int32))), .val (.int z7), .val (.int z9), .unset, .unset, .unset, .unset, .unset, .unset] [(.ref b12)])) (fun t k => st12 t k) ?_
  refine own_pre (B := T12.setTop (mkF m 64 #[.val (.int p1), .val (.int p2), .val (.int p3), .val (.int p4), .val (.int p5), .val (.int p6), .val (.int ((p1 &&& (2147483647 : Int32)) % (100 : Int32))), .val (.int ((p2 &&& (2147483647 : Int32)) % (100 : Int32))), .val (.int z7), .val (.int z9), .unset, .unset, .unset, .unset, .unset, .unset] [(.ref b12), (.ref b12)])) (fun t k => XS.dup X12.here hx rfl (hb hby at_63) rfl rfl k) ?_
  refine own_pre (B := T12.setTop (mkF m 66 #[.val (.int p1), .val (.int p2), .val (.int p3), .val (.int p4), .val (.int p5), .val (.int p6), .val (.int ((p1 &&& (2147483647 : Int32)) % (100 : Int32))), .val (.int ((p2 &&& (2147483647 : Int32)) % (100 : Int32))), .val (.int z7), .val (.int z9), .unset, .unset, .unset, .unset, .unset, .unset] [(.int ((p1 &&& (2147483647 : Int32)) % (100 : Int32))), (.ref b12), (.ref b12)])) (fun t k => XS.iload X12.here hx rfl (hb hby at_64) rfl k) ?_
  refine own_pre (B := T12.setTop (mkF m 68 #[.val (.int p1), .val (.int p2), .val (.int p3), .val (.int p4), .val (.int p5), .val (.int p6), .val (.int ((p1 &&& (2147483647 : Int32)) % (100 : Int32))), .val (.int ((p2 &&& (2147483647 : Int32)) % (100 : Int32))), .val (.int z7), .val (.int z9), .unset, .unset, .unset, .unset, .unset, .unset] [(.int ((p2 &&& (2147483647 : Int32)) % (100 : Int32))), (.int ((p1 &&& (2147483647 : Int32)) % (100 : Int32))), (.ref b12), (.ref b12)])) (fun t k => XS.iload X12.here hx rfl (hb hby at_66) rfl k) ?_
  have sz13 : n0 ≤ h12.size := (Nat.le_trans Z0 E12.1)
  obtain ⟨_, _, ⟨T14, L14, k14, n14⟩, -, X14, ⟨Lc14, hQ14, l14, y14, z14⟩, st14⟩ := X12.specialBack hx (y := (⟨"com/example/rikusen/rikusen/core/Hex", "<init>", "(II)V"⟩ : MethodName)) rfl hown (mvT hZ (hw _ (ow 4 rfl))) (mvT hZ (hw _ (ow 5 rfl))) (mvT hZ (hw _ (ow 6 rfl))) (by decide) (backOf (W := 1) (rm1 l Z a0 hw [] b12 ((p1 &&& (2147483647 : Int32)) % (100 : Int32)) ((p2 &&& (2147483647 : Int32)) % (100 : Int32)) (.int (0 : Int32)) (.int (0 : Int32)) h12 n0 sz13 (own_fit _) (own_fit _) A12 F_column_b12 g_b12 F_row_b12) hZ (hw _ (ow 6 rfl)) (hw _ (ow 3 rfl)) (by decide) (by decide)) (g := (mkF m 68 #[.val (.int p1), .val (.int p2), .val (.int p3), .val (.int p4), .val (.int p5), .val (.int p6), .val (.int ((p1 &&& (2147483647 : Int32)) % (100 : Int32))), .val (.int ((p2 &&& (2147483647 : Int32)) % (100 : Int32))), .val (.int z7), .val (.int z9), .unset, .unset, .unset, .unset, .unset, .unset] [(.int ((p2 &&& (2147483647 : Int32)) % (100 : Int32))), (.int ((p1 &&& (2147483647 : Int32)) % (100 : Int32))), (.ref b12), (.ref b12)])) rfl (by rw [hml]; rfl) (Steps.refl _) (a := b12) (argsL := [(.int ((p1 &&& (2147483647 : Int32)) % (100 : Int32))), (.int ((p2 &&& (2147483647 : Int32)) % (100 : Int32)))]) (rest := [(.ref b12)]) (lenOf pd_6 rfl) rfl (by show 2 * 0 + _ ≤ _; exact Nat.le_of_eq rfl) (hb hby at_68) (fun _ _ => ⟨rfl, e12, (by decide : 1 + 0 ≤ _), (by decide : 2 + 0 ≤ _)⟩)
  dsimp only [Pt.U, Pt.locs, Pt.cells, Pt.slots] at X14 l14 y14 z14 st14 hQ14
  subst l14 y14 z14
  obtain ⟨rfl, N14q, K14, q14_0, q14_1, q14_2⟩ := hQ14
  have N14 := Fr.app N0 N14q
  have K15 : Keep h0 h12 [] := (Keep.ext K11 E12)
  refine own_pre (B := T14.setTop (mkF m 71 #[.val (.int p1), .val (.int p2), .val (.int p3), .val (.int p4), .val (.int p5), .val (.int p6), .val (.int ((p1 &&& (2147483647 : Int32)) % (100 : Int32))), .val (.int ((p2 &&& (2147483647 : Int32)) % (100 : Int32))), .val (.int z7), .val (.int z9), .unset, .unset, .unset, .unset, .unset, .unset] [(.ref b12)])) (fun t k => st14.trans k) ?_
  refine own_pre (B := T14.setTop (mkF m 73 #[.val (.int p1), .val (.int p2), .val (.int p3), .val (.int p4), .val (.int p5), .val (.int p6), .val (.int ((p1 &&& (2147483647 : Int32)) % (100 : Int32))), .val (.int ((p2 &&& (2147483647 : Int32)) % (100 : Int32))), .val (.int z7), .val (.int z9), .val (.ref b12), .unset, .unset, .unset, .unset, .unset] [])) (fun t k => XS.astore X14.here hx rfl (hb hby at_71) rfl rfl (l' := #[.val (.int p1), .val (.int p2), .val (.int p3), .val (.int p4), .val (.int p5), .val (.int p6), .val (.int ((p1 &&& (2147483647 : Int32)) % (100 : Int32))), .val (.int ((p2 &&& (2147483647 : Int32)) % (100 : Int32))), .val (.int z7), .val (.int z9), .val (.ref b12), .unset, .unset, .unset, .unset, .unset]) rfl k) ?_
  have K16 : Keep h0 T14.heap [] := (Keep.trans K15 K14 (allS (P := fun x => x ∈ [] ∨ h0.size ≤ x) (Or.inr s_b12) all0))
  obtain ⟨T17, h17, X17, e17, E17, A17, D17, -, st17⟩ := newO X14 hx hZ hown (hw _ (ow 1 rfl)) (hw _ (ow 2 rfl)) (hw _ (ow 3 rfl)) rfl (g := (mkF m 73 #[.val (.int p1), .val (.int p2), .val (.int p3), .val (.int p4), .val (.int p5), .val (.int p6), .val (.int ((p1 &&& (2147483647 : Int32)) % (100 : Int32))), .val (.int ((p2 &&& (2147483647 : Int32)) % (100 : Int32))), .val (.int z7), .val (.int z9), .val (.ref b12), .unset, .unset, .unset, .unset, .unset] [])) rfl (hb hby at_73) (by decide) (by decide)
  have sz18 : n0 ≤ T14.heap.size := (Nat.le_trans sz13 K14.1)
  obtain ⟨b17, g17⟩ : ∃ z, z = T14.heap.size := ⟨_, rfl⟩
  rw [← g17] at A17 D17 st17
  have g_b17 : n0 ≤ b17 := Nat.le_trans sz18 (Nat.le_of_eq g17.symm)
  have s_b17 : h0.size ≤ b17 := Nat.le_trans K16.1 (Nat.le_of_eq g17.symm)
  have ne19 : b12 ≠ b17 := Nat.ne_of_lt (Nat.lt_of_lt_of_le (Exa.lt q14_0) (Nat.le_of_eq g17.symm))
  have F_column_b17 : Fld Z h17 b17 "com/example/rikusen/rikusen/core/Hex" "column" "I" (.int (0 : Int32)) := D17 (Or.inr (hw _ (ow 19 rfl))) (ty := .int) (by decide)
  have F_row_b17 : Fld Z h17 b17 "com/example/rikusen/rikusen/core/Hex" "row" "I" (.int (0 : Int32)) := D17 (Or.inr (hw _ (ow 21 rfl))) (ty := .int) (by decide)
  refine own_pre (B := T17.setTop (mkF m 76 #[.val (.int p1), .val (.int p2), .val (.int p3), .val (.int p4), .val (.int p5), .val (.int p6), .val (.int ((p1 &&& (2147483647 : Int32)) % (100 : Int32))), .val (.int ((p2 &&& (2147483647 : Int32)) % (100 : Int32))), .val (.int z7), .val (.int z9), .val (.ref b12), .unset, .unset, .unset, .unset, .unset] [(.ref b17)])) (fun t k => st17 t k) ?_
  refine own_pre (B := T17.setTop (mkF m 77 #[.val (.int p1), .val (.int p2), .val (.int p3), .val (.int p4), .val (.int p5), .val (.int p6), .val (.int ((p1 &&& (2147483647 : Int32)) % (100 : Int32))), .val (.int ((p2 &&& (2147483647 : Int32)) % (100 : Int32))), .val (.int z7), .val (.int z9), .val (.ref b12), .unset, .unset, .unset, .unset, .unset] [(.ref b17), (.ref b17)])) (fun t k => XS.dup X17.here hx rfl (hb hby at_76) rfl rfl k) ?_
  refine own_pre (B := T17.setTop (mkF m 79 #[.val (.int p1), .val (.int p2), .val (.int p3), .val (.int p4), .val (.int p5), .val (.int p6), .val (.int ((p1 &&& (2147483647 : Int32)) % (100 : Int32))), .val (.int ((p2 &&& (2147483647 : Int32)) % (100 : Int32))), .val (.int z7), .val (.int z9), .val (.ref b12), .unset, .unset, .unset, .unset, .unset] [(.int z7), (.ref b17), (.ref b17)])) (fun t k => XS.iload X17.here hx rfl (hb hby at_77) rfl k) ?_
  refine own_pre (B := T17.setTop (mkF m 81 #[.val (.int p1), .val (.int p2), .val (.int p3), .val (.int p4), .val (.int p5), .val (.int p6), .val (.int ((p1 &&& (2147483647 : Int32)) % (100 : Int32))), .val (.int ((p2 &&& (2147483647 : Int32)) % (100 : Int32))), .val (.int z7), .val (.int z9), .val (.ref b12), .unset, .unset, .unset, .unset, .unset] [(.int z9), (.int z7), (.ref b17), (.ref b17)])) (fun t k => XS.iload X17.here hx rfl (hb hby at_79) rfl k) ?_
  have sz20 : n0 ≤ h17.size := (Nat.le_trans sz18 E17.1)
  obtain ⟨_, _, ⟨T21, L21, k21, n21⟩, -, X21, ⟨Lc21, hQ21, l21, y21, z21⟩, st21⟩ := X17.specialBack hx (y := (⟨"com/example/rikusen/rikusen/core/Hex", "<init>", "(II)V"⟩ : MethodName)) rfl hown (mvT hZ (hw _ (ow 4 rfl))) (mvT hZ (hw _ (ow 5 rfl))) (mvT hZ (hw _ (ow 6 rfl))) (by decide) (backOf (W := 1) (rm1 l Z a0 hw [] b17 z7 z9 (.int (0 : Int32)) (.int (0 : Int32)) h17 n0 sz20 (own_fit2 hz7) (own_fit2 hz9) A17 F_column_b17 g_b17 F_row_b17) hZ (hw _ (ow 6 rfl)) (hw _ (ow 3 rfl)) (by decide) (by decide)) (g := (mkF m 81 #[.val (.int p1), .val (.int p2), .val (.int p3), .val (.int p4), .val (.int p5), .val (.int p6), .val (.int ((p1 &&& (2147483647 : Int32)) % (100 : Int32))), .val (.int ((p2 &&& (2147483647 : Int32)) % (100 : Int32))), .val (.int z7), .val (.int z9), .val (.ref b12), .unset, .unset, .unset, .unset, .unset] [(.int z9), (.int z7), (.ref b17), (.ref b17)])) rfl (by rw [hml]; rfl) (Steps.refl _) (a := b17) (argsL := [(.int z7), (.int z9)]) (rest := [(.ref b17)]) (lenOf pd_6 rfl) rfl (by show 2 * 0 + _ ≤ _; exact Nat.le_of_eq rfl) (hb hby at_81) (fun _ _ => ⟨rfl, e17, (by decide : 2 + 0 ≤ _), (by decide : 4 + 0 ≤ _)⟩)
  dsimp only [Pt.U, Pt.locs, Pt.cells, Pt.slots] at X21 l21 y21 z21 st21 hQ21
  subst l21 y21 z21
  obtain ⟨rfl, N21q, K21, q21_0, q21_1, q21_2⟩ := hQ21
  have N21 := Fr.app N14 N21q
  have K22 : Keep h0 h17 [] := (Keep.ext K16 E17)
  refine own_pre (B := T21.setTop (mkF m 84 #[.val (.int p1), .val (.int p2), .val (.int p3), .val (.int p4), .val (.int p5), .val (.int p6), .val (.int ((p1 &&& (2147483647 : Int32)) % (100 : Int32))), .val (.int ((p2 &&& (2147483647 : Int32)) % (100 : Int32))), .val (.int z7), .val (.int z9), .val (.ref b12), .unset, .unset, .unset, .unset, .unset] [(.ref b17)])) (fun t k => st21.trans k) ?_
  refine own_pre (B := T21.setTop (mkF m 86 #[.val (.int p1), .val (.int p2), .val (.int p3), .val (.int p4), .val (.int p5), .val (.int p6), .val (.int ((p1 &&& (2147483647 : Int32)) % (100 : Int32))), .val (.int ((p2 &&& (2147483647 : Int32)) % (100 : Int32))), .val (.int z7), .val (.int z9), .val (.ref b12), .val (.ref b17), .unset, .unset, .unset, .unset] [])) (fun t k => XS.astore X21.here hx rfl (hb hby at_84) rfl rfl (l' := #[.val (.int p1), .val (.int p2), .val (.int p3), .val (.int p4), .val (.int p5), .val (.int p6), .val (.int ((p1 &&& (2147483647 : Int32)) % (100 : Int32))), .val (.int ((p2 &&& (2147483647 : Int32)) % (100 : Int32))), .val (.int z7), .val (.int z9), .val (.ref b12), .val (.ref b17), .unset, .unset, .unset, .unset]) rfl k) ?_
  refine own_pre (B := T21.setTop (mkF m 88 #[.val (.int p1), .val (.int p2), .val (.int p3), .val (.int p4), .val (.int p5), .val (.int p6), .val (.int ((p1 &&& (2147483647 : Int32)) % (100 : Int32))), .val (.int ((p2 &&& (2147483647 : Int32)) % (100 : Int32))), .val (.int z7), .val (.int z9), .val (.ref b12), .val (.ref b17), .unset, .unset, .unset, .unset] [(.int p5)])) (fun t k => XS.iload X21.here hx rfl (hb hby at_86) rfl k) ?_
  refine own_pre (B := T21.setTop (mkF m 89 #[.val (.int p1), .val (.int p2), .val (.int p3), .val (.int p4), .val (.int p5), .val (.int p6), .val (.int ((p1 &&& (2147483647 : Int32)) % (100 : Int32))), .val (.int ((p2 &&& (2147483647 : Int32)) % (100 : Int32))), .val (.int z7), .val (.int z9), .val (.ref b12), .val (.ref b17), .unset, .unset, .unset, .unset] [(.int (3 : Int32)), (.int p5)])) (fun t k => XS.iconst X21.here hx rfl (hb hby at_88) k) ?_
  refine own_pre (B := T21.setTop (mkF m 90 #[.val (.int p1), .val (.int p2), .val (.int p3), .val (.int p4), .val (.int p5), .val (.int p6), .val (.int ((p1 &&& (2147483647 : Int32)) % (100 : Int32))), .val (.int ((p2 &&& (2147483647 : Int32)) % (100 : Int32))), .val (.int z7), .val (.int z9), .val (.ref b12), .val (.ref b17), .unset, .unset, .unset, .unset] [(.int ((p5.toUInt32 >>> ((3 : Int32) &&& 31).toUInt32).toInt32))])) (fun t k => XS.iushr X21.here hx rfl (hb hby at_89) rfl k) ?_
  refine own_pre (B := T21.setTop (mkF m 91 #[.val (.int p1), .val (.int p2), .val (.int p3), .val (.int p4), .val (.int p5), .val (.int p6), .val (.int ((p1 &&& (2147483647 : Int32)) % (100 : Int32))), .val (.int ((p2 &&& (2147483647 : Int32)) % (100 : Int32))), .val (.int z7), .val (.int z9), .val (.ref b12), .val (.ref b17), .unset, .unset, .unset, .unset] [(.int (3 : Int32)), (.int ((p5.toUInt32 >>> ((3 : Int32) &&& 31).toUInt32).toInt32))])) (fun t k => XS.iconst X21.here hx rfl (hb hby at_90) k) ?_
  refine own_pre (B := T21.setTop (mkF m 92 #[.val (.int p1), .val (.int p2), .val (.int p3), .val (.int p4), .val (.int p5), .val (.int p6), .val (.int ((p1 &&& (2147483647 : Int32)) % (100 : Int32))), .val (.int ((p2 &&& (2147483647 : Int32)) % (100 : Int32))), .val (.int z7), .val (.int z9), .val (.ref b12), .val (.ref b17), .unset, .unset, .unset, .unset] [(.int (((p5.toUInt32 >>> ((3 : Int32) &&& 31).toUInt32).toInt32) &&& (3 : Int32)))])) (fun t k => XS.iand X21.here hx rfl (hb hby at_91) rfl k) ?_
  refine own_pre (B := T21.setTop (mkF m 94 #[.val (.int p1), .val (.int p2), .val (.int p3), .val (.int p4), .val (.int p5), .val (.int p6), .val (.int ((p1 &&& (2147483647 : Int32)) % (100 : Int32))), .val (.int ((p2 &&& (2147483647 : Int32)) % (100 : Int32))), .val (.int z7), .val (.int z9), .val (.ref b12), .val (.ref b17), .val (.int (((p5.toUInt32 >>> ((3 : Int32) &&& 31).toUInt32).toInt32) &&& (3 : Int32))), .unset, .unset, .unset] [])) (fun t k => XS.istore X21.here hx rfl (hb hby at_92) rfl (l' := #[.val (.int p1), .val (.int p2), .val (.int p3), .val (.int p4), .val (.int p5), .val (.int p6), .val (.int ((p1 &&& (2147483647 : Int32)) % (100 : Int32))), .val (.int ((p2 &&& (2147483647 : Int32)) % (100 : Int32))), .val (.int z7), .val (.int z9), .val (.ref b12), .val (.ref b17), .val (.int (((p5.toUInt32 >>> ((3 : Int32) &&& 31).toUInt32).toInt32) &&& (3 : Int32))), .unset, .unset, .unset]) rfl k) ?_
  refine own_pre (B := T21.setTop (mkF m 96 #[.val (.int p1), .val (.int p2), .val (.int p3), .val (.int p4), .val (.int p5), .val (.int p6), .val (.int ((p1 &&& (2147483647 : Int32)) % (100 : Int32))), .val (.int ((p2 &&& (2147483647 : Int32)) % (100 : Int32))), .val (.int z7), .val (.int z9), .val (.ref b12), .val (.ref b17), .val (.int (((p5.toUInt32 >>> ((3 : Int32) &&& 31).toUInt32).toInt32) &&& (3 : Int32))), .unset, .unset, .unset] [(.int (((p5.toUInt32 >>> ((3 : Int32) &&& 31).toUInt32).toInt32) &&& (3 : Int32)))])) (fun t k => XS.iload X21.here hx rfl (hb hby at_94) rfl k) ?_
  refine own_pre (B := T21.setTop (mkF m 97 #[.val (.int p1), .val (.int p2), .val (.int p3), .val (.int p4), .val (.int p5), .val (.int p6), .val (.int ((p1 &&& (2147483647 : Int32)) % (100 : Int32))), .val (.int ((p2 &&& (2147483647 : Int32)) % (100 : Int32))), .val (.int z7), .val (.int z9), .val (.ref b12), .val (.ref b17), .val (.int (((p5.toUInt32 >>> ((3 : Int32) &&& 31).toUInt32).toInt32) &&& (3 : Int32))), .unset, .unset, .unset] [(.int (1 : Int32)), (.int (((p5.toUInt32 >>> ((3 : Int32) &&& 31).toUInt32).toInt32) &&& (3 : Int32)))])) (fun t k => XS.iconst X21.here hx rfl (hb hby at_96) k) ?_
  by_cases hc97_23 : (((p5.toUInt32 >>> ((3 : Int32) &&& 31).toUInt32).toInt32) &&& (3 : Int32)) = (1 : Int32)
  · refine own_pre (B := T21.setTop (mkF m 100 #[.val (.int p1), .val (.int p2), .val (.int p3), .val (.int p4), .val (.int p5), .val (.int p6), .val (.int ((p1 &&& (2147483647 : Int32)) % (100 : Int32))), .val (.int ((p2 &&& (2147483647 : Int32)) % (100 : Int32))), .val (.int z7), .val (.int z9), .val (.ref b12), .val (.ref b17), .val (.int (((p5.toUInt32 >>> ((3 : Int32) &&& 31).toUInt32).toInt32) &&& (3 : Int32))), .unset, .unset, .unset] [])) (fun t k => XS.icmpNo X21.here hx rfl (hb hby at_97) rfl (teq hc97_23).2 k) ?_
    refine own_pre (B := T21.setTop (mkF m 101 #[.val (.int p1), .val (.int p2), .val (.int p3), .val (.int p4), .val (.int p5), .val (.int p6), .val (.int ((p1 &&& (2147483647 : Int32)) % (100 : Int32))), .val (.int ((p2 &&& (2147483647 : Int32)) % (100 : Int32))), .val (.int z7), .val (.int z9), .val (.ref b12), .val (.ref b17), .val (.int (((p5.toUInt32 >>> ((3 : Int32) &&& 31).toUInt32).toInt32) &&& (3 : Int32))), .unset, .unset, .unset] [.null])) (fun t k => XS.aconstNull X21.here hx rfl (hb hby at_100) k) ?_
    refine own_pre (B := T21.setTop (mkF m 103 #[.val (.int p1), .val (.int p2), .val (.int p3), .val (.int p4), .val (.int p5), .val (.int p6), .val (.int ((p1 &&& (2147483647 : Int32)) % (100 : Int32))), .val (.int ((p2 &&& (2147483647 : Int32)) % (100 : Int32))), .val (.int z7), .val (.int z9), .val (.ref b12), .val (.ref b17), .val (.int (((p5.toUInt32 >>> ((3 : Int32) &&& 31).toUInt32).toInt32) &&& (3 : Int32))), .val .null, .unset, .unset] [])) (fun t k => XS.astore X21.here hx rfl (hb hby at_101) rfl rfl (l' := #[.val (.int p1), .val (.int p2), .val (.int p3), .val (.int p4), .val (.int p5), .val (.int p6), .val (.int ((p1 &&& (2147483647 : Int32)) % (100 : Int32))), .val (.int ((p2 &&& (2147483647 : Int32)) % (100 : Int32))), .val (.int z7), .val (.int z9), .val (.ref b12), .val (.ref b17), .val (.int (((p5.toUInt32 >>> ((3 : Int32) &&& 31).toUInt32).toInt32) &&& (3 : Int32))), .val .null, .unset, .unset]) rfl k) ?_
    refine own_pre (B := T21.setTop (mkF m 104 #[.val (.int p1), .val (.int p2), .val (.int p3), .val (.int p4), .val (.int p5), .val (.int p6), .val (.int ((p1 &&& (2147483647 : Int32)) % (100 : Int32))), .val (.int ((p2 &&& (2147483647 : Int32)) % (100 : Int32))), .val (.int z7), .val (.int z9), .val (.ref b12), .val (.ref b17), .val (.int (((p5.toUInt32 >>> ((3 : Int32) &&& 31).toUInt32).toInt32) &&& (3 : Int32))), .val .null, .unset, .unset] [(.int (0 : Int32))])) (fun t k => XS.iconst X21.here hx rfl (hb hby at_103) k) ?_
    refine own_pre (B := T21.setTop (mkF m 106 #[.val (.int p1), .val (.int p2), .val (.int p3), .val (.int p4), .val (.int p5), .val (.int p6), .val (.int ((p1 &&& (2147483647 : Int32)) % (100 : Int32))), .val (.int ((p2 &&& (2147483647 : Int32)) % (100 : Int32))), .val (.int z7), .val (.int z9), .val (.ref b12), .val (.ref b17), .val (.int (((p5.toUInt32 >>> ((3 : Int32) &&& 31).toUInt32).toInt32) &&& (3 : Int32))), .val .null, .val (.int (0 : Int32)), .unset] [])) (fun t k => XS.istore X21.here hx rfl (hb hby at_104) rfl (l' := #[.val (.int p1), .val (.int p2), .val (.int p3), .val (.int p4), .val (.int p5), .val (.int p6), .val (.int ((p1 &&& (2147483647 : Int32)) % (100 : Int32))), .val (.int ((p2 &&& (2147483647 : Int32)) % (100 : Int32))), .val (.int z7), .val (.int z9), .val (.ref b12), .val (.ref b17), .val (.int (((p5.toUInt32 >>> ((3 : Int32) &&& 31).toUInt32).toInt32) &&& (3 : Int32))), .val .null, .val (.int (0 : Int32)), .unset]) rfl k) ?_
    refine own_pre (B := T21.setTop (mkF m 205 #[.val (.int p1), .val (.int p2), .val (.int p3), .val (.int p4), .val (.int p5), .val (.int p6), .val (.int ((p1 &&& (2147483647 : Int32)) % (100 : Int32))), .val (.int ((p2 &&& (2147483647 : Int32)) % (100 : Int32))), .val (.int z7), .val (.int z9), .val (.ref b12), .val (.ref b17), .val (.int (((p5.toUInt32 >>> ((3 : Int32) &&& 31).toUInt32).toInt32) &&& (3 : Int32))), .val .null, .val (.int (0 : Int32)), .unset] [])) (fun t k => XS.goto X21.here hx rfl (pc0 := 106) (pc' := 205) rfl (hb hby at_106) (by decide) (by decide) k) ?_
    refine own_pre (B := T21.setTop (mkF m 207 #[.val (.int p1), .val (.int p2), .val (.int p3), .val (.int p4), .val (.int p5), .val (.int p6), .val (.int ((p1 &&& (2147483647 : Int32)) % (100 : Int32))), .val (.int ((p2 &&& (2147483647 : Int32)) % (100 : Int32))), .val (.int z7), .val (.int z9), .val (.ref b12), .val (.ref b17), .val (.int (((p5.toUInt32 >>> ((3 : Int32) &&& 31).toUInt32).toInt32) &&& (3 : Int32))), .val .null, .val (.int (0 : Int32)), .unset] [(.ref b12)])) (fun t k => XS.aload X21.here hx rfl (hb hby at_205) rfl rfl k) ?_
    refine own_pre (B := T21.setTop (mkF m 209 #[.val (.int p1), .val (.int p2), .val (.int p3), .val (.int p4), .val (.int p5), .val (.int p6), .val (.int ((p1 &&& (2147483647 : Int32)) % (100 : Int32))), .val (.int ((p2 &&& (2147483647 : Int32)) % (100 : Int32))), .val (.int z7), .val (.int z9), .val (.ref b12), .val (.ref b17), .val (.int (((p5.toUInt32 >>> ((3 : Int32) &&& 31).toUInt32).toInt32) &&& (3 : Int32))), .val .null, .val (.int (0 : Int32)), .unset] [.null, (.ref b12)])) (fun t k => XS.aload X21.here hx rfl (hb hby at_207) rfl rfl k) ?_
    have sz24 : n0 ≤ T21.heap.size := (Nat.le_trans sz20 K21.1)
    have c26 := (Exa.keep (q14_0.ext E17) K21)
    obtain ⟨cq25, kq25, q25a, q25b, q25c⟩ := isOf hZ rfl c26
    obtain ⟨_, _, ⟨T25, L25, k25, n25⟩, -, X25, ⟨Lc25, hQ25, l25, y25, z25⟩, st25⟩ := X21.virtualBack hx (y := (⟨"com/example/rikusen/rikusen/core/Hex", "equals", "(Ljava/lang/Object;)Z"⟩ : MethodName)) (z := (⟨"com/example/rikusen/rikusen/core/Hex", "equals", "(Ljava/lang/Object;)Z"⟩ : MethodName)) hown (mvT hZ (hw _ (ow 22 rfl))) (mvT hZ (hw _ (ow 23 rfl))) (notFace_of_selects (args := #[]) (mvT hZ (hw _ (ow 25 rfl)))) (mvT hZ (hw _ (ow 25 rfl))) (mvT hZ (hw _ (ow 24 rfl))) (by decide) (backOf (W := 0) (rm5n l Z a0 hw [] b12 T21.heap n0 sz24 ) hZ (hw _ (ow 26 rfl)) (hw _ (ow 3 rfl)) (by decide) (by decide)) q25a q25c (g := (mkF m 209 #[.val (.int p1), .val (.int p2), .val (.int p3), .val (.int p4), .val (.int p5), .val (.int p6), .val (.int ((p1 &&& (2147483647 : Int32)) % (100 : Int32))), .val (.int ((p2 &&& (2147483647 : Int32)) % (100 : Int32))), .val (.int z7), .val (.int z9), .val (.ref b12), .val (.ref b17), .val (.int (((p5.toUInt32 >>> ((3 : Int32) &&& 31).toUInt32).toInt32) &&& (3 : Int32))), .val .null, .val (.int (0 : Int32)), .unset] [.null, (.ref b12)])) rfl (by rw [hml]; rfl) (Steps.refl _) (argsL := [.null]) (rest := []) (lenOf pd_7 rfl) rfl (by show 2 * 0 + _ ≤ _; exact Nat.le_of_eq rfl) (hb hby at_209) (fun _ _ => ⟨rfl, rfl, (by decide : 2 + 0 ≤ _), (by decide : 4 + 0 ≤ _)⟩)
    dsimp only [Pt.U, Pt.locs, Pt.cells, Pt.slots] at X25 l25 y25 z25 st25 hQ25
    subst l25 y25 z25
    obtain ⟨rfl, N25q, e25⟩ := hQ25
    have N25 := Fr.app N21 N25q
    refine own_pre (B := T25.setTop (mkF m 212 #[.val (.int p1), .val (.int p2), .val (.int p3), .val (.int p4), .val (.int p5), .val (.int p6), .val (.int ((p1 &&& (2147483647 : Int32)) % (100 : Int32))), .val (.int ((p2 &&& (2147483647 : Int32)) % (100 : Int32))), .val (.int z7), .val (.int z9), .val (.ref b12), .val (.ref b17), .val (.int (((p5.toUInt32 >>> ((3 : Int32) &&& 31).toUInt32).toInt32) &&& (3 : Int32))), .val .null, .val (.int (0 : Int32)), .unset] [(.int own_f5n)])) (fun t k => st25.trans k) ?_
    refine own_pre (B := T25.setTop (mkF m 214 #[.val (.int p1), .val (.int p2), .val (.int p3), .val (.int p4), .val (.int p5), .val (.int p6), .val (.int ((p1 &&& (2147483647 : Int32)) % (100 : Int32))), .val (.int ((p2 &&& (2147483647 : Int32)) % (100 : Int32))), .val (.int z7), .val (.int z9), .val (.ref b12), .val (.ref b17), .val (.int (((p5.toUInt32 >>> ((3 : Int32) &&& 31).toUInt32).toInt32) &&& (3 : Int32))), .val .null, .val (.int (0 : Int32)), .unset] [(.int (0 : Int32)), (.int own_f5n)])) (fun t k => XS.iload X25.here hx rfl (hb hby at_212) rfl k) ?_
    refine own_pre (B := T25.setTop (mkF m 217 #[.val (.int p1), .val (.int p2), .val (.int p3), .val (.int p4), .val (.int p5), .val (.int p6), .val (.int ((p1 &&& (2147483647 : Int32)) % (100 : Int32))), .val (.int ((p2 &&& (2147483647 : Int32)) % (100 : Int32))), .val (.int z7), .val (.int z9), .val (.ref b12), .val (.ref b17), .val (.int (((p5.toUInt32 >>> ((3 : Int32) &&& 31).toUInt32).toInt32) &&& (3 : Int32))), .val .null, .val (.int (0 : Int32)), .unset] [])) (fun t k => XS.icmpNo X25.here hx rfl (hb hby at_214) rfl (teq (by rfl : own_f5n = (0 : Int32))).2 k) ?_
    refine own_pre (B := T25.setTop (mkF m 218 #[.val (.int p1), .val (.int p2), .val (.int p3), .val (.int p4), .val (.int p5), .val (.int p6), .val (.int ((p1 &&& (2147483647 : Int32)) % (100 : Int32))), .val (.int ((p2 &&& (2147483647 : Int32)) % (100 : Int32))), .val (.int z7), .val (.int z9), .val (.ref b12), .val (.ref b17), .val (.int (((p5.toUInt32 >>> ((3 : Int32) &&& 31).toUInt32).toInt32) &&& (3 : Int32))), .val .null, .val (.int (0 : Int32)), .unset] [(.int (1 : Int32))])) (fun t k => XS.iconst X25.here hx rfl (hb hby at_217) k) ?_
    refine own_pre (B := T25.setTop (mkF m 222 #[.val (.int p1), .val (.int p2), .val (.int p3), .val (.int p4), .val (.int p5), .val (.int p6), .val (.int ((p1 &&& (2147483647 : Int32)) % (100 : Int32))), .val (.int ((p2 &&& (2147483647 : Int32)) % (100 : Int32))), .val (.int z7), .val (.int z9), .val (.ref b12), .val (.ref b17), .val (.int (((p5.toUInt32 >>> ((3 : Int32) &&& 31).toUInt32).toInt32) &&& (3 : Int32))), .val .null, .val (.int (0 : Int32)), .unset] [(.int (1 : Int32))])) (fun t k => XS.goto X25.here hx rfl (pc0 := 218) (pc' := 222) rfl (hb hby at_218) (by decide) (by decide) k) ?_
    refine own_pre (B := T25.setTop (mkF m 224 #[.val (.int p1), .val (.int p2), .val (.int p3), .val (.int p4), .val (.int p5), .val (.int p6), .val (.int ((p1 &&& (2147483647 : Int32)) % (100 : Int32))), .val (.int ((p2 &&& (2147483647 : Int32)) % (100 : Int32))), .val (.int z7), .val (.int z9), .val (.ref b12), .val (.ref b17), .val (.int (((p5.toUInt32 >>> ((3 : Int32) &&& 31).toUInt32).toInt32) &&& (3 : Int32))), .val .null, .val (.int (0 : Int32)), .val (.int (1 : Int32))] [])) (fun t k => XS.istore X25.here hx rfl (hb hby at_222) rfl (l' := #[.val (.int p1), .val (.int p2), .val (.int p3), .val (.int p4), .val (.int p5), .val (.int p6), .val (.int ((p1 &&& (2147483647 : Int32)) % (100 : Int32))), .val (.int ((p2 &&& (2147483647 : Int32)) % (100 : Int32))), .val (.int z7), .val (.int z9), .val (.ref b12), .val (.ref b17), .val (.int (((p5.toUInt32 >>> ((3 : Int32) &&& 31).toUInt32).toInt32) &&& (3 : Int32))), .val .null, .val (.int (0 : Int32)), .val (.int (1 : Int32))]) rfl k) ?_
    refine own_pre (B := T25.setTop (mkF m 226 #[.val (.int p1), .val (.int p2), .val (.int p3), .val (.int p4), .val (.int p5), .val (.int p6), .val (.int ((p1 &&& (2147483647 : Int32)) % (100 : Int32))), .val (.int ((p2 &&& (2147483647 : Int32)) % (100 : Int32))), .val (.int z7), .val (.int z9), .val (.ref b12), .val (.ref b17), .val (.int (((p5.toUInt32 >>> ((3 : Int32) &&& 31).toUInt32).toInt32) &&& (3 : Int32))), .val .null, .val (.int (0 : Int32)), .val (.int (1 : Int32))] [(.int (((p5.toUInt32 >>> ((3 : Int32) &&& 31).toUInt32).toInt32) &&& (3 : Int32)))])) (fun t k => XS.iload X25.here hx rfl (hb hby at_224) rfl k) ?_
    refine own_pre (B := T25.setTop (mkF m 263 #[.val (.int p1), .val (.int p2), .val (.int p3), .val (.int p4), .val (.int p5), .val (.int p6), .val (.int ((p1 &&& (2147483647 : Int32)) % (100 : Int32))), .val (.int ((p2 &&& (2147483647 : Int32)) % (100 : Int32))), .val (.int z7), .val (.int z9), .val (.ref b12), .val (.ref b17), .val (.int (((p5.toUInt32 >>> ((3 : Int32) &&& 31).toUInt32).toInt32) &&& (3 : Int32))), .val .null, .val (.int (0 : Int32)), .val (.int (1 : Int32))] [])) (fun t k => XS.ifYes X25.here hx rfl (pc0 := 226) (pc' := 263) rfl (hb hby at_226) rfl ((if0 _ _).trans (feq (by rw [hc97_23]; decide)).2) (by decide) (by decide) k) ?_
    refine own_pre (B := T25.setTop (mkF m 265 #[.val (.int p1), .val (.int p2), .val (.int p3), .val (.int p4), .val (.int p5), .val (.int p6), .val (.int ((p1 &&& (2147483647 : Int32)) % (100 : Int32))), .val (.int ((p2 &&& (2147483647 : Int32)) % (100 : Int32))), .val (.int z7), .val (.int z9), .val (.ref b12), .val (.ref b17), .val (.int (((p5.toUInt32 >>> ((3 : Int32) &&& 31).toUInt32).toInt32) &&& (3 : Int32))), .val .null, .val (.int (0 : Int32)), .val (.int (1 : Int32))] [(.int (1 : Int32))])) (fun t k => XS.iload X25.here hx rfl (hb hby at_263) rfl k) ?_
    obtain ⟨fsr27, hrr27, hrunr27, hendedr27, hWr27, hsamer27⟩ := X25.leave (v := some (.int (1 : Int32))) (fun h => by rw [Bd.returns] at h; cases h)
    refine ⟨_, _, (retN X25 hx (t := .boolean) Bd.returns (by simp) (hb hby at_265) hrr27), hrunr27, hendedr27, _, _, rfl, ?_, ⟨_, rfl⟩, hWr27, hsamer27.mono (by decide) (by decide)⟩
    show Q0 Z p1 p2 p3 p4 p5 p6 ca cc cs h0 n0 _ T25.heap _
    rw [e25]
    exact ⟨rfl, N25⟩
  · refine own_pre (B := T21.setTop (mkF m 109 #[.val (.int p1), .val (.int p2), .val (.int p3), .val (.int p4), .val (.int p5), .val (.int p6), .val (.int ((p1 &&& (2147483647 : Int32)) % (100 : Int32))), .val (.int ((p2 &&& (2147483647 : Int32)) % (100 : Int32))), .val (.int z7), .val (.int z9), .val (.ref b12), .val (.ref b17), .val (.int (((p5.toUInt32 >>> ((3 : Int32) &&& 31).toUInt32).toInt32) &&& (3 : Int32))), .unset, .unset, .unset] [])) (fun t k => XS.icmpYes X21.here hx rfl (pc0 := 97) (pc' := 109) rfl (hb hby at_97) rfl (feq hc97_23).2 (by decide) (by decide) k) ?_
    refine own_pre (B := T21.setTop (mkF m 111 #[.val (.int p1), .val (.int p2), .val (.int p3), .val (.int p4), .val (.int p5), .val (.int p6), .val (.int ((p1 &&& (2147483647 : Int32)) % (100 : Int32))), .val (.int ((p2 &&& (2147483647 : Int32)) % (100 : Int32))), .val (.int z7), .val (.int z9), .val (.ref b12), .val (.ref b17), .val (.int (((p5.toUInt32 >>> ((3 : Int32) &&& 31).toUInt32).toInt32) &&& (3 : Int32))), .unset, .unset, .unset] [(.int (((p5.toUInt32 >>> ((3 : Int32) &&& 31).toUInt32).toInt32) &&& (3 : Int32)))])) (fun t k => XS.iload X21.here hx rfl (hb hby at_109) rfl k) ?_
    refine own_pre (B := T21.setTop (mkF m 112 #[.val (.int p1), .val (.int p2), .val (.int p3), .val (.int p4), .val (.int p5), .val (.int p6), .val (.int ((p1 &&& (2147483647 : Int32)) % (100 : Int32))), .val (.int ((p2 &&& (2147483647 : Int32)) % (100 : Int32))), .val (.int z7), .val (.int z9), .val (.ref b12), .val (.ref b17), .val (.int (((p5.toUInt32 >>> ((3 : Int32) &&& 31).toUInt32).toInt32) &&& (3 : Int32))), .unset, .unset, .unset] [(.int (2 : Int32)), (.int (((p5.toUInt32 >>> ((3 : Int32) &&& 31).toUInt32).toInt32) &&& (3 : Int32)))])) (fun t k => XS.iconst X21.here hx rfl (hb hby at_111) k) ?_
    by_cases hc112_28 : (((p5.toUInt32 >>> ((3 : Int32) &&& 31).toUInt32).toInt32) &&& (3 : Int32)) = (2 : Int32)
    · refine own_pre (B := T21.setTop (mkF m 115 #[.val (.int p1), .val (.int p2), .val (.int p3), .val (.int p4), .val (.int p5), .val (.int p6), .val (.int ((p1 &&& (2147483647 : Int32)) % (100 : Int32))), .val (.int ((p2 &&& (2147483647 : Int32)) % (100 : Int32))), .val (.int z7), .val (.int z9), .val (.ref b12), .val (.ref b17), .val (.int (((p5.toUInt32 >>> ((3 : Int32) &&& 31).toUInt32).toInt32) &&& (3 : Int32))), .unset, .unset, .unset] [])) (fun t k => XS.icmpNo X21.here hx rfl (hb hby at_112) rfl (teq hc112_28).2 k) ?_
      have K29 : Keep h0 T21.heap [] := (Keep.trans K22 K21 (allS (P := fun x => x ∈ [] ∨ h0.size ≤ x) (Or.inr s_b17) all0))
      obtain ⟨T30, h30, X30, e30, E30, A30, D30, -, st30⟩ := newO X21 hx hZ hown (hw _ (ow 53 rfl)) (hw _ (ow 54 rfl)) (hw _ (ow 55 rfl)) rfl (g := (mkF m 115 #[.val (.int p1), .val (.int p2), .val (.int p3), .val (.int p4), .val (.int p5), .val (.int p6), .val (.int ((p1 &&& (2147483647 : Int32)) % (100 : Int32))), .val (.int ((p2 &&& (2147483647 : Int32)) % (100 : Int32))), .val (.int z7), .val (.int z9), .val (.ref b12), .val (.ref b17), .val (.int (((p5.toUInt32 >>> ((3 : Int32) &&& 31).toUInt32).toInt32) &&& (3 : Int32))), .unset, .unset, .unset] [])) rfl (hb hby at_115) (by decide) (by decide)
      have sz31 : n0 ≤ T21.heap.size := (Nat.le_trans sz20 K21.1)
      obtain ⟨b30, g30⟩ : ∃ z, z = T21.heap.size := ⟨_, rfl⟩
      rw [← g30] at A30 D30 st30
      have g_b30 : n0 ≤ b30 := Nat.le_trans sz31 (Nat.le_of_eq g30.symm)
      have s_b30 : h0.size ≤ b30 := Nat.le_trans K29.1 (Nat.le_of_eq g30.symm)
      have c32 := (Exa.keep (q14_0.ext E17) K21)
      have ne33 : b12 ≠ b30 := Nat.ne_of_lt (Nat.lt_of_lt_of_le (Exa.lt c32) (Nat.le_of_eq g30.symm))
      have ne34 : b17 ≠ b30 := Nat.ne_of_lt (Nat.lt_of_lt_of_le (Exa.lt q21_0) (Nat.le_of_eq g30.symm))
      have F_id_b30 : Fld Z h30 b30 "com/example/rikusen/rikusen/core/Box" "id" "Ljava/lang/String;" .null := D30 (Or.inr (hw _ (ow 85 rfl))) (ty := (.object "java/lang/String")) (by decide)
      have F_name_b30 : Fld Z h30 b30 "com/example/rikusen/rikusen/core/Box" "name" "Ljava/lang/String;" .null := D30 (Or.inr (hw _ (ow 87 rfl))) (ty := (.object "java/lang/String")) (by decide)
      have F_anchor_b30 : Fld Z h30 b30 "com/example/rikusen/rikusen/core/Box" "anchor" "Lcom/example/rikusen/rikusen/core/Hex;" .null := D30 (Or.inr (hw _ (ow 89 rfl))) (ty := (.object "com/example/rikusen/rikusen/core/Hex")) (by decide)
      refine own_pre (B := T30.setTop (mkF m 118 #[.val (.int p1), .val (.int p2), .val (.int p3), .val (.int p4), .val (.int p5), .val (.int p6), .val (.int ((p1 &&& (2147483647 : Int32)) % (100 : Int32))), .val (.int ((p2 &&& (2147483647 : Int32)) % (100 : Int32))), .val (.int z7), .val (.int z9), .val (.ref b12), .val (.ref b17), .val (.int (((p5.toUInt32 >>> ((3 : Int32) &&& 31).toUInt32).toInt32) &&& (3 : Int32))), .unset, .unset, .unset] [(.ref b30)])) (fun t k => st30 t k) ?_
      refine own_pre (B := T30.setTop (mkF m 119 #[.val (.int p1), .val (.int p2), .val (.int p3), .val (.int p4), .val (.int p5), .val (.int p6), .val (.int ((p1 &&& (2147483647 : Int32)) % (100 : Int32))), .val (.int ((p2 &&& (2147483647 : Int32)) % (100 : Int32))), .val (.int z7), .val (.int z9), .val (.ref b12), .val (.ref b17), .val (.int (((p5.toUInt32 >>> ((3 : Int32) &&& 31).toUInt32).toInt32) &&& (3 : Int32))), .unset, .unset, .unset] [(.ref b30), (.ref b30)])) (fun t k => XS.dup X30.here hx rfl (hb hby at_118) rfl rfl k) ?_
      refine own_pre (B := T30.setTop (mkF m 121 #[.val (.int p1), .val (.int p2), .val (.int p3), .val (.int p4), .val (.int p5), .val (.int p6), .val (.int ((p1 &&& (2147483647 : Int32)) % (100 : Int32))), .val (.int ((p2 &&& (2147483647 : Int32)) % (100 : Int32))), .val (.int z7), .val (.int z9), .val (.ref b12), .val (.ref b17), .val (.int (((p5.toUInt32 >>> ((3 : Int32) &&& 31).toUInt32).toInt32) &&& (3 : Int32))), .unset, .unset, .unset] [(.int p6), (.ref b30), (.ref b30)])) (fun t k => XS.iload X30.here hx rfl (hb hby at_119) rfl k) ?_
      refine own_pre (B := T30.setTop (mkF m 124 #[.val (.int p1), .val (.int p2), .val (.int p3), .val (.int p4), .val (.int p5), .val (.int p6), .val (.int ((p1 &&& (2147483647 : Int32)) % (100 : Int32))), .val (.int ((p2 &&& (2147483647 : Int32)) % (100 : Int32))), .val (.int z7), .val (.int z9), .val (.ref b12), .val (.ref b17), .val (.int (((p5.toUInt32 >>> ((3 : Int32) &&& 31).toUInt32).toInt32) &&& (3 : Int32))), .unset, .unset, .unset] [(.int (255 : Int32)), (.int p6), (.ref b30), (.ref b30)])) (fun t k => XS.sipush X30.here hx rfl (hb hby at_121) k) ?_
      refine own_pre (B := T30.setTop (mkF m 125 #[.val (.int p1), .val (.int p2), .val (.int p3), .val (.int p4), .val (.int p5), .val (.int p6), .val (.int ((p1 &&& (2147483647 : Int32)) % (100 : Int32))), .val (.int ((p2 &&& (2147483647 : Int32)) % (100 : Int32))), .val (.int z7), .val (.int z9), .val (.ref b12), .val (.ref b17), .val (.int (((p5.toUInt32 >>> ((3 : Int32) &&& 31).toUInt32).toInt32) &&& (3 : Int32))), .unset, .unset, .unset] [(.int (p6 &&& (255 : Int32))), (.ref b30), (.ref b30)])) (fun t k => XS.iand X30.here hx rfl (hb hby at_124) rfl k) ?_
      refine own_pre (B := T30.setTop (mkF m 126 #[.val (.int p1), .val (.int p2), .val (.int p3), .val (.int p4), .val (.int p5), .val (.int p6), .val (.int ((p1 &&& (2147483647 : Int32)) % (100 : Int32))), .val (.int ((p2 &&& (2147483647 : Int32)) % (100 : Int32))), .val (.int z7), .val (.int z9), .val (.ref b12), .val (.ref b17), .val (.int (((p5.toUInt32 >>> ((3 : Int32) &&& 31).toUInt32).toInt32) &&& (3 : Int32))), .unset, .unset, .unset] [(.int ((p6 &&& (255 : Int32)).toUInt32.toUInt16.toUInt32.toInt32)), (.ref b30), (.ref b30)])) (fun t k => XS.i2c X30.here hx rfl (hb hby at_125) rfl k) ?_
      have O35 := (Old.ext (Old.keep (Old.ext (Old.keep (Old.ext O0 E12) K14 (allS (P := fun x => n0 ≤ x) g_b12 all0)) E17) K21 (allS (P := fun x => n0 ≤ x) g_b17 all0)) E30)
      have sz36 : n0 ≤ h30.size := (Nat.le_trans sz31 E30.1)
      obtain ⟨_, _, ⟨T37, L37, k37, n37⟩, -, X37, ⟨Lc37, hQ37, l37, y37, z37⟩, st37⟩ := Jvm.LawKit.callS X30 hx (y := (⟨"java/lang/String", "valueOf", "(C)Ljava/lang/String;"⟩ : MethodName)) hown (mvT hZ (hw _ (ow 56 rfl))) (mvT hZ (hw _ (ow 57 rfl))) (mvT hZ (hw _ (ow 58 rfl))) (mvT hZ (hw _ (ow 59 rfl))) (by decide) (backOf (W := 2) (rm9 l Z a0 hw [] ((p6 &&& (255 : Int32)).toUInt32.toUInt16.toUInt32.toInt32) cs h30 n0 sz36 O35 SCS hcs (own_lat _)) hZ (hw _ (ow 59 rfl)) (hw _ (ow 58 rfl)) (by decide) (by decide)) (g := (mkF m 126 #[.val (.int p1), .val (.int p2), .val (.int p3), .val (.int p4), .val (.int p5), .val (.int p6), .val (.int ((p1 &&& (2147483647 : Int32)) % (100 : Int32))), .val (.int ((p2 &&& (2147483647 : Int32)) % (100 : Int32))), .val (.int z7), .val (.int z9), .val (.ref b12), .val (.ref b17), .val (.int (((p5.toUInt32 >>> ((3 : Int32) &&& 31).toUInt32).toInt32) &&& (3 : Int32))), .unset, .unset, .unset] [(.int ((p6 &&& (255 : Int32)).toUInt32.toUInt16.toUInt32.toInt32)), (.ref b30), (.ref b30)])) rfl (by rw [hml]; rfl) (argsL := [(.int ((p6 &&& (255 : Int32)).toUInt32.toUInt16.toUInt32.toInt32))]) (rest := [(.ref b30), (.ref b30)]) (lenOf pd_8 rfl) rfl (by show 2 * 0 + _ ≤ _; exact Nat.le_of_eq rfl) (hb hby at_126) (fun _ _ => ⟨rfl, e30, (by decide : 3 + 2 ≤ _), (by decide : 7 + 5 ≤ _)⟩)
      dsimp only [Pt.U, Pt.locs, Pt.cells, Pt.slots] at X37 l37 y37 z37 st37 hQ37
      subst l37 y37 z37
      obtain ⟨b5_37, b3_7_37, k3_7_37, rfl, N37q, K37, q37_0, q37_1, q37_2, q37_3, q37_4, q37_5, q37_6, q37_7, q37_8⟩ := hQ37
      have N37 := Fr.app N21 N37q
      have K38 : Keep h0 h30 [] := (Keep.ext K29 E30)
      have c39 := (c32.ext E30)
      have ne40 : b12 ≠ b5_37 := Nat.ne_of_lt (Nat.lt_of_lt_of_le (Exa.lt c39) q37_1)
      have c41 := (q21_0.ext E30)
      have ne42 : b17 ≠ b5_37 := Nat.ne_of_lt (Nat.lt_of_lt_of_le (Exa.lt c41) q37_1)
      have ne43 : b30 ≠ b5_37 := Nat.ne_of_lt (Nat.lt_of_lt_of_le (Exa.lt A30) q37_1)
      have s_b5_37 : h0.size ≤ b5_37 := Nat.le_trans K38.1 q37_1
      have ne44 : b12 ≠ b3_7_37 := Nat.ne_of_lt (Nat.lt_of_lt_of_le (Exa.lt c39) q37_6)
      have ne45 : b17 ≠ b3_7_37 := Nat.ne_of_lt (Nat.lt_of_lt_of_le (Exa.lt c41) q37_6)
      have ne46 : b30 ≠ b3_7_37 := Nat.ne_of_lt (Nat.lt_of_lt_of_le (Exa.lt A30) q37_6)
      have s_b3_7_37 : h0.size ≤ b3_7_37 := Nat.le_trans K38.1 q37_6
      refine own_pre (B := T37.setTop (mkF m 129 #[.val (.int p1), .val (.int p2), .val (.int p3), .val (.int p4), .val (.int p5), .val (.int p6), .val (.int ((p1 &&& (2147483647 : Int32)) % (100 : Int32))), .val (.int ((p2 &&& (2147483647 : Int32)) % (100 : Int32))), .val (.int z7), .val (.int z9), .val (.ref b12), .val (.ref b17), .val (.int (((p5.toUInt32 >>> ((3 : Int32) &&& 31).toUInt32).toInt32) &&& (3 : Int32))), .unset, .unset, .unset] [(.ref b5_37), (.ref b30), (.ref b30)])) (fun t k => st37 t k) ?_
      refine own_pre (B := T37.setTop (mkF m 131 #[.val (.int p1), .val (.int p2), .val (.int p3), .val (.int p4), .val (.int p5), .val (.int p6), .val (.int ((p1 &&& (2147483647 : Int32)) % (100 : Int32))), .val (.int ((p2 &&& (2147483647 : Int32)) % (100 : Int32))), .val (.int z7), .val (.int z9), .val (.ref b12), .val (.ref b17), .val (.int (((p5.toUInt32 >>> ((3 : Int32) &&& 31).toUInt32).toInt32) &&& (3 : Int32))), .unset, .unset, .unset] [(.int p6), (.ref b5_37), (.ref b30), (.ref b30)])) (fun t k => XS.iload X37.here hx rfl (hb hby at_129) rfl k) ?_
      refine own_pre (B := T37.setTop (mkF m 133 #[.val (.int p1), .val (.int p2), .val (.int p3), .val (.int p4), .val (.int p5), .val (.int p6), .val (.int ((p1 &&& (2147483647 : Int32)) % (100 : Int32))), .val (.int ((p2 &&& (2147483647 : Int32)) % (100 : Int32))), .val (.int z7), .val (.int z9), .val (.ref b12), .val (.ref b17), .val (.int (((p5.toUInt32 >>> ((3 : Int32) &&& 31).toUInt32).toInt32) &&& (3 : Int32))), .unset, .unset, .unset] [(.int (8 : Int32)), (.int p6), (.ref b5_37), (.ref b30), (.ref b30)])) (fun t k => XS.bipush X37.here hx rfl (hb hby at_131) k) ?_
      refine own_pre (B := T37.setTop (mkF m 134 #[.val (.int p1), .val (.int p2), .val (.int p3), .val (.int p4), .val (.int p5), .val (.int p6), .val (.int ((p1 &&& (2147483647 : Int32)) % (100 : Int32))), .val (.int ((p2 &&& (2147483647 : Int32)) % (100 : Int32))), .val (.int z7), .val (.int z9), .val (.ref b12), .val (.ref b17), .val (.int (((p5.toUInt32 >>> ((3 : Int32) &&& 31).toUInt32).toInt32) &&& (3 : Int32))), .unset, .unset, .unset] [(.int ((p6.toUInt32 >>> ((8 : Int32) &&& 31).toUInt32).toInt32)), (.ref b5_37), (.ref b30), (.ref b30)])) (fun t k => XS.iushr X37.here hx rfl (hb hby at_133) rfl k) ?_
      refine own_pre (B := T37.setTop (mkF m 137 #[.val (.int p1), .val (.int p2), .val (.int p3), .val (.int p4), .val (.int p5), .val (.int p6), .val (.int ((p1 &&& (2147483647 : Int32)) % (100 : Int32))), .val (.int ((p2 &&& (2147483647 : Int32)) % (100 : Int32))), .val (.int z7), .val (.int z9), .val (.ref b12), .val (.ref b17), .val (.int (((p5.toUInt32 >>> ((3 : Int32) &&& 31).toUInt32).toInt32) &&& (3 : Int32))), .unset, .unset, .unset] [(.int (255 : Int32)), (.int ((p6.toUInt32 >>> ((8 : Int32) &&& 31).toUInt32).toInt32)), (.ref b5_37), (.ref b30), (.ref b30)])) (fun t k => XS.sipush X37.here hx rfl (hb hby at_134) k) ?_
      refine own_pre (B := T37.setTop (mkF m 138 #[.val (.int p1), .val (.int p2), .val (.int p3), .val (.int p4), .val (.int p5), .val (.int p6), .val (.int ((p1 &&& (2147483647 : Int32)) % (100 : Int32))), .val (.int ((p2 &&& (2147483647 : Int32)) % (100 : Int32))), .val (.int z7), .val (.int z9), .val (.ref b12), .val (.ref b17), .val (.int (((p5.toUInt32 >>> ((3 : Int32) &&& 31).toUInt32).toInt32) &&& (3 : Int32))), .unset, .unset, .unset] [(.int (((p6.toUInt32 >>> ((8 : Int32) &&& 31).toUInt32).toInt32) &&& (255 : Int32))), (.ref b5_37), (.ref b30), (.ref b30)])) (fun t k => XS.iand X37.here hx rfl (hb hby at_137) rfl k) ?_
      refine own_pre (B := T37.setTop (mkF m 139 #[.val (.int p1), .val (.int p2), .val (.int p3), .val (.int p4), .val (.int p5), .val (.int p6), .val (.int ((p1 &&& (2147483647 : Int32)) % (100 : Int32))), .val (.int ((p2 &&& (2147483647 : Int32)) % (100 : Int32))), .val (.int z7), .val (.int z9), .val (.ref b12), .val (.ref b17), .val (.int (((p5.toUInt32 >>> ((3 : Int32) &&& 31).toUInt32).toInt32) &&& (3 : Int32))), .unset, .unset, .unset] [(.int ((((p6.toUInt32 >>> ((8 : Int32) &&& 31).toUInt32).toInt32) &&& (255 : Int32)).toUInt32.toUInt16.toUInt32.toInt32)), (.ref b5_37), (.ref b30), (.ref b30)])) (fun t k => XS.i2c X37.here hx rfl (hb hby at_138) rfl k) ?_
      have O47 := (Old.keep O35 K37 all0)
      have sz48 : n0 ≤ T37.heap.size := (Nat.le_trans sz36 K37.1)
      obtain ⟨_, _, ⟨T49, L49, k49, n49⟩, -, X49, ⟨Lc49, hQ49, l49, y49, z49⟩, st49⟩ := Jvm.LawKit.callS X37 hx (y := (⟨"java/lang/String", "valueOf", "(C)Ljava/lang/String;"⟩ : MethodName)) hown (mvT hZ (hw _ (ow 56 rfl))) (mvT hZ (hw _ (ow 57 rfl))) (mvT hZ (hw _ (ow 58 rfl))) (mvT hZ (hw _ (ow 59 rfl))) (by decide) (backOf (W := 3) (rm9 l Z a0 hw [] ((((p6.toUInt32 >>> ((8 : Int32) &&& 31).toUInt32).toInt32) &&& (255 : Int32)).toUInt32.toUInt16.toUInt32.toInt32) cs T37.heap n0 sz48 O47 SCS hcs (own_lat _)) hZ (hw _ (ow 59 rfl)) (hw _ (ow 58 rfl)) (by decide) (by decide)) (g := (mkF m 139 #[.val (.int p1), .val (.int p2), .val (.int p3), .val (.int p4), .val (.int p5), .val (.int p6), .val (.int ((p1 &&& (2147483647 : Int32)) % (100 : Int32))), .val (.int ((p2 &&& (2147483647 : Int32)) % (100 : Int32))), .val (.int z7), .val (.int z9), .val (.ref b12), .val (.ref b17), .val (.int (((p5.toUInt32 >>> ((3 : Int32) &&& 31).toUInt32).toInt32) &&& (3 : Int32))), .unset, .unset, .unset] [(.int ((((p6.toUInt32 >>> ((8 : Int32) &&& 31).toUInt32).toInt32) &&& (255 : Int32)).toUInt32.toUInt16.toUInt32.toInt32)), (.ref b5_37), (.ref b30), (.ref b30)])) rfl (by rw [hml]; rfl) (argsL := [(.int ((((p6.toUInt32 >>> ((8 : Int32) &&& 31).toUInt32).toInt32) &&& (255 : Int32)).toUInt32.toUInt16.toUInt32.toInt32))]) (rest := [(.ref b5_37), (.ref b30), (.ref b30)]) (lenOf pd_8 rfl) rfl (by show 2 * 0 + _ ≤ _; exact Nat.le_of_eq rfl) (hb hby at_139) (fun _ _ => ⟨rfl, rfl, (by decide : 5 + 2 ≤ _), (by decide : 12 + 5 ≤ _)⟩)
      dsimp only [Pt.U, Pt.locs, Pt.cells, Pt.slots] at X49 l49 y49 z49 st49 hQ49
      subst l49 y49 z49
      obtain ⟨b5_49, b3_7_49, k3_7_49, rfl, N49q, K49, q49_0, q49_1, q49_2, q49_3, q49_4, q49_5, q49_6, q49_7, q49_8⟩ := hQ49
      have N49 := Fr.app N37 N49q
      have K50 : Keep h0 T37.heap [] := (Keep.trans K38 K37 all0)
      have c51 := (Exa.keep c39 K37)
      have ne52 : b12 ≠ b5_49 := Nat.ne_of_lt (Nat.lt_of_lt_of_le (Exa.lt c51) q49_1)
      have c53 := (Exa.keep c41 K37)
      have ne54 : b17 ≠ b5_49 := Nat.ne_of_lt (Nat.lt_of_lt_of_le (Exa.lt c53) q49_1)
      have c55 := (Exa.keep A30 K37)
      have ne56 : b30 ≠ b5_49 := Nat.ne_of_lt (Nat.lt_of_lt_of_le (Exa.lt c55) q49_1)
      have ne57 : b5_37 ≠ b5_49 := Nat.ne_of_lt (Nat.lt_of_lt_of_le (Exa.lt q37_2) q49_1)
      have ne58 : b3_7_37 ≠ b5_49 := Nat.ne_of_lt (Nat.lt_of_lt_of_le (Arv.lt q37_7) q49_1)
      have s_b5_49 : h0.size ≤ b5_49 := Nat.le_trans K50.1 q49_1
      have ne59 : b12 ≠ b3_7_49 := Nat.ne_of_lt (Nat.lt_of_lt_of_le (Exa.lt c51) q49_6)
      have ne60 : b17 ≠ b3_7_49 := Nat.ne_of_lt (Nat.lt_of_lt_of_le (Exa.lt c53) q49_6)
      have ne61 : b30 ≠ b3_7_49 := Nat.ne_of_lt (Nat.lt_of_lt_of_le (Exa.lt c55) q49_6)
      have ne62 : b5_37 ≠ b3_7_49 := Nat.ne_of_lt (Nat.lt_of_lt_of_le (Exa.lt q37_2) q49_6)
      have ne63 : b3_7_37 ≠ b3_7_49 := Nat.ne_of_lt (Nat.lt_of_lt_of_le (Arv.lt q37_7) q49_6)
      have s_b3_7_49 : h0.size ≤ b3_7_49 := Nat.le_trans K50.1 q49_6
      refine own_pre (B := T49.setTop (mkF m 142 #[.val (.int p1), .val (.int p2), .val (.int p3), .val (.int p4), .val (.int p5), .val (.int p6), .val (.int ((p1 &&& (2147483647 : Int32)) % (100 : Int32))), .val (.int ((p2 &&& (2147483647 : Int32)) % (100 : Int32))), .val (.int z7), .val (.int z9), .val (.ref b12), .val (.ref b17), .val (.int (((p5.toUInt32 >>> ((3 : Int32) &&& 31).toUInt32).toInt32) &&& (3 : Int32))), .unset, .unset, .unset] [(.ref b5_49), (.ref b5_37), (.ref b30), (.ref b30)])) (fun t k => st49 t k) ?_
      refine own_pre (B := T49.setTop (mkF m 144 #[.val (.int p1), .val (.int p2), .val (.int p3), .val (.int p4), .val (.int p5), .val (.int p6), .val (.int ((p1 &&& (2147483647 : Int32)) % (100 : Int32))), .val (.int ((p2 &&& (2147483647 : Int32)) % (100 : Int32))), .val (.int z7), .val (.int z9), .val (.ref b12), .val (.ref b17), .val (.int (((p5.toUInt32 >>> ((3 : Int32) &&& 31).toUInt32).toInt32) &&& (3 : Int32))), .unset, .unset, .unset] [(.ref b12), (.ref b5_49), (.ref b5_37), (.ref b30), (.ref b30)])) (fun t k => XS.aload X49.here hx rfl (hb hby at_142) rfl rfl k) ?_
      have c64 := (Exa.keep c55 K49)
      have c65 := (Fld.keep (Fld.keep F_id_b30 K37 nin0) K49 nin0)
      have c66 := (Fld.keep (Fld.keep F_name_b30 K37 nin0) K49 nin0)
      have c67 := (Fld.keep (Fld.keep F_anchor_b30 K37 nin0) K49 nin0)
      have sz68 : n0 ≤ T49.heap.size := (Nat.le_trans sz48 K49.1)
      obtain ⟨_, _, ⟨T69, L69, k69, n69⟩, -, X69, ⟨Lc69, hQ69, l69, y69, z69⟩, st69⟩ := X49.specialBack hx (y := (⟨"com/example/rikusen/rikusen/core/Box", "<init>", "(Ljava/lang/String;Ljava/lang/String;Lcom/example/rikusen/rikusen/core/Hex;)V"⟩ : MethodName)) rfl hown (mvT hZ (hw _ (ow 80 rfl))) (mvT hZ (hw _ (ow 81 rfl))) (mvT hZ (hw _ (ow 82 rfl))) (by decide) (backOf (W := 1) (rm13 l Z a0 hw [] b30 b5_37 b5_49 b12 .null .null .null T49.heap n0 sz68 c64 c65 g_b30 c66 c67) hZ (hw _ (ow 82 rfl)) (hw _ (ow 55 rfl)) (by decide) (by decide)) (g := (mkF m 144 #[.val (.int p1), .val (.int p2), .val (.int p3), .val (.int p4), .val (.int p5), .val (.int p6), .val (.int ((p1 &&& (2147483647 : Int32)) % (100 : Int32))), .val (.int ((p2 &&& (2147483647 : Int32)) % (100 : Int32))), .val (.int z7), .val (.int z9), .val (.ref b12), .val (.ref b17), .val (.int (((p5.toUInt32 >>> ((3 : Int32) &&& 31).toUInt32).toInt32) &&& (3 : Int32))), .unset, .unset, .unset] [(.ref b12), (.ref b5_49), (.ref b5_37), (.ref b30), (.ref b30)])) rfl (by rw [hml]; rfl) (Steps.refl _) (a := b30) (argsL := [(.ref b5_37), (.ref b5_49), (.ref b12)]) (rest := [(.ref b30)]) (lenOf pd_9 rfl) rfl (by show 2 * 0 + _ ≤ _; exact Nat.le_of_eq rfl) (hb hby at_144) (fun _ _ => ⟨rfl, rfl, (by decide : 7 + 0 ≤ _), (by decide : 17 + 0 ≤ _)⟩)
      dsimp only [Pt.U, Pt.locs, Pt.cells, Pt.slots] at X69 l69 y69 z69 st69 hQ69
      subst l69 y69 z69
      obtain ⟨rfl, N69q, K69, q69_0, q69_1, q69_2, q69_3⟩ := hQ69
      have N69 := Fr.app N49 N69q
      have K70 : Keep h0 T49.heap [] := (Keep.trans K50 K49 all0)
      refine own_pre (B := T69.setTop (mkF m 147 #[.val (.int p1), .val (.int p2), .val (.int p3), .val (.int p4), .val (.int p5), .val (.int p6), .val (.int ((p1 &&& (2147483647 : Int32)) % (100 : Int32))), .val (.int ((p2 &&& (2147483647 : Int32)) % (100 : Int32))), .val (.int z7), .val (.int z9), .val (.ref b12), .val (.ref b17), .val (.int (((p5.toUInt32 >>> ((3 : Int32) &&& 31).toUInt32).toInt32) &&& (3 : Int32))), .unset, .unset, .unset] [(.ref b30)])) (fun t k => st69.trans k) ?_
      refine own_pre (B := T69.setTop (mkF m 149 #[.val (.int p1), .val (.int p2), .val (.int p3), .val (.int p4), .val (.int p5), .val (.int p6), .val (.int ((p1 &&& (2147483647 : Int32)) % (100 : Int32))), .val (.int ((p2 &&& (2147483647 : Int32)) % (100 : Int32))), .val (.int z7), .val (.int z9), .val (.ref b12), .val (.ref b17), .val (.int (((p5.toUInt32 >>> ((3 : Int32) &&& 31).toUInt32).toInt32) &&& (3 : Int32))), .val (.ref b30), .unset, .unset] [])) (fun t k => XS.astore X69.here hx rfl (hb hby at_147) rfl rfl (l' := #[.val (.int p1), .val (.int p2), .val (.int p3), .val (.int p4), .val (.int p5), .val (.int p6), .val (.int ((p1 &&& (2147483647 : Int32)) % (100 : Int32))), .val (.int ((p2 &&& (2147483647 : Int32)) % (100 : Int32))), .val (.int z7), .val (.int z9), .val (.ref b12), .val (.ref b17), .val (.int (((p5.toUInt32 >>> ((3 : Int32) &&& 31).toUInt32).toInt32) &&& (3 : Int32))), .val (.ref b30), .unset, .unset]) rfl k) ?_
      refine own_pre (B := T69.setTop (mkF m 150 #[.val (.int p1), .val (.int p2), .val (.int p3), .val (.int p4), .val (.int p5), .val (.int p6), .val (.int ((p1 &&& (2147483647 : Int32)) % (100 : Int32))), .val (.int ((p2 &&& (2147483647 : Int32)) % (100 : Int32))), .val (.int z7), .val (.int z9), .val (.ref b12), .val (.ref b17), .val (.int (((p5.toUInt32 >>> ((3 : Int32) &&& 31).toUInt32).toInt32) &&& (3 : Int32))), .val (.ref b30), .unset, .unset] [(.int (0 : Int32))])) (fun t k => XS.iconst X69.here hx rfl (hb hby at_149) k) ?_
      refine own_pre (B := T69.setTop (mkF m 152 #[.val (.int p1), .val (.int p2), .val (.int p3), .val (.int p4), .val (.int p5), .val (.int p6), .val (.int ((p1 &&& (2147483647 : Int32)) % (100 : Int32))), .val (.int ((p2 &&& (2147483647 : Int32)) % (100 : Int32))), .val (.int z7), .val (.int z9), .val (.ref b12), .val (.ref b17), .val (.int (((p5.toUInt32 >>> ((3 : Int32) &&& 31).toUInt32).toInt32) &&& (3 : Int32))), .val (.ref b30), .val (.int (0 : Int32)), .unset] [])) (fun t k => XS.istore X69.here hx rfl (hb hby at_150) rfl (l' := #[.val (.int p1), .val (.int p2), .val (.int p3), .val (.int p4), .val (.int p5), .val (.int p6), .val (.int ((p1 &&& (2147483647 : Int32)) % (100 : Int32))), .val (.int ((p2 &&& (2147483647 : Int32)) % (100 : Int32))), .val (.int z7), .val (.int z9), .val (.ref b12), .val (.ref b17), .val (.int (((p5.toUInt32 >>> ((3 : Int32) &&& 31).toUInt32).toInt32) &&& (3 : Int32))), .val (.ref b30), .val (.int (0 : Int32)), .unset]) rfl k) ?_
      refine own_pre (B := T69.setTop (mkF m 205 #[.val (.int p1), .val (.int p2), .val (.int p3), .val (.int p4), .val (.int p5), .val (.int p6), .val (.int ((p1 &&& (2147483647 : Int32)) % (100 : Int32))), .val (.int ((p2 &&& (2147483647 : Int32)) % (100 : Int32))), .val (.int z7), .val (.int z9), .val (.ref b12), .val (.ref b17), .val (.int (((p5.toUInt32 >>> ((3 : Int32) &&& 31).toUInt32).toInt32) &&& (3 : Int32))), .val (.ref b30), .val (.int (0 : Int32)), .unset] [])) (fun t k => XS.goto X69.here hx rfl (pc0 := 152) (pc' := 205) rfl (hb hby at_152) (by decide) (by decide) k) ?_
      refine own_pre (B := T69.setTop (mkF m 207 #[.val (.int p1), .val (.int p2), .val (.int p3), .val (.int p4), .val (.int p5), .val (.int p6), .val (.int ((p1 &&& (2147483647 : Int32)) % (100 : Int32))), .val (.int ((p2 &&& (2147483647 : Int32)) % (100 : Int32))), .val (.int z7), .val (.int z9), .val (.ref b12), .val (.ref b17), .val (.int (((p5.toUInt32 >>> ((3 : Int32) &&& 31).toUInt32).toInt32) &&& (3 : Int32))), .val (.ref b30), .val (.int (0 : Int32)), .unset] [(.ref b12)])) (fun t k => XS.aload X69.here hx rfl (hb hby at_205) rfl rfl k) ?_
      refine own_pre (B := T69.setTop (mkF m 209 #[.val (.int p1), .val (.int p2), .val (.int p3), .val (.int p4), .val (.int p5), .val (.int p6), .val (.int ((p1 &&& (2147483647 : Int32)) % (100 : Int32))), .val (.int ((p2 &&& (2147483647 : Int32)) % (100 : Int32))), .val (.int z7), .val (.int z9), .val (.ref b12), .val (.ref b17), .val (.int (((p5.toUInt32 >>> ((3 : Int32) &&& 31).toUInt32).toInt32) &&& (3 : Int32))), .val (.ref b30), .val (.int (0 : Int32)), .unset] [(.ref b30), (.ref b12)])) (fun t k => XS.aload X69.here hx rfl (hb hby at_207) rfl rfl k) ?_
      have sz71 : n0 ≤ T69.heap.size := (Nat.le_trans sz68 K69.1)
      have c73 := (Exa.keep (Exa.keep c51 K49) K69)
      obtain ⟨cq72, kq72, q72a, q72b, q72c⟩ := isOf hZ rfl c73
      obtain ⟨_, _, ⟨T72, L72, k72, n72⟩, -, X72, ⟨Lc72, hQ72, l72, y72, z72⟩, st72⟩ := X69.virtualBack hx (y := (⟨"com/example/rikusen/rikusen/core/Hex", "equals", "(Ljava/lang/Object;)Z"⟩ : MethodName)) (z := (⟨"com/example/rikusen/rikusen/core/Hex", "equals", "(Ljava/lang/Object;)Z"⟩ : MethodName)) hown (mvT hZ (hw _ (ow 22 rfl))) (mvT hZ (hw _ (ow 23 rfl))) (notFace_of_selects (args := #[]) (mvT hZ (hw _ (ow 25 rfl)))) (mvT hZ (hw _ (ow 25 rfl))) (mvT hZ (hw _ (ow 24 rfl))) (by decide) (backOf (W := 0) (rm5B l Z a0 hw [] b12 b30 T69.heap n0 sz71 q69_0) hZ (hw _ (ow 26 rfl)) (hw _ (ow 3 rfl)) (by decide) (by decide)) q72a q72c (g := (mkF m 209 #[.val (.int p1), .val (.int p2), .val (.int p3), .val (.int p4), .val (.int p5), .val (.int p6), .val (.int ((p1 &&& (2147483647 : Int32)) % (100 : Int32))), .val (.int ((p2 &&& (2147483647 : Int32)) % (100 : Int32))), .val (.int z7), .val (.int z9), .val (.ref b12), .val (.ref b17), .val (.int (((p5.toUInt32 >>> ((3 : Int32) &&& 31).toUInt32).toInt32) &&& (3 : Int32))), .val (.ref b30), .val (.int (0 : Int32)), .unset] [(.ref b30), (.ref b12)])) rfl (by rw [hml]; rfl) (Steps.refl _) (argsL := [(.ref b30)]) (rest := []) (lenOf pd_7 rfl) rfl (by show 2 * 0 + _ ≤ _; exact Nat.le_of_eq rfl) (hb hby at_209) (fun _ _ => ⟨rfl, rfl, (by decide : 7 + 0 ≤ _), (by decide : 17 + 0 ≤ _)⟩)
      dsimp only [Pt.U, Pt.locs, Pt.cells, Pt.slots] at X72 l72 y72 z72 st72 hQ72
      subst l72 y72 z72
      obtain ⟨rfl, N72q, e72⟩ := hQ72
      have N72 := Fr.app N69 N72q
      refine own_pre (B := T72.setTop (mkF m 212 #[.val (.int p1), .val (.int p2), .val (.int p3), .val (.int p4), .val (.int p5), .val (.int p6), .val (.int ((p1 &&& (2147483647 : Int32)) % (100 : Int32))), .val (.int ((p2 &&& (2147483647 : Int32)) % (100 : Int32))), .val (.int z7), .val (.int z9), .val (.ref b12), .val (.ref b17), .val (.int (((p5.toUInt32 >>> ((3 : Int32) &&& 31).toUInt32).toInt32) &&& (3 : Int32))), .val (.ref b30), .val (.int (0 : Int32)), .unset] [(.int own_f5B)])) (fun t k => st72.trans k) ?_
      refine own_pre (B := T72.setTop (mkF m 214 #[.val (.int p1), .val (.int p2), .val (.int p3), .val (.int p4), .val (.int p5), .val (.int p6), .val (.int ((p1 &&& (2147483647 : Int32)) % (100 : Int32))), .val (.int ((p2 &&& (2147483647 : Int32)) % (100 : Int32))), .val (.int z7), .val (.int z9), .val (.ref b12), .val (.ref b17), .val (.int (((p5.toUInt32 >>> ((3 : Int32) &&& 31).toUInt32).toInt32) &&& (3 : Int32))), .val (.ref b30), .val (.int (0 : Int32)), .unset] [(.int (0 : Int32)), (.int own_f5B)])) (fun t k => XS.iload X72.here hx rfl (hb hby at_212) rfl k) ?_
      refine own_pre (B := T72.setTop (mkF m 217 #[.val (.int p1), .val (.int p2), .val (.int p3), .val (.int p4), .val (.int p5), .val (.int p6), .val (.int ((p1 &&& (2147483647 : Int32)) % (100 : Int32))), .val (.int ((p2 &&& (2147483647 : Int32)) % (100 : Int32))), .val (.int z7), .val (.int z9), .val (.ref b12), .val (.ref b17), .val (.int (((p5.toUInt32 >>> ((3 : Int32) &&& 31).toUInt32).toInt32) &&& (3 : Int32))), .val (.ref b30), .val (.int (0 : Int32)), .unset] [])) (fun t k => XS.icmpNo X72.here hx rfl (hb hby at_214) rfl (teq (by rfl : own_f5B = (0 : Int32))).2 k) ?_
      refine own_pre (B := T72.setTop (mkF m 218 #[.val (.int p1), .val (.int p2), .val (.int p3), .val (.int p4), .val (.int p5), .val (.int p6), .val (.int ((p1 &&& (2147483647 : Int32)) % (100 : Int32))), .val (.int ((p2 &&& (2147483647 : Int32)) % (100 : Int32))), .val (.int z7), .val (.int z9), .val (.ref b12), .val (.ref b17), .val (.int (((p5.toUInt32 >>> ((3 : Int32) &&& 31).toUInt32).toInt32) &&& (3 : Int32))), .val (.ref b30), .val (.int (0 : Int32)), .unset] [(.int (1 : Int32))])) (fun t k => XS.iconst X72.here hx rfl (hb hby at_217) k) ?_
      refine own_pre (B := T72.setTop (mkF m 222 #[.val (.int p1), .val (.int p2), .val (.int p3), .val (.int p4), .val (.int p5), .val (.int p6), .val (.int ((p1 &&& (2147483647 : Int32)) % (100 : Int32))), .val (.int ((p2 &&& (2147483647 : Int32)) % (100 : Int32))), .val (.int z7), .val (.int z9), .val (.ref b12), .val (.ref b17), .val (.int (((p5.toUInt32 >>> ((3 : Int32) &&& 31).toUInt32).toInt32) &&& (3 : Int32))), .val (.ref b30), .val (.int (0 : Int32)), .unset] [(.int (1 : Int32))])) (fun t k => XS.goto X72.here hx rfl (pc0 := 218) (pc' := 222) rfl (hb hby at_218) (by decide) (by decide) k) ?_
      refine own_pre (B := T72.setTop (mkF m 224 #[.val (.int p1), .val (.int p2), .val (.int p3), .val (.int p4), .val (.int p5), .val (.int p6), .val (.int ((p1 &&& (2147483647 : Int32)) % (100 : Int32))), .val (.int ((p2 &&& (2147483647 : Int32)) % (100 : Int32))), .val (.int z7), .val (.int z9), .val (.ref b12), .val (.ref b17), .val (.int (((p5.toUInt32 >>> ((3 : Int32) &&& 31).toUInt32).toInt32) &&& (3 : Int32))), .val (.ref b30), .val (.int (0 : Int32)), .val (.int (1 : Int32))] [])) (fun t k => XS.istore X72.here hx rfl (hb hby at_222) rfl (l' := #[.val (.int p1), .val (.int p2), .val (.int p3), .val (.int p4), .val (.int p5), .val (.int p6), .val (.int ((p1 &&& (2147483647 : Int32)) % (100 : Int32))), .val (.int ((p2 &&& (2147483647 : Int32)) % (100 : Int32))), .val (.int z7), .val (.int z9), .val (.ref b12), .val (.ref b17), .val (.int (((p5.toUInt32 >>> ((3 : Int32) &&& 31).toUInt32).toInt32) &&& (3 : Int32))), .val (.ref b30), .val (.int (0 : Int32)), .val (.int (1 : Int32))]) rfl k) ?_
      refine own_pre (B := T72.setTop (mkF m 226 #[.val (.int p1), .val (.int p2), .val (.int p3), .val (.int p4), .val (.int p5), .val (.int p6), .val (.int ((p1 &&& (2147483647 : Int32)) % (100 : Int32))), .val (.int ((p2 &&& (2147483647 : Int32)) % (100 : Int32))), .val (.int z7), .val (.int z9), .val (.ref b12), .val (.ref b17), .val (.int (((p5.toUInt32 >>> ((3 : Int32) &&& 31).toUInt32).toInt32) &&& (3 : Int32))), .val (.ref b30), .val (.int (0 : Int32)), .val (.int (1 : Int32))] [(.int (((p5.toUInt32 >>> ((3 : Int32) &&& 31).toUInt32).toInt32) &&& (3 : Int32)))])) (fun t k => XS.iload X72.here hx rfl (hb hby at_224) rfl k) ?_
      refine own_pre (B := T72.setTop (mkF m 263 #[.val (.int p1), .val (.int p2), .val (.int p3), .val (.int p4), .val (.int p5), .val (.int p6), .val (.int ((p1 &&& (2147483647 : Int32)) % (100 : Int32))), .val (.int ((p2 &&& (2147483647 : Int32)) % (100 : Int32))), .val (.int z7), .val (.int z9), .val (.ref b12), .val (.ref b17), .val (.int (((p5.toUInt32 >>> ((3 : Int32) &&& 31).toUInt32).toInt32) &&& (3 : Int32))), .val (.ref b30), .val (.int (0 : Int32)), .val (.int (1 : Int32))] [])) (fun t k => XS.ifYes X72.here hx rfl (pc0 := 226) (pc' := 263) rfl (hb hby at_226) rfl ((if0 _ _).trans (feq (by rw [hc112_28]; decide)).2) (by decide) (by decide) k) ?_
      refine own_pre (B := T72.setTop (mkF m 265 #[.val (.int p1), .val (.int p2), .val (.int p3), .val (.int p4), .val (.int p5), .val (.int p6), .val (.int ((p1 &&& (2147483647 : Int32)) % (100 : Int32))), .val (.int ((p2 &&& (2147483647 : Int32)) % (100 : Int32))), .val (.int z7), .val (.int z9), .val (.ref b12), .val (.ref b17), .val (.int (((p5.toUInt32 >>> ((3 : Int32) &&& 31).toUInt32).toInt32) &&& (3 : Int32))), .val (.ref b30), .val (.int (0 : Int32)), .val (.int (1 : Int32))] [(.int (1 : Int32))])) (fun t k => XS.iload X72.here hx rfl (hb hby at_263) rfl k) ?_
      obtain ⟨fsr74, hrr74, hrunr74, hendedr74, hWr74, hsamer74⟩ := X72.leave (v := some (.int (1 : Int32))) (fun h => by rw [Bd.returns] at h; cases h)
      refine ⟨_, _, (retN X72 hx (t := .boolean) Bd.returns (by simp) (hb hby at_265) hrr74), hrunr74, hendedr74, _, _, rfl, ?_, ⟨_, rfl⟩, hWr74, hsamer74.mono (by decide) (by decide)⟩
      show Q0 Z p1 p2 p3 p4 p5 p6 ca cc cs h0 n0 _ T72.heap _
      rw [e72]
      exact ⟨rfl, N72⟩
    · refine own_pre (B := T21.setTop (mkF m 155 #[.val (.int p1), .val (.int p2), .val (.int p3), .val (.int p4), .val (.int p5), .val (.int p6), .val (.int ((p1 &&& (2147483647 : Int32)) % (100 : Int32))), .val (.int ((p2 &&& (2147483647 : Int32)) % (100 : Int32))), .val (.int z7), .val (.int z9), .val (.ref b12), .val (.ref b17), .val (.int (((p5.toUInt32 >>> ((3 : Int32) &&& 31).toUInt32).toInt32) &&& (3 : Int32))), .unset, .unset, .unset] [])) (fun t k => XS.icmpYes X21.here hx rfl (pc0 := 112) (pc' := 155) rfl (hb hby at_112) rfl (feq hc112_28).2 (by decide) (by decide) k) ?_
      refine own_pre (B := T21.setTop (mkF m 157 #[.val (.int p1), .val (.int p2), .val (.int p3), .val (.int p4), .val (.int p5), .val (.int p6), .val (.int ((p1 &&& (2147483647 : Int32)) % (100 : Int32))), .val (.int ((p2 &&& (2147483647 : Int32)) % (100 : Int32))), .val (.int z7), .val (.int z9), .val (.ref b12), .val (.ref b17), .val (.int (((p5.toUInt32 >>> ((3 : Int32) &&& 31).toUInt32).toInt32) &&& (3 : Int32))), .unset, .unset, .unset] [(.int (((p5.toUInt32 >>> ((3 : Int32) &&& 31).toUInt32).toInt32) &&& (3 : Int32)))])) (fun t k => XS.iload X21.here hx rfl (hb hby at_155) rfl k) ?_
      refine own_pre (B := T21.setTop (mkF m 158 #[.val (.int p1), .val (.int p2), .val (.int p3), .val (.int p4), .val (.int p5), .val (.int p6), .val (.int ((p1 &&& (2147483647 : Int32)) % (100 : Int32))), .val (.int ((p2 &&& (2147483647 : Int32)) % (100 : Int32))), .val (.int z7), .val (.int z9), .val (.ref b12), .val (.ref b17), .val (.int (((p5.toUInt32 >>> ((3 : Int32) &&& 31).toUInt32).toInt32) &&& (3 : Int32))), .unset, .unset, .unset] [(.int (3 : Int32)), (.int (((p5.toUInt32 >>> ((3 : Int32) &&& 31).toUInt32).toInt32) &&& (3 : Int32)))])) (fun t k => XS.iconst X21.here hx rfl (hb hby at_157) k) ?_
      by_cases hc158_75 : (((p5.toUInt32 >>> ((3 : Int32) &&& 31).toUInt32).toInt32) &&& (3 : Int32)) = (3 : Int32)
      · refine own_pre (B := T21.setTop (mkF m 161 #[.val (.int p1), .val (.int p2), .val (.int p3), .val (.int p4), .val (.int p5), .val (.int p6), .val (.int ((p1 &&& (2147483647 : Int32)) % (100 : Int32))), .val (.int ((p2 &&& (2147483647 : Int32)) % (100 : Int32))), .val (.int z7), .val (.int z9), .val (.ref b12), .val (.ref b17), .val (.int (((p5.toUInt32 >>> ((3 : Int32) &&& 31).toUInt32).toInt32) &&& (3 : Int32))), .unset, .unset, .unset] [])) (fun t k => XS.icmpNo X21.here hx rfl (hb hby at_158) rfl (teq hc158_75).2 k) ?_
        refine own_pre (B := T21.setTop (mkF m 163 #[.val (.int p1), .val (.int p2), .val (.int p3), .val (.int p4), .val (.int p5), .val (.int p6), .val (.int ((p1 &&& (2147483647 : Int32)) % (100 : Int32))), .val (.int ((p2 &&& (2147483647 : Int32)) % (100 : Int32))), .val (.int z7), .val (.int z9), .val (.ref b12), .val (.ref b17), .val (.int (((p5.toUInt32 >>> ((3 : Int32) &&& 31).toUInt32).toInt32) &&& (3 : Int32))), .unset, .unset, .unset] [(.int ((p1 &&& (2147483647 : Int32)) % (100 : Int32)))])) (fun t k => XS.iload X21.here hx rfl (hb hby at_161) rfl k) ?_
        refine own_pre (B := T21.setTop (mkF m 165 #[.val (.int p1), .val (.int p2), .val (.int p3), .val (.int p4), .val (.int p5), .val (.int p6), .val (.int ((p1 &&& (2147483647 : Int32)) % (100 : Int32))), .val (.int ((p2 &&& (2147483647 : Int32)) % (100 : Int32))), .val (.int z7), .val (.int z9), .val (.ref b12), .val (.ref b17), .val (.int (((p5.toUInt32 >>> ((3 : Int32) &&& 31).toUInt32).toInt32) &&& (3 : Int32))), .unset, .unset, .unset] [(.int (100 : Int32)), (.int ((p1 &&& (2147483647 : Int32)) % (100 : Int32)))])) (fun t k => XS.bipush X21.here hx rfl (hb hby at_163) k) ?_
        refine own_pre (B := T21.setTop (mkF m 166 #[.val (.int p1), .val (.int p2), .val (.int p3), .val (.int p4), .val (.int p5), .val (.int p6), .val (.int ((p1 &&& (2147483647 : Int32)) % (100 : Int32))), .val (.int ((p2 &&& (2147483647 : Int32)) % (100 : Int32))), .val (.int z7), .val (.int z9), .val (.ref b12), .val (.ref b17), .val (.int (((p5.toUInt32 >>> ((3 : Int32) &&& 31).toUInt32).toInt32) &&& (3 : Int32))), .unset, .unset, .unset] [(.int (((p1 &&& (2147483647 : Int32)) % (100 : Int32)) * (100 : Int32)))])) (fun t k => XS.imul X21.here hx rfl (hb hby at_165) rfl k) ?_
        refine own_pre (B := T21.setTop (mkF m 168 #[.val (.int p1), .val (.int p2), .val (.int p3), .val (.int p4), .val (.int p5), .val (.int p6), .val (.int ((p1 &&& (2147483647 : Int32)) % (100 : Int32))), .val (.int ((p2 &&& (2147483647 : Int32)) % (100 : Int32))), .val (.int z7), .val (.int z9), .val (.ref b12), .val (.ref b17), .val (.int (((p5.toUInt32 >>> ((3 : Int32) &&& 31).toUInt32).toInt32) &&& (3 : Int32))), .unset, .unset, .unset] [(.int ((p2 &&& (2147483647 : Int32)) % (100 : Int32))), (.int (((p1 &&& (2147483647 : Int32)) % (100 : Int32)) * (100 : Int32)))])) (fun t k => XS.iload X21.here hx rfl (hb hby at_166) rfl k) ?_
        refine own_pre (B := T21.setTop (mkF m 169 #[.val (.int p1), .val (.int p2), .val (.int p3), .val (.int p4), .val (.int p5), .val (.int p6), .val (.int ((p1 &&& (2147483647 : Int32)) % (100 : Int32))), .val (.int ((p2 &&& (2147483647 : Int32)) % (100 : Int32))), .val (.int z7), .val (.int z9), .val (.ref b12), .val (.ref b17), .val (.int (((p5.toUInt32 >>> ((3 : Int32) &&& 31).toUInt32).toInt32) &&& (3 : Int32))), .unset, .unset, .unset] [(.int ((((p1 &&& (2147483647 : Int32)) % (100 : Int32)) * (100 : Int32)) + ((p2 &&& (2147483647 : Int32)) % (100 : Int32))))])) (fun t k => XS.iadd X21.here hx rfl (hb hby at_168) rfl k) ?_
        have O76 := (Old.keep (Old.ext (Old.keep (Old.ext O0 E12) K14 (allS (P := fun x => n0 ≤ x) g_b12 all0)) E17) K21 (allS (P := fun x => n0 ≤ x) g_b17 all0))
        have sz77 : n0 ≤ T21.heap.size := (Nat.le_trans sz20 K21.1)
        obtain ⟨_, _, ⟨T78, L78, k78, n78⟩, -, X78, ⟨Lc78, hQ78, l78, y78, z78⟩, st78⟩ := Jvm.LawKit.callS X21 hx (y := (⟨"java/lang/Integer", "valueOf", "(I)Ljava/lang/Integer;"⟩ : MethodName)) hown (mvT hZ (hw _ (ow 29 rfl))) (mvT hZ (hw _ (ow 30 rfl))) (mvT hZ (hw _ (ow 31 rfl))) (mvT hZ (hw _ (ow 32 rfl))) (by decide) (backOf (W := 0) (rm6 l Z a0 hw [] ((((p1 &&& (2147483647 : Int32)) % (100 : Int32)) * (100 : Int32)) + ((p2 &&& (2147483647 : Int32)) % (100 : Int32))) ca cc T21.heap n0 sz77 O76 SC SH AC SZ256 EL) hZ (hw _ (ow 32 rfl)) (hw _ (ow 31 rfl)) (by decide) (by decide)) (g := (mkF m 169 #[.val (.int p1), .val (.int p2), .val (.int p3), .val (.int p4), .val (.int p5), .val (.int p6), .val (.int ((p1 &&& (2147483647 : Int32)) % (100 : Int32))), .val (.int ((p2 &&& (2147483647 : Int32)) % (100 : Int32))), .val (.int z7), .val (.int z9), .val (.ref b12), .val (.ref b17), .val (.int (((p5.toUInt32 >>> ((3 : Int32) &&& 31).toUInt32).toInt32) &&& (3 : Int32))), .unset, .unset, .unset] [(.int ((((p1 &&& (2147483647 : Int32)) % (100 : Int32)) * (100 : Int32)) + ((p2 &&& (2147483647 : Int32)) % (100 : Int32))))])) rfl (by rw [hml]; rfl) (argsL := [(.int ((((p1 &&& (2147483647 : Int32)) % (100 : Int32)) * (100 : Int32)) + ((p2 &&& (2147483647 : Int32)) % (100 : Int32))))]) (rest := []) (lenOf pd_10 rfl) rfl (by show 2 * 0 + _ ≤ _; exact Nat.le_of_eq rfl) (hb hby at_169) (fun _ _ => ⟨rfl, rfl, (by decide : 2 + 1 ≤ _), (by decide : 4 + 1 ≤ _)⟩)
        dsimp only [Pt.U, Pt.locs, Pt.cells, Pt.slots] at X78 l78 y78 z78 st78 hQ78
        subst l78 y78 z78
        obtain ⟨b78_, rfl, N78q, K78, q78_0⟩ := hQ78
        have N78 := Fr.app N21 N78q
        have K79 : Keep h0 T21.heap [] := (Keep.trans K22 K21 (allS (P := fun x => x ∈ [] ∨ h0.size ≤ x) (Or.inr s_b17) all0))
        refine own_pre (B := T78.setTop (mkF m 172 #[.val (.int p1), .val (.int p2), .val (.int p3), .val (.int p4), .val (.int p5), .val (.int p6), .val (.int ((p1 &&& (2147483647 : Int32)) % (100 : Int32))), .val (.int ((p2 &&& (2147483647 : Int32)) % (100 : Int32))), .val (.int z7), .val (.int z9), .val (.ref b12), .val (.ref b17), .val (.int (((p5.toUInt32 >>> ((3 : Int32) &&& 31).toUInt32).toInt32) &&& (3 : Int32))), .unset, .unset, .unset] [(.ref b78_)])) (fun t k => st78 t k) ?_
        refine own_pre (B := T78.setTop (mkF m 174 #[.val (.int p1), .val (.int p2), .val (.int p3), .val (.int p4), .val (.int p5), .val (.int p6), .val (.int ((p1 &&& (2147483647 : Int32)) % (100 : Int32))), .val (.int ((p2 &&& (2147483647 : Int32)) % (100 : Int32))), .val (.int z7), .val (.int z9), .val (.ref b12), .val (.ref b17), .val (.int (((p5.toUInt32 >>> ((3 : Int32) &&& 31).toUInt32).toInt32) &&& (3 : Int32))), .val (.ref b78_), .unset, .unset] [])) (fun t k => XS.astore X78.here hx rfl (hb hby at_172) rfl rfl (l' := #[.val (.int p1), .val (.int p2), .val (.int p3), .val (.int p4), .val (.int p5), .val (.int p6), .val (.int ((p1 &&& (2147483647 : Int32)) % (100 : Int32))), .val (.int ((p2 &&& (2147483647 : Int32)) % (100 : Int32))), .val (.int z7), .val (.int z9), .val (.ref b12), .val (.ref b17), .val (.int (((p5.toUInt32 >>> ((3 : Int32) &&& 31).toUInt32).toInt32) &&& (3 : Int32))), .val (.ref b78_), .unset, .unset]) rfl k) ?_
        refine own_pre (B := T78.setTop (mkF m 175 #[.val (.int p1), .val (.int p2), .val (.int p3), .val (.int p4), .val (.int p5), .val (.int p6), .val (.int ((p1 &&& (2147483647 : Int32)) % (100 : Int32))), .val (.int ((p2 &&& (2147483647 : Int32)) % (100 : Int32))), .val (.int z7), .val (.int z9), .val (.ref b12), .val (.ref b17), .val (.int (((p5.toUInt32 >>> ((3 : Int32) &&& 31).toUInt32).toInt32) &&& (3 : Int32))), .val (.ref b78_), .unset, .unset] [(.int (0 : Int32))])) (fun t k => XS.iconst X78.here hx rfl (hb hby at_174) k) ?_
        refine own_pre (B := T78.setTop (mkF m 177 #[.val (.int p1), .val (.int p2), .val (.int p3), .val (.int p4), .val (.int p5), .val (.int p6), .val (.int ((p1 &&& (2147483647 : Int32)) % (100 : Int32))), .val (.int ((p2 &&& (2147483647 : Int32)) % (100 : Int32))), .val (.int z7), .val (.int z9), .val (.ref b12), .val (.ref b17), .val (.int (((p5.toUInt32 >>> ((3 : Int32) &&& 31).toUInt32).toInt32) &&& (3 : Int32))), .val (.ref b78_), .val (.int (0 : Int32)), .unset] [])) (fun t k => XS.istore X78.here hx rfl (hb hby at_175) rfl (l' := #[.val (.int p1), .val (.int p2), .val (.int p3), .val (.int p4), .val (.int p5), .val (.int p6), .val (.int ((p1 &&& (2147483647 : Int32)) % (100 : Int32))), .val (.int ((p2 &&& (2147483647 : Int32)) % (100 : Int32))), .val (.int z7), .val (.int z9), .val (.ref b12), .val (.ref b17), .val (.int (((p5.toUInt32 >>> ((3 : Int32) &&& 31).toUInt32).toInt32) &&& (3 : Int32))), .val (.ref b78_), .val (.int (0 : Int32)), .unset]) rfl k) ?_
        refine own_pre (B := T78.setTop (mkF m 205 #[.val (.int p1), .val (.int p2), .val (.int p3), .val (.int p4), .val (.int p5), .val (.int p6), .val (.int ((p1 &&& (2147483647 : Int32)) % (100 : Int32))), .val (.int ((p2 &&& (2147483647 : Int32)) % (100 : Int32))), .val (.int z7), .val (.int z9), .val (.ref b12), .val (.ref b17), .val (.int (((p5.toUInt32 >>> ((3 : Int32) &&& 31).toUInt32).toInt32) &&& (3 : Int32))), .val (.ref b78_), .val (.int (0 : Int32)), .unset] [])) (fun t k => XS.goto X78.here hx rfl (pc0 := 177) (pc' := 205) rfl (hb hby at_177) (by decide) (by decide) k) ?_
        refine own_pre (B := T78.setTop (mkF m 207 #[.val (.int p1), .val (.int p2), .val (.int p3), .val (.int p4), .val (.int p5), .val (.int p6), .val (.int ((p1 &&& (2147483647 : Int32)) % (100 : Int32))), .val (.int ((p2 &&& (2147483647 : Int32)) % (100 : Int32))), .val (.int z7), .val (.int z9), .val (.ref b12), .val (.ref b17), .val (.int (((p5.toUInt32 >>> ((3 : Int32) &&& 31).toUInt32).toInt32) &&& (3 : Int32))), .val (.ref b78_), .val (.int (0 : Int32)), .unset] [(.ref b12)])) (fun t k => XS.aload X78.here hx rfl (hb hby at_205) rfl rfl k) ?_
        refine own_pre (B := T78.setTop (mkF m 209 #[.val (.int p1), .val (.int p2), .val (.int p3), .val (.int p4), .val (.int p5), .val (.int p6), .val (.int ((p1 &&& (2147483647 : Int32)) % (100 : Int32))), .val (.int ((p2 &&& (2147483647 : Int32)) % (100 : Int32))), .val (.int z7), .val (.int z9), .val (.ref b12), .val (.ref b17), .val (.int (((p5.toUInt32 >>> ((3 : Int32) &&& 31).toUInt32).toInt32) &&& (3 : Int32))), .val (.ref b78_), .val (.int (0 : Int32)), .unset] [(.ref b78_), (.ref b12)])) (fun t k => XS.aload X78.here hx rfl (hb hby at_207) rfl rfl k) ?_
        have sz80 : n0 ≤ T78.heap.size := (Nat.le_trans sz77 K78.1)
        have c82 := (Exa.keep (Exa.keep (q14_0.ext E17) K21) K78)
        obtain ⟨cq81, kq81, q81a, q81b, q81c⟩ := isOf hZ rfl c82
        obtain ⟨_, _, ⟨T81, L81, k81, n81⟩, -, X81, ⟨Lc81, hQ81, l81, y81, z81⟩, st81⟩ := X78.virtualBack hx (y := (⟨"com/example/rikusen/rikusen/core/Hex", "equals", "(Ljava/lang/Object;)Z"⟩ : MethodName)) (z := (⟨"com/example/rikusen/rikusen/core/Hex", "equals", "(Ljava/lang/Object;)Z"⟩ : MethodName)) hown (mvT hZ (hw _ (ow 22 rfl))) (mvT hZ (hw _ (ow 23 rfl))) (notFace_of_selects (args := #[]) (mvT hZ (hw _ (ow 25 rfl)))) (mvT hZ (hw _ (ow 25 rfl))) (mvT hZ (hw _ (ow 24 rfl))) (by decide) (backOf (W := 0) (rm5I l Z a0 hw [] b12 b78_ T78.heap n0 sz80 q78_0) hZ (hw _ (ow 26 rfl)) (hw _ (ow 3 rfl)) (by decide) (by decide)) q81a q81c (g := (mkF m 209 #[.val (.int p1), .val (.int p2), .val (.int p3), .val (.int p4), .val (.int p5), .val (.int p6), .val (.int ((p1 &&& (2147483647 : Int32)) % (100 : Int32))), .val (.int ((p2 &&& (2147483647 : Int32)) % (100 : Int32))), .val (.int z7), .val (.int z9), .val (.ref b12), .val (.ref b17), .val (.int (((p5.toUInt32 >>> ((3 : Int32) &&& 31).toUInt32).toInt32) &&& (3 : Int32))), .val (.ref b78_), .val (.int (0 : Int32)), .unset] [(.ref b78_), (.ref b12)])) rfl (by rw [hml]; rfl) (Steps.refl _) (argsL := [(.ref b78_)]) (rest := []) (lenOf pd_7 rfl) rfl (by show 2 * 0 + _ ≤ _; exact Nat.le_of_eq rfl) (hb hby at_209) (fun _ _ => ⟨rfl, rfl, (by decide : 3 + 0 ≤ _), (by decide : 5 + 0 ≤ _)⟩)
        dsimp only [Pt.U, Pt.locs, Pt.cells, Pt.slots] at X81 l81 y81 z81 st81 hQ81
        subst l81 y81 z81
        obtain ⟨rfl, N81q, e81⟩ := hQ81
        have N81 := Fr.app N78 N81q
        refine own_pre (B := T81.setTop (mkF m 212 #[.val (.int p1), .val (.int p2), .val (.int p3), .val (.int p4), .val (.int p5), .val (.int p6), .val (.int ((p1 &&& (2147483647 : Int32)) % (100 : Int32))), .val (.int ((p2 &&& (2147483647 : Int32)) % (100 : Int32))), .val (.int z7), .val (.int z9), .val (.ref b12), .val (.ref b17), .val (.int (((p5.toUInt32 >>> ((3 : Int32) &&& 31).toUInt32).toInt32) &&& (3 : Int32))), .val (.ref b78_), .val (.int (0 : Int32)), .unset] [(.int own_f5I)])) (fun t k => st81.trans k) ?_
        refine own_pre (B := T81.setTop (mkF m 214 #[.val (.int p1), .val (.int p2), .val (.int p3), .val (.int p4), .val (.int p5), .val (.int p6), .val (.int ((p1 &&& (2147483647 : Int32)) % (100 : Int32))), .val (.int ((p2 &&& (2147483647 : Int32)) % (100 : Int32))), .val (.int z7), .val (.int z9), .val (.ref b12), .val (.ref b17), .val (.int (((p5.toUInt32 >>> ((3 : Int32) &&& 31).toUInt32).toInt32) &&& (3 : Int32))), .val (.ref b78_), .val (.int (0 : Int32)), .unset] [(.int (0 : Int32)), (.int own_f5I)])) (fun t k => XS.iload X81.here hx rfl (hb hby at_212) rfl k) ?_
        refine own_pre (B := T81.setTop (mkF m 217 #[.val (.int p1), .val (.int p2), .val (.int p3), .val (.int p4), .val (.int p5), .val (.int p6), .val (.int ((p1 &&& (2147483647 : Int32)) % (100 : Int32))), .val (.int ((p2 &&& (2147483647 : Int32)) % (100 : Int32))), .val (.int z7), .val (.int z9), .val (.ref b12), .val (.ref b17), .val (.int (((p5.toUInt32 >>> ((3 : Int32) &&& 31).toUInt32).toInt32) &&& (3 : Int32))), .val (.ref b78_), .val (.int (0 : Int32)), .unset] [])) (fun t k => XS.icmpNo X81.here hx rfl (hb hby at_214) rfl (teq (by rfl : own_f5I = (0 : Int32))).2 k) ?_
        refine own_pre (B := T81.setTop (mkF m 218 #[.val (.int p1), .val (.int p2), .val (.int p3), .val (.int p4), .val (.int p5), .val (.int p6), .val (.int ((p1 &&& (2147483647 : Int32)) % (100 : Int32))), .val (.int ((p2 &&& (2147483647 : Int32)) % (100 : Int32))), .val (.int z7), .val (.int z9), .val (.ref b12), .val (.ref b17), .val (.int (((p5.toUInt32 >>> ((3 : Int32) &&& 31).toUInt32).toInt32) &&& (3 : Int32))), .val (.ref b78_), .val (.int (0 : Int32)), .unset] [(.int (1 : Int32))])) (fun t k => XS.iconst X81.here hx rfl (hb hby at_217) k) ?_
        refine own_pre (B := T81.setTop (mkF m 222 #[.val (.int p1), .val (.int p2), .val (.int p3), .val (.int p4), .val (.int p5), .val (.int p6), .val (.int ((p1 &&& (2147483647 : Int32)) % (100 : Int32))), .val (.int ((p2 &&& (2147483647 : Int32)) % (100 : Int32))), .val (.int z7), .val (.int z9), .val (.ref b12), .val (.ref b17), .val (.int (((p5.toUInt32 >>> ((3 : Int32) &&& 31).toUInt32).toInt32) &&& (3 : Int32))), .val (.ref b78_), .val (.int (0 : Int32)), .unset] [(.int (1 : Int32))])) (fun t k => XS.goto X81.here hx rfl (pc0 := 218) (pc' := 222) rfl (hb hby at_218) (by decide) (by decide) k) ?_
        refine own_pre (B := T81.setTop (mkF m 224 #[.val (.int p1), .val (.int p2), .val (.int p3), .val (.int p4), .val (.int p5), .val (.int p6), .val (.int ((p1 &&& (2147483647 : Int32)) % (100 : Int32))), .val (.int ((p2 &&& (2147483647 : Int32)) % (100 : Int32))), .val (.int z7), .val (.int z9), .val (.ref b12), .val (.ref b17), .val (.int (((p5.toUInt32 >>> ((3 : Int32) &&& 31).toUInt32).toInt32) &&& (3 : Int32))), .val (.ref b78_), .val (.int (0 : Int32)), .val (.int (1 : Int32))] [])) (fun t k => XS.istore X81.here hx rfl (hb hby at_222) rfl (l' := #[.val (.int p1), .val (.int p2), .val (.int p3), .val (.int p4), .val (.int p5), .val (.int p6), .val (.int ((p1 &&& (2147483647 : Int32)) % (100 : Int32))), .val (.int ((p2 &&& (2147483647 : Int32)) % (100 : Int32))), .val (.int z7), .val (.int z9), .val (.ref b12), .val (.ref b17), .val (.int (((p5.toUInt32 >>> ((3 : Int32) &&& 31).toUInt32).toInt32) &&& (3 : Int32))), .val (.ref b78_), .val (.int (0 : Int32)), .val (.int (1 : Int32))]) rfl k) ?_
        refine own_pre (B := T81.setTop (mkF m 226 #[.val (.int p1), .val (.int p2), .val (.int p3), .val (.int p4), .val (.int p5), .val (.int p6), .val (.int ((p1 &&& (2147483647 : Int32)) % (100 : Int32))), .val (.int ((p2 &&& (2147483647 : Int32)) % (100 : Int32))), .val (.int z7), .val (.int z9), .val (.ref b12), .val (.ref b17), .val (.int (((p5.toUInt32 >>> ((3 : Int32) &&& 31).toUInt32).toInt32) &&& (3 : Int32))), .val (.ref b78_), .val (.int (0 : Int32)), .val (.int (1 : Int32))] [(.int (((p5.toUInt32 >>> ((3 : Int32) &&& 31).toUInt32).toInt32) &&& (3 : Int32)))])) (fun t k => XS.iload X81.here hx rfl (hb hby at_224) rfl k) ?_
        refine own_pre (B := T81.setTop (mkF m 263 #[.val (.int p1), .val (.int p2), .val (.int p3), .val (.int p4), .val (.int p5), .val (.int p6), .val (.int ((p1 &&& (2147483647 : Int32)) % (100 : Int32))), .val (.int ((p2 &&& (2147483647 : Int32)) % (100 : Int32))), .val (.int z7), .val (.int z9), .val (.ref b12), .val (.ref b17), .val (.int (((p5.toUInt32 >>> ((3 : Int32) &&& 31).toUInt32).toInt32) &&& (3 : Int32))), .val (.ref b78_), .val (.int (0 : Int32)), .val (.int (1 : Int32))] [])) (fun t k => XS.ifYes X81.here hx rfl (pc0 := 226) (pc' := 263) rfl (hb hby at_226) rfl ((if0 _ _).trans (feq (by rw [hc158_75]; decide)).2) (by decide) (by decide) k) ?_
        refine own_pre (B := T81.setTop (mkF m 265 #[.val (.int p1), .val (.int p2), .val (.int p3), .val (.int p4), .val (.int p5), .val (.int p6), .val (.int ((p1 &&& (2147483647 : Int32)) % (100 : Int32))), .val (.int ((p2 &&& (2147483647 : Int32)) % (100 : Int32))), .val (.int z7), .val (.int z9), .val (.ref b12), .val (.ref b17), .val (.int (((p5.toUInt32 >>> ((3 : Int32) &&& 31).toUInt32).toInt32) &&& (3 : Int32))), .val (.ref b78_), .val (.int (0 : Int32)), .val (.int (1 : Int32))] [(.int (1 : Int32))])) (fun t k => XS.iload X81.here hx rfl (hb hby at_263) rfl k) ?_
        obtain ⟨fsr83, hrr83, hrunr83, hendedr83, hWr83, hsamer83⟩ := X81.leave (v := some (.int (1 : Int32))) (fun h => by rw [Bd.returns] at h; cases h)
        refine ⟨_, _, (retN X81 hx (t := .boolean) Bd.returns (by simp) (hb hby at_265) hrr83), hrunr83, hendedr83, _, _, rfl, ?_, ⟨_, rfl⟩, hWr83, hsamer83.mono (by decide) (by decide)⟩
        show Q0 Z p1 p2 p3 p4 p5 p6 ca cc cs h0 n0 _ T81.heap _
        rw [e81]
        exact ⟨rfl, N81⟩
      · refine own_pre (B := T21.setTop (mkF m 180 #[.val (.int p1), .val (.int p2), .val (.int p3), .val (.int p4), .val (.int p5), .val (.int p6), .val (.int ((p1 &&& (2147483647 : Int32)) % (100 : Int32))), .val (.int ((p2 &&& (2147483647 : Int32)) % (100 : Int32))), .val (.int z7), .val (.int z9), .val (.ref b12), .val (.ref b17), .val (.int (((p5.toUInt32 >>> ((3 : Int32) &&& 31).toUInt32).toInt32) &&& (3 : Int32))), .unset, .unset, .unset] [])) (fun t k => XS.icmpYes X21.here hx rfl (pc0 := 158) (pc' := 180) rfl (hb hby at_158) rfl (feq hc158_75).2 (by decide) (by decide) k) ?_
        refine own_pre (B := T21.setTop (mkF m 182 #[.val (.int p1), .val (.int p2), .val (.int p3), .val (.int p4), .val (.int p5), .val (.int p6), .val (.int ((p1 &&& (2147483647 : Int32)) % (100 : Int32))), .val (.int ((p2 &&& (2147483647 : Int32)) % (100 : Int32))), .val (.int z7), .val (.int z9), .val (.ref b12), .val (.ref b17), .val (.int (((p5.toUInt32 >>> ((3 : Int32) &&& 31).toUInt32).toInt32) &&& (3 : Int32))), .unset, .unset, .unset] [(.ref b17)])) (fun t k => XS.aload X21.here hx rfl (hb hby at_180) rfl rfl k) ?_
        refine own_pre (B := T21.setTop (mkF m 184 #[.val (.int p1), .val (.int p2), .val (.int p3), .val (.int p4), .val (.int p5), .val (.int p6), .val (.int ((p1 &&& (2147483647 : Int32)) % (100 : Int32))), .val (.int ((p2 &&& (2147483647 : Int32)) % (100 : Int32))), .val (.int z7), .val (.int z9), .val (.ref b12), .val (.ref b17), .val (.int (((p5.toUInt32 >>> ((3 : Int32) &&& 31).toUInt32).toInt32) &&& (3 : Int32))), .val (.ref b17), .unset, .unset] [])) (fun t k => XS.astore X21.here hx rfl (hb hby at_182) rfl rfl (l' := #[.val (.int p1), .val (.int p2), .val (.int p3), .val (.int p4), .val (.int p5), .val (.int p6), .val (.int ((p1 &&& (2147483647 : Int32)) % (100 : Int32))), .val (.int ((p2 &&& (2147483647 : Int32)) % (100 : Int32))), .val (.int z7), .val (.int z9), .val (.ref b12), .val (.ref b17), .val (.int (((p5.toUInt32 >>> ((3 : Int32) &&& 31).toUInt32).toInt32) &&& (3 : Int32))), .val (.ref b17), .unset, .unset]) rfl k) ?_
        refine own_pre (B := T21.setTop (mkF m 186 #[.val (.int p1), .val (.int p2), .val (.int p3), .val (.int p4), .val (.int p5), .val (.int p6), .val (.int ((p1 &&& (2147483647 : Int32)) % (100 : Int32))), .val (.int ((p2 &&& (2147483647 : Int32)) % (100 : Int32))), .val (.int z7), .val (.int z9), .val (.ref b12), .val (.ref b17), .val (.int (((p5.toUInt32 >>> ((3 : Int32) &&& 31).toUInt32).toInt32) &&& (3 : Int32))), .val (.ref b17), .unset, .unset] [(.int ((p1 &&& (2147483647 : Int32)) % (100 : Int32)))])) (fun t k => XS.iload X21.here hx rfl (hb hby at_184) rfl k) ?_
        refine own_pre (B := T21.setTop (mkF m 188 #[.val (.int p1), .val (.int p2), .val (.int p3), .val (.int p4), .val (.int p5), .val (.int p6), .val (.int ((p1 &&& (2147483647 : Int32)) % (100 : Int32))), .val (.int ((p2 &&& (2147483647 : Int32)) % (100 : Int32))), .val (.int z7), .val (.int z9), .val (.ref b12), .val (.ref b17), .val (.int (((p5.toUInt32 >>> ((3 : Int32) &&& 31).toUInt32).toInt32) &&& (3 : Int32))), .val (.ref b17), .unset, .unset] [(.int z7), (.int ((p1 &&& (2147483647 : Int32)) % (100 : Int32)))])) (fun t k => XS.iload X21.here hx rfl (hb hby at_186) rfl k) ?_
        obtain ⟨z84, hz84⟩ : ∃ z : Int32, z = (if ((p1 &&& (2147483647 : Int32)) % (100 : Int32)) = z7 then (if ((p2 &&& (2147483647 : Int32)) % (100 : Int32)) = z9 then (1 : Int32) else (0 : Int32)) else (0 : Int32)) := ⟨_, rfl⟩
        refine own_pre (B := T21.setTop (mkF m 203 #[.val (.int p1), .val (.int p2), .val (.int p3), .val (.int p4), .val (.int p5), .val (.int p6), .val (.int ((p1 &&& (2147483647 : Int32)) % (100 : Int32))), .val (.int ((p2 &&& (2147483647 : Int32)) % (100 : Int32))), .val (.int z7), .val (.int z9), .val (.ref b12), .val (.ref b17), .val (.int (((p5.toUInt32 >>> ((3 : Int32) &&& 31).toUInt32).toInt32) &&& (3 : Int32))), .val (.ref b17), .unset, .unset] [(.int z84)])) (fun t k => ?_) ?_
        · by_cases hc188_85 : ((p1 &&& (2147483647 : Int32)) % (100 : Int32)) = z7
          · refine XS.icmpNo X21.here hx rfl (hb hby at_188) rfl (teq hc188_85).2 ?_
            show Steps p.tables e below (T21.setTop (mkF m 191 #[.val (.int p1), .val (.int p2), .val (.int p3), .val (.int p4), .val (.int p5), .val (.int p6), .val (.int ((p1 &&& (2147483647 : Int32)) % (100 : Int32))), .val (.int ((p2 &&& (2147483647 : Int32)) % (100 : Int32))), .val (.int z7), .val (.int z9), .val (.ref b12), .val (.ref b17), .val (.int (((p5.toUInt32 >>> ((3 : Int32) &&& 31).toUInt32).toInt32) &&& (3 : Int32))), .val (.ref b17), .unset, .unset] [])) _
            refine XS.iload X21.here hx rfl (hb hby at_191) rfl ?_
            show Steps p.tables e below (T21.setTop (mkF m 193 #[.val (.int p1), .val (.int p2), .val (.int p3), .val (.int p4), .val (.int p5), .val (.int p6), .val (.int ((p1 &&& (2147483647 : Int32)) % (100 : Int32))), .val (.int ((p2 &&& (2147483647 : Int32)) % (100 : Int32))), .val (.int z7), .val (.int z9), .val (.ref b12), .val (.ref b17), .val (.int (((p5.toUInt32 >>> ((3 : Int32) &&& 31).toUInt32).toInt32) &&& (3 : Int32))), .val (.ref b17), .unset, .unset] [(.int ((p2 &&& (2147483647 : Int32)) % (100 : Int32)))])) _
            refine XS.iload X21.here hx rfl (hb hby at_193) rfl ?_
            show Steps p.tables e below (T21.setTop (mkF m 195 #[.val (.int p1), .val (.int p2), .val (.int p3), .val (.int p4), .val (.int p5), .val (.int p6), .val (.int ((p1 &&& (2147483647 : Int32)) % (100 : Int32))), .val (.int ((p2 &&& (2147483647 : Int32)) % (100 : Int32))), .val (.int z7), .val (.int z9), .val (.ref b12), .val (.ref b17), .val (.int (((p5.toUInt32 >>> ((3 : Int32) &&& 31).toUInt32).toInt32) &&& (3 : Int32))), .val (.ref b17), .unset, .unset] [(.int z9), (.int ((p2 &&& (2147483647 : Int32)) % (100 : Int32)))])) _
            by_cases hc195_86 : ((p2 &&& (2147483647 : Int32)) % (100 : Int32)) = z9
            · refine XS.icmpNo X21.here hx rfl (hb hby at_195) rfl (teq hc195_86).2 ?_
              show Steps p.tables e below (T21.setTop (mkF m 198 #[.val (.int p1), .val (.int p2), .val (.int p3), .val (.int p4), .val (.int p5), .val (.int p6), .val (.int ((p1 &&& (2147483647 : Int32)) % (100 : Int32))), .val (.int ((p2 &&& (2147483647 : Int32)) % (100 : Int32))), .val (.int z7), .val (.int z9), .val (.ref b12), .val (.ref b17), .val (.int (((p5.toUInt32 >>> ((3 : Int32) &&& 31).toUInt32).toInt32) &&& (3 : Int32))), .val (.ref b17), .unset, .unset] [])) _
              refine XS.iconst X21.here hx rfl (hb hby at_198) ?_
              show Steps p.tables e below (T21.setTop (mkF m 199 #[.val (.int p1), .val (.int p2), .val (.int p3), .val (.int p4), .val (.int p5), .val (.int p6), .val (.int ((p1 &&& (2147483647 : Int32)) % (100 : Int32))), .val (.int ((p2 &&& (2147483647 : Int32)) % (100 : Int32))), .val (.int z7), .val (.int z9), .val (.ref b12), .val (.ref b17), .val (.int (((p5.toUInt32 >>> ((3 : Int32) &&& 31).toUInt32).toInt32) &&& (3 : Int32))), .val (.ref b17), .unset, .unset] [(.int (1 : Int32))])) _
              refine XS.goto X21.here hx rfl (pc0 := 199) (pc' := 203) rfl (hb hby at_199) (by decide) (by decide) ?_
              show Steps p.tables e below (T21.setTop (mkF m 203 #[.val (.int p1), .val (.int p2), .val (.int p3), .val (.int p4), .val (.int p5), .val (.int p6), .val (.int ((p1 &&& (2147483647 : Int32)) % (100 : Int32))), .val (.int ((p2 &&& (2147483647 : Int32)) % (100 : Int32))), .val (.int z7), .val (.int z9), .val (.ref b12), .val (.ref b17), .val (.int (((p5.toUInt32 >>> ((3 : Int32) &&& 31).toUInt32).toInt32) &&& (3 : Int32))), .val (.ref b17), .unset, .unset] [(.int (1 : Int32))])) _
              rw [if_pos hc188_85, if_pos hc195_86] at hz84
              subst hz84
              exact k
            · refine XS.icmpYes X21.here hx rfl (pc0 := 195) (pc' := 202) rfl (hb hby at_195) rfl (feq hc195_86).2 (by decide) (by decide) ?_
              show Steps p.tables e below (T21.setTop (mkF m 202 #[.val (.int p1), .val (.int p2), .val (.int p3), .val (.int p4), .val (.int p5), .val (.int p6), .val (.int ((p1 &&& (2147483647 : Int32)) % (100 : Int32))), .val (.int ((p2 &&& (2147483647 : Int32)) % (100 : Int32))), .val (.int z7), .val (.int z9), .val (.ref b12), .val (.ref b17), .val (.int (((p5.toUInt32 >>> ((3 : Int32) &&& 31).toUInt32).toInt32) &&& (3 : Int32))), .val (.ref b17), .unset, .unset] [])) _
              refine XS.iconst X21.here hx rfl (hb hby at_202) ?_
              show Steps p.tables e below (T21.setTop (mkF m 203 #[.val (.int p1), .val (.int p2), .val (.int p3), .val (.int p4), .val (.int p5), .val (.int p6), .val (.int ((p1 &&& (2147483647 : Int32)) % (100 : Int32))), .val (.int ((p2 &&& (2147483647 : Int32)) % (100 : Int32))), .val (.int z7), .val (.int z9), .val (.ref b12), .val (.ref b17), .val (.int (((p5.toUInt32 >>> ((3 : Int32) &&& 31).toUInt32).toInt32) &&& (3 : Int32))), .val (.ref b17), .unset, .unset] [(.int (0 : Int32))])) _
              rw [if_pos hc188_85, if_neg hc195_86] at hz84
              subst hz84
              exact k
          · refine XS.icmpYes X21.here hx rfl (pc0 := 188) (pc' := 202) rfl (hb hby at_188) rfl (feq hc188_85).2 (by decide) (by decide) ?_
            show Steps p.tables e below (T21.setTop (mkF m 202 #[.val (.int p1), .val (.int p2), .val (.int p3), .val (.int p4), .val (.int p5), .val (.int p6), .val (.int ((p1 &&& (2147483647 : Int32)) % (100 : Int32))), .val (.int ((p2 &&& (2147483647 : Int32)) % (100 : Int32))), .val (.int z7), .val (.int z9), .val (.ref b12), .val (.ref b17), .val (.int (((p5.toUInt32 >>> ((3 : Int32) &&& 31).toUInt32).toInt32) &&& (3 : Int32))), .val (.ref b17), .unset, .unset] [])) _
            refine XS.iconst X21.here hx rfl (hb hby at_202) ?_
            show Steps p.tables e below (T21.setTop (mkF m 203 #[.val (.int p1), .val (.int p2), .val (.int p3), .val (.int p4), .val (.int p5), .val (.int p6), .val (.int ((p1 &&& (2147483647 : Int32)) % (100 : Int32))), .val (.int ((p2 &&& (2147483647 : Int32)) % (100 : Int32))), .val (.int z7), .val (.int z9), .val (.ref b12), .val (.ref b17), .val (.int (((p5.toUInt32 >>> ((3 : Int32) &&& 31).toUInt32).toInt32) &&& (3 : Int32))), .val (.ref b17), .unset, .unset] [(.int (0 : Int32))])) _
            rw [if_neg hc188_85] at hz84
            subst hz84
            exact k
        refine own_pre (B := T21.setTop (mkF m 205 #[.val (.int p1), .val (.int p2), .val (.int p3), .val (.int p4), .val (.int p5), .val (.int p6), .val (.int ((p1 &&& (2147483647 : Int32)) % (100 : Int32))), .val (.int ((p2 &&& (2147483647 : Int32)) % (100 : Int32))), .val (.int z7), .val (.int z9), .val (.ref b12), .val (.ref b17), .val (.int (((p5.toUInt32 >>> ((3 : Int32) &&& 31).toUInt32).toInt32) &&& (3 : Int32))), .val (.ref b17), .val (.int z84), .unset] [])) (fun t k => XS.istore X21.here hx rfl (hb hby at_203) rfl (l' := #[.val (.int p1), .val (.int p2), .val (.int p3), .val (.int p4), .val (.int p5), .val (.int p6), .val (.int ((p1 &&& (2147483647 : Int32)) % (100 : Int32))), .val (.int ((p2 &&& (2147483647 : Int32)) % (100 : Int32))), .val (.int z7), .val (.int z9), .val (.ref b12), .val (.ref b17), .val (.int (((p5.toUInt32 >>> ((3 : Int32) &&& 31).toUInt32).toInt32) &&& (3 : Int32))), .val (.ref b17), .val (.int z84), .unset]) rfl k) ?_
        refine own_pre (B := T21.setTop (mkF m 207 #[.val (.int p1), .val (.int p2), .val (.int p3), .val (.int p4), .val (.int p5), .val (.int p6), .val (.int ((p1 &&& (2147483647 : Int32)) % (100 : Int32))), .val (.int ((p2 &&& (2147483647 : Int32)) % (100 : Int32))), .val (.int z7), .val (.int z9), .val (.ref b12), .val (.ref b17), .val (.int (((p5.toUInt32 >>> ((3 : Int32) &&& 31).toUInt32).toInt32) &&& (3 : Int32))), .val (.ref b17), .val (.int z84), .unset] [(.ref b12)])) (fun t k => XS.aload X21.here hx rfl (hb hby at_205) rfl rfl k) ?_
        refine own_pre (B := T21.setTop (mkF m 209 #[.val (.int p1), .val (.int p2), .val (.int p3), .val (.int p4), .val (.int p5), .val (.int p6), .val (.int ((p1 &&& (2147483647 : Int32)) % (100 : Int32))), .val (.int ((p2 &&& (2147483647 : Int32)) % (100 : Int32))), .val (.int z7), .val (.int z9), .val (.ref b12), .val (.ref b17), .val (.int (((p5.toUInt32 >>> ((3 : Int32) &&& 31).toUInt32).toInt32) &&& (3 : Int32))), .val (.ref b17), .val (.int z84), .unset] [(.ref b17), (.ref b12)])) (fun t k => XS.aload X21.here hx rfl (hb hby at_207) rfl rfl k) ?_
        have c87 := (Fld.keep (q14_1.ext E17) K21 (ninS ne19 nin0))
        have c88 := (Fld.keep (q14_2.ext E17) K21 (ninS ne19 nin0))
        have sz89 : n0 ≤ T21.heap.size := (Nat.le_trans sz20 K21.1)
        have c91 := (Exa.keep (q14_0.ext E17) K21)
        obtain ⟨cq90, kq90, q90a, q90b, q90c⟩ := isOf hZ rfl c91
        obtain ⟨_, _, ⟨T90, L90, k90, n90⟩, -, X90, ⟨Lc90, hQ90, l90, y90, z90⟩, st90⟩ := X21.virtualBack hx (y := (⟨"com/example/rikusen/rikusen/core/Hex", "equals", "(Ljava/lang/Object;)Z"⟩ : MethodName)) (z := (⟨"com/example/rikusen/rikusen/core/Hex", "equals", "(Ljava/lang/Object;)Z"⟩ : MethodName)) hown (mvT hZ (hw _ (ow 22 rfl))) (mvT hZ (hw _ (ow 23 rfl))) (notFace_of_selects (args := #[]) (mvT hZ (hw _ (ow 25 rfl)))) (mvT hZ (hw _ (ow 25 rfl))) (mvT hZ (hw _ (ow 24 rfl))) (by decide) (backOf (W := 0) (rm5 l Z a0 hw [] b12 b17 ((p1 &&& (2147483647 : Int32)) % (100 : Int32)) z7 ((p2 &&& (2147483647 : Int32)) % (100 : Int32)) z9 T21.heap n0 sz89 q21_0 c87 q21_1 c88 q21_2) hZ (hw _ (ow 26 rfl)) (hw _ (ow 3 rfl)) (by decide) (by decide)) q90a q90c (g := (mkF m 209 #[.val (.int p1), .val (.int p2), .val (.int p3), .val (.int p4), .val (.int p5), .val (.int p6), .val (.int ((p1 &&& (2147483647 : Int32)) % (100 : Int32))), .val (.int ((p2 &&& (2147483647 : Int32)) % (100 : Int32))), .val (.int z7), .val (.int z9), .val (.ref b12), .val (.ref b17), .val (.int (((p5.toUInt32 >>> ((3 : Int32) &&& 31).toUInt32).toInt32) &&& (3 : Int32))), .val (.ref b17), .val (.int z84), .unset] [(.ref b17), (.ref b12)])) rfl (by rw [hml]; rfl) (Steps.refl _) (argsL := [(.ref b17)]) (rest := []) (lenOf pd_7 rfl) rfl (by show 2 * 0 + _ ≤ _; exact Nat.le_of_eq rfl) (hb hby at_209) (fun _ _ => ⟨rfl, rfl, (by decide : 2 + 0 ≤ _), (by decide : 4 + 0 ≤ _)⟩)
        dsimp only [Pt.U, Pt.locs, Pt.cells, Pt.slots] at X90 l90 y90 z90 st90 hQ90
        subst l90 y90 z90
        obtain ⟨rfl, N90q, e90⟩ := hQ90
        have N90 := Fr.app N21 N90q
        refine own_pre (B := T90.setTop (mkF m 212 #[.val (.int p1), .val (.int p2), .val (.int p3), .val (.int p4), .val (.int p5), .val (.int p6), .val (.int ((p1 &&& (2147483647 : Int32)) % (100 : Int32))), .val (.int ((p2 &&& (2147483647 : Int32)) % (100 : Int32))), .val (.int z7), .val (.int z9), .val (.ref b12), .val (.ref b17), .val (.int (((p5.toUInt32 >>> ((3 : Int32) &&& 31).toUInt32).toInt32) &&& (3 : Int32))), .val (.ref b17), .val (.int z84), .unset] [(.int (own_f5 ((p1 &&& (2147483647 : Int32)) % (100 : Int32)) z7 ((p2 &&& (2147483647 : Int32)) % (100 : Int32)) z9))])) (fun t k => st90.trans k) ?_
        refine own_pre (B := T90.setTop (mkF m 214 #[.val (.int p1), .val (.int p2), .val (.int p3), .val (.int p4), .val (.int p5), .val (.int p6), .val (.int ((p1 &&& (2147483647 : Int32)) % (100 : Int32))), .val (.int ((p2 &&& (2147483647 : Int32)) % (100 : Int32))), .val (.int z7), .val (.int z9), .val (.ref b12), .val (.ref b17), .val (.int (((p5.toUInt32 >>> ((3 : Int32) &&& 31).toUInt32).toInt32) &&& (3 : Int32))), .val (.ref b17), .val (.int z84), .unset] [(.int z84), (.int (own_f5 ((p1 &&& (2147483647 : Int32)) % (100 : Int32)) z7 ((p2 &&& (2147483647 : Int32)) % (100 : Int32)) z9))])) (fun t k => XS.iload X90.here hx rfl (hb hby at_212) rfl k) ?_
        refine own_pre (B := T90.setTop (mkF m 217 #[.val (.int p1), .val (.int p2), .val (.int p3), .val (.int p4), .val (.int p5), .val (.int p6), .val (.int ((p1 &&& (2147483647 : Int32)) % (100 : Int32))), .val (.int ((p2 &&& (2147483647 : Int32)) % (100 : Int32))), .val (.int z7), .val (.int z9), .val (.ref b12), .val (.ref b17), .val (.int (((p5.toUInt32 >>> ((3 : Int32) &&& 31).toUInt32).toInt32) &&& (3 : Int32))), .val (.ref b17), .val (.int z84), .unset] [])) (fun t k => XS.icmpNo X90.here hx rfl (hb hby at_214) rfl (teq (by rw [hz84]; rfl)).2 k) ?_
        refine own_pre (B := T90.setTop (mkF m 218 #[.val (.int p1), .val (.int p2), .val (.int p3), .val (.int p4), .val (.int p5), .val (.int p6), .val (.int ((p1 &&& (2147483647 : Int32)) % (100 : Int32))), .val (.int ((p2 &&& (2147483647 : Int32)) % (100 : Int32))), .val (.int z7), .val (.int z9), .val (.ref b12), .val (.ref b17), .val (.int (((p5.toUInt32 >>> ((3 : Int32) &&& 31).toUInt32).toInt32) &&& (3 : Int32))), .val (.ref b17), .val (.int z84), .unset] [(.int (1 : Int32))])) (fun t k => XS.iconst X90.here hx rfl (hb hby at_217) k) ?_
        refine own_pre (B := T90.setTop (mkF m 222 #[.val (.int p1), .val (.int p2), .val (.int p3), .val (.int p4), .val (.int p5), .val (.int p6), .val (.int ((p1 &&& (2147483647 : Int32)) % (100 : Int32))), .val (.int ((p2 &&& (2147483647 : Int32)) % (100 : Int32))), .val (.int z7), .val (.int z9), .val (.ref b12), .val (.ref b17), .val (.int (((p5.toUInt32 >>> ((3 : Int32) &&& 31).toUInt32).toInt32) &&& (3 : Int32))), .val (.ref b17), .val (.int z84), .unset] [(.int (1 : Int32))])) (fun t k => XS.goto X90.here hx rfl (pc0 := 218) (pc' := 222) rfl (hb hby at_218) (by decide) (by decide) k) ?_
        refine own_pre (B := T90.setTop (mkF m 224 #[.val (.int p1), .val (.int p2), .val (.int p3), .val (.int p4), .val (.int p5), .val (.int p6), .val (.int ((p1 &&& (2147483647 : Int32)) % (100 : Int32))), .val (.int ((p2 &&& (2147483647 : Int32)) % (100 : Int32))), .val (.int z7), .val (.int z9), .val (.ref b12), .val (.ref b17), .val (.int (((p5.toUInt32 >>> ((3 : Int32) &&& 31).toUInt32).toInt32) &&& (3 : Int32))), .val (.ref b17), .val (.int z84), .val (.int (1 : Int32))] [])) (fun t k => XS.istore X90.here hx rfl (hb hby at_222) rfl (l' := #[.val (.int p1), .val (.int p2), .val (.int p3), .val (.int p4), .val (.int p5), .val (.int p6), .val (.int ((p1 &&& (2147483647 : Int32)) % (100 : Int32))), .val (.int ((p2 &&& (2147483647 : Int32)) % (100 : Int32))), .val (.int z7), .val (.int z9), .val (.ref b12), .val (.ref b17), .val (.int (((p5.toUInt32 >>> ((3 : Int32) &&& 31).toUInt32).toInt32) &&& (3 : Int32))), .val (.ref b17), .val (.int z84), .val (.int (1 : Int32))]) rfl k) ?_
        refine own_pre (B := T90.setTop (mkF m 226 #[.val (.int p1), .val (.int p2), .val (.int p3), .val (.int p4), .val (.int p5), .val (.int p6), .val (.int ((p1 &&& (2147483647 : Int32)) % (100 : Int32))), .val (.int ((p2 &&& (2147483647 : Int32)) % (100 : Int32))), .val (.int z7), .val (.int z9), .val (.ref b12), .val (.ref b17), .val (.int (((p5.toUInt32 >>> ((3 : Int32) &&& 31).toUInt32).toInt32) &&& (3 : Int32))), .val (.ref b17), .val (.int z84), .val (.int (1 : Int32))] [(.int (((p5.toUInt32 >>> ((3 : Int32) &&& 31).toUInt32).toInt32) &&& (3 : Int32)))])) (fun t k => XS.iload X90.here hx rfl (hb hby at_224) rfl k) ?_
        by_cases hc226_92 : (((p5.toUInt32 >>> ((3 : Int32) &&& 31).toUInt32).toInt32) &&& (3 : Int32)) = (0 : Int32)
        · refine own_pre (B := T90.setTop (mkF m 229 #[.val (.int p1), .val (.int p2), .val (.int p3), .val (.int p4), .val (.int p5), .val (.int p6), .val (.int ((p1 &&& (2147483647 : Int32)) % (100 : Int32))), .val (.int ((p2 &&& (2147483647 : Int32)) % (100 : Int32))), .val (.int z7), .val (.int z9), .val (.ref b12), .val (.ref b17), .val (.int (((p5.toUInt32 >>> ((3 : Int32) &&& 31).toUInt32).toInt32) &&& (3 : Int32))), .val (.ref b17), .val (.int z84), .val (.int (1 : Int32))] [])) (fun t k => XS.ifNo X90.here hx rfl (hb hby at_226) rfl ((if0 _ _).trans (teq hc226_92).2) k) ?_
          refine own_pre (B := T90.setTop (mkF m 231 #[.val (.int p1), .val (.int p2), .val (.int p3), .val (.int p4), .val (.int p5), .val (.int p6), .val (.int ((p1 &&& (2147483647 : Int32)) % (100 : Int32))), .val (.int ((p2 &&& (2147483647 : Int32)) % (100 : Int32))), .val (.int z7), .val (.int z9), .val (.ref b12), .val (.ref b17), .val (.int (((p5.toUInt32 >>> ((3 : Int32) &&& 31).toUInt32).toInt32) &&& (3 : Int32))), .val (.ref b17), .val (.int z84), .val (.int (1 : Int32))] [(.int (1 : Int32))])) (fun t k => XS.iload X90.here hx rfl (hb hby at_229) rfl k) ?_
          refine own_pre (B := T90.setTop (mkF m 234 #[.val (.int p1), .val (.int p2), .val (.int p3), .val (.int p4), .val (.int p5), .val (.int p6), .val (.int ((p1 &&& (2147483647 : Int32)) % (100 : Int32))), .val (.int ((p2 &&& (2147483647 : Int32)) % (100 : Int32))), .val (.int z7), .val (.int z9), .val (.ref b12), .val (.ref b17), .val (.int (((p5.toUInt32 >>> ((3 : Int32) &&& 31).toUInt32).toInt32) &&& (3 : Int32))), .val (.ref b17), .val (.int z84), .val (.int (1 : Int32))] [])) (fun t k => XS.ifNo X90.here hx rfl (hb hby at_231) rfl ((if0 _ _).trans (feq (by decide : ¬ ((1 : Int32) = (0 : Int32)))).1) k) ?_
          refine own_pre (B := T90.setTop (mkF m 236 #[.val (.int p1), .val (.int p2), .val (.int p3), .val (.int p4), .val (.int p5), .val (.int p6), .val (.int ((p1 &&& (2147483647 : Int32)) % (100 : Int32))), .val (.int ((p2 &&& (2147483647 : Int32)) % (100 : Int32))), .val (.int z7), .val (.int z9), .val (.ref b12), .val (.ref b17), .val (.int (((p5.toUInt32 >>> ((3 : Int32) &&& 31).toUInt32).toInt32) &&& (3 : Int32))), .val (.ref b17), .val (.int z84), .val (.int (1 : Int32))] [(.ref b17)])) (fun t k => XS.aload X90.here hx rfl (hb hby at_234) rfl rfl k) ?_
          refine own_pre (B := T90.setTop (mkF m 238 #[.val (.int p1), .val (.int p2), .val (.int p3), .val (.int p4), .val (.int p5), .val (.int p6), .val (.int ((p1 &&& (2147483647 : Int32)) % (100 : Int32))), .val (.int ((p2 &&& (2147483647 : Int32)) % (100 : Int32))), .val (.int z7), .val (.int z9), .val (.ref b12), .val (.ref b17), .val (.int (((p5.toUInt32 >>> ((3 : Int32) &&& 31).toUInt32).toInt32) &&& (3 : Int32))), .val (.ref b17), .val (.int z84), .val (.int (1 : Int32))] [(.ref b12), (.ref b17)])) (fun t k => XS.aload X90.here hx rfl (hb hby at_236) rfl rfl k) ?_
          obtain ⟨cq93, kq93, q93a, q93b, q93c⟩ := isOf hZ e90 q21_0
          obtain ⟨_, _, ⟨T93, L93, k93, n93⟩, -, X93, ⟨Lc93, hQ93, l93, y93, z93⟩, st93⟩ := X90.virtualBack hx (y := (⟨"com/example/rikusen/rikusen/core/Hex", "equals", "(Ljava/lang/Object;)Z"⟩ : MethodName)) (z := (⟨"com/example/rikusen/rikusen/core/Hex", "equals", "(Ljava/lang/Object;)Z"⟩ : MethodName)) hown (mvT hZ (hw _ (ow 22 rfl))) (mvT hZ (hw _ (ow 23 rfl))) (notFace_of_selects (args := #[]) (mvT hZ (hw _ (ow 25 rfl)))) (mvT hZ (hw _ (ow 25 rfl))) (mvT hZ (hw _ (ow 24 rfl))) (by decide) (backOf (W := 0) (rm5 l Z a0 hw [] b17 b12 z7 ((p1 &&& (2147483647 : Int32)) % (100 : Int32)) z9 ((p2 &&& (2147483647 : Int32)) % (100 : Int32)) T21.heap n0 sz89 c91 q21_1 c87 q21_2 c88) hZ (hw _ (ow 26 rfl)) (hw _ (ow 3 rfl)) (by decide) (by decide)) q93a q93c (g := (mkF m 238 #[.val (.int p1), .val (.int p2), .val (.int p3), .val (.int p4), .val (.int p5), .val (.int p6), .val (.int ((p1 &&& (2147483647 : Int32)) % (100 : Int32))), .val (.int ((p2 &&& (2147483647 : Int32)) % (100 : Int32))), .val (.int z7), .val (.int z9), .val (.ref b12), .val (.ref b17), .val (.int (((p5.toUInt32 >>> ((3 : Int32) &&& 31).toUInt32).toInt32) &&& (3 : Int32))), .val (.ref b17), .val (.int z84), .val (.int (1 : Int32))] [(.ref b12), (.ref b17)])) rfl (by rw [hml]; rfl) (Steps.refl _) (argsL := [(.ref b12)]) (rest := []) (lenOf pd_7 rfl) rfl (by show 2 * 0 + _ ≤ _; exact Nat.le_of_eq rfl) (hb hby at_238) (fun _ _ => ⟨rfl, e90, (by decide : 2 + 0 ≤ _), (by decide : 4 + 0 ≤ _)⟩)
          dsimp only [Pt.U, Pt.locs, Pt.cells, Pt.slots] at X93 l93 y93 z93 st93 hQ93
          subst l93 y93 z93
          obtain ⟨rfl, N93q, e93⟩ := hQ93
          have N93 := Fr.app N90 N93q
          refine own_pre (B := T93.setTop (mkF m 241 #[.val (.int p1), .val (.int p2), .val (.int p3), .val (.int p4), .val (.int p5), .val (.int p6), .val (.int ((p1 &&& (2147483647 : Int32)) % (100 : Int32))), .val (.int ((p2 &&& (2147483647 : Int32)) % (100 : Int32))), .val (.int z7), .val (.int z9), .val (.ref b12), .val (.ref b17), .val (.int (((p5.toUInt32 >>> ((3 : Int32) &&& 31).toUInt32).toInt32) &&& (3 : Int32))), .val (.ref b17), .val (.int z84), .val (.int (1 : Int32))] [(.int (own_f5 z7 ((p1 &&& (2147483647 : Int32)) % (100 : Int32)) z9 ((p2 &&& (2147483647 : Int32)) % (100 : Int32))))])) (fun t k => st93.trans k) ?_
          refine own_pre (B := T93.setTop (mkF m 243 #[.val (.int p1), .val (.int p2), .val (.int p3), .val (.int p4), .val (.int p5), .val (.int p6), .val (.int ((p1 &&& (2147483647 : Int32)) % (100 : Int32))), .val (.int ((p2 &&& (2147483647 : Int32)) % (100 : Int32))), .val (.int z7), .val (.int z9), .val (.ref b12), .val (.ref b17), .val (.int (((p5.toUInt32 >>> ((3 : Int32) &&& 31).toUInt32).toInt32) &&& (3 : Int32))), .val (.ref b17), .val (.int z84), .val (.int (1 : Int32))] [(.int z84), (.int (own_f5 z7 ((p1 &&& (2147483647 : Int32)) % (100 : Int32)) z9 ((p2 &&& (2147483647 : Int32)) % (100 : Int32))))])) (fun t k => XS.iload X93.here hx rfl (hb hby at_241) rfl k) ?_
          refine own_pre (B := T93.setTop (mkF m 246 #[.val (.int p1), .val (.int p2), .val (.int p3), .val (.int p4), .val (.int p5), .val (.int p6), .val (.int ((p1 &&& (2147483647 : Int32)) % (100 : Int32))), .val (.int ((p2 &&& (2147483647 : Int32)) % (100 : Int32))), .val (.int z7), .val (.int z9), .val (.ref b12), .val (.ref b17), .val (.int (((p5.toUInt32 >>> ((3 : Int32) &&& 31).toUInt32).toInt32) &&& (3 : Int32))), .val (.ref b17), .val (.int z84), .val (.int (1 : Int32))] [])) (fun t k => XS.icmpNo X93.here hx rfl (hb hby at_243) rfl (teq (by rw [hz84, own_sym]; rfl)).2 k) ?_
          refine own_pre (B := T93.setTop (mkF m 248 #[.val (.int p1), .val (.int p2), .val (.int p3), .val (.int p4), .val (.int p5), .val (.int p6), .val (.int ((p1 &&& (2147483647 : Int32)) % (100 : Int32))), .val (.int ((p2 &&& (2147483647 : Int32)) % (100 : Int32))), .val (.int z7), .val (.int z9), .val (.ref b12), .val (.ref b17), .val (.int (((p5.toUInt32 >>> ((3 : Int32) &&& 31).toUInt32).toInt32) &&& (3 : Int32))), .val (.ref b17), .val (.int z84), .val (.int (1 : Int32))] [(.ref b12)])) (fun t k => XS.aload X93.here hx rfl (hb hby at_246) rfl rfl k) ?_
          refine own_pre (B := T93.setTop (mkF m 250 #[.val (.int p1), .val (.int p2), .val (.int p3), .val (.int p4), .val (.int p5), .val (.int p6), .val (.int ((p1 &&& (2147483647 : Int32)) % (100 : Int32))), .val (.int ((p2 &&& (2147483647 : Int32)) % (100 : Int32))), .val (.int z7), .val (.int z9), .val (.ref b12), .val (.ref b17), .val (.int (((p5.toUInt32 >>> ((3 : Int32) &&& 31).toUInt32).toInt32) &&& (3 : Int32))), .val (.ref b17), .val (.int z84), .val (.int (1 : Int32))] [(.ref b12), (.ref b12)])) (fun t k => XS.aload X93.here hx rfl (hb hby at_248) rfl rfl k) ?_
          obtain ⟨cq94, kq94, q94a, q94b, q94c⟩ := isOf hZ e93 c91
          obtain ⟨_, _, ⟨T94, L94, k94, n94⟩, -, X94, ⟨Lc94, hQ94, l94, y94, z94⟩, st94⟩ := X93.virtualBack hx (y := (⟨"com/example/rikusen/rikusen/core/Hex", "equals", "(Ljava/lang/Object;)Z"⟩ : MethodName)) (z := (⟨"com/example/rikusen/rikusen/core/Hex", "equals", "(Ljava/lang/Object;)Z"⟩ : MethodName)) hown (mvT hZ (hw _ (ow 22 rfl))) (mvT hZ (hw _ (ow 23 rfl))) (notFace_of_selects (args := #[]) (mvT hZ (hw _ (ow 25 rfl)))) (mvT hZ (hw _ (ow 25 rfl))) (mvT hZ (hw _ (ow 24 rfl))) (by decide) (backOf (W := 0) (rm5 l Z a0 hw [] b12 b12 ((p1 &&& (2147483647 : Int32)) % (100 : Int32)) ((p1 &&& (2147483647 : Int32)) % (100 : Int32)) ((p2 &&& (2147483647 : Int32)) % (100 : Int32)) ((p2 &&& (2147483647 : Int32)) % (100 : Int32)) T21.heap n0 sz89 c91 c87 c87 c88 c88) hZ (hw _ (ow 26 rfl)) (hw _ (ow 3 rfl)) (by decide) (by decide)) q94a q94c (g := (mkF m 250 #[.val (.int p1), .val (.int p2), .val (.int p3), .val (.int p4), .val (.int p5), .val (.int p6), .val (.int ((p1 &&& (2147483647 : Int32)) % (100 : Int32))), .val (.int ((p2 &&& (2147483647 : Int32)) % (100 : Int32))), .val (.int z7), .val (.int z9), .val (.ref b12), .val (.ref b17), .val (.int (((p5.toUInt32 >>> ((3 : Int32) &&& 31).toUInt32).toInt32) &&& (3 : Int32))), .val (.ref b17), .val (.int z84), .val (.int (1 : Int32))] [(.ref b12), (.ref b12)])) rfl (by rw [hml]; rfl) (Steps.refl _) (argsL := [(.ref b12)]) (rest := []) (lenOf pd_7 rfl) rfl (by show 2 * 0 + _ ≤ _; exact Nat.le_of_eq rfl) (hb hby at_250) (fun _ _ => ⟨rfl, e93, (by decide : 2 + 0 ≤ _), (by decide : 4 + 0 ≤ _)⟩)
          dsimp only [Pt.U, Pt.locs, Pt.cells, Pt.slots] at X94 l94 y94 z94 st94 hQ94
          subst l94 y94 z94
          obtain ⟨rfl, N94q, e94⟩ := hQ94
          have N94 := Fr.app N93 N94q
          refine own_pre (B := T94.setTop (mkF m 253 #[.val (.int p1), .val (.int p2), .val (.int p3), .val (.int p4), .val (.int p5), .val (.int p6), .val (.int ((p1 &&& (2147483647 : Int32)) % (100 : Int32))), .val (.int ((p2 &&& (2147483647 : Int32)) % (100 : Int32))), .val (.int z7), .val (.int z9), .val (.ref b12), .val (.ref b17), .val (.int (((p5.toUInt32 >>> ((3 : Int32) &&& 31).toUInt32).toInt32) &&& (3 : Int32))), .val (.ref b17), .val (.int z84), .val (.int (1 : Int32))] [(.int (own_f5 ((p1 &&& (2147483647 : Int32)) % (100 : Int32)) ((p1 &&& (2147483647 : Int32)) % (100 : Int32)) ((p2 &&& (2147483647 : Int32)) % (100 : Int32)) ((p2 &&& (2147483647 : Int32)) % (100 : Int32))))])) (fun t k => st94.trans k) ?_
          refine own_pre (B := T94.setTop (mkF m 256 #[.val (.int p1), .val (.int p2), .val (.int p3), .val (.int p4), .val (.int p5), .val (.int p6), .val (.int ((p1 &&& (2147483647 : Int32)) % (100 : Int32))), .val (.int ((p2 &&& (2147483647 : Int32)) % (100 : Int32))), .val (.int z7), .val (.int z9), .val (.ref b12), .val (.ref b17), .val (.int (((p5.toUInt32 >>> ((3 : Int32) &&& 31).toUInt32).toInt32) &&& (3 : Int32))), .val (.ref b17), .val (.int z84), .val (.int (1 : Int32))] [])) (fun t k => XS.ifNo X94.here hx rfl (hb hby at_253) rfl ((if0 _ _).trans (feq (own_self _ _)).1) k) ?_
          refine own_pre (B := T94.setTop (mkF m 257 #[.val (.int p1), .val (.int p2), .val (.int p3), .val (.int p4), .val (.int p5), .val (.int p6), .val (.int ((p1 &&& (2147483647 : Int32)) % (100 : Int32))), .val (.int ((p2 &&& (2147483647 : Int32)) % (100 : Int32))), .val (.int z7), .val (.int z9), .val (.ref b12), .val (.ref b17), .val (.int (((p5.toUInt32 >>> ((3 : Int32) &&& 31).toUInt32).toInt32) &&& (3 : Int32))), .val (.ref b17), .val (.int z84), .val (.int (1 : Int32))] [(.int (1 : Int32))])) (fun t k => XS.iconst X94.here hx rfl (hb hby at_256) k) ?_
          refine own_pre (B := T94.setTop (mkF m 261 #[.val (.int p1), .val (.int p2), .val (.int p3), .val (.int p4), .val (.int p5), .val (.int p6), .val (.int ((p1 &&& (2147483647 : Int32)) % (100 : Int32))), .val (.int ((p2 &&& (2147483647 : Int32)) % (100 : Int32))), .val (.int z7), .val (.int z9), .val (.ref b12), .val (.ref b17), .val (.int (((p5.toUInt32 >>> ((3 : Int32) &&& 31).toUInt32).toInt32) &&& (3 : Int32))), .val (.ref b17), .val (.int z84), .val (.int (1 : Int32))] [(.int (1 : Int32))])) (fun t k => XS.goto X94.here hx rfl (pc0 := 257) (pc' := 261) rfl (hb hby at_257) (by decide) (by decide) k) ?_
          refine own_pre (B := T94.setTop (mkF m 263 #[.val (.int p1), .val (.int p2), .val (.int p3), .val (.int p4), .val (.int p5), .val (.int p6), .val (.int ((p1 &&& (2147483647 : Int32)) % (100 : Int32))), .val (.int ((p2 &&& (2147483647 : Int32)) % (100 : Int32))), .val (.int z7), .val (.int z9), .val (.ref b12), .val (.ref b17), .val (.int (((p5.toUInt32 >>> ((3 : Int32) &&& 31).toUInt32).toInt32) &&& (3 : Int32))), .val (.ref b17), .val (.int z84), .val (.int (1 : Int32))] [])) (fun t k => XS.istore X94.here hx rfl (hb hby at_261) rfl (l' := #[.val (.int p1), .val (.int p2), .val (.int p3), .val (.int p4), .val (.int p5), .val (.int p6), .val (.int ((p1 &&& (2147483647 : Int32)) % (100 : Int32))), .val (.int ((p2 &&& (2147483647 : Int32)) % (100 : Int32))), .val (.int z7), .val (.int z9), .val (.ref b12), .val (.ref b17), .val (.int (((p5.toUInt32 >>> ((3 : Int32) &&& 31).toUInt32).toInt32) &&& (3 : Int32))), .val (.ref b17), .val (.int z84), .val (.int (1 : Int32))]) rfl k) ?_
          refine own_pre (B := T94.setTop (mkF m 265 #[.val (.int p1), .val (.int p2), .val (.int p3), .val (.int p4), .val (.int p5), .val (.int p6), .val (.int ((p1 &&& (2147483647 : Int32)) % (100 : Int32))), .val (.int ((p2 &&& (2147483647 : Int32)) % (100 : Int32))), .val (.int z7), .val (.int z9), .val (.ref b12), .val (.ref b17), .val (.int (((p5.toUInt32 >>> ((3 : Int32) &&& 31).toUInt32).toInt32) &&& (3 : Int32))), .val (.ref b17), .val (.int z84), .val (.int (1 : Int32))] [(.int (1 : Int32))])) (fun t k => XS.iload X94.here hx rfl (hb hby at_263) rfl k) ?_
          obtain ⟨fsr95, hrr95, hrunr95, hendedr95, hWr95, hsamer95⟩ := X94.leave (v := some (.int (1 : Int32))) (fun h => by rw [Bd.returns] at h; cases h)
          refine ⟨_, _, (retN X94 hx (t := .boolean) Bd.returns (by simp) (hb hby at_265) hrr95), hrunr95, hendedr95, _, _, rfl, ?_, ⟨_, rfl⟩, hWr95, hsamer95.mono (by decide) (by decide)⟩
          show Q0 Z p1 p2 p3 p4 p5 p6 ca cc cs h0 n0 _ T94.heap _
          rw [e94]
          exact ⟨rfl, N94⟩
        · refine own_pre (B := T90.setTop (mkF m 263 #[.val (.int p1), .val (.int p2), .val (.int p3), .val (.int p4), .val (.int p5), .val (.int p6), .val (.int ((p1 &&& (2147483647 : Int32)) % (100 : Int32))), .val (.int ((p2 &&& (2147483647 : Int32)) % (100 : Int32))), .val (.int z7), .val (.int z9), .val (.ref b12), .val (.ref b17), .val (.int (((p5.toUInt32 >>> ((3 : Int32) &&& 31).toUInt32).toInt32) &&& (3 : Int32))), .val (.ref b17), .val (.int z84), .val (.int (1 : Int32))] [])) (fun t k => XS.ifYes X90.here hx rfl (pc0 := 226) (pc' := 263) rfl (hb hby at_226) rfl ((if0 _ _).trans (feq hc226_92).2) (by decide) (by decide) k) ?_
          refine own_pre (B := T90.setTop (mkF m 265 #[.val (.int p1), .val (.int p2), .val (.int p3), .val (.int p4), .val (.int p5), .val (.int p6), .val (.int ((p1 &&& (2147483647 : Int32)) % (100 : Int32))), .val (.int ((p2 &&& (2147483647 : Int32)) % (100 : Int32))), .val (.int z7), .val (.int z9), .val (.ref b12), .val (.ref b17), .val (.int (((p5.toUInt32 >>> ((3 : Int32) &&& 31).toUInt32).toInt32) &&& (3 : Int32))), .val (.ref b17), .val (.int z84), .val (.int (1 : Int32))] [(.int (1 : Int32))])) (fun t k => XS.iload X90.here hx rfl (hb hby at_263) rfl k) ?_
          obtain ⟨fsr96, hrr96, hrunr96, hendedr96, hWr96, hsamer96⟩ := X90.leave (v := some (.int (1 : Int32))) (fun h => by rw [Bd.returns] at h; cases h)
          refine ⟨_, _, (retN X90 hx (t := .boolean) Bd.returns (by simp) (hb hby at_265) hrr96), hrunr96, hendedr96, _, _, rfl, ?_, ⟨_, rfl⟩, hWr96, hsamer96.mono (by decide) (by decide)⟩
          show Q0 Z p1 p2 p3 p4 p5 p6 ca cc cs h0 n0 _ T90.heap _
          rw [e90]
          exact ⟨rfl, N90⟩
set_option maxRecDepth 65536 in
set_option maxHeartbeats 40000000 in
theorem comes_1 {Post : Tables → Env → Array Value → State → Outcome → State → Prop} (hpost : ∀ tb e args s v u, (limb_1_1.after args s (.returned v) u = true ∧ limb_1_2.after args s (.returned v) u = true ∧ True) → FrameEnd s (.returned v) u (Jvm.fieldLocs frame_1_writes args s ++ Jvm.arrayLocs frame_1_arrays args s ++ Jvm.staticLocs frame_1_statics s) 24 128 → Post tb e args s (.returned v) u) :
    ArmFor flags0 classFile x code maxLocals ret World_1 tables_1 room_1 Calls_1 rest_1 Pre_1 Post := by
  intro l hfl _ _ p e ha hc hk s m args below hf hA hF happ hP
  obtain ⟨hcalls, hrest, hpre⟩ := hP
  obtain ⟨-, -, -, hnamed, -, -, -, hat⟩ := (Spec.applies_iff hf).mp happ
  obtain ⟨hg, hn⟩ := and_e (Cond.before_iff.mp (show (Jvm.Cond.and given_1 narrow_1).before args s = true from hpre))
  obtain ⟨g1, g2⟩ := and_e hg
  obtain ⟨g3, g4⟩ := and_e g2
  obtain ⟨g5, g6⟩ := and_e g4
  obtain ⟨g7, g8⟩ := and_e g6
  obtain ⟨g9, g10⟩ := and_e g8
  obtain ⟨g11, g12⟩ := and_e g10
  obtain ⟨w0, w1, w2, w3, w4, w5, rfl⟩ : ∃ w0 w1 w2 w3 w4 w5 : Value, args = #[w0, w1, w2, w3, w4, w5] := by
    have hs : args.size = 6 := by simpa [Cond.value, given_1] using g1
    obtain ⟨L⟩ := args
    match L, hs with
    | [w0, w1, w2, w3, w4, w5], _ => exact ⟨w0, w1, w2, w3, w4, w5, rfl⟩
  have hw := fun d (hd : d ∈ tables_1) => atoms_spec (ws := Jvm.Cond.code x code maxLocals ret :: tables_1) hat d (List.mem_cons_of_mem _ hd)
  have hfit : Fit s := fun {y c} hc i hi => by
    obtain ⟨ha, rfl⟩ := Array.getElem?_eq_some_iff.mp hc
    have q := List.all_eq_true.mp ((Array.all_eq_true_iff_forall_mem.mp hF) _ (Array.getElem_mem ha)) i (List.mem_range.mpr hi)
    simpa [Array.getElem?_eq_getElem hi] using q
  obtain ⟨hsets, hown0⟩ := atoms_of _ (rest_1_c_eq ▸ (show rest_1_c.before _ s = true from hrest))
  have hr0 := Cond.before_iff.mp hown0
  obtain ⟨i0, ei0⟩ := is_v g3
  obtain rfl : w0 = (.int i0) := Option.some.inj ei0
  obtain ⟨i1, ei1⟩ := is_v g5
  obtain rfl : w1 = (.int i1) := Option.some.inj ei1
  obtain ⟨i2, ei2⟩ := is_v g7
  obtain rfl : w2 = (.int i2) := Option.some.inj ei2
  obtain ⟨i3, ei3⟩ := is_v g9
  obtain rfl : w3 = (.int i3) := Option.some.inj ei3
  obtain ⟨i4, ei4⟩ := is_v g11
  obtain rfl : w4 = (.int i4) := Option.some.inj ei4
  obtain ⟨i5, ei5⟩ := is_v g12
  obtain rfl : w5 = (.int i5) := Option.some.inj ei5
  have eH : (Term.static "java/lang/Integer$IntegerCache" "high" "I").eval _ s none [] s = some (.int (127 : Int32)) := Cond.eq_int (hsets _ (List.mem_of_getElem? (i := 3) rfl)) (Term.int_eval (127))
  have SH : Sta s s.heap "java/lang/Integer$IntegerCache" "high" "I" (.int (127 : Int32)) := Sta.start eH (Or.inl (hsets _ (List.mem_of_getElem? (i := 1) rfl)))
  obtain ⟨ca, cc, eC, AC, SZ256, EL⟩ := own_cache (hsets _ (List.mem_of_getElem? (i := 4) rfl)) (hsets _ (List.mem_of_getElem? (i := 6) rfl)) (hsets _ (List.mem_of_getElem? (i := 7) rfl))
  have SC : Sta s s.heap "java/lang/Integer$IntegerCache" "cache" "[Ljava/lang/Integer;" (.ref ca) := Sta.start eC (Or.inr ⟨(hw _ (ow 34 rfl)), (hsets _ (List.mem_of_getElem? (i := 2) rfl))⟩)
  obtain ⟨cs, eS⟩ := is_v (Cond.before_iff.mp (hsets _ (List.mem_of_getElem? (i := 9) rfl)))
  have SCS : Sta s s.heap "java/lang/String" "COMPACT_STRINGS" "Z" (.int cs) := Sta.start eS (Or.inl (hsets _ (List.mem_of_getElem? (i := 8) rfl)))
  have hcs : ¬ (cs = (0 : Int32)) := gotF (Cond.eq_ints eS (Term.int_eval (0))) (not_v (Cond.before_iff.mp (hsets _ (List.mem_of_getElem? (i := 10) rfl))))
  obtain ⟨n, o, h1, h2, h3, _, L, rfl, ⟨rfl, N⟩, hq⟩ := rm0 l s _ hw tables_1 i0 i1 i2 i3 i4 i5 ca cc cs s.heap s.heap.size (Nat.le_refl _) (Old.start s) SC SH AC SZ256 EL SCS hcs p e ha hc hk s m _ below hf ((Spec.applies_iff_loose hf).mp happ).1 ⟨rfl, State.Warmed39.refl s, rfl⟩ trivial
  refine ⟨n, _, h1, h2, h3, hpost _ _ _ _ _ _ ⟨Cond.after_iff.mpr rfl, Cond.after_iff.mpr (eq_i res_at (Term.int_eval (1)) rfl), trivial⟩ ⟨hq.1, hq.2.1, (hq.2.2.sift fun y hy => Or.inr (N y hy)).mono (by decide) (by decide)⟩⟩
theorem main_1_1 : Claimed_1_1 := comes_1 fun _ _ _ _ _ _ h hF => ⟨h.1, hF⟩
theorem main_1_2 : Claimed_1_2 := comes_1 fun _ _ _ _ _ _ h hF => ⟨h.2.1, hF⟩
end Jvm.Pilot.@@N@@
namespace Jvm.Pilot.@@N@@
open Jvm Jvm.ClassFile Sem Op Lib Jvm.Free Jvm.Stand Jvm.Pilot.@@N@@.Jvm.D
/-! MADE BY PROGRAM (witnessworld.py) out of the Statement's table words and the real class files: 24 classes; the members and pool entries that the words name. The judged class is class 1, her method 1. -/
namespace start1
open Jvm.ClassFile
def u (s : String) : CpInfo := .utf8 (stringToUtf16 s)
/-- a pool by its gaps: so many unusable entries, then the entry; so many at the end -/
def gap : Nat → List CpInfo → List CpInfo
  | 0, r => r
  | n + 1, r => .unusable :: gap n r
def poolList (es : List (Nat × CpInfo)) (last : Nat) : List CpInfo := es.foldr (fun e r => gap e.1 (e.2 :: r)) (gap last [])
def pool (es : List (Nat × CpInfo)) (last : Nat) : Array CpInfo := ⟨poolList es last⟩
def fileOf (pool : Array CpInfo) (this : Nat) (attrs : Array Attribute := #[]) (ms : Array MethodInfo := #[]) (fl : Nat := 33) (sup : Nat := 0) (ifs : Array Nat := #[]) (fds : Array FieldInfo := #[]) : ClassFile where
  minorVersion := 0
  majorVersion := 65
  constantPool := pool
  accessFlags := fl
  thisClass := this
  superClass := sup
  interfaces := ifs
  fields := fds
  methods := ms
  attributes := attrs
def plain (name : String) (sup : Option ClassId) : Class where
  name := name
  kind := .ordinary
  loader := none
  accessFlags := 33
  super := sup
  interfaces := #[]
  cf := none
  fields := #[]
  methods := #[]
  instanceTypes := #[]
  staticTypes := #[]
  resolved := #[]
  callSites := []
  init := .initialized
  statics := none
  mirror := none

def pool0 : Array CpInfo := pool [(5, u "<init>"), (0, u "()V"), (1, .class_ 10), (1, u "java/lang/Object")] 113

def k0c0 : Code := { maxStack := 0, maxLocals := 1, code := object_method_1_code, exceptionTable := #[], attributes := #[] }
def k0m0 : Method := { name := "<init>", desc := "()V", sig := { parameters := [], returnType := none }, accessFlags := 1, code := some k0c0 }
/-- java/lang/Object -/
def k0 : Class := { plain "java/lang/Object" none with
  accessFlags := 33
  interfaces := #[]
  cf := some (fileOf pool0 8 #[] #[{ accessFlags := 1, nameIndex := 5, descriptorIndex := 6, attributes := #[] }] 33 0 #[] #[])
  fields := #[]
  methods := #[k0m0]
  instanceTypes := #[]
  staticTypes := #[]
  resolved := Array.replicate 124 none
  statics := none }

def pool1 : Array CpInfo := pool [(2, .class_ 4), (1, u "java/lang/Object"), (0, u "<init>"), (0, u "()V"), (0, .integer 2147483647), (0, .class_ 9), (0, u "com/example/rikusen/rikusen/core/Hex"), (0, .methodref 8 11), (0, .nameAndType 5 12), (0, u "(II)V"), (0, .class_ 14), (0, u "com/example/rikusen/rikusen/core/Box"), (0, .methodref 16 17), (0, .class_ 18), (0, .nameAndType 19 20), (0, u "java/lang/String"), (0, u "valueOf"), (0, u "(C)Ljava/lang/String;"), (0, .methodref 13 22), (0, .nameAndType 5 23), (0, u "(Ljava/lang/String;Ljava/lang/String;Lcom/example/rikusen/rikusen/core/Hex;)V"), (0, .methodref 25 26), (0, .class_ 27), (0, .nameAndType 19 28), (0, u "java/lang/Integer"), (0, u "(I)Ljava/lang/Integer;"), (0, .methodref 8 30), (0, .nameAndType 31 32), (0, u "equals"), (0, u "(Ljava/lang/Object;)Z"), (0, .class_ 34), (0, u "com/example/rikusen/rikusen/core/HexEqualsPinLaw"), (2, u "law"), (0, u "(IIIIII)Z")] 3

def k1m0 : Method := { name := "<init>", desc := "()V", sig := { parameters := [], returnType := none }, accessFlags := 1, code := none }
def k1c1 : Code := { maxStack := 5, maxLocals := 16, code := code, exceptionTable := #[], attributes := #[] }
def k1m1 : Method := { name := "law", desc := "(IIIIII)Z", sig := { parameters := [.int, .int, .int, .int, .int, .int], returnType := some .boolean }, accessFlags := 9, code := some k1c1 }
/-- com/example/rikusen/rikusen/core/HexEqualsPinLaw -/
def k1 : Class := { plain "com/example/rikusen/rikusen/core/HexEqualsPinLaw" (some 0) with
  accessFlags := 49
  interfaces := #[]
  cf := some (fileOf pool1 33 #[] #[{ accessFlags := 1, nameIndex := 5, descriptorIndex := 6, attributes := #[] }, { accessFlags := 9, nameIndex := 37, descriptorIndex := 38, attributes := #[] }] 49 2 #[] #[])
  fields := #[]
  methods := #[k1m0, k1m1]
  instanceTypes := #[]
  staticTypes := #[]
  resolved := Array.replicate 42 none
  statics := none }

def pool2 : Array CpInfo := pool [(1, .methodref 2 3), (0, .class_ 4), (0, .nameAndType 5 6), (0, u "java/lang/Object"), (0, u "<init>"), (0, u "()V"), (0, .class_ 8), (0, u "java/lang/Record")] 13

def k2c0 : Code := { maxStack := 1, maxLocals := 1, code := jdk_30_method_1_code, exceptionTable := #[], attributes := #[] }
def k2m0 : Method := { name := "<init>", desc := "()V", sig := { parameters := [], returnType := none }, accessFlags := 4, code := some k2c0 }
/-- java/lang/Record -/
def k2 : Class := { plain "java/lang/Record" (some 0) with
  accessFlags := 1057
  interfaces := #[]
  cf := some (fileOf pool2 7 #[] #[{ accessFlags := 4, nameIndex := 5, descriptorIndex := 6, attributes := #[] }] 1057 2 #[] #[])
  fields := #[]
  methods := #[k2m0]
  instanceTypes := #[]
  staticTypes := #[]
  resolved := Array.replicate 22 none
  statics := none }

def pool3 : Array CpInfo := pool [(1, .class_ 2), (0, u "com/example/rikusen/rikusen/core/Place"), (0, .class_ 4), (0, u "java/lang/Object")] 7

/-- com/example/rikusen/rikusen/core/Place -/
def k3 : Class := { plain "com/example/rikusen/rikusen/core/Place" (some 0) with
  accessFlags := 1537
  interfaces := #[]
  cf := some (fileOf pool3 1 #[] #[] 1537 3 #[] #[])
  fields := #[]
  methods := #[]
  instanceTypes := #[]
  staticTypes := #[]
  resolved := Array.replicate 12 none
  statics := none }

def pool4 : Array CpInfo := pool [(1, .class_ 2), (0, u "java/lang/Comparable"), (0, .class_ 4), (0, u "java/lang/Object")] 7

/-- java/lang/Comparable -/
def k4 : Class := { plain "java/lang/Comparable" (some 0) with
  accessFlags := 1537
  interfaces := #[]
  cf := some (fileOf pool4 1 #[] #[] 1537 3 #[] #[])
  fields := #[]
  methods := #[]
  instanceTypes := #[]
  staticTypes := #[]
  resolved := Array.replicate 12 none
  statics := none }

def pool5 : Array CpInfo := pool [(1, .class_ 2), (0, u "com/example/rikusen/rikusen/core/Hex"), (0, .methodref 4 5), (0, .class_ 6), (0, .nameAndType 7 8), (0, u "java/lang/Record"), (0, u "<init>"), (0, u "()V"), (0, .methodref 1 10), (0, .nameAndType 11 12), (0, u "fitsTwoDigits"), (0, u "(I)Z"), (9, .fieldref 1 23), (0, .nameAndType 24 25), (0, u "column"), (0, u "I"), (0, .fieldref 1 27), (0, .nameAndType 28 25), (0, u "row"), (37, u "(II)V"), (5, u "NEIGHBOURS"), (0, u "Ljava/util/concurrent/atomic/AtomicReferenceArray;"), (63, .class_ 138), (0, u "com/example/rikusen/rikusen/core/Place"), (0, .class_ 140), (0, u "java/lang/Comparable"), (0, u "NUMBER_LIMIT"), (2, u "NUMBERS"), (1, u "SPREAD"), (10, u "equals"), (0, u "(Ljava/lang/Object;)Z")] 53

def k5c0 : Code := { maxStack := 4, maxLocals := 3, code := prog_29_method_1_code, exceptionTable := #[], attributes := #[] }
def k5m0 : Method := { name := "<init>", desc := "(II)V", sig := { parameters := [.int, .int], returnType := none }, accessFlags := 1, code := some k5c0 }
def k5c1 : Code := { maxStack := 2, maxLocals := 3, code := prog_29_method_6_code, exceptionTable := #[], attributes := #[] }
def k5m1 : Method := { name := "equals", desc := "(Ljava/lang/Object;)Z", sig := { parameters := [(.object "java/lang/Object")], returnType := some .boolean }, accessFlags := 1, code := some k5c1 }
def k5c2 : Code := { maxStack := 2, maxLocals := 1, code := prog_29_method_11_code, exceptionTable := #[], attributes := #[] }
def k5m2 : Method := { name := "fitsTwoDigits", desc := "(I)Z", sig := { parameters := [.int], returnType := some .boolean }, accessFlags := 10, code := some k5c2 }
/-- com/example/rikusen/rikusen/core/Hex -/
def k5 : Class := { plain "com/example/rikusen/rikusen/core/Hex" (some 2) with
  accessFlags := 49
  interfaces := #[3, 4]
  cf := some (fileOf pool5 1 #[] #[{ accessFlags := 1, nameIndex := 7, descriptorIndex := 66, attributes := #[] }, { accessFlags := 1, nameIndex := 157, descriptorIndex := 158, attributes := #[] }, { accessFlags := 10, nameIndex := 11, descriptorIndex := 12, attributes := #[] }] 49 4 #[137, 139] #[{ accessFlags := 18, nameIndex := 24, descriptorIndex := 25, attributes := #[] }, { accessFlags := 18, nameIndex := 28, descriptorIndex := 25, attributes := #[] }, { accessFlags := 26, nameIndex := 141, descriptorIndex := 25, attributes := #[] }, { accessFlags := 25, nameIndex := 144, descriptorIndex := 25, attributes := #[] }, { accessFlags := 26, nameIndex := 146, descriptorIndex := 25, attributes := #[] }, { accessFlags := 26, nameIndex := 72, descriptorIndex := 73, attributes := #[] }])
  fields := #[{ name := "column", type := .int, accessFlags := 18, slot := 0, constantValue := 0 }, { name := "row", type := .int, accessFlags := 18, slot := 1, constantValue := 0 }, { name := "NUMBER_LIMIT", type := .int, accessFlags := 26, slot := 0, constantValue := 0 }, { name := "NUMBERS", type := .int, accessFlags := 25, slot := 1, constantValue := 0 }, { name := "SPREAD", type := .int, accessFlags := 26, slot := 2, constantValue := 0 }, { name := "NEIGHBOURS", type := (.object "java/util/concurrent/atomic/AtomicReferenceArray"), accessFlags := 26, slot := 3, constantValue := 0 }]
  methods := #[k5m0, k5m1, k5m2]
  instanceTypes := #[.int, .int]
  staticTypes := #[.int, .int, .int, (.object "java/util/concurrent/atomic/AtomicReferenceArray")]
  resolved := Array.replicate 212 none
  statics := none }

def pool6 : Array CpInfo := pool [(1, .class_ 2), (0, u "java/io/Serializable"), (0, .class_ 4), (0, u "java/lang/Object")] 2

/-- java/io/Serializable -/
def k6 : Class := { plain "java/io/Serializable" (some 0) with
  accessFlags := 1537
  interfaces := #[]
  cf := some (fileOf pool6 1 #[] #[] 1537 3 #[] #[])
  fields := #[]
  methods := #[]
  instanceTypes := #[]
  staticTypes := #[]
  resolved := Array.replicate 7 none
  statics := none }

def pool7 : Array CpInfo := pool [(1, .methodref 2 3), (0, .class_ 4), (0, .nameAndType 5 6), (0, u "java/lang/Object"), (0, u "<init>"), (0, u "()V"), (1, .class_ 10), (1, u "java/lang/Number"), (2, .class_ 14), (0, u "java/io/Serializable"), (0, u "serialVersionUID"), (0, u "J")] 20

def k7c0 : Code := { maxStack := 1, maxLocals := 1, code := jdk_18_method_1_code, exceptionTable := #[], attributes := #[] }
def k7m0 : Method := { name := "<init>", desc := "()V", sig := { parameters := [], returnType := none }, accessFlags := 1, code := some k7c0 }
/-- java/lang/Number -/
def k7 : Class := { plain "java/lang/Number" (some 0) with
  accessFlags := 1057
  interfaces := #[6]
  cf := some (fileOf pool7 8 #[] #[{ accessFlags := 1, nameIndex := 5, descriptorIndex := 6, attributes := #[] }] 1057 2 #[13] #[{ accessFlags := 26, nameIndex := 15, descriptorIndex := 16, attributes := #[] }])
  fields := #[{ name := "serialVersionUID", type := .long, accessFlags := 26, slot := 0, constantValue := 0 }]
  methods := #[k7m0]
  instanceTypes := #[]
  staticTypes := #[.long]
  resolved := Array.replicate 37 none
  statics := none }

def pool8 : Array CpInfo := pool [(1, .class_ 2), (0, u "java/lang/constant/Constable"), (0, .class_ 4), (0, u "java/lang/Object")] 6

/-- java/lang/constant/Constable -/
def k8 : Class := { plain "java/lang/constant/Constable" (some 0) with
  accessFlags := 1537
  interfaces := #[]
  cf := some (fileOf pool8 1 #[] #[] 1537 3 #[] #[])
  fields := #[]
  methods := #[]
  instanceTypes := #[]
  staticTypes := #[]
  resolved := Array.replicate 11 none
  statics := none }

def pool9 : Array CpInfo := pool [(1, .class_ 2), (0, u "java/lang/constant/ConstantDesc"), (0, .class_ 4), (0, u "java/lang/Object")] 32

/-- java/lang/constant/ConstantDesc -/
def k9 : Class := { plain "java/lang/constant/ConstantDesc" (some 0) with
  accessFlags := 1537
  interfaces := #[]
  cf := some (fileOf pool9 1 #[] #[] 1537 3 #[] #[])
  fields := #[]
  methods := #[]
  instanceTypes := #[]
  staticTypes := #[]
  resolved := Array.replicate 37 none
  statics := none }

def pool10 : Array CpInfo := pool [(1, .class_ 2), (0, u "java/lang/Integer"), (16, u "digits"), (0, u "[C"), (46, u "<init>"), (17, u "DigitOnes"), (0, u "[B"), (2, u "DigitTens"), (10, .nameAndType 67 101), (0, u "()V"), (85, u "valueOf"), (0, u "(I)Ljava/lang/Integer;"), (0, .class_ 190), (0, u "java/lang/Integer$IntegerCache"), (0, .fieldref 189 192), (0, .nameAndType 193 194), (0, u "high"), (0, u "I"), (0, .fieldref 189 196), (0, .nameAndType 197 198), (0, u "cache"), (0, u "[Ljava/lang/Integer;"), (0, .methodref 1 200), (0, .nameAndType 67 201), (0, u "(I)V"), (0, .methodref 203 100), (0, .class_ 204), (0, u "java/lang/Number"), (0, .fieldref 1 206), (0, .nameAndType 207 194), (0, u "value"), (94, u "TYPE"), (0, u "Ljava/lang/Class;"), (0, .class_ 305), (0, u "java/lang/Comparable"), (0, .class_ 307), (0, u "java/lang/constant/Constable"), (0, .class_ 309), (0, u "java/lang/constant/ConstantDesc"), (0, u "MIN_VALUE"), (1, u "MAX_VALUE"), (3, u "SIZE"), (1, u "BYTES"), (1, u "serialVersionUID"), (0, u "J")] 131

def k10c0 : Code := { maxStack := 3, maxLocals := 1, code := jdk_33_method_22_code, exceptionTable := #[], attributes := #[] }
def k10m0 : Method := { name := "valueOf", desc := "(I)Ljava/lang/Integer;", sig := { parameters := [.int], returnType := some (.object "java/lang/Integer") }, accessFlags := 9, code := some k10c0 }
def k10c1 : Code := { maxStack := 2, maxLocals := 2, code := jdk_33_method_23_code, exceptionTable := #[], attributes := #[] }
def k10m1 : Method := { name := "<init>", desc := "(I)V", sig := { parameters := [.int], returnType := none }, accessFlags := 1, code := some k10c1 }
/-- java/lang/Integer -/
def k10 : Class := { plain "java/lang/Integer" (some 7) with
  accessFlags := 49
  interfaces := #[4, 8, 9]
  cf := some (fileOf pool10 1 #[.nestMembers #[189]] #[{ accessFlags := 9, nameIndex := 187, descriptorIndex := 188, attributes := #[] }, { accessFlags := 1, nameIndex := 67, descriptorIndex := 201, attributes := #[] }] 49 203 #[304, 306, 308] #[{ accessFlags := 25, nameIndex := 310, descriptorIndex := 194, attributes := #[] }, { accessFlags := 25, nameIndex := 312, descriptorIndex := 194, attributes := #[] }, { accessFlags := 25, nameIndex := 302, descriptorIndex := 303, attributes := #[] }, { accessFlags := 24, nameIndex := 19, descriptorIndex := 20, attributes := #[] }, { accessFlags := 24, nameIndex := 89, descriptorIndex := 86, attributes := #[] }, { accessFlags := 24, nameIndex := 85, descriptorIndex := 86, attributes := #[] }, { accessFlags := 18, nameIndex := 207, descriptorIndex := 194, attributes := #[] }, { accessFlags := 25, nameIndex := 316, descriptorIndex := 194, attributes := #[] }, { accessFlags := 25, nameIndex := 318, descriptorIndex := 194, attributes := #[] }, { accessFlags := 26, nameIndex := 320, descriptorIndex := 321, attributes := #[] }])
  fields := #[{ name := "MIN_VALUE", type := .int, accessFlags := 25, slot := 0, constantValue := 0 }, { name := "MAX_VALUE", type := .int, accessFlags := 25, slot := 1, constantValue := 0 }, { name := "TYPE", type := (.object "java/lang/Class"), accessFlags := 25, slot := 2, constantValue := 0 }, { name := "digits", type := (.array .char), accessFlags := 24, slot := 3, constantValue := 0 }, { name := "DigitTens", type := (.array .byte), accessFlags := 24, slot := 4, constantValue := 0 }, { name := "DigitOnes", type := (.array .byte), accessFlags := 24, slot := 5, constantValue := 0 }, { name := "value", type := .int, accessFlags := 18, slot := 0, constantValue := 0 }, { name := "SIZE", type := .int, accessFlags := 25, slot := 6, constantValue := 0 }, { name := "BYTES", type := .int, accessFlags := 25, slot := 7, constantValue := 0 }, { name := "serialVersionUID", type := .long, accessFlags := 26, slot := 8, constantValue := 0 }]
  methods := #[k10m0, k10m1]
  instanceTypes := #[.int]
  staticTypes := #[.int, .int, (.object "java/lang/Class"), (.array .char), (.array .byte), (.array .byte), .int, .int, .long]
  resolved := Array.replicate 453 none
  statics := none }

def pool11 : Array CpInfo := pool [(2, .class_ 4), (1, u "java/lang/Object"), (0, u "<init>"), (0, u "()V"), (0, .class_ 8), (0, u "java/lang/Integer"), (7, .class_ 18), (1, u "java/lang/Integer$IntegerCache"), (0, u "$assertionsDisabled"), (0, u "Z"), (26, u "high"), (0, u "I"), (8, u "archivedCache"), (0, u "[Ljava/lang/Integer;"), (12, u "cache"), (0, u "low")] 27

def k11m0 : Method := { name := "<init>", desc := "()V", sig := { parameters := [], returnType := none }, accessFlags := 2, code := none }
/-- java/lang/Integer$IntegerCache -/
def k11 : Class := { plain "java/lang/Integer$IntegerCache" (some 0) with
  accessFlags := 48
  interfaces := #[]
  cf := some (fileOf pool11 16 #[.nestHost 7] #[{ accessFlags := 2, nameIndex := 5, descriptorIndex := 6, attributes := #[] }] 48 2 #[] #[{ accessFlags := 24, nameIndex := 72, descriptorIndex := 48, attributes := #[] }, { accessFlags := 24, nameIndex := 47, descriptorIndex := 48, attributes := #[] }, { accessFlags := 24, nameIndex := 71, descriptorIndex := 58, attributes := #[] }, { accessFlags := 8, nameIndex := 57, descriptorIndex := 58, attributes := #[] }, { accessFlags := 4120, nameIndex := 19, descriptorIndex := 20, attributes := #[] }])
  fields := #[{ name := "low", type := .int, accessFlags := 24, slot := 0, constantValue := 0 }, { name := "high", type := .int, accessFlags := 24, slot := 1, constantValue := 0 }, { name := "cache", type := (.array (.object "java/lang/Integer")), accessFlags := 24, slot := 2, constantValue := 0 }, { name := "archivedCache", type := (.array (.object "java/lang/Integer")), accessFlags := 8, slot := 3, constantValue := 0 }, { name := "$assertionsDisabled", type := .boolean, accessFlags := 4120, slot := 4, constantValue := 0 }]
  methods := #[k11m0]
  instanceTypes := #[]
  staticTypes := #[.int, .int, (.array (.object "java/lang/Integer")), (.array (.object "java/lang/Integer")), .boolean]
  resolved := Array.replicate 100 none
  statics := some 0 }

def pool12 : Array CpInfo := pool [(1, .methodref 2 3), (0, .class_ 4), (0, .nameAndType 5 6), (0, u "java/lang/Record"), (0, u "<init>"), (0, u "()V"), (0, .fieldref 8 9), (0, .class_ 10), (0, .nameAndType 11 12), (0, u "com/example/rikusen/rikusen/core/Box"), (0, u "id"), (0, u "Ljava/lang/String;"), (0, .fieldref 8 14), (0, .nameAndType 15 12), (0, u "name"), (0, .fieldref 8 17), (0, .nameAndType 18 19), (0, u "anchor"), (0, u "Lcom/example/rikusen/rikusen/core/Hex;"), (13, .class_ 34), (0, u "com/example/rikusen/rikusen/core/Place"), (0, u "(Ljava/lang/String;Ljava/lang/String;Lcom/example/rikusen/rikusen/core/Hex;)V")] 10

def k12c0 : Code := { maxStack := 2, maxLocals := 4, code := prog_19_method_1_code, exceptionTable := #[], attributes := #[] }
def k12m0 : Method := { name := "<init>", desc := "(Ljava/lang/String;Ljava/lang/String;Lcom/example/rikusen/rikusen/core/Hex;)V", sig := { parameters := [(.object "java/lang/String"), (.object "java/lang/String"), (.object "com/example/rikusen/rikusen/core/Hex")], returnType := none }, accessFlags := 1, code := some k12c0 }
/-- com/example/rikusen/rikusen/core/Box -/
def k12 : Class := { plain "com/example/rikusen/rikusen/core/Box" (some 2) with
  accessFlags := 49
  interfaces := #[3]
  cf := some (fileOf pool12 8 #[] #[{ accessFlags := 1, nameIndex := 5, descriptorIndex := 35, attributes := #[] }] 49 2 #[33] #[{ accessFlags := 18, nameIndex := 11, descriptorIndex := 12, attributes := #[] }, { accessFlags := 18, nameIndex := 15, descriptorIndex := 12, attributes := #[] }, { accessFlags := 18, nameIndex := 18, descriptorIndex := 19, attributes := #[] }])
  fields := #[{ name := "id", type := (.object "java/lang/String"), accessFlags := 18, slot := 0, constantValue := 0 }, { name := "name", type := (.object "java/lang/String"), accessFlags := 18, slot := 1, constantValue := 0 }, { name := "anchor", type := (.object "com/example/rikusen/rikusen/core/Hex"), accessFlags := 18, slot := 2, constantValue := 0 }]
  methods := #[k12m0]
  instanceTypes := #[(.object "java/lang/String"), (.object "java/lang/String"), (.object "com/example/rikusen/rikusen/core/Hex")]
  staticTypes := #[]
  resolved := Array.replicate 46 none
  statics := none }

def pool13 : Array CpInfo := pool [(2, .class_ 4), (1, u "java/lang/CharSequence"), (42, .class_ 48), (0, u "java/lang/CharSequence$1CodePointIterator"), (10, .class_ 60), (0, u "java/lang/CharSequence$1CharIterator"), (5, .class_ 67), (0, u "java/lang/Object")] 63

/-- java/lang/CharSequence -/
def k13 : Class := { plain "java/lang/CharSequence" (some 0) with
  accessFlags := 1537
  interfaces := #[]
  cf := some (fileOf pool13 2 #[.nestMembers #[47, 59]] #[] 1537 66 #[] #[])
  fields := #[]
  methods := #[]
  instanceTypes := #[]
  staticTypes := #[]
  resolved := Array.replicate 131 none
  statics := none }

def pool14 : Array CpInfo := pool [(1, .methodref 2 3), (0, .class_ 4), (0, .nameAndType 5 6), (0, u "java/lang/Object"), (0, u "<init>"), (0, u "()V"), (2, .fieldref 10 11), (0, .class_ 12), (0, .nameAndType 13 14), (0, u "java/lang/String"), (0, u "value"), (0, u "[B"), (0, .fieldref 10 16), (0, .nameAndType 17 18), (0, u "coder"), (0, u "B"), (2, u "hash"), (0, u "I"), (2, u "hashIsZero"), (0, u "Z"), (11, .fieldref 10 39), (0, .nameAndType 40 26), (0, u "COMPACT_STRINGS"), (12, u "toBytes"), (53, .class_ 109), (1, u "java/lang/StringLatin1"), (99, .methodref 10 210), (0, .nameAndType 5 211), (0, u "([BB)V"), (157, u "(C)Z"), (205, .class_ 576), (0, u "java/lang/CharSequence"), (22, u "CASE_INSENSITIVE_ORDER"), (0, u "Ljava/util/Comparator;"), (181, u "valueOf"), (0, u "(C)Ljava/lang/String;"), (231, .methodref 107 1016), (0, .nameAndType 1017 369), (0, u "canEncode"), (0, .methodref 107 1019), (0, .nameAndType 53 1020), (0, u "(C)[B"), (80, u "serialPersistentFields"), (0, u "[Ljava/io/ObjectStreamField;"), (0, .class_ 1104), (0, u "java/lang/String$CaseInsensitiveComparator"), (1, .class_ 1107), (0, u "java/io/Serializable"), (0, .class_ 1109), (0, u "java/lang/Comparable"), (0, .class_ 1111), (0, u "java/lang/constant/Constable"), (0, .class_ 1113), (0, u "java/lang/constant/ConstantDesc"), (2, u "serialVersionUID"), (0, u "J"), (3, u "REPL"), (0, u "C"), (2, u "LATIN1"), (1, u "UTF16")] 323

def k14m0 : Method := { name := "<init>", desc := "()V", sig := { parameters := [], returnType := none }, accessFlags := 1, code := none }
def k14c1 : Code := { maxStack := 4, maxLocals := 1, code := jdk_42_method_139_code, exceptionTable := #[], attributes := #[] }
def k14m1 : Method := { name := "valueOf", desc := "(C)Ljava/lang/String;", sig := { parameters := [.char], returnType := some (.object "java/lang/String") }, accessFlags := 9, code := some k14c1 }
def k14c2 : Code := { maxStack := 2, maxLocals := 3, code := jdk_42_method_151_code, exceptionTable := #[], attributes := #[] }
def k14m2 : Method := { name := "<init>", desc := "([BB)V", sig := { parameters := [(.array .byte), .byte], returnType := none }, accessFlags := 0, code := some k14c2 }
/-- java/lang/String -/
def k14 : Class := { plain "java/lang/String" (some 0) with
  accessFlags := 49
  interfaces := #[6, 4, 13, 8, 9]
  cf := some (fileOf pool14 10 #[.nestMembers #[1103]] #[{ accessFlags := 1, nameIndex := 5, descriptorIndex := 6, attributes := #[] }, { accessFlags := 9, nameIndex := 782, descriptorIndex := 783, attributes := #[] }, { accessFlags := 0, nameIndex := 5, descriptorIndex := 211, attributes := #[] }] 49 2 #[1106, 1108, 575, 1110, 1112] #[{ accessFlags := 18, nameIndex := 13, descriptorIndex := 14, attributes := #[] }, { accessFlags := 18, nameIndex := 17, descriptorIndex := 18, attributes := #[] }, { accessFlags := 2, nameIndex := 21, descriptorIndex := 22, attributes := #[] }, { accessFlags := 2, nameIndex := 25, descriptorIndex := 26, attributes := #[] }, { accessFlags := 26, nameIndex := 1116, descriptorIndex := 1117, attributes := #[] }, { accessFlags := 24, nameIndex := 40, descriptorIndex := 26, attributes := #[] }, { accessFlags := 26, nameIndex := 1101, descriptorIndex := 1102, attributes := #[] }, { accessFlags := 26, nameIndex := 1121, descriptorIndex := 1122, attributes := #[] }, { accessFlags := 25, nameIndex := 599, descriptorIndex := 600, attributes := #[] }, { accessFlags := 24, nameIndex := 1125, descriptorIndex := 18, attributes := #[] }, { accessFlags := 24, nameIndex := 1127, descriptorIndex := 18, attributes := #[] }])
  fields := #[{ name := "value", type := (.array .byte), accessFlags := 18, slot := 0, constantValue := 0 }, { name := "coder", type := .byte, accessFlags := 18, slot := 1, constantValue := 0 }, { name := "hash", type := .int, accessFlags := 2, slot := 2, constantValue := 0 }, { name := "hashIsZero", type := .boolean, accessFlags := 2, slot := 3, constantValue := 0 }, { name := "serialVersionUID", type := .long, accessFlags := 26, slot := 0, constantValue := 0 }, { name := "COMPACT_STRINGS", type := .boolean, accessFlags := 24, slot := 1, constantValue := 0 }, { name := "serialPersistentFields", type := (.array (.object "java/io/ObjectStreamField")), accessFlags := 26, slot := 2, constantValue := 0 }, { name := "REPL", type := .char, accessFlags := 26, slot := 3, constantValue := 0 }, { name := "CASE_INSENSITIVE_ORDER", type := (.object "java/util/Comparator"), accessFlags := 25, slot := 4, constantValue := 0 }, { name := "LATIN1", type := .byte, accessFlags := 24, slot := 5, constantValue := 0 }, { name := "UTF16", type := .byte, accessFlags := 24, slot := 6, constantValue := 0 }]
  methods := #[k14m0, k14m1, k14m2]
  instanceTypes := #[(.array .byte), .byte, .int, .boolean]
  staticTypes := #[.long, .boolean, (.array (.object "java/io/ObjectStreamField")), .char, (.object "java/util/Comparator"), .byte, .byte]
  resolved := Array.replicate 1451 none
  statics := some 1 }

def pool15 : Array CpInfo := pool [(4, .class_ 6), (1, u "java/lang/Object"), (0, u "<init>"), (0, u "()V"), (5, .class_ 16), (1, u "java/lang/StringLatin1"), (73, u "canEncode"), (14, u "(C)Z"), (15, u "$assertionsDisabled"), (0, u "Z"), (98, .class_ 223), (1, u "java/lang/StringLatin1$LinesSpliterator"), (156, u "toBytes"), (1, u "(C)[B"), (7, .class_ 391), (0, u "java/lang/StringLatin1$CharsSpliterator")] 3

def k15m0 : Method := { name := "<init>", desc := "()V", sig := { parameters := [], returnType := none }, accessFlags := 0, code := none }
def k15c1 : Code := { maxStack := 2, maxLocals := 1, code := jdk_43_method_3_code, exceptionTable := #[], attributes := #[] }
def k15m1 : Method := { name := "canEncode", desc := "(C)Z", sig := { parameters := [.char], returnType := some .boolean }, accessFlags := 9, code := some k15c1 }
def k15c2 : Code := { maxStack := 4, maxLocals := 1, code := jdk_43_method_46_code, exceptionTable := #[], attributes := #[] }
def k15m2 : Method := { name := "toBytes", desc := "(C)[B", sig := { parameters := [.char], returnType := some (.array .byte) }, accessFlags := 9, code := some k15c2 }
/-- java/lang/StringLatin1 -/
def k15 : Class := { plain "java/lang/StringLatin1" (some 0) with
  accessFlags := 48
  interfaces := #[]
  cf := some (fileOf pool15 14 #[.nestMembers #[390, 221]] #[{ accessFlags := 0, nameIndex := 7, descriptorIndex := 8, attributes := #[] }, { accessFlags := 9, nameIndex := 90, descriptorIndex := 105, attributes := #[] }, { accessFlags := 9, nameIndex := 380, descriptorIndex := 382, attributes := #[] }] 48 4 #[] #[{ accessFlags := 4120, nameIndex := 121, descriptorIndex := 122, attributes := #[] }])
  fields := #[{ name := "$assertionsDisabled", type := .boolean, accessFlags := 4120, slot := 0, constantValue := 0 }]
  methods := #[k15m0, k15m1, k15m2]
  instanceTypes := #[]
  staticTypes := #[.boolean]
  resolved := Array.replicate 395 none
  statics := none }

def pool16 : Array CpInfo := pool [(2, .class_ 4), (1, u "java/lang/Object"), (0, u "<init>"), (0, u "()V"), (17, .class_ 26), (1, u "jdk/internal/util/Preconditions"), (28, .class_ 56), (0, u "jdk/internal/util/Preconditions$4"), (57, .class_ 115), (0, u "jdk/internal/util/Preconditions$1"), (7, u "SIOOBE_FORMATTER"), (0, u "Ljava/util/function/BiFunction;"), (0, .class_ 126), (0, u "jdk/internal/util/Preconditions$2"), (3, u "AIOOBE_FORMATTER"), (0, .class_ 132), (0, u "jdk/internal/util/Preconditions$3"), (3, u "IOOBE_FORMATTER")] 57

def k16m0 : Method := { name := "<init>", desc := "()V", sig := { parameters := [], returnType := none }, accessFlags := 1, code := none }
/-- jdk/internal/util/Preconditions -/
def k16 : Class := { plain "jdk/internal/util/Preconditions" (some 0) with
  accessFlags := 33
  interfaces := #[]
  cf := some (fileOf pool16 24 #[.nestMembers #[55, 131, 125, 114]] #[{ accessFlags := 1, nameIndex := 5, descriptorIndex := 6, attributes := #[] }] 33 2 #[] #[{ accessFlags := 25, nameIndex := 123, descriptorIndex := 124, attributes := #[] }, { accessFlags := 25, nameIndex := 130, descriptorIndex := 124, attributes := #[] }, { accessFlags := 25, nameIndex := 136, descriptorIndex := 124, attributes := #[] }])
  fields := #[{ name := "SIOOBE_FORMATTER", type := (.object "java/util/function/BiFunction"), accessFlags := 25, slot := 0, constantValue := 0 }, { name := "AIOOBE_FORMATTER", type := (.object "java/util/function/BiFunction"), accessFlags := 25, slot := 1, constantValue := 0 }, { name := "IOOBE_FORMATTER", type := (.object "java/util/function/BiFunction"), accessFlags := 25, slot := 2, constantValue := 0 }]
  methods := #[k16m0]
  instanceTypes := #[]
  staticTypes := #[(.object "java/util/function/BiFunction"), (.object "java/util/function/BiFunction"), (.object "java/util/function/BiFunction")]
  resolved := Array.replicate 194 none
  statics := some 2 }

def pool17 : Array CpInfo := pool [(9, u "<init>"), (6, .class_ 18), (1, u "java/lang/Object"), (0, u "()V"), (1, .class_ 23), (1, u "jdk/internal/util/ArraysSupport"), (0, u "LOG2_ARRAY_LONG_INDEX_SCALE"), (0, u "I"), (2, u "U"), (0, u "Ljdk/internal/misc/Unsafe;"), (8, u "BIG_ENDIAN"), (0, u "Z"), (8, u "LOG2_BYTE_BIT_SIZE"), (4, u "LOG2_ARRAY_INT_INDEX_SCALE"), (54, u "JLA"), (0, u "Ljdk/internal/access/JavaLangAccess;"), (11, u "LOG2_ARRAY_BOOLEAN_INDEX_SCALE"), (9, u "LOG2_ARRAY_BYTE_INDEX_SCALE"), (5, u "LOG2_ARRAY_CHAR_INDEX_SCALE"), (5, u "LOG2_ARRAY_SHORT_INDEX_SCALE"), (18, u "LOG2_ARRAY_FLOAT_INDEX_SCALE"), (24, u "LOG2_ARRAY_DOUBLE_INDEX_SCALE"), (89, u "T_BOOLEAN"), (2, u "T_CHAR"), (1, u "T_FLOAT"), (1, u "T_DOUBLE"), (1, u "T_BYTE"), (1, u "T_SHORT"), (1, u "T_INT"), (1, u "T_LONG"), (1, u "SOFT_MAX_ARRAY_LENGTH")] 83

def k17m0 : Method := { name := "<init>", desc := "()V", sig := { parameters := [], returnType := none }, accessFlags := 2, code := none }
/-- jdk/internal/util/ArraysSupport -/
def k17 : Class := { plain "jdk/internal/util/ArraysSupport" (some 0) with
  accessFlags := 33
  interfaces := #[]
  cf := some (fileOf pool17 21 #[] #[{ accessFlags := 2, nameIndex := 9, descriptorIndex := 19, attributes := #[] }] 33 16 #[] #[{ accessFlags := 24, nameIndex := 28, descriptorIndex := 29, attributes := #[] }, { accessFlags := 26, nameIndex := 38, descriptorIndex := 39, attributes := #[] }, { accessFlags := 25, nameIndex := 121, descriptorIndex := 25, attributes := #[] }, { accessFlags := 25, nameIndex := 131, descriptorIndex := 25, attributes := #[] }, { accessFlags := 25, nameIndex := 137, descriptorIndex := 25, attributes := #[] }, { accessFlags := 25, nameIndex := 143, descriptorIndex := 25, attributes := #[] }, { accessFlags := 25, nameIndex := 53, descriptorIndex := 25, attributes := #[] }, { accessFlags := 25, nameIndex := 24, descriptorIndex := 25, attributes := #[] }, { accessFlags := 25, nameIndex := 162, descriptorIndex := 25, attributes := #[] }, { accessFlags := 25, nameIndex := 187, descriptorIndex := 25, attributes := #[] }, { accessFlags := 26, nameIndex := 48, descriptorIndex := 25, attributes := #[] }, { accessFlags := 25, nameIndex := 277, descriptorIndex := 25, attributes := #[] }, { accessFlags := 25, nameIndex := 280, descriptorIndex := 25, attributes := #[] }, { accessFlags := 25, nameIndex := 282, descriptorIndex := 25, attributes := #[] }, { accessFlags := 25, nameIndex := 284, descriptorIndex := 25, attributes := #[] }, { accessFlags := 25, nameIndex := 286, descriptorIndex := 25, attributes := #[] }, { accessFlags := 25, nameIndex := 288, descriptorIndex := 25, attributes := #[] }, { accessFlags := 25, nameIndex := 290, descriptorIndex := 25, attributes := #[] }, { accessFlags := 25, nameIndex := 292, descriptorIndex := 25, attributes := #[] }, { accessFlags := 26, nameIndex := 108, descriptorIndex := 109, attributes := #[] }, { accessFlags := 25, nameIndex := 294, descriptorIndex := 25, attributes := #[] }])
  fields := #[{ name := "U", type := (.object "jdk/internal/misc/Unsafe"), accessFlags := 24, slot := 0, constantValue := 0 }, { name := "BIG_ENDIAN", type := .boolean, accessFlags := 26, slot := 1, constantValue := 0 }, { name := "LOG2_ARRAY_BOOLEAN_INDEX_SCALE", type := .int, accessFlags := 25, slot := 2, constantValue := 0 }, { name := "LOG2_ARRAY_BYTE_INDEX_SCALE", type := .int, accessFlags := 25, slot := 3, constantValue := 0 }, { name := "LOG2_ARRAY_CHAR_INDEX_SCALE", type := .int, accessFlags := 25, slot := 4, constantValue := 0 }, { name := "LOG2_ARRAY_SHORT_INDEX_SCALE", type := .int, accessFlags := 25, slot := 5, constantValue := 0 }, { name := "LOG2_ARRAY_INT_INDEX_SCALE", type := .int, accessFlags := 25, slot := 6, constantValue := 0 }, { name := "LOG2_ARRAY_LONG_INDEX_SCALE", type := .int, accessFlags := 25, slot := 7, constantValue := 0 }, { name := "LOG2_ARRAY_FLOAT_INDEX_SCALE", type := .int, accessFlags := 25, slot := 8, constantValue := 0 }, { name := "LOG2_ARRAY_DOUBLE_INDEX_SCALE", type := .int, accessFlags := 25, slot := 9, constantValue := 0 }, { name := "LOG2_BYTE_BIT_SIZE", type := .int, accessFlags := 26, slot := 10, constantValue := 0 }, { name := "T_BOOLEAN", type := .int, accessFlags := 25, slot := 11, constantValue := 0 }, { name := "T_CHAR", type := .int, accessFlags := 25, slot := 12, constantValue := 0 }, { name := "T_FLOAT", type := .int, accessFlags := 25, slot := 13, constantValue := 0 }, { name := "T_DOUBLE", type := .int, accessFlags := 25, slot := 14, constantValue := 0 }, { name := "T_BYTE", type := .int, accessFlags := 25, slot := 15, constantValue := 0 }, { name := "T_SHORT", type := .int, accessFlags := 25, slot := 16, constantValue := 0 }, { name := "T_INT", type := .int, accessFlags := 25, slot := 17, constantValue := 0 }, { name := "T_LONG", type := .int, accessFlags := 25, slot := 18, constantValue := 0 }, { name := "JLA", type := (.object "jdk/internal/access/JavaLangAccess"), accessFlags := 26, slot := 19, constantValue := 0 }, { name := "SOFT_MAX_ARRAY_LENGTH", type := .int, accessFlags := 25, slot := 20, constantValue := 0 }]
  methods := #[k17m0]
  instanceTypes := #[]
  staticTypes := #[(.object "jdk/internal/misc/Unsafe"), .boolean, .int, .int, .int, .int, .int, .int, .int, .int, .int, .int, .int, .int, .int, .int, .int, .int, .int, (.object "jdk/internal/access/JavaLangAccess"), .int]
  resolved := Array.replicate 378 none
  statics := none }

def pool18 : Array CpInfo := pool [(1, u "java/lang/Cloneable"), (0, .class_ 1), (0, u "java/lang/Object"), (0, .class_ 3)] 3

/-- java/lang/Cloneable -/
def k18 : Class := { plain "java/lang/Cloneable" (some 0) with
  accessFlags := 1537
  interfaces := #[]
  cf := some (fileOf pool18 2 #[] #[] 1537 4 #[] #[])
  fields := #[]
  methods := #[]
  instanceTypes := #[]
  staticTypes := #[]
  resolved := Array.replicate 8 none
  statics := none }

/-- the primitive byte -/
def k19 : Class := { plain "byte" none with kind := .primitive 'B', accessFlags := 0x411 }
/-- [B -/
def k20 : Class := { plain "[B" (some 0) with kind := .array 19 .byte, interfaces := #[18, 6], accessFlags := 1041 }

/-- the primitive int -/
def k21 : Class := { plain "int" none with kind := .primitive 'I', accessFlags := 0x411 }
/-- [I -/
def k22 : Class := { plain "[I" (some 0) with kind := .array 21 .int, interfaces := #[18, 6], accessFlags := 1041 }

/-- [Ljava/lang/Integer; -/
def k23 : Class := { plain "[Ljava/lang/Integer;" (some 0) with kind := .array 10 (.object "java/lang/Integer"), interfaces := #[18, 6], accessFlags := 1041 }

def heap : Heap := #[{ cls := 11, slots := #[.int 0, .int 127, .ref 3, .null, .int 0], vm := .statics 11 },
  { cls := 14, slots := #[.long 0, .int 1, .null, .int 0, .null, .int 0, .int 0], vm := .statics 14 },
  { cls := 16, slots := #[.null, .null, .null], vm := .statics 16 },
  { cls := 23, slots := #[.ref 4, .ref 5, .ref 6, .ref 7, .ref 8, .ref 9, .ref 10, .ref 11, .ref 12, .ref 13, .ref 14, .ref 15, .ref 16, .ref 17, .ref 18, .ref 19, .ref 20, .ref 21, .ref 22, .ref 23, .ref 24, .ref 25, .ref 26, .ref 27, .ref 28, .ref 29, .ref 30, .ref 31, .ref 32, .ref 33, .ref 34, .ref 35, .ref 36, .ref 37, .ref 38, .ref 39, .ref 40, .ref 41, .ref 42, .ref 43, .ref 44, .ref 45, .ref 46, .ref 47, .ref 48, .ref 49, .ref 50, .ref 51, .ref 52, .ref 53, .ref 54, .ref 55, .ref 56, .ref 57, .ref 58, .ref 59, .ref 60, .ref 61, .ref 62, .ref 63, .ref 64, .ref 65, .ref 66, .ref 67, .ref 68, .ref 69, .ref 70, .ref 71, .ref 72, .ref 73, .ref 74, .ref 75, .ref 76, .ref 77, .ref 78, .ref 79, .ref 80, .ref 81, .ref 82, .ref 83, .ref 84, .ref 85, .ref 86, .ref 87, .ref 88, .ref 89, .ref 90, .ref 91, .ref 92, .ref 93, .ref 94, .ref 95, .ref 96, .ref 97, .ref 98, .ref 99, .ref 100, .ref 101, .ref 102, .ref 103, .ref 104, .ref 105, .ref 106, .ref 107, .ref 108, .ref 109, .ref 110, .ref 111, .ref 112, .ref 113, .ref 114, .ref 115, .ref 116, .ref 117, .ref 118, .ref 119, .ref 120, .ref 121, .ref 122, .ref 123, .ref 124, .ref 125, .ref 126, .ref 127, .ref 128, .ref 129, .ref 130, .ref 131, .ref 132, .ref 133, .ref 134, .ref 135, .ref 136, .ref 137, .ref 138, .ref 139, .ref 140, .ref 141, .ref 142, .ref 143, .ref 144, .ref 145, .ref 146, .ref 147, .ref 148, .ref 149, .ref 150, .ref 151, .ref 152, .ref 153, .ref 154, .ref 155, .ref 156, .ref 157, .ref 158, .ref 159, .ref 160, .ref 161, .ref 162, .ref 163, .ref 164, .ref 165, .ref 166, .ref 167, .ref 168, .ref 169, .ref 170, .ref 171, .ref 172, .ref 173, .ref 174, .ref 175, .ref 176, .ref 177, .ref 178, .ref 179, .ref 180, .ref 181, .ref 182, .ref 183, .ref 184, .ref 185, .ref 186, .ref 187, .ref 188, .ref 189, .ref 190, .ref 191, .ref 192, .ref 193, .ref 194, .ref 195, .ref 196, .ref 197, .ref 198, .ref 199, .ref 200, .ref 201, .ref 202, .ref 203, .ref 204, .ref 205, .ref 206, .ref 207, .ref 208, .ref 209, .ref 210, .ref 211, .ref 212, .ref 213, .ref 214, .ref 215, .ref 216, .ref 217, .ref 218, .ref 219, .ref 220, .ref 221, .ref 222, .ref 223, .ref 224, .ref 225, .ref 226, .ref 227, .ref 228, .ref 229, .ref 230, .ref 231, .ref 232, .ref 233, .ref 234, .ref 235, .ref 236, .ref 237, .ref 238, .ref 239, .ref 240, .ref 241, .ref 242, .ref 243, .ref 244, .ref 245, .ref 246, .ref 247, .ref 248, .ref 249, .ref 250, .ref 251, .ref 252, .ref 253, .ref 254, .ref 255, .ref 256, .ref 257, .ref 258, .ref 259], vm := .none },
  { cls := 10, slots := #[.int (-128)], vm := .none },
  { cls := 10, slots := #[.int (-127)], vm := .none },
  { cls := 10, slots := #[.int (-126)], vm := .none },
  { cls := 10, slots := #[.int (-125)], vm := .none },
  { cls := 10, slots := #[.int (-124)], vm := .none },
  { cls := 10, slots := #[.int (-123)], vm := .none },
  { cls := 10, slots := #[.int (-122)], vm := .none },
  { cls := 10, slots := #[.int (-121)], vm := .none },
  { cls := 10, slots := #[.int (-120)], vm := .none },
  { cls := 10, slots := #[.int (-119)], vm := .none },
  { cls := 10, slots := #[.int (-118)], vm := .none },
  { cls := 10, slots := #[.int (-117)], vm := .none },
  { cls := 10, slots := #[.int (-116)], vm := .none },
  { cls := 10, slots := #[.int (-115)], vm := .none },
  { cls := 10, slots := #[.int (-114)], vm := .none },
  { cls := 10, slots := #[.int (-113)], vm := .none },
  { cls := 10, slots := #[.int (-112)], vm := .none },
  { cls := 10, slots := #[.int (-111)], vm := .none },
  { cls := 10, slots := #[.int (-110)], vm := .none },
  { cls := 10, slots := #[.int (-109)], vm := .none },
  { cls := 10, slots := #[.int (-108)], vm := .none },
  { cls := 10, slots := #[.int (-107)], vm := .none },
  { cls := 10, slots := #[.int (-106)], vm := .none },
  { cls := 10, slots := #[.int (-105)], vm := .none },
  { cls := 10, slots := #[.int (-104)], vm := .none },
  { cls := 10, slots := #[.int (-103)], vm := .none },
  { cls := 10, slots := #[.int (-102)], vm := .none },
  { cls := 10, slots := #[.int (-101)], vm := .none },
  { cls := 10, slots := #[.int (-100)], vm := .none },
  { cls := 10, slots := #[.int (-99)], vm := .none },
  { cls := 10, slots := #[.int (-98)], vm := .none },
  { cls := 10, slots := #[.int (-97)], vm := .none },
  { cls := 10, slots := #[.int (-96)], vm := .none },
  { cls := 10, slots := #[.int (-95)], vm := .none },
  { cls := 10, slots := #[.int (-94)], vm := .none },
  { cls := 10, slots := #[.int (-93)], vm := .none },
  { cls := 10, slots := #[.int (-92)], vm := .none },
  { cls := 10, slots := #[.int (-91)], vm := .none },
  { cls := 10, slots := #[.int (-90)], vm := .none },
  { cls := 10, slots := #[.int (-89)], vm := .none },
  { cls := 10, slots := #[.int (-88)], vm := .none },
  { cls := 10, slots := #[.int (-87)], vm := .none },
  { cls := 10, slots := #[.int (-86)], vm := .none },
  { cls := 10, slots := #[.int (-85)], vm := .none },
  { cls := 10, slots := #[.int (-84)], vm := .none },
  { cls := 10, slots := #[.int (-83)], vm := .none },
  { cls := 10, slots := #[.int (-82)], vm := .none },
  { cls := 10, slots := #[.int (-81)], vm := .none },
  { cls := 10, slots := #[.int (-80)], vm := .none },
  { cls := 10, slots := #[.int (-79)], vm := .none },
  { cls := 10, slots := #[.int (-78)], vm := .none },
  { cls := 10, slots := #[.int (-77)], vm := .none },
  { cls := 10, slots := #[.int (-76)], vm := .none },
  { cls := 10, slots := #[.int (-75)], vm := .none },
  { cls := 10, slots := #[.int (-74)], vm := .none },
  { cls := 10, slots := #[.int (-73)], vm := .none },
  { cls := 10, slots := #[.int (-72)], vm := .none },
  { cls := 10, slots := #[.int (-71)], vm := .none },
  { cls := 10, slots := #[.int (-70)], vm := .none },
  { cls := 10, slots := #[.int (-69)], vm := .none },
  { cls := 10, slots := #[.int (-68)], vm := .none },
  { cls := 10, slots := #[.int (-67)], vm := .none },
  { cls := 10, slots := #[.int (-66)], vm := .none },
  { cls := 10, slots := #[.int (-65)], vm := .none },
  { cls := 10, slots := #[.int (-64)], vm := .none },
  { cls := 10, slots := #[.int (-63)], vm := .none },
  { cls := 10, slots := #[.int (-62)], vm := .none },
  { cls := 10, slots := #[.int (-61)], vm := .none },
  { cls := 10, slots := #[.int (-60)], vm := .none },
  { cls := 10, slots := #[.int (-59)], vm := .none },
  { cls := 10, slots := #[.int (-58)], vm := .none },
  { cls := 10, slots := #[.int (-57)], vm := .none },
  { cls := 10, slots := #[.int (-56)], vm := .none },
  { cls := 10, slots := #[.int (-55)], vm := .none },
  { cls := 10, slots := #[.int (-54)], vm := .none },
  { cls := 10, slots := #[.int (-53)], vm := .none },
  { cls := 10, slots := #[.int (-52)], vm := .none },
  { cls := 10, slots := #[.int (-51)], vm := .none },
  { cls := 10, slots := #[.int (-50)], vm := .none },
  { cls := 10, slots := #[.int (-49)], vm := .none },
  { cls := 10, slots := #[.int (-48)], vm := .none },
  { cls := 10, slots := #[.int (-47)], vm := .none },
  { cls := 10, slots := #[.int (-46)], vm := .none },
  { cls := 10, slots := #[.int (-45)], vm := .none },
  { cls := 10, slots := #[.int (-44)], vm := .none },
  { cls := 10, slots := #[.int (-43)], vm := .none },
  { cls := 10, slots := #[.int (-42)], vm := .none },
  { cls := 10, slots := #[.int (-41)], vm := .none },
  { cls := 10, slots := #[.int (-40)], vm := .none },
  { cls := 10, slots := #[.int (-39)], vm := .none },
  { cls := 10, slots := #[.int (-38)], vm := .none },
  { cls := 10, slots := #[.int (-37)], vm := .none },
  { cls := 10, slots := #[.int (-36)], vm := .none },
  { cls := 10, slots := #[.int (-35)], vm := .none },
  { cls := 10, slots := #[.int (-34)], vm := .none },
  { cls := 10, slots := #[.int (-33)], vm := .none },
  { cls := 10, slots := #[.int (-32)], vm := .none },
  { cls := 10, slots := #[.int (-31)], vm := .none },
  { cls := 10, slots := #[.int (-30)], vm := .none },
  { cls := 10, slots := #[.int (-29)], vm := .none },
  { cls := 10, slots := #[.int (-28)], vm := .none },
  { cls := 10, slots := #[.int (-27)], vm := .none },
  { cls := 10, slots := #[.int (-26)], vm := .none },
  { cls := 10, slots := #[.int (-25)], vm := .none },
  { cls := 10, slots := #[.int (-24)], vm := .none },
  { cls := 10, slots := #[.int (-23)], vm := .none },
  { cls := 10, slots := #[.int (-22)], vm := .none },
  { cls := 10, slots := #[.int (-21)], vm := .none },
  { cls := 10, slots := #[.int (-20)], vm := .none },
  { cls := 10, slots := #[.int (-19)], vm := .none },
  { cls := 10, slots := #[.int (-18)], vm := .none },
  { cls := 10, slots := #[.int (-17)], vm := .none },
  { cls := 10, slots := #[.int (-16)], vm := .none },
  { cls := 10, slots := #[.int (-15)], vm := .none },
  { cls := 10, slots := #[.int (-14)], vm := .none },
  { cls := 10, slots := #[.int (-13)], vm := .none },
  { cls := 10, slots := #[.int (-12)], vm := .none },
  { cls := 10, slots := #[.int (-11)], vm := .none },
  { cls := 10, slots := #[.int (-10)], vm := .none },
  { cls := 10, slots := #[.int (-9)], vm := .none },
  { cls := 10, slots := #[.int (-8)], vm := .none },
  { cls := 10, slots := #[.int (-7)], vm := .none },
  { cls := 10, slots := #[.int (-6)], vm := .none },
  { cls := 10, slots := #[.int (-5)], vm := .none },
  { cls := 10, slots := #[.int (-4)], vm := .none },
  { cls := 10, slots := #[.int (-3)], vm := .none },
  { cls := 10, slots := #[.int (-2)], vm := .none },
  { cls := 10, slots := #[.int (-1)], vm := .none },
  { cls := 10, slots := #[.int 0], vm := .none },
  { cls := 10, slots := #[.int 1], vm := .none },
  { cls := 10, slots := #[.int 2], vm := .none },
  { cls := 10, slots := #[.int 3], vm := .none },
  { cls := 10, slots := #[.int 4], vm := .none },
  { cls := 10, slots := #[.int 5], vm := .none },
  { cls := 10, slots := #[.int 6], vm := .none },
  { cls := 10, slots := #[.int 7], vm := .none },
  { cls := 10, slots := #[.int 8], vm := .none },
  { cls := 10, slots := #[.int 9], vm := .none },
  { cls := 10, slots := #[.int 10], vm := .none },
  { cls := 10, slots := #[.int 11], vm := .none },
  { cls := 10, slots := #[.int 12], vm := .none },
  { cls := 10, slots := #[.int 13], vm := .none },
  { cls := 10, slots := #[.int 14], vm := .none },
  { cls := 10, slots := #[.int 15], vm := .none },
  { cls := 10, slots := #[.int 16], vm := .none },
  { cls := 10, slots := #[.int 17], vm := .none },
  { cls := 10, slots := #[.int 18], vm := .none },
  { cls := 10, slots := #[.int 19], vm := .none },
  { cls := 10, slots := #[.int 20], vm := .none },
  { cls := 10, slots := #[.int 21], vm := .none },
  { cls := 10, slots := #[.int 22], vm := .none },
  { cls := 10, slots := #[.int 23], vm := .none },
  { cls := 10, slots := #[.int 24], vm := .none },
  { cls := 10, slots := #[.int 25], vm := .none },
  { cls := 10, slots := #[.int 26], vm := .none },
  { cls := 10, slots := #[.int 27], vm := .none },
  { cls := 10, slots := #[.int 28], vm := .none },
  { cls := 10, slots := #[.int 29], vm := .none },
  { cls := 10, slots := #[.int 30], vm := .none },
  { cls := 10, slots := #[.int 31], vm := .none },
  { cls := 10, slots := #[.int 32], vm := .none },
  { cls := 10, slots := #[.int 33], vm := .none },
  { cls := 10, slots := #[.int 34], vm := .none },
  { cls := 10, slots := #[.int 35], vm := .none },
  { cls := 10, slots := #[.int 36], vm := .none },
  { cls := 10, slots := #[.int 37], vm := .none },
  { cls := 10, slots := #[.int 38], vm := .none },
  { cls := 10, slots := #[.int 39], vm := .none },
  { cls := 10, slots := #[.int 40], vm := .none },
  { cls := 10, slots := #[.int 41], vm := .none },
  { cls := 10, slots := #[.int 42], vm := .none },
  { cls := 10, slots := #[.int 43], vm := .none },
  { cls := 10, slots := #[.int 44], vm := .none },
  { cls := 10, slots := #[.int 45], vm := .none },
  { cls := 10, slots := #[.int 46], vm := .none },
  { cls := 10, slots := #[.int 47], vm := .none },
  { cls := 10, slots := #[.int 48], vm := .none },
  { cls := 10, slots := #[.int 49], vm := .none },
  { cls := 10, slots := #[.int 50], vm := .none },
  { cls := 10, slots := #[.int 51], vm := .none },
  { cls := 10, slots := #[.int 52], vm := .none },
  { cls := 10, slots := #[.int 53], vm := .none },
  { cls := 10, slots := #[.int 54], vm := .none },
  { cls := 10, slots := #[.int 55], vm := .none },
  { cls := 10, slots := #[.int 56], vm := .none },
  { cls := 10, slots := #[.int 57], vm := .none },
  { cls := 10, slots := #[.int 58], vm := .none },
  { cls := 10, slots := #[.int 59], vm := .none },
  { cls := 10, slots := #[.int 60], vm := .none },
  { cls := 10, slots := #[.int 61], vm := .none },
  { cls := 10, slots := #[.int 62], vm := .none },
  { cls := 10, slots := #[.int 63], vm := .none },
  { cls := 10, slots := #[.int 64], vm := .none },
  { cls := 10, slots := #[.int 65], vm := .none },
  { cls := 10, slots := #[.int 66], vm := .none },
  { cls := 10, slots := #[.int 67], vm := .none },
  { cls := 10, slots := #[.int 68], vm := .none },
  { cls := 10, slots := #[.int 69], vm := .none },
  { cls := 10, slots := #[.int 70], vm := .none },
  { cls := 10, slots := #[.int 71], vm := .none },
  { cls := 10, slots := #[.int 72], vm := .none },
  { cls := 10, slots := #[.int 73], vm := .none },
  { cls := 10, slots := #[.int 74], vm := .none },
  { cls := 10, slots := #[.int 75], vm := .none },
  { cls := 10, slots := #[.int 76], vm := .none },
  { cls := 10, slots := #[.int 77], vm := .none },
  { cls := 10, slots := #[.int 78], vm := .none },
  { cls := 10, slots := #[.int 79], vm := .none },
  { cls := 10, slots := #[.int 80], vm := .none },
  { cls := 10, slots := #[.int 81], vm := .none },
  { cls := 10, slots := #[.int 82], vm := .none },
  { cls := 10, slots := #[.int 83], vm := .none },
  { cls := 10, slots := #[.int 84], vm := .none },
  { cls := 10, slots := #[.int 85], vm := .none },
  { cls := 10, slots := #[.int 86], vm := .none },
  { cls := 10, slots := #[.int 87], vm := .none },
  { cls := 10, slots := #[.int 88], vm := .none },
  { cls := 10, slots := #[.int 89], vm := .none },
  { cls := 10, slots := #[.int 90], vm := .none },
  { cls := 10, slots := #[.int 91], vm := .none },
  { cls := 10, slots := #[.int 92], vm := .none },
  { cls := 10, slots := #[.int 93], vm := .none },
  { cls := 10, slots := #[.int 94], vm := .none },
  { cls := 10, slots := #[.int 95], vm := .none },
  { cls := 10, slots := #[.int 96], vm := .none },
  { cls := 10, slots := #[.int 97], vm := .none },
  { cls := 10, slots := #[.int 98], vm := .none },
  { cls := 10, slots := #[.int 99], vm := .none },
  { cls := 10, slots := #[.int 100], vm := .none },
  { cls := 10, slots := #[.int 101], vm := .none },
  { cls := 10, slots := #[.int 102], vm := .none },
  { cls := 10, slots := #[.int 103], vm := .none },
  { cls := 10, slots := #[.int 104], vm := .none },
  { cls := 10, slots := #[.int 105], vm := .none },
  { cls := 10, slots := #[.int 106], vm := .none },
  { cls := 10, slots := #[.int 107], vm := .none },
  { cls := 10, slots := #[.int 108], vm := .none },
  { cls := 10, slots := #[.int 109], vm := .none },
  { cls := 10, slots := #[.int 110], vm := .none },
  { cls := 10, slots := #[.int 111], vm := .none },
  { cls := 10, slots := #[.int 112], vm := .none },
  { cls := 10, slots := #[.int 113], vm := .none },
  { cls := 10, slots := #[.int 114], vm := .none },
  { cls := 10, slots := #[.int 115], vm := .none },
  { cls := 10, slots := #[.int 116], vm := .none },
  { cls := 10, slots := #[.int 117], vm := .none },
  { cls := 10, slots := #[.int 118], vm := .none },
  { cls := 10, slots := #[.int 119], vm := .none },
  { cls := 10, slots := #[.int 120], vm := .none },
  { cls := 10, slots := #[.int 121], vm := .none },
  { cls := 10, slots := #[.int 122], vm := .none },
  { cls := 10, slots := #[.int 123], vm := .none },
  { cls := 10, slots := #[.int 124], vm := .none },
  { cls := 10, slots := #[.int 125], vm := .none },
  { cls := 10, slots := #[.int 126], vm := .none },
  { cls := 10, slots := #[.int 127], vm := .none }]
def classes : Array Class := #[k0, k1, k2, k3, k4, k5, k6, k7, k8, k9, k10, k11, k12, k13, k14, k15, k16, k17, k18, k19, k20, k21, k22, k23]
def interned : List (Array UInt16 × Addr) := []
def slotsUsed : Nat := 527
def theMethod : MethodId := ⟨1, 1⟩
def args0 : Array Value := #[.int 5, .int 6, .int 7, .int 8, .int 9, .int 25]
def aboutOver (below : List Frame) : State where
  vm := { classes := classes, interned := interned.toArray }
  heap := heap
  slotsUsed := slotsUsed
  threads := #[{ frames := .invoking theMethod args0 :: below }]
def below0 : List Frame := [.native { method := ⟨0, 0⟩, args := #[] }]
def about1 : State := aboutOver below0
def p0 : Program := .bare "" "" ""
def e0 : Env := launch0.env 0 0 0
theorem w_frames : about1.frames = Frame.invoking theMethod args0 :: below0 := rfl
set_option maxRecDepth 65536 in
theorem w_args : argsFit about1.vm theMethod args0 = true := by decide +kernel
set_option maxRecDepth 65536 in
theorem w_heap : heapFits about1 = true := by decide +kernel
set_option maxRecDepth 65536 in
theorem w_runnable : about1.curStatus? = some .runnable := by decide +kernel
set_option maxRecDepth 65536 in
theorem w_alone : about1.alone = true := by decide +kernel
set_option maxRecDepth 65536 in
theorem w_named : about1.methodNamed? x = some theMethod := by decide +kernel
set_option maxRecDepth 65536 in
theorem w_hears : about1.hears theMethod below0 = true := by decide +kernel
set_option maxRecDepth 65536 in
theorem w_ripe : about1.ripe theMethod args0 below0 = true := by decide +kernel
theorem w_running : about1.status = .running := rfl
set_option maxRecDepth 65536 in
theorem w_room : about1.hasRoom e0.platform room_1 = true :=
  launch0.hasRoom_least _ room_1 (by decide +kernel) (by decide +kernel) (by decide +kernel) (by decide +kernel) (by decide +kernel) (by decide +kernel)
theorem allAtoms_all (ts : List Jvm.Cond) (a : Array Jvm.Value) (st : Jvm.State) : (allAtoms ts).before a st = ts.all (fun c => c.before a st) := by
  induction ts with
  | nil => rfl
  | cons c t ih =>
    show (Jvm.Cond.and c (allAtoms t)).before a st = _
    rw [Jvm.Cond.before_and, ih, List.all_cons]
def words1 : List Jvm.Cond := Jvm.Cond.code x code maxLocals ret :: tables_1
/-- a 'code' word, met by the world's own term for the bytes: nothing is compared byte by byte -/
theorem code_word {y : MethodName} {bytes : ByteArray} {mx : Nat} {rt : Option FieldType} {a : Array Value} {s : State} {m : MethodId} {meth : Method} {c : Code} (h1 : s.methodNamed? y = some m) (h2 : s.vm.method? m = some meth) (h3 : meth.code = some c) (h4 : c.code = bytes)
    (h5 : (c.maxLocals == mx && c.exceptionTable.isEmpty && decide (c.maxStack ≤ mostOperands) && decide (meth.sig.returnType = rt) && !meth.locks && decide (parseMethodDescriptor y.desc = some meth.sig)) = true) : (Jvm.Cond.code y bytes mx rt).before a s = true := by
  simp only [Bool.and_eq_true, beq_iff_eq, Bool.not_eq_true', decide_eq_true_eq] at h5
  obtain ⟨⟨⟨⟨⟨g1, g2⟩, g3⟩, g4⟩, g5⟩, g6⟩ := h5
  simp [Cond.before, Cond.holds, Cond.value, h1, h2, h3, h4, g1, g2, g3, g4, g5, g6]
def isCode : Jvm.Cond → Bool
  | .code _ _ _ _ => true
  | _ => false
theorem all_split {L : List Jvm.Cond} {P : Jvm.Cond → Bool} (h1 : L.all (fun c => isCode c || P c) = true) (h2 : ∀ c ∈ L.filter isCode, P c = true) : L.all P = true := by
  refine List.all_eq_true.mpr fun c hc => ?_
  have h := List.all_eq_true.mp h1 c hc
  rcases Bool.eq_false_or_eq_true (isCode c) with hi | hi
  · exact h2 c (List.mem_filter.mpr ⟨hc, hi⟩)
  · simpa [hi] using h
set_option maxRecDepth 65536 in
theorem w_c0 : (Jvm.Cond.code x code maxLocals ret).before args0 about1 = true := code_word (m := ⟨1, 1⟩) (meth := k1m1) (c := k1c1) (by decide +kernel) rfl rfl rfl (by decide +kernel)
set_option maxRecDepth 65536 in
theorem w_c1 : (Jvm.Cond.code ({ cls := "com/example/rikusen/rikusen/core/Hex", name := "<init>", desc := "(II)V" } : Jvm.MethodName) prog_29_method_1_code (3 : Nat) (Option.none : Option Jvm.ClassFile.FieldType)).before args0 about1 = true := code_word (m := ⟨5, 0⟩) (meth := k5m0) (c := k5c0) (by decide +kernel) rfl rfl rfl (by decide +kernel)
set_option maxRecDepth 65536 in
theorem w_c2 : (Jvm.Cond.code ({ cls := "java/lang/Record", name := "<init>", desc := "()V" } : Jvm.MethodName) jdk_30_method_1_code (1 : Nat) (Option.none : Option Jvm.ClassFile.FieldType)).before args0 about1 = true := code_word (m := ⟨2, 0⟩) (meth := k2m0) (c := k2c0) (by decide +kernel) rfl rfl rfl (by decide +kernel)
set_option maxRecDepth 65536 in
theorem w_c3 : (Jvm.Cond.code ({ cls := "java/lang/Object", name := "<init>", desc := "()V" } : Jvm.MethodName) object_method_1_code (1 : Nat) (Option.none : Option Jvm.ClassFile.FieldType)).before args0 about1 = true := code_word (m := ⟨0, 0⟩) (meth := k0m0) (c := k0c0) (by decide +kernel) rfl rfl rfl (by decide +kernel)
set_option maxRecDepth 65536 in
theorem w_c4 : (Jvm.Cond.code ({ cls := "com/example/rikusen/rikusen/core/Hex", name := "fitsTwoDigits", desc := "(I)Z" } : Jvm.MethodName) prog_29_method_11_code (1 : Nat) (Option.some Jvm.ClassFile.FieldType.boolean)).before args0 about1 = true := code_word (m := ⟨5, 2⟩) (meth := k5m2) (c := k5c2) (by decide +kernel) rfl rfl rfl (by decide +kernel)
set_option maxRecDepth 65536 in
theorem w_c5 : (Jvm.Cond.code ({ cls := "com/example/rikusen/rikusen/core/Hex", name := "equals", desc := "(Ljava/lang/Object;)Z" } : Jvm.MethodName) prog_29_method_6_code (3 : Nat) (Option.some Jvm.ClassFile.FieldType.boolean)).before args0 about1 = true := code_word (m := ⟨5, 1⟩) (meth := k5m1) (c := k5c1) (by decide +kernel) rfl rfl rfl (by decide +kernel)
set_option maxRecDepth 65536 in
theorem w_c6 : (Jvm.Cond.code ({ cls := "java/lang/Integer", name := "valueOf", desc := "(I)Ljava/lang/Integer;" } : Jvm.MethodName) jdk_33_method_22_code (1 : Nat) (Option.some (Jvm.ClassFile.FieldType.object "java/lang/Integer"))).before args0 about1 = true := code_word (m := ⟨10, 0⟩) (meth := k10m0) (c := k10c0) (by decide +kernel) rfl rfl rfl (by decide +kernel)
set_option maxRecDepth 65536 in
theorem w_c7 : (Jvm.Cond.code ({ cls := "java/lang/Integer", name := "<init>", desc := "(I)V" } : Jvm.MethodName) jdk_33_method_23_code (2 : Nat) (Option.none : Option Jvm.ClassFile.FieldType)).before args0 about1 = true := code_word (m := ⟨10, 1⟩) (meth := k10m1) (c := k10c1) (by decide +kernel) rfl rfl rfl (by decide +kernel)
set_option maxRecDepth 65536 in
theorem w_c8 : (Jvm.Cond.code ({ cls := "java/lang/Number", name := "<init>", desc := "()V" } : Jvm.MethodName) jdk_18_method_1_code (1 : Nat) (Option.none : Option Jvm.ClassFile.FieldType)).before args0 about1 = true := code_word (m := ⟨7, 0⟩) (meth := k7m0) (c := k7c0) (by decide +kernel) rfl rfl rfl (by decide +kernel)
set_option maxRecDepth 65536 in
theorem w_c9 : (Jvm.Cond.code ({ cls := "java/lang/String", name := "valueOf", desc := "(C)Ljava/lang/String;" } : Jvm.MethodName) jdk_42_method_139_code (1 : Nat) (Option.some (Jvm.ClassFile.FieldType.object "java/lang/String"))).before args0 about1 = true := code_word (m := ⟨14, 1⟩) (meth := k14m1) (c := k14c1) (by decide +kernel) rfl rfl rfl (by decide +kernel)
set_option maxRecDepth 65536 in
theorem w_c10 : (Jvm.Cond.code ({ cls := "java/lang/StringLatin1", name := "canEncode", desc := "(C)Z" } : Jvm.MethodName) jdk_43_method_3_code (1 : Nat) (Option.some Jvm.ClassFile.FieldType.boolean)).before args0 about1 = true := code_word (m := ⟨15, 1⟩) (meth := k15m1) (c := k15c1) (by decide +kernel) rfl rfl rfl (by decide +kernel)
set_option maxRecDepth 65536 in
theorem w_c11 : (Jvm.Cond.code ({ cls := "java/lang/StringLatin1", name := "toBytes", desc := "(C)[B" } : Jvm.MethodName) jdk_43_method_46_code (1 : Nat) (Option.some (Jvm.ClassFile.FieldType.array Jvm.ClassFile.FieldType.byte))).before args0 about1 = true := code_word (m := ⟨15, 2⟩) (meth := k15m2) (c := k15c2) (by decide +kernel) rfl rfl rfl (by decide +kernel)
set_option maxRecDepth 65536 in
theorem w_c12 : (Jvm.Cond.code ({ cls := "java/lang/String", name := "<init>", desc := "([BB)V" } : Jvm.MethodName) jdk_42_method_151_code (3 : Nat) (Option.none : Option Jvm.ClassFile.FieldType)).before args0 about1 = true := code_word (m := ⟨14, 2⟩) (meth := k14m2) (c := k14c2) (by decide +kernel) rfl rfl rfl (by decide +kernel)
set_option maxRecDepth 65536 in
theorem w_c13 : (Jvm.Cond.code ({ cls := "com/example/rikusen/rikusen/core/Box", name := "<init>", desc := "(Ljava/lang/String;Ljava/lang/String;Lcom/example/rikusen/rikusen/core/Hex;)V" } : Jvm.MethodName) prog_19_method_1_code (4 : Nat) (Option.none : Option Jvm.ClassFile.FieldType)).before args0 about1 = true := code_word (m := ⟨12, 0⟩) (meth := k12m0) (c := k12c0) (by decide +kernel) rfl rfl rfl (by decide +kernel)
def codes1 : List Jvm.Cond := [Jvm.Cond.code x code maxLocals ret, Jvm.Cond.code ({ cls := "com/example/rikusen/rikusen/core/Hex", name := "<init>", desc := "(II)V" } : Jvm.MethodName) prog_29_method_1_code (3 : Nat) (Option.none : Option Jvm.ClassFile.FieldType), Jvm.Cond.code ({ cls := "java/lang/Record", name := "<init>", desc := "()V" } : Jvm.MethodName) jdk_30_method_1_code (1 : Nat) (Option.none : Option Jvm.ClassFile.FieldType), Jvm.Cond.code ({ cls := "java/lang/Object", name := "<init>", desc := "()V" } : Jvm.MethodName) object_method_1_code (1 : Nat) (Option.none : Option Jvm.ClassFile.FieldType), Jvm.Cond.code ({ cls := "com/example/rikusen/rikusen/core/Hex", name := "fitsTwoDigits", desc := "(I)Z" } : Jvm.MethodName) prog_29_method_11_code (1 : Nat) (Option.some Jvm.ClassFile.FieldType.boolean), Jvm.Cond.code ({ cls := "com/example/rikusen/rikusen/core/Hex", name := "equals", desc := "(Ljava/lang/Object;)Z" } : Jvm.MethodName) prog_29_method_6_code (3 : Nat) (Option.some Jvm.ClassFile.FieldType.boolean), Jvm.Cond.code ({ cls := "java/lang/Integer", name := "valueOf", desc := "(I)Ljava/lang/Integer;" } : Jvm.MethodName) jdk_33_method_22_code (1 : Nat) (Option.some (Jvm.ClassFile.FieldType.object "java/lang/Integer")), Jvm.Cond.code ({ cls := "java/lang/Integer", name := "<init>", desc := "(I)V" } : Jvm.MethodName) jdk_33_method_23_code (2 : Nat) (Option.none : Option Jvm.ClassFile.FieldType), Jvm.Cond.code ({ cls := "java/lang/Number", name := "<init>", desc := "()V" } : Jvm.MethodName) jdk_18_method_1_code (1 : Nat) (Option.none : Option Jvm.ClassFile.FieldType), Jvm.Cond.code ({ cls := "java/lang/String", name := "valueOf", desc := "(C)Ljava/lang/String;" } : Jvm.MethodName) jdk_42_method_139_code (1 : Nat) (Option.some (Jvm.ClassFile.FieldType.object "java/lang/String")), Jvm.Cond.code ({ cls := "java/lang/StringLatin1", name := "canEncode", desc := "(C)Z" } : Jvm.MethodName) jdk_43_method_3_code (1 : Nat) (Option.some Jvm.ClassFile.FieldType.boolean), Jvm.Cond.code ({ cls := "java/lang/StringLatin1", name := "toBytes", desc := "(C)[B" } : Jvm.MethodName) jdk_43_method_46_code (1 : Nat) (Option.some (Jvm.ClassFile.FieldType.array Jvm.ClassFile.FieldType.byte)), Jvm.Cond.code ({ cls := "java/lang/String", name := "<init>", desc := "([BB)V" } : Jvm.MethodName) jdk_42_method_151_code (3 : Nat) (Option.none : Option Jvm.ClassFile.FieldType), Jvm.Cond.code ({ cls := "com/example/rikusen/rikusen/core/Box", name := "<init>", desc := "(Ljava/lang/String;Ljava/lang/String;Lcom/example/rikusen/rikusen/core/Hex;)V" } : Jvm.MethodName) prog_19_method_1_code (4 : Nat) (Option.none : Option Jvm.ClassFile.FieldType)]
set_option maxRecDepth 65536 in
theorem codes_eq : words1.filter isCode = codes1 := rfl
theorem w_codes : ∀ c ∈ words1.filter isCode, c.before args0 about1 = true := by
  rw [codes_eq]
  intro c hc
  simp only [codes1, List.mem_cons, List.not_mem_nil, or_false] at hc
  rcases hc with rfl | rfl | rfl | rfl | rfl | rfl | rfl | rfl | rfl | rfl | rfl | rfl | rfl | rfl
  · exact w_c0
  · exact w_c1
  · exact w_c2
  · exact w_c3
  · exact w_c4
  · exact w_c5
  · exact w_c6
  · exact w_c7
  · exact w_c8
  · exact w_c9
  · exact w_c10
  · exact w_c11
  · exact w_c12
  · exact w_c13
set_option maxRecDepth 65536 in
theorem w_t1 : (words1.take 24).all (fun c => isCode c || c.before args0 about1) = true := by decide +kernel
set_option maxRecDepth 65536 in
theorem w_t2 : ((words1.drop 24).take 24).all (fun c => isCode c || c.before args0 about1) = true := by decide +kernel
set_option maxRecDepth 65536 in
theorem w_t3 : (((words1.drop 24).drop 24).take 24).all (fun c => isCode c || c.before args0 about1) = true := by decide +kernel
set_option maxRecDepth 65536 in
theorem w_t4 : (((words1.drop 24).drop 24).drop 24).all (fun c => isCode c || c.before args0 about1) = true := by decide +kernel
theorem w_tables : (allAtoms (Jvm.Cond.code x code maxLocals ret :: tables_1)).before args0 about1 = true := by
  rw [allAtoms_all]
  show words1.all (fun c => c.before args0 about1) = true
  refine all_split ?_ w_codes
  rw [← List.take_append_drop 24 words1, List.all_append, w_t1, ← List.take_append_drop 24 (words1.drop 24), List.all_append, w_t2, ← List.take_append_drop 24 ((words1.drop 24).drop 24), List.all_append, w_t3, w_t4]
  rfl
set_option maxRecDepth 65536 in
theorem w_rest : rest_1_c.before args0 about1 = true := by decide +kernel
set_option maxRecDepth 65536 in
theorem w_case : (Jvm.Cond.and given_1 narrow_1).before args0 about1 = true := by decide +kernel
theorem w_applies : (headSpec (Jvm.Cond.code x code maxLocals ret :: tables_1) room_1).applies x e0.platform about1 = true :=
  (Spec.applies_iff w_frames).mpr ⟨w_running, w_runnable, w_alone, w_named, w_hears, w_ripe, w_room, w_tables⟩
theorem atStart : AtStart classFile x code maxLocals ret World_1 tables_1 room_1 Calls_1 rest_1 Pre_1 launch0 p0 e0 about1 theMethod args0 below0 :=
  ⟨lists_1, trivial, launch0.admits_env _ _ _, launch0.least_env, fairChoices_fair.cas, fairChoices_fair.clock, w_frames, w_args, w_heap, w_applies, trivial, w_rest, w_case⟩
end start1
theorem witness_1 : WitnessClaimed_1 := ⟨start1.p0, start1.e0, start1.about1, start1.theMethod, start1.args0, start1.below0, start1.atStart⟩
end Jvm.Pilot.@@N@@
