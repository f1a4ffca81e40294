import JvmDerived
import JvmDerived.Pilot.@@N@@Statement
import JvmDerived.Pilot.@@N@@Code
set_option linter.unusedVariables false
set_option linter.unusedSimpArgs false
namespace Jvm.RoadKit
open Sem ClassFile Op Lib Jvm.Stand Jvm.Free Jvm.LawKit
section New
variable {p : Program} {l : Launch} {e : Env} {R : Room} {s : State} {m : MethodId} {args : Array Value} {below : List Frame} {meth : Method} {c : Code} {T : State} {locs : List Loc} {cells slots : Nat}
theorem retI (X : Stand p l e R s m args below meth c T locs cells slots) (hx : p.tables.exec = Jvm.exec) {pc : Nat} {Ls : Array Slot} {z : Int32} {rest : List Value} (hret : meth.sig.returnType = some .int) (hd : decode c.code pc = .ok (.ireturn, 1)) {fs : List Frame}
    (hl : ∀ (f : JFrame) (acts : List Action), f.method = m → f.locked = none → f.entered = [] → (doReturn e (T.setTop f) acts (some (.int z))).1 = T.setFrames fs) : Steps p.tables e below (T.setTop (mkF m pc Ls (.int z :: rest))) (T.setFrames fs) := by
  have hm' : T.vm.method? m = some meth := X.method'
  have hn : narrow .int (.int z) = .int z := rfl
  show Steps p.tables e below (T.setTop { method := m, pc := pc, locals := Ls, stack := _ :: rest, locked := none }) _
  jvm_step X.here [X.here.top, hx, hd, hm', hret, hn]
  first | (intro acts; rw [hl _ acts rfl rfl rfl]) | rw [hl _ _ rfl rfl rfl]
  exact Steps.refl _
end New
end Jvm.RoadKit
namespace Jvm.Pilot.@@N@@
open Jvm Jvm.ClassFile Sem Op Lib Jvm.Free Jvm.Stand Jvm.LawKit Jvm.RoadKit Bundle Jvm.Pilot.@@N@@.Jvm.D
/-! the goal of a walk, gone through forwards: from the state A the run comes to an end that answers R -/
def own_G (tb : Tables) (e : Env) (below : List Frame) (R : State → Outcome → Prop) (A : State) : Prop := ∃ t o, Steps tb e below A t ∧ t.status = .running ∧ Ended t below o ∧ R t o
theorem own_in {tb : Tables} {e : Env} {below : List Frame} {R : State → Outcome → Prop} {A : State} (h : own_G tb e below R A) : ∃ t o, Steps tb e below A t ∧ t.status = .running ∧ Ended t below o ∧ R t o := h
theorem own_pre {tb : Tables} {e : Env} {below : List Frame} {R : State → Outcome → Prop} {A B : State} (k : ∀ t, Steps tb e below B t → Steps tb e below A t) (h : own_G tb e below R B) : own_G tb e below R A := by
  obtain ⟨t, o, h1, h2⟩ := h
  exact ⟨t, o, k t h1, h2⟩
/-! a part of a walk: from A the run comes to some state that answers P -/
def own_J (tb : Tables) (e : Env) (below : List Frame) (P : State → Prop) (A : State) : Prop := ∃ B, P B ∧ ∀ t, Steps tb e below B t → Steps tb e below A t
theorem own_preJ {tb : Tables} {e : Env} {below : List Frame} {P : State → Prop} {A B : State} (k : ∀ t, Steps tb e below B t → Steps tb e below A t) (h : own_J tb e below P B) : own_J tb e below P A := by
  obtain ⟨C, h1, h2⟩ := h
  exact ⟨C, h1, fun t q => k t (h2 t q)⟩
theorem own_more {p : Program} {l : Launch} {e : Env} {R : Room} {s : State} {m : MethodId} {args : Array Value} {below : List Frame} {meth : Method} {c : Code} {T : State} {locs : List Loc} {cells slots cells' slots' : Nat} (X : Stand p l e R s m args below meth c T locs cells slots) (h : cells ≤ cells') (h' : slots ≤ slots') : Stand p l e R s m args below meth c T locs cells' slots' :=
  { X with same := X.same.mono h h' }
theorem ow {d : Jvm.Cond} (i : Nat) (h : tables_1[i]? = some d) : d ∈ tables_1 := List.mem_of_getElem? h
theorem own_root {Z : State} {a0 : Array Value} {O K : String} {n : Nat} (w : (Jvm.Cond.noSuperclass O).before a0 Z = true) (wk : (Jvm.Cond.instantiable K n).before a0 Z = true) (hn : O ≠ K) : NS Z O K := by
  obtain ⟨c, k, h1, h2, h3, -, -⟩ := Cond.noSuperclass_spec w
  obtain ⟨t, kt, g1, -⟩ := Cond.instantiable_spec wk
  have ne := ids_ne h1 g1 hn
  exact ⟨c, t, h1, g1, fun fuel => by cases fuel <;> simp [Vm.isSubclassAux, ne, h2, h3]⟩
theorem own_nosub {Z : State} {a0 : Array Value} {C S K : String} {n : Nat} (w : (Jvm.Cond.superclass C S).before a0 Z = true) (wk : (Jvm.Cond.instantiable K n).before a0 Z = true) (N : NS Z C K) (hn : C ≠ K) : ∃ c t, Z.vm.findClass C = some c ∧ Z.vm.findClass K = some t ∧ Z.vm.assignable c t = false := by
  obtain ⟨c, t, h0, g0, n3⟩ := N
  obtain ⟨p, k, kp, -, h2, -, -, h5, -, -⟩ := Cond.superclass_spec h0 w
  obtain ⟨t', k', g1, g2, g3, g4, -⟩ := Cond.instantiable_spec wk
  cases g0.symm.trans g1
  have ne := ids_ne h0 g0 hn
  have g5 : k'.isInterface = false := by simp at g4; exact g4.1
  refine ⟨c, t, h0, g0, ?_⟩
  show Z.vm.assignableAux (255 + 1) c t = false
  simp [Vm.assignableAux, ne, h2, g2, h5, g3, g5, Vm.isSubclass, n3]
theorem own_cache {Z : State} {args : Array Value} {C CC D : String} {Y : Jvm.Cond} (h1 : (Jvm.Cond.arrayOf (.static CC "cache" D) (.object C)).before args Z = true) (h2 : (Jvm.Cond.eq (.length (.static CC "cache" D)) (.int 256)).before args Z = true)
    (h3 : (Jvm.Cond.all (.static CC "cache" D) (.and (.exactly (.elem (.static CC "cache" D) (.index 0)) C) Y)).before args Z = true) :
    ∃ arr c, (Term.static CC "cache" D).eval args Z none [] Z = some (.ref arr) ∧ Arr Z Z.heap arr c (.object C) ∧ c.slots.size = 256 ∧ ∀ j, j < 256 → ∃ r, c.slots[j]? = some (.ref r) ∧ Exa Z Z.heap r C := by
  obtain ⟨arr, ev⟩ := arr_v (Cond.before_iff.mp h1)
  obtain ⟨c, A⟩ := Arr.start ev (Cond.before_iff.mp h1)
  obtain ⟨hs, hl⟩ := IntBox.length_fwd h2 ev A.1 A.2.1 A.2.2
  have hat := IntBox.arrayAt_of A.1 A.2.1 A.2.2
  have h256 : c.slots.size = 256 := by
    have e := len_toInt hs
    rw [hl] at e
    have e2 : (256 : Int32).toInt = 256 := by decide
    omega
  have hall := Cond.all_elim ev hat (Cond.before_iff.mp h3)
  refine ⟨arr, c, ev, A, h256, fun j hj => ?_⟩
  obtain ⟨q, -⟩ := and_e (hall j (by omega))
  have hx' : (Jvm.Cond.exactly (.elem (.static CC "cache" D) (.index 0)) C).holds args Z none Z [j] = true := by simp [Cond.holds, q]
  obtain ⟨r, c', cell, k, e1, e2, e3, e4, e5, rfl, e7⟩ := Cond.exactly_spec hx'
  have ev' : (Term.static CC "cache" D).eval args Z none [j] Z = some (.ref arr) := ev
  obtain ⟨hn, hb⟩ := IntBox.place_nonneg j hj
  have hi : (Term.index 0).eval args Z none [j] Z = some (.int j.toInt32) := rfl
  obtain ⟨-, hv⟩ := elem_in e1 ev' hi A.1
  rw [hb] at hv
  exact ⟨r, hv, cell, k, e3, e2, e4, e5, e7⟩
theorem own_not {Z : State} {a0 : Array Value} (hw : ∀ d ∈ tables_1, d.before a0 Z = true) : ∃ c t, Z.vm.findClass "com/example/rangewise/rangewise/Id" = some c ∧ Z.vm.findClass "com/example/rangewise/rangewise/TimestampedId" = some t ∧ Z.vm.assignable c t = false :=
  own_nosub (hw _ (ow 64 rfl)) (hw _ (ow 23 rfl)) (NS.step (hw _ (ow 64 rfl)) (own_root (hw _ (ow 65 rfl)) (hw _ (ow 23 rfl)) (by decide)) (by decide)) (by decide)
theorem d1_0 : decode method_2_code 0 = .ok (.lload_n 0, 1) := by decide +kernel
theorem d1_1 : decode method_2_code 1 = .ok (.ldc2_w 7, 3) := by decide +kernel
theorem d1_4 : decode method_2_code 4 = .ok (.lcmp, 1) := by decide +kernel
theorem d1_5 : decode method_2_code 5 = .ok (.ifCond .ne 9, 3) := by decide +kernel
theorem d1_8 : decode method_2_code 8 = .ok (.ldc2_w 9, 3) := by decide +kernel
theorem d1_11 : decode method_2_code 11 = .ok (.goto 4, 3) := by decide +kernel
theorem d1_14 : decode method_2_code 14 = .ok (.lload_n 0, 1) := by decide +kernel
theorem d1_15 : decode method_2_code 15 = .ok (.lreturn, 1) := by decide +kernel
theorem pn_1 : plainName "com/example/rangewise/rangewise/TimestampedIdEqualsPinLaw" = true := by first | (simp [plainName, overriddenIn]; done) | decide +kernel
theorem ef_1 (m : MethodId) (x0 : Int64) : entryFrame m #[(.long x0)] 2 = mkF m 0 #[.val (.long x0), .second] [] := by first | (simp [entryFrame, mkF, argsToLocals, Value.category]; done) | rfl
def own_f1 (q1 : Int64) : Int64 := (if q1 = (-1 : Int64) then (-2 : Int64) else q1)
def Q1 (Z : State) (q1 : Int64) (h0 : Heap) (n0 : Nat) (v : Option Value) (h : Heap) (L : List Loc) : Prop := v = some (.long (own_f1 q1)) ∧ Fr n0 L ∧ h = h0
set_option maxRecDepth 65536 in
set_option maxHeartbeats 40000000 in
theorem rm1 (l : Launch) (Z : State) (a0 : Array Value) (hw : ∀ d ∈ tables_1, d.before a0 Z = true) (ws : List Jvm.Cond) (q1 : Int64) (h0 : Heap) (n0 : Nat) (Z0 : n0 ≤ h0.size) :
    MetFree l (⟨"com/example/rangewise/rangewise/TimestampedIdEqualsPinLaw", "fix", "(J)J"⟩ : MethodName) (head1 (Jvm.Cond.code (⟨"com/example/rangewise/rangewise/TimestampedIdEqualsPinLaw", "fix", "(J)J"⟩ : MethodName) method_2_code 2 (some .long) :: ws) ({ frames := 0, cells := 0, slots := 0, locals := 0 } : Room)) (fun a U => a = #[(.long q1)] ∧ Z.Warmed39 U.vm ∧ U.heap = h0) (fun _ _ _ _ _ => True) (fun _ U o U' => ∃ v L, o = .returned v ∧ Q1 Z q1 h0 n0 v U'.heap L ∧ FrameEnd U o U' L ({ frames := 0, cells := 0, slots := 0, locals := 0 } : Room).cells ({ frames := 0, cells := 0, slots := 0, locals := 0 } : Room).slots) := by
  refine MetFree.of_bodySF (plainFor_of_name pn_1) hisR ?_
  intro p e s m args below meth c s₁ Bd hml0 hP hK
  obtain ⟨rfl, hZ, hh⟩ := hP
  have hx := Bd.exec
  have hby := Bd.bytes
  have hml : c.maxLocals = 2 := hml0
  have hown : s.vm.findClass "com/example/rangewise/rangewise/TimestampedIdEqualsPinLaw" = some m.cls := findClass_of_methodNamed Bd.named
  have hnm := (name_of_methodNamed Bd.named Bd.method).1
  have X0 : Stand p l e ({ frames := 0, cells := 0, slots := 0, locals := 0 } : Room) s m #[(.long q1)] below meth c s₁ [] 0 0 := Stand.of_body Bd
  have e0 : s₁.heap = h0 := by rw [← hh, Bd.state]; rfl
  have N0 := Fr.nil n0
  apply own_in
  refine own_pre (B := s₁.setTop (mkF m 0 #[.val (.long q1), .second] [])) (fun t k => castTop (ef_1 m q1) k) ?_
  refine own_pre (B := s₁.setTop (mkF m 1 #[.val (.long q1), .second] [(.long q1)])) (fun t k => XS.lloadN X0.here hx rfl (hb hby d1_0) rfl k) ?_
  refine own_pre (B := s₁.setTop (mkF m 4 #[.val (.long q1), .second] [(.long (-1 : Int64)), (.long q1)])) (fun t k => X0.ldc2Long hx hown (mvT hZ (hw _ (ow 4 rfl))) (g := (mkF m 1 #[.val (.long q1), .second] [(.long q1)])) rfl (hb hby d1_1) _ k) ?_
  refine own_pre (B := s₁.setTop (mkF m 5 #[.val (.long q1), .second] [(.int (lcmpW q1 (-1 : Int64)))])) (fun t k => XS.lcmp X0.here hx rfl (hb hby d1_4) rfl k) ?_
  by_cases hc5_2 : q1 = (-1 : Int64)
  · refine own_pre (B := s₁.setTop (mkF m 8 #[.val (.long q1), .second] [])) (fun t k => XS.ifNo X0.here hx rfl (hb hby d1_5) rfl ((if0 _ _).trans (teq ((lw_eq q1 (-1 : Int64)).mpr hc5_2)).2) k) ?_
    refine own_pre (B := s₁.setTop (mkF m 11 #[.val (.long q1), .second] [(.long (-2 : Int64))])) (fun t k => X0.ldc2Long hx hown (mvT hZ (hw _ (ow 66 rfl))) (g := (mkF m 8 #[.val (.long q1), .second] [])) rfl (hb hby d1_8) _ k) ?_
    refine own_pre (B := s₁.setTop (mkF m 15 #[.val (.long q1), .second] [(.long (-2 : Int64))])) (fun t k => XS.goto X0.here hx rfl (pc0 := 11) (pc' := 15) rfl (hb hby d1_11) (by decide) (by decide) k) ?_
    obtain ⟨fsr3, hrr3, hrunr3, hendedr3, hWr3, hsamer3⟩ := X0.leave (v := some (.long (-2 : Int64))) (fun h => by rw [Bd.returns] at h; cases h)
    refine ⟨_, _, (retOut X0 hx (t := .long) (i := .lreturn) Bd.returns rfl (Or.inr (Or.inl ⟨rfl, rfl, _, rfl⟩)) (hb hby d1_15) hrr3), hrunr3, hendedr3, _, _, rfl, ?_, ⟨_, rfl⟩, hWr3, hsamer3.mono (by decide) (by decide)⟩
    show Q1 Z q1 h0 n0 _ s₁.heap _
    rw [e0]
    exact ⟨(by unfold own_f1; rw [if_pos hc5_2]), N0, rfl⟩
  · refine own_pre (B := s₁.setTop (mkF m 14 #[.val (.long q1), .second] [])) (fun t k => XS.ifYes X0.here hx rfl (pc0 := 5) (pc' := 14) rfl (hb hby d1_5) rfl ((if0 _ _).trans (feq (mt (lw_eq q1 (-1 : Int64)).mp hc5_2)).2) (by decide) (by decide) k) ?_
    refine own_pre (B := s₁.setTop (mkF m 15 #[.val (.long q1), .second] [(.long q1)])) (fun t k => XS.lloadN X0.here hx rfl (hb hby d1_14) rfl k) ?_
    obtain ⟨fsr4, hrr4, hrunr4, hendedr4, hWr4, hsamer4⟩ := X0.leave (v := some (.long q1)) (fun h => by rw [Bd.returns] at h; cases h)
    refine ⟨_, _, (retOut X0 hx (t := .long) (i := .lreturn) Bd.returns rfl (Or.inr (Or.inl ⟨rfl, rfl, _, rfl⟩)) (hb hby d1_15) hrr4), hrunr4, hendedr4, _, _, rfl, ?_, ⟨_, rfl⟩, hWr4, hsamer4.mono (by decide) (by decide)⟩
    show Q1 Z q1 h0 n0 _ s₁.heap _
    rw [e0]
    exact ⟨(by unfold own_f1; rw [if_neg hc5_2]), N0, rfl⟩
theorem d2_0 : decode prog_25_method_1_code 0 = .ok (.aload_n 0, 1) := by decide +kernel
theorem d2_1 : decode prog_25_method_1_code 1 = .ok (.invokespecial 5, 3) := by decide +kernel
theorem d2_4 : decode prog_25_method_1_code 4 = .ok (.aload_n 0, 1) := by decide +kernel
theorem d2_5 : decode prog_25_method_1_code 5 = .ok (.lload_n 1, 1) := by decide +kernel
theorem d2_6 : decode prog_25_method_1_code 6 = .ok (.putfield 11, 3) := by decide +kernel
theorem d2_9 : decode prog_25_method_1_code 9 = .ok (.aload_n 0, 1) := by decide +kernel
theorem d2_10 : decode prog_25_method_1_code 10 = .ok (.lload_n 3, 1) := by decide +kernel
theorem d2_11 : decode prog_25_method_1_code 11 = .ok (.putfield 15, 3) := by decide +kernel
theorem d2_14 : decode prog_25_method_1_code 14 = .ok (.aload_n 0, 1) := by decide +kernel
theorem d2_15 : decode prog_25_method_1_code 15 = .ok (.lload 5, 2) := by decide +kernel
theorem d2_17 : decode prog_25_method_1_code 17 = .ok (.putfield 18, 3) := by decide +kernel
theorem d2_20 : decode prog_25_method_1_code 20 = .ok (.aload_n 0, 1) := by decide +kernel
theorem d2_21 : decode prog_25_method_1_code 21 = .ok (.lload 7, 2) := by decide +kernel
theorem d2_23 : decode prog_25_method_1_code 23 = .ok (.putfield 21, 3) := by decide +kernel
theorem d2_26 : decode prog_25_method_1_code 26 = .ok (.return_, 1) := by decide +kernel
theorem pn_2 : plainName "com/example/rangewise/rangewise/Id" = true := by first | (simp [plainName, overriddenIn]; done) | decide +kernel
theorem ef_2 (m : MethodId) (x0 : Addr) (x1 : Int64) (x2 : Int64) (x3 : Int64) (x4 : Int64) : entryFrame m #[(.ref x0), (.long x1), (.long x2), (.long x3), (.long x4)] 9 = mkF m 0 #[.val (.ref x0), .val (.long x1), .second, .val (.long x2), .second, .val (.long x3), .second, .val (.long x4), .second] [] := by first | (simp [entryFrame, mkF, argsToLocals, Value.category]; done) | rfl
def Q2 (Z : State) (a1 : Addr) (q2 : Int64) (q3 : Int64) (q4 : Int64) (q5 : Int64) (u_word0_a1 : Value) (u_word1_a1 : Value) (u_word2_a1 : Value) (u_word3_a1 : Value) (h0 : Heap) (n0 : Nat) (v : Option Value) (h : Heap) (L : List Loc) : Prop := v = none ∧ Fr n0 L ∧ Keep h0 h [a1] ∧ Exa Z h a1 "com/example/rangewise/rangewise/Id" ∧ Fld Z h a1 "com/example/rangewise/rangewise/Id" "word0" "J" (.long q2) ∧ Fld Z h a1 "com/example/rangewise/rangewise/Id" "word1" "J" (.long q3) ∧ Fld Z h a1 "com/example/rangewise/rangewise/Id" "word2" "J" (.long q4) ∧ Fld Z h a1 "com/example/rangewise/rangewise/Id" "word3" "J" (.long q5)
set_option maxRecDepth 65536 in
set_option maxHeartbeats 40000000 in
theorem rm2 (l : Launch) (Z : State) (a0 : Array Value) (hw : ∀ d ∈ tables_1, d.before a0 Z = true) (ws : List Jvm.Cond) (a1 : Addr) (q2 : Int64) (q3 : Int64) (q4 : Int64) (q5 : Int64) (u_word0_a1 : Value) (u_word1_a1 : Value) (u_word2_a1 : Value) (u_word3_a1 : Value) (h0 : Heap) (n0 : Nat) (Z0 : n0 ≤ h0.size) (E_a1 : Exa Z h0 a1 "com/example/rangewise/rangewise/Id") (F_word0_a1 : Fld Z h0 a1 "com/example/rangewise/rangewise/Id" "word0" "J" u_word0_a1) (g_a1 : n0 ≤ a1) (F_word1_a1 : Fld Z h0 a1 "com/example/rangewise/rangewise/Id" "word1" "J" u_word1_a1) (F_word2_a1 : Fld Z h0 a1 "com/example/rangewise/rangewise/Id" "word2" "J" u_word2_a1) (F_word3_a1 : Fld Z h0 a1 "com/example/rangewise/rangewise/Id" "word3" "J" u_word3_a1) :
    MetFree l (⟨"com/example/rangewise/rangewise/Id", "<init>", "(JJJJ)V"⟩ : MethodName) (head1 (Jvm.Cond.code (⟨"com/example/rangewise/rangewise/Id", "<init>", "(JJJJ)V"⟩ : MethodName) prog_25_method_1_code 9 none :: ws) ({ frames := 1, cells := 0, slots := 0, locals := 12 } : Room)) (fun a U => a = #[(.ref a1), (.long q2), (.long q3), (.long q4), (.long q5)] ∧ Z.Warmed39 U.vm ∧ U.heap = h0) (fun _ _ _ _ _ => True) (fun _ U o U' => ∃ v L, o = .returned v ∧ Q2 Z a1 q2 q3 q4 q5 u_word0_a1 u_word1_a1 u_word2_a1 u_word3_a1 h0 n0 v U'.heap L ∧ FrameEnd U o U' L ({ frames := 1, cells := 0, slots := 0, locals := 12 } : Room).cells ({ frames := 1, cells := 0, slots := 0, locals := 12 } : Room).slots) := by
  refine MetFree.of_bodySF (plainFor_of_name pn_2) hisR ?_
  intro p e s m args below meth c s₁ Bd hml0 hP hK
  obtain ⟨rfl, hZ, hh⟩ := hP
  have hx := Bd.exec
  have hby := Bd.bytes
  have hml : c.maxLocals = 9 := hml0
  have hown : s.vm.findClass "com/example/rangewise/rangewise/Id" = some m.cls := findClass_of_methodNamed Bd.named
  have hnm := (name_of_methodNamed Bd.named Bd.method).1
  have X0 : Stand p l e ({ frames := 1, cells := 0, slots := 0, locals := 12 } : Room) s m #[(.ref a1), (.long q2), (.long q3), (.long q4), (.long q5)] below meth c s₁ [] 0 0 := Stand.of_body Bd
  have e0 : s₁.heap = h0 := by rw [← hh, Bd.state]; rfl
  have N0 := Fr.nil n0
  apply own_in
  refine own_pre (B := s₁.setTop (mkF m 0 #[.val (.ref a1), .val (.long q2), .second, .val (.long q3), .second, .val (.long q4), .second, .val (.long q5), .second] [])) (fun t k => castTop (ef_2 m a1 q2 q3 q4 q5) k) ?_
  refine own_pre (B := s₁.setTop (mkF m 1 #[.val (.ref a1), .val (.long q2), .second, .val (.long q3), .second, .val (.long q4), .second, .val (.long q5), .second] [(.ref a1)])) (fun t k => XS.aloadN X0.here hx rfl (hb hby d2_0) rfl rfl k) ?_
  obtain ⟨T6, X6, e6, st6⟩ := initO X0 hx hZ hown (hw _ (ow 11 rfl)) (hw _ (ow 12 rfl)) (hw _ (ow 13 rfl)) e0 (g := (mkF m 1 #[.val (.ref a1), .val (.long q2), .second, .val (.long q3), .second, .val (.long q4), .second, .val (.long q5), .second] [(.ref a1)])) rfl (by rw [hml]; rfl) rfl (hb hby d2_1) (by decide) (W := 0) (by show 2 * 0 + _ ≤ _; exact Nat.le_of_eq rfl) (by decide)
  refine own_pre (B := T6.setTop (mkF m 4 #[.val (.ref a1), .val (.long q2), .second, .val (.long q3), .second, .val (.long q4), .second, .val (.long q5), .second] [])) (fun t k => st6 t k) ?_
  refine own_pre (B := T6.setTop (mkF m 5 #[.val (.ref a1), .val (.long q2), .second, .val (.long q3), .second, .val (.long q4), .second, .val (.long q5), .second] [(.ref a1)])) (fun t k => XS.aloadN X6.here hx rfl (hb hby d2_4) rfl rfl k) ?_
  refine own_pre (B := T6.setTop (mkF m 6 #[.val (.ref a1), .val (.long q2), .second, .val (.long q3), .second, .val (.long q4), .second, .val (.long q5), .second] [(.long q2), (.ref a1)])) (fun t k => XS.lloadN X6.here hx rfl (hb hby d2_5) rfl k) ?_
  have K7 : Keep h0 h0 [a1] := (Keep.refl h0 [a1])
  obtain ⟨T8, h8, X8, e8, W8, st8⟩ := putF X6 hx hZ hown (host := "") (Or.inl (hw _ (ow 14 rfl))) Via.refl e6 F_word0_a1 E_a1 (Or.inr ⟨(hw _ (ow 15 rfl)), rfl, hnm⟩) (hw _ (ow 6 rfl)) (ty := .long) (by decide) rfl rfl (g := (mkF m 6 #[.val (.ref a1), .val (.long q2), .second, .val (.long q3), .second, .val (.long q4), .second, .val (.long q5), .second] [(.long q2), (.ref a1)])) rfl rfl (hb hby d2_6)
  have Fw8 := Fld.same W8 F_word0_a1
  have N8 := Fr.snoc X8 N0 g_a1
  refine own_pre (B := T8.setTop (mkF m 9 #[.val (.ref a1), .val (.long q2), .second, .val (.long q3), .second, .val (.long q4), .second, .val (.long q5), .second] [])) (fun t k => st8 t k) ?_
  refine own_pre (B := T8.setTop (mkF m 10 #[.val (.ref a1), .val (.long q2), .second, .val (.long q3), .second, .val (.long q4), .second, .val (.long q5), .second] [(.ref a1)])) (fun t k => XS.aloadN X8.here hx rfl (hb hby d2_9) rfl rfl k) ?_
  refine own_pre (B := T8.setTop (mkF m 11 #[.val (.ref a1), .val (.long q2), .second, .val (.long q3), .second, .val (.long q4), .second, .val (.long q5), .second] [(.long q3), (.ref a1)])) (fun t k => XS.lloadN X8.here hx rfl (hb hby d2_10) rfl k) ?_
  have c9 := (Exa.wr W8 E_a1)
  have c10 := (Fld.other W8 F_word1_a1 (Or.inr (slot_ne (Or.inr (hw _ (ow 17 rfl))) (Or.inr (hw _ (ow 15 rfl))) (by decide) (t := .long) (t' := .long) (by decide) (by decide))))
  have K11 : Keep h0 h8 [a1] := (Keep.wr K7 W8 (Or.inl (List.mem_of_getElem? (i := 0) rfl)))
  obtain ⟨T12, h12, X12, e12, W12, st12⟩ := putF X8 hx hZ hown (host := "") (Or.inl (hw _ (ow 16 rfl))) Via.refl e8 c10 c9 (Or.inr ⟨(hw _ (ow 17 rfl)), rfl, hnm⟩) (hw _ (ow 6 rfl)) (ty := .long) (by decide) rfl rfl (g := (mkF m 11 #[.val (.ref a1), .val (.long q2), .second, .val (.long q3), .second, .val (.long q4), .second, .val (.long q5), .second] [(.long q3), (.ref a1)])) rfl rfl (hb hby d2_11)
  have Fw12 := Fld.same W12 c10
  have N12 := Fr.snoc X12 N8 g_a1
  refine own_pre (B := T12.setTop (mkF m 14 #[.val (.ref a1), .val (.long q2), .second, .val (.long q3), .second, .val (.long q4), .second, .val (.long q5), .second] [])) (fun t k => st12 t k) ?_
  refine own_pre (B := T12.setTop (mkF m 15 #[.val (.ref a1), .val (.long q2), .second, .val (.long q3), .second, .val (.long q4), .second, .val (.long q5), .second] [(.ref a1)])) (fun t k => XS.aloadN X12.here hx rfl (hb hby d2_14) rfl rfl k) ?_
  refine own_pre (B := T12.setTop (mkF m 17 #[.val (.ref a1), .val (.long q2), .second, .val (.long q3), .second, .val (.long q4), .second, .val (.long q5), .second] [(.long q4), (.ref a1)])) (fun t k => XS.lload X12.here hx rfl (hb hby d2_15) rfl k) ?_
  have c13 := (Exa.wr W12 c9)
  have c14 := (Fld.other W12 (Fld.other W8 F_word2_a1 (Or.inr (slot_ne (Or.inr (hw _ (ow 19 rfl))) (Or.inr (hw _ (ow 15 rfl))) (by decide) (t := .long) (t' := .long) (by decide) (by decide)))) (Or.inr (slot_ne (Or.inr (hw _ (ow 19 rfl))) (Or.inr (hw _ (ow 17 rfl))) (by decide) (t := .long) (t' := .long) (by decide) (by decide))))
  have K15 : Keep h0 h12 [a1] := (Keep.wr K11 W12 (Or.inl (List.mem_of_getElem? (i := 0) rfl)))
  obtain ⟨T16, h16, X16, e16, W16, st16⟩ := putF X12 hx hZ hown (host := "") (Or.inl (hw _ (ow 18 rfl))) Via.refl e12 c14 c13 (Or.inr ⟨(hw _ (ow 19 rfl)), rfl, hnm⟩) (hw _ (ow 6 rfl)) (ty := .long) (by decide) rfl rfl (g := (mkF m 17 #[.val (.ref a1), .val (.long q2), .second, .val (.long q3), .second, .val (.long q4), .second, .val (.long q5), .second] [(.long q4), (.ref a1)])) rfl rfl (hb hby d2_17)
  have Fw16 := Fld.same W16 c14
  have N16 := Fr.snoc X16 N12 g_a1
  refine own_pre (B := T16.setTop (mkF m 20 #[.val (.ref a1), .val (.long q2), .second, .val (.long q3), .second, .val (.long q4), .second, .val (.long q5), .second] [])) (fun t k => st16 t k) ?_
  refine own_pre (B := T16.setTop (mkF m 21 #[.val (.ref a1), .val (.long q2), .second, .val (.long q3), .second, .val (.long q4), .second, .val (.long q5), .second] [(.ref a1)])) (fun t k => XS.aloadN X16.here hx rfl (hb hby d2_20) rfl rfl k) ?_
  refine own_pre (B := T16.setTop (mkF m 23 #[.val (.ref a1), .val (.long q2), .second, .val (.long q3), .second, .val (.long q4), .second, .val (.long q5), .second] [(.long q5), (.ref a1)])) (fun t k => XS.lload X16.here hx rfl (hb hby d2_21) rfl k) ?_
  have c17 := (Exa.wr W16 c13)
  have c18 := (Fld.other W16 (Fld.other W12 (Fld.other W8 F_word3_a1 (Or.inr (slot_ne (Or.inr (hw _ (ow 21 rfl))) (Or.inr (hw _ (ow 15 rfl))) (by decide) (t := .long) (t' := .long) (by decide) (by decide)))) (Or.inr (slot_ne (Or.inr (hw _ (ow 21 rfl))) (Or.inr (hw _ (ow 17 rfl))) (by decide) (t := .long) (t' := .long) (by decide) (by decide)))) (Or.inr (slot_ne (Or.inr (hw _ (ow 21 rfl))) (Or.inr (hw _ (ow 19 rfl))) (by decide) (t := .long) (t' := .long) (by decide) (by decide))))
  have K19 : Keep h0 h16 [a1] := (Keep.wr K15 W16 (Or.inl (List.mem_of_getElem? (i := 0) rfl)))
  obtain ⟨T20, h20, X20, e20, W20, st20⟩ := putF X16 hx hZ hown (host := "") (Or.inl (hw _ (ow 20 rfl))) Via.refl e16 c18 c17 (Or.inr ⟨(hw _ (ow 21 rfl)), rfl, hnm⟩) (hw _ (ow 6 rfl)) (ty := .long) (by decide) rfl rfl (g := (mkF m 23 #[.val (.ref a1), .val (.long q2), .second, .val (.long q3), .second, .val (.long q4), .second, .val (.long q5), .second] [(.long q5), (.ref a1)])) rfl rfl (hb hby d2_23)
  have Fw20 := Fld.same W20 c18
  have N20 := Fr.snoc X20 N16 g_a1
  refine own_pre (B := T20.setTop (mkF m 26 #[.val (.ref a1), .val (.long q2), .second, .val (.long q3), .second, .val (.long q4), .second, .val (.long q5), .second] [])) (fun t k => st20 t k) ?_
  have K21 : Keep h0 h20 [a1] := (Keep.wr K19 W20 (Or.inl (List.mem_of_getElem? (i := 0) rfl)))
  have c22 := (Exa.wr W20 c17)
  have c23 := (Fld.other W20 (Fld.other W16 (Fld.other W12 Fw8 (Or.inr (slot_ne (Or.inr (hw _ (ow 15 rfl))) (Or.inr (hw _ (ow 17 rfl))) (by decide) (t := .long) (t' := .long) (by decide) (by decide)))) (Or.inr (slot_ne (Or.inr (hw _ (ow 15 rfl))) (Or.inr (hw _ (ow 19 rfl))) (by decide) (t := .long) (t' := .long) (by decide) (by decide)))) (Or.inr (slot_ne (Or.inr (hw _ (ow 15 rfl))) (Or.inr (hw _ (ow 21 rfl))) (by decide) (t := .long) (t' := .long) (by decide) (by decide))))
  have c24 := (Fld.other W20 (Fld.other W16 Fw12 (Or.inr (slot_ne (Or.inr (hw _ (ow 17 rfl))) (Or.inr (hw _ (ow 19 rfl))) (by decide) (t := .long) (t' := .long) (by decide) (by decide)))) (Or.inr (slot_ne (Or.inr (hw _ (ow 17 rfl))) (Or.inr (hw _ (ow 21 rfl))) (by decide) (t := .long) (t' := .long) (by decide) (by decide))))
  have c25 := (Fld.other W20 Fw16 (Or.inr (slot_ne (Or.inr (hw _ (ow 19 rfl))) (Or.inr (hw _ (ow 21 rfl))) (by decide) (t := .long) (t' := .long) (by decide) (by decide))))
  obtain ⟨fsr26, hrr26, hrunr26, hendedr26, hWr26, hsamer26⟩ := X20.leave (v := none) (fun _ => rfl)
  refine ⟨_, _, (X20.returnOut hx Bd.returns (hb hby d2_26) hrr26), hrunr26, hendedr26, _, _, rfl, ?_, ⟨_, rfl⟩, hWr26, hsamer26.mono (by decide) (by decide)⟩
  show Q2 Z a1 q2 q3 q4 q5 u_word0_a1 u_word1_a1 u_word2_a1 u_word3_a1 h0 n0 _ T20.heap _
  rw [e20]
  exact ⟨rfl, N20, K21, c22, c23, c24, c25, Fw20⟩
theorem d6_0 : decode jdk_35_method_42_code 0 = .ok (.lload_n 0, 1) := by decide +kernel
theorem d6_1 : decode jdk_35_method_42_code 1 = .ok (.lload_n 2, 1) := by decide +kernel
theorem d6_2 : decode jdk_35_method_42_code 2 = .ok (.lcmp, 1) := by decide +kernel
theorem d6_3 : decode jdk_35_method_42_code 3 = .ok (.ifCond .ge 7, 3) := by decide +kernel
theorem d6_6 : decode jdk_35_method_42_code 6 = .ok (.iconst (-1), 1) := by decide +kernel
theorem d6_7 : decode jdk_35_method_42_code 7 = .ok (.goto 14, 3) := by decide +kernel
theorem d6_10 : decode jdk_35_method_42_code 10 = .ok (.lload_n 0, 1) := by decide +kernel
theorem d6_11 : decode jdk_35_method_42_code 11 = .ok (.lload_n 2, 1) := by decide +kernel
theorem d6_12 : decode jdk_35_method_42_code 12 = .ok (.lcmp, 1) := by decide +kernel
theorem d6_13 : decode jdk_35_method_42_code 13 = .ok (.ifCond .ne 7, 3) := by decide +kernel
theorem d6_16 : decode jdk_35_method_42_code 16 = .ok (.iconst 0, 1) := by decide +kernel
theorem d6_17 : decode jdk_35_method_42_code 17 = .ok (.goto 4, 3) := by decide +kernel
theorem d6_20 : decode jdk_35_method_42_code 20 = .ok (.iconst 1, 1) := by decide +kernel
theorem d6_21 : decode jdk_35_method_42_code 21 = .ok (.ireturn, 1) := by decide +kernel
theorem pn_6 : plainName "java/lang/Long" = true := by first | (simp [plainName, overriddenIn]; done) | decide +kernel
theorem ef_6 (m : MethodId) (x0 : Int64) (x1 : Int64) : entryFrame m #[(.long x0), (.long x1)] 4 = mkF m 0 #[.val (.long x0), .second, .val (.long x1), .second] [] := by first | (simp [entryFrame, mkF, argsToLocals, Value.category]; done) | rfl
def own_f6 (q1 : Int64) (q2 : Int64) : Int32 := (if q1 < q2 then (-1 : Int32) else (if q1 = q2 then (0 : Int32) else (1 : Int32)))
def Q6 (Z : State) (q1 : Int64) (q2 : Int64) (h0 : Heap) (n0 : Nat) (v : Option Value) (h : Heap) (L : List Loc) : Prop := v = some (.int (own_f6 q1 q2)) ∧ Fr n0 L ∧ h = h0
set_option maxRecDepth 65536 in
set_option maxHeartbeats 40000000 in
theorem rm6 (l : Launch) (Z : State) (a0 : Array Value) (hw : ∀ d ∈ tables_1, d.before a0 Z = true) (ws : List Jvm.Cond) (q1 : Int64) (q2 : Int64) (h0 : Heap) (n0 : Nat) (Z0 : n0 ≤ h0.size) :
    MetFree l (⟨"java/lang/Long", "compare", "(JJ)I"⟩ : MethodName) (head1 (Jvm.Cond.code (⟨"java/lang/Long", "compare", "(JJ)I"⟩ : MethodName) jdk_35_method_42_code 4 (some .int) :: ws) ({ frames := 0, cells := 0, slots := 0, locals := 0 } : Room)) (fun a U => a = #[(.long q1), (.long q2)] ∧ Z.Warmed39 U.vm ∧ U.heap = h0) (fun _ _ _ _ _ => True) (fun _ U o U' => ∃ v L, o = .returned v ∧ Q6 Z q1 q2 h0 n0 v U'.heap L ∧ FrameEnd U o U' L ({ frames := 0, cells := 0, slots := 0, locals := 0 } : Room).cells ({ frames := 0, cells := 0, slots := 0, locals := 0 } : Room).slots) := by
  refine MetFree.of_bodySF (plainFor_of_name pn_6) hisR ?_
  intro p e s m args below meth c s₁ Bd hml0 hP hK
  obtain ⟨rfl, hZ, hh⟩ := hP
  have hx := Bd.exec
  have hby := Bd.bytes
  have hml : c.maxLocals = 4 := hml0
  have hown : s.vm.findClass "java/lang/Long" = some m.cls := findClass_of_methodNamed Bd.named
  have hnm := (name_of_methodNamed Bd.named Bd.method).1
  have X0 : Stand p l e ({ frames := 0, cells := 0, slots := 0, locals := 0 } : Room) s m #[(.long q1), (.long q2)] below meth c s₁ [] 0 0 := Stand.of_body Bd
  have e0 : s₁.heap = h0 := by rw [← hh, Bd.state]; rfl
  have N0 := Fr.nil n0
  apply own_in
  refine own_pre (B := s₁.setTop (mkF m 0 #[.val (.long q1), .second, .val (.long q2), .second] [])) (fun t k => castTop (ef_6 m q1 q2) k) ?_
  refine own_pre (B := s₁.setTop (mkF m 1 #[.val (.long q1), .second, .val (.long q2), .second] [(.long q1)])) (fun t k => XS.lloadN X0.here hx rfl (hb hby d6_0) rfl k) ?_
  refine own_pre (B := s₁.setTop (mkF m 2 #[.val (.long q1), .second, .val (.long q2), .second] [(.long q2), (.long q1)])) (fun t k => XS.lloadN X0.here hx rfl (hb hby d6_1) rfl k) ?_
  refine own_pre (B := s₁.setTop (mkF m 3 #[.val (.long q1), .second, .val (.long q2), .second] [(.int (lcmpW q1 q2))])) (fun t k => XS.lcmp X0.here hx rfl (hb hby d6_2) rfl k) ?_
  by_cases hc3_3 : q1 < q2
  · refine own_pre (B := s₁.setTop (mkF m 6 #[.val (.long q1), .second, .val (.long q2), .second] [])) (fun t k => XS.ifNo X0.here hx rfl (hb hby d6_3) rfl ((if0 _ _).trans (tlt ((lw_lt q1 q2).mpr hc3_3)).2.1) k) ?_
    refine own_pre (B := s₁.setTop (mkF m 7 #[.val (.long q1), .second, .val (.long q2), .second] [(.int (-1 : Int32))])) (fun t k => XS.iconst X0.here hx rfl (hb hby d6_6) k) ?_
    refine own_pre (B := s₁.setTop (mkF m 21 #[.val (.long q1), .second, .val (.long q2), .second] [(.int (-1 : Int32))])) (fun t k => XS.goto X0.here hx rfl (pc0 := 7) (pc' := 21) rfl (hb hby d6_7) (by decide) (by decide) k) ?_
    obtain ⟨fsr4, hrr4, hrunr4, hendedr4, hWr4, hsamer4⟩ := X0.leave (v := some (.int (-1 : Int32))) (fun h => by rw [Bd.returns] at h; cases h)
    refine ⟨_, _, (retI X0 hx Bd.returns (hb hby d6_21) hrr4), hrunr4, hendedr4, _, _, rfl, ?_, ⟨_, rfl⟩, hWr4, hsamer4.mono (by decide) (by decide)⟩
    show Q6 Z q1 q2 h0 n0 _ s₁.heap _
    rw [e0]
    exact ⟨(by unfold own_f6; rw [if_pos hc3_3]), N0, rfl⟩
  · refine own_pre (B := s₁.setTop (mkF m 10 #[.val (.long q1), .second, .val (.long q2), .second] [])) (fun t k => XS.ifYes X0.here hx rfl (pc0 := 3) (pc' := 10) rfl (hb hby d6_3) rfl ((if0 _ _).trans (flt (mt (lw_lt q1 q2).mp hc3_3)).2.1) (by decide) (by decide) k) ?_
    refine own_pre (B := s₁.setTop (mkF m 11 #[.val (.long q1), .second, .val (.long q2), .second] [(.long q1)])) (fun t k => XS.lloadN X0.here hx rfl (hb hby d6_10) rfl k) ?_
    refine own_pre (B := s₁.setTop (mkF m 12 #[.val (.long q1), .second, .val (.long q2), .second] [(.long q2), (.long q1)])) (fun t k => XS.lloadN X0.here hx rfl (hb hby d6_11) rfl k) ?_
    refine own_pre (B := s₁.setTop (mkF m 13 #[.val (.long q1), .second, .val (.long q2), .second] [(.int (lcmpW q1 q2))])) (fun t k => XS.lcmp X0.here hx rfl (hb hby d6_12) rfl k) ?_
    by_cases hc13_5 : q1 = q2
    · refine own_pre (B := s₁.setTop (mkF m 16 #[.val (.long q1), .second, .val (.long q2), .second] [])) (fun t k => XS.ifNo X0.here hx rfl (hb hby d6_13) rfl ((if0 _ _).trans (teq ((lw_eq q1 q2).mpr hc13_5)).2) k) ?_
      refine own_pre (B := s₁.setTop (mkF m 17 #[.val (.long q1), .second, .val (.long q2), .second] [(.int (0 : Int32))])) (fun t k => XS.iconst X0.here hx rfl (hb hby d6_16) k) ?_
      refine own_pre (B := s₁.setTop (mkF m 21 #[.val (.long q1), .second, .val (.long q2), .second] [(.int (0 : Int32))])) (fun t k => XS.goto X0.here hx rfl (pc0 := 17) (pc' := 21) rfl (hb hby d6_17) (by decide) (by decide) k) ?_
      obtain ⟨fsr6, hrr6, hrunr6, hendedr6, hWr6, hsamer6⟩ := X0.leave (v := some (.int (0 : Int32))) (fun h => by rw [Bd.returns] at h; cases h)
      refine ⟨_, _, (retI X0 hx Bd.returns (hb hby d6_21) hrr6), hrunr6, hendedr6, _, _, rfl, ?_, ⟨_, rfl⟩, hWr6, hsamer6.mono (by decide) (by decide)⟩
      show Q6 Z q1 q2 h0 n0 _ s₁.heap _
      rw [e0]
      exact ⟨(by unfold own_f6; rw [if_neg hc3_3, if_pos hc13_5]), N0, rfl⟩
    · refine own_pre (B := s₁.setTop (mkF m 20 #[.val (.long q1), .second, .val (.long q2), .second] [])) (fun t k => XS.ifYes X0.here hx rfl (pc0 := 13) (pc' := 20) rfl (hb hby d6_13) rfl ((if0 _ _).trans (feq (mt (lw_eq q1 q2).mp hc13_5)).2) (by decide) (by decide) k) ?_
      refine own_pre (B := s₁.setTop (mkF m 21 #[.val (.long q1), .second, .val (.long q2), .second] [(.int (1 : Int32))])) (fun t k => XS.iconst X0.here hx rfl (hb hby d6_20) k) ?_
      obtain ⟨fsr7, hrr7, hrunr7, hendedr7, hWr7, hsamer7⟩ := X0.leave (v := some (.int (1 : Int32))) (fun h => by rw [Bd.returns] at h; cases h)
      refine ⟨_, _, (retI X0 hx Bd.returns (hb hby d6_21) hrr7), hrunr7, hendedr7, _, _, rfl, ?_, ⟨_, rfl⟩, hWr7, hsamer7.mono (by decide) (by decide)⟩
      show Q6 Z q1 q2 h0 n0 _ s₁.heap _
      rw [e0]
      exact ⟨(by unfold own_f6; rw [if_neg hc3_3, if_neg hc13_5]), N0, rfl⟩
theorem pd_0 : parseMethodDescriptor "(JJ)I" = some ⟨[.long, .long], some .int⟩ := by decide +kernel
theorem d5_0 : decode jdk_35_method_43_code 0 = .ok (.lload_n 0, 1) := by decide +kernel
theorem d5_1 : decode jdk_35_method_43_code 1 = .ok (.ldc2_w 168, 3) := by decide +kernel
theorem d5_4 : decode jdk_35_method_43_code 4 = .ok (.ladd, 1) := by decide +kernel
theorem d5_5 : decode jdk_35_method_43_code 5 = .ok (.lload_n 2, 1) := by decide +kernel
theorem d5_6 : decode jdk_35_method_43_code 6 = .ok (.ldc2_w 168, 3) := by decide +kernel
theorem d5_9 : decode jdk_35_method_43_code 9 = .ok (.ladd, 1) := by decide +kernel
theorem d5_10 : decode jdk_35_method_43_code 10 = .ok (.invokestatic 302, 3) := by decide +kernel
theorem d5_13 : decode jdk_35_method_43_code 13 = .ok (.ireturn, 1) := by decide +kernel
theorem pn_5 : plainName "java/lang/Long" = true := by first | (simp [plainName, overriddenIn]; done) | decide +kernel
theorem ef_5 (m : MethodId) (x0 : Int64) (x1 : Int64) : entryFrame m #[(.long x0), (.long x1)] 4 = mkF m 0 #[.val (.long x0), .second, .val (.long x1), .second] [] := by first | (simp [entryFrame, mkF, argsToLocals, Value.category]; done) | rfl
def own_f5 (q1 : Int64) (q2 : Int64) : Int32 := (own_f6 (q1 + (-9223372036854775808 : Int64)) (q2 + (-9223372036854775808 : Int64)))
def Q5 (Z : State) (q1 : Int64) (q2 : Int64) (h0 : Heap) (n0 : Nat) (v : Option Value) (h : Heap) (L : List Loc) : Prop := v = some (.int (own_f5 q1 q2)) ∧ Fr n0 L ∧ h = h0
set_option maxRecDepth 65536 in
set_option maxHeartbeats 40000000 in
theorem rm5 (l : Launch) (Z : State) (a0 : Array Value) (hw : ∀ d ∈ tables_1, d.before a0 Z = true) (ws : List Jvm.Cond) (q1 : Int64) (q2 : Int64) (h0 : Heap) (n0 : Nat) (Z0 : n0 ≤ h0.size) :
    MetFree l (⟨"java/lang/Long", "compareUnsigned", "(JJ)I"⟩ : MethodName) (head1 (Jvm.Cond.code (⟨"java/lang/Long", "compareUnsigned", "(JJ)I"⟩ : MethodName) jdk_35_method_43_code 4 (some .int) :: ws) ({ frames := 1, cells := 0, slots := 0, locals := 15 } : Room)) (fun a U => a = #[(.long q1), (.long q2)] ∧ Z.Warmed39 U.vm ∧ U.heap = h0) (fun _ _ _ _ _ => True) (fun _ U o U' => ∃ v L, o = .returned v ∧ Q5 Z q1 q2 h0 n0 v U'.heap L ∧ FrameEnd U o U' L ({ frames := 1, cells := 0, slots := 0, locals := 15 } : Room).cells ({ frames := 1, cells := 0, slots := 0, locals := 15 } : Room).slots) := by
  refine MetFree.of_bodySF (plainFor_of_name pn_5) hisR ?_
  intro p e s m args below meth c s₁ Bd hml0 hP hK
  obtain ⟨rfl, hZ, hh⟩ := hP
  have hx := Bd.exec
  have hby := Bd.bytes
  have hml : c.maxLocals = 4 := hml0
  have hown : s.vm.findClass "java/lang/Long" = some m.cls := findClass_of_methodNamed Bd.named
  have hnm := (name_of_methodNamed Bd.named Bd.method).1
  have X0 : Stand p l e ({ frames := 1, cells := 0, slots := 0, locals := 15 } : Room) s m #[(.long q1), (.long q2)] below meth c s₁ [] 0 0 := Stand.of_body Bd
  have e0 : s₁.heap = h0 := by rw [← hh, Bd.state]; rfl
  have N0 := Fr.nil n0
  apply own_in
  refine own_pre (B := s₁.setTop (mkF m 0 #[.val (.long q1), .second, .val (.long q2), .second] [])) (fun t k => castTop (ef_5 m q1 q2) k) ?_
  refine own_pre (B := s₁.setTop (mkF m 1 #[.val (.long q1), .second, .val (.long q2), .second] [(.long q1)])) (fun t k => XS.lloadN X0.here hx rfl (hb hby d5_0) rfl k) ?_
  refine own_pre (B := s₁.setTop (mkF m 4 #[.val (.long q1), .second, .val (.long q2), .second] [(.long (-9223372036854775808 : Int64)), (.long q1)])) (fun t k => X0.ldc2Long hx hown (mvT hZ (hw _ (ow 34 rfl))) (g := (mkF m 1 #[.val (.long q1), .second, .val (.long q2), .second] [(.long q1)])) rfl (hb hby d5_1) _ k) ?_
  refine own_pre (B := s₁.setTop (mkF m 5 #[.val (.long q1), .second, .val (.long q2), .second] [(.long (q1 + (-9223372036854775808 : Int64)))])) (fun t k => XS.ladd X0.here hx rfl (hb hby d5_4) rfl k) ?_
  refine own_pre (B := s₁.setTop (mkF m 6 #[.val (.long q1), .second, .val (.long q2), .second] [(.long q2), (.long (q1 + (-9223372036854775808 : Int64)))])) (fun t k => XS.lloadN X0.here hx rfl (hb hby d5_5) rfl k) ?_
  refine own_pre (B := s₁.setTop (mkF m 9 #[.val (.long q1), .second, .val (.long q2), .second] [(.long (-9223372036854775808 : Int64)), (.long q2), (.long (q1 + (-9223372036854775808 : Int64)))])) (fun t k => X0.ldc2Long hx hown (mvT hZ (hw _ (ow 34 rfl))) (g := (mkF m 6 #[.val (.long q1), .second, .val (.long q2), .second] [(.long q2), (.long (q1 + (-9223372036854775808 : Int64)))])) rfl (hb hby d5_6) _ k) ?_
  refine own_pre (B := s₁.setTop (mkF m 10 #[.val (.long q1), .second, .val (.long q2), .second] [(.long (q2 + (-9223372036854775808 : Int64))), (.long (q1 + (-9223372036854775808 : Int64)))])) (fun t k => XS.ladd X0.here hx rfl (hb hby d5_9) rfl k) ?_
  obtain ⟨_, _, ⟨T3, L3, k3, n3⟩, -, X3, ⟨Lc3, hQ3, l3, y3, z3⟩, st3⟩ := Jvm.LawKit.callS X0 hx (y := (⟨"java/lang/Long", "compare", "(JJ)I"⟩ : MethodName)) hown (mvT hZ (hw _ (ow 35 rfl))) (mvT hZ (hw _ (ow 36 rfl))) (mvT hZ (hw _ (ow 32 rfl))) (mvT hZ (hw _ (ow 37 rfl))) (by decide) (backOf (W := 0) (rm6 l Z a0 hw [] (q1 + (-9223372036854775808 : Int64)) (q2 + (-9223372036854775808 : Int64)) h0 n0 Z0 ) hZ (hw _ (ow 37 rfl)) (hw _ (ow 32 rfl)) (by decide) (by decide)) (g := (mkF m 10 #[.val (.long q1), .second, .val (.long q2), .second] [(.long (q2 + (-9223372036854775808 : Int64))), (.long (q1 + (-9223372036854775808 : Int64)))])) rfl (by rw [hml]; rfl) (argsL := [(.long (q1 + (-9223372036854775808 : Int64))), (.long (q2 + (-9223372036854775808 : Int64)))]) (rest := []) (lenOf pd_0 rfl) rfl (by show 2 * 0 + _ ≤ _; exact Nat.le_of_eq rfl) (hb hby d5_10) (fun _ _ => ⟨rfl, e0, (by decide : 0 + 0 ≤ _), (by decide : 0 + 0 ≤ _)⟩)
  dsimp only [Pt.U, Pt.locs, Pt.cells, Pt.slots] at X3 l3 y3 z3 st3 hQ3
  subst l3 y3 z3
  obtain ⟨rfl, N3q, e3⟩ := hQ3
  have N3 := Fr.app N0 N3q
  refine own_pre (B := T3.setTop (mkF m 13 #[.val (.long q1), .second, .val (.long q2), .second] [(.int (own_f6 (q1 + (-9223372036854775808 : Int64)) (q2 + (-9223372036854775808 : Int64))))])) (fun t k => st3 t k) ?_
  obtain ⟨fsr4, hrr4, hrunr4, hendedr4, hWr4, hsamer4⟩ := X3.leave (v := some (.int (own_f6 (q1 + (-9223372036854775808 : Int64)) (q2 + (-9223372036854775808 : Int64))))) (fun h => by rw [Bd.returns] at h; cases h)
  refine ⟨_, _, (retI X3 hx Bd.returns (hb hby d5_13) hrr4), hrunr4, hendedr4, _, _, rfl, ?_, ⟨_, rfl⟩, hWr4, hsamer4.mono (by decide) (by decide)⟩
  show Q5 Z q1 q2 h0 n0 _ T3.heap _
  rw [e3]
  exact ⟨rfl, N3, rfl⟩
theorem d7_0 : decode jdk_31_method_10_code 0 = .ok (.aload_n 0, 1) := by decide +kernel
theorem d7_1 : decode jdk_31_method_10_code 1 = .ok (.ifnonnull 11, 3) := by decide +kernel
theorem d7_12 : decode jdk_31_method_10_code 12 = .ok (.aload_n 0, 1) := by decide +kernel
theorem d7_13 : decode jdk_31_method_10_code 13 = .ok (.areturn, 1) := by decide +kernel
theorem pn_7 : plainName "java/util/Objects" = true := by first | (simp [plainName, overriddenIn]; done) | decide +kernel
theorem ef_7 (m : MethodId) (x0 : Addr) : entryFrame m #[(.ref x0)] 1 = mkF m 0 #[.val (.ref x0)] [] := by first | (simp [entryFrame, mkF, argsToLocals, Value.category]; done) | rfl
def Q7 (Z : State) (a1 : Addr) (h0 : Heap) (n0 : Nat) (v : Option Value) (h : Heap) (L : List Loc) : Prop := v = some (.ref a1) ∧ Fr n0 L ∧ h = h0
set_option maxRecDepth 65536 in
set_option maxHeartbeats 40000000 in
theorem rm7 (l : Launch) (Z : State) (a0 : Array Value) (hw : ∀ d ∈ tables_1, d.before a0 Z = true) (ws : List Jvm.Cond) (a1 : Addr) (h0 : Heap) (n0 : Nat) (Z0 : n0 ≤ h0.size) :
    MetFree l (⟨"java/util/Objects", "requireNonNull", "(Ljava/lang/Object;)Ljava/lang/Object;"⟩ : MethodName) (head1 (Jvm.Cond.code (⟨"java/util/Objects", "requireNonNull", "(Ljava/lang/Object;)Ljava/lang/Object;"⟩ : MethodName) jdk_31_method_10_code 1 (some (.object "java/lang/Object")) :: ws) ({ frames := 0, cells := 0, slots := 0, locals := 0 } : Room)) (fun a U => a = #[(.ref a1)] ∧ Z.Warmed39 U.vm ∧ U.heap = h0) (fun _ _ _ _ _ => True) (fun _ U o U' => ∃ v L, o = .returned v ∧ Q7 Z a1 h0 n0 v U'.heap L ∧ FrameEnd U o U' L ({ frames := 0, cells := 0, slots := 0, locals := 0 } : Room).cells ({ frames := 0, cells := 0, slots := 0, locals := 0 } : Room).slots) := by
  refine MetFree.of_bodySF (plainFor_of_name pn_7) hisR ?_
  intro p e s m args below meth c s₁ Bd hml0 hP hK
  obtain ⟨rfl, hZ, hh⟩ := hP
  have hx := Bd.exec
  have hby := Bd.bytes
  have hml : c.maxLocals = 1 := hml0
  have hown : s.vm.findClass "java/util/Objects" = some m.cls := findClass_of_methodNamed Bd.named
  have hnm := (name_of_methodNamed Bd.named Bd.method).1
  have X0 : Stand p l e ({ frames := 0, cells := 0, slots := 0, locals := 0 } : Room) s m #[(.ref a1)] below meth c s₁ [] 0 0 := Stand.of_body Bd
  have e0 : s₁.heap = h0 := by rw [← hh, Bd.state]; rfl
  have N0 := Fr.nil n0
  apply own_in
  refine own_pre (B := s₁.setTop (mkF m 0 #[.val (.ref a1)] [])) (fun t k => castTop (ef_7 m a1) k) ?_
  refine own_pre (B := s₁.setTop (mkF m 1 #[.val (.ref a1)] [(.ref a1)])) (fun t k => XS.aloadN X0.here hx rfl (hb hby d7_0) rfl rfl k) ?_
  refine own_pre (B := s₁.setTop (mkF m 12 #[.val (.ref a1)] [])) (fun t k => XS.ifnonnullYes X0.here hx rfl (pc0 := 1) (pc' := 12) rfl (hb hby d7_1) rfl (by decide) (by decide) k) ?_
  refine own_pre (B := s₁.setTop (mkF m 13 #[.val (.ref a1)] [(.ref a1)])) (fun t k => XS.aloadN X0.here hx rfl (hb hby d7_12) rfl rfl k) ?_
  obtain ⟨fsr2, hrr2, hrunr2, hendedr2, hWr2, hsamer2⟩ := X0.leave (v := some (.ref a1)) (fun h => by rw [Bd.returns] at h; cases h)
  refine ⟨_, _, (retOut X0 hx (i := .areturn) Bd.returns rfl (Or.inr (Or.inr (Or.inr (Or.inr ⟨rfl, rfl, rfl⟩)))) (hb hby d7_13) hrr2), hrunr2, hendedr2, _, _, rfl, ?_, ⟨_, rfl⟩, hWr2, hsamer2.mono (by decide) (by decide)⟩
  show Q7 Z a1 h0 n0 _ s₁.heap _
  rw [e0]
  exact ⟨rfl, N0, rfl⟩
theorem own_low {q : Int64} (h : ¬ q = (-1 : Int64)) : ¬ (0 : Int32) < own_f5 q (-2 : Int64) := by
  have a1 := c_ladd q (-9223372036854775808)
  have r0 := rng64 q
  have r1 := rng64 (q + (-9223372036854775808))
  have e1 : (-9223372036854775808 : Int64).toInt = -9223372036854775808 := by decide
  have e2 : ((-2 : Int64) + (-9223372036854775808 : Int64)).toInt = 9223372036854775806 := by decide
  have e3 : (-1 : Int64).toInt = -1 := by decide
  rw [← Int64.toInt_inj, e3] at h
  unfold own_f5 own_f6
  by_cases b : (q + (-9223372036854775808 : Int64)) < ((-2 : Int64) + (-9223372036854775808 : Int64))
  · rw [if_pos b]; decide
  · rw [if_neg b]
    have c : (q + (-9223372036854775808 : Int64)) = ((-2 : Int64) + (-9223372036854775808 : Int64)) := by
      rw [Int64.lt_iff_toInt_lt, e2] at b
      rw [← Int64.toInt_inj, e2]
      omega
    rw [if_pos c]; decide
theorem own_fix (t : Int64) : ¬ own_f1 t = (-1 : Int64) := by
  unfold own_f1
  by_cases h : t = -1
  · rw [if_pos h]; decide
  · rw [if_neg h]; exact h
theorem own_fix2 {a b z : Int64} {P : Prop} [Decidable P] (h : z = (if P then own_f1 a else own_f1 b)) : ¬ z = (-1 : Int64) := by
  rw [h]; split <;> exact own_fix _
theorem pd_1 : parseMethodDescriptor "(Ljava/lang/Object;)Ljava/lang/Object;" = some ⟨[(.object "java/lang/Object")], some (.object "java/lang/Object")⟩ := by decide +kernel
theorem d4_0 : decode prog_76_method_1_code 0 = .ok (.aload_n 0, 1) := by decide +kernel
theorem d4_1 : decode prog_76_method_1_code 1 = .ok (.invokespecial 1, 3) := by decide +kernel
theorem d4_4 : decode prog_76_method_1_code 4 = .ok (.lload_n 1, 1) := by decide +kernel
theorem d4_5 : decode prog_76_method_1_code 5 = .ok (.ldc2_w 9, 3) := by decide +kernel
theorem d4_8 : decode prog_76_method_1_code 8 = .ok (.invokestatic 11, 3) := by decide +kernel
theorem d4_11 : decode prog_76_method_1_code 11 = .ok (.ifCond .le 13, 3) := by decide +kernel
theorem d4_24 : decode prog_76_method_1_code 24 = .ok (.aload_n 0, 1) := by decide +kernel
theorem d4_25 : decode prog_76_method_1_code 25 = .ok (.lload_n 1, 1) := by decide +kernel
theorem d4_26 : decode prog_76_method_1_code 26 = .ok (.putfield 24, 3) := by decide +kernel
theorem d4_29 : decode prog_76_method_1_code 29 = .ok (.aload_n 0, 1) := by decide +kernel
theorem d4_30 : decode prog_76_method_1_code 30 = .ok (.aload_n 3, 1) := by decide +kernel
theorem d4_31 : decode prog_76_method_1_code 31 = .ok (.invokestatic 28, 3) := by decide +kernel
theorem d4_34 : decode prog_76_method_1_code 34 = .ok (.checkcast 34, 3) := by decide +kernel
theorem d4_37 : decode prog_76_method_1_code 37 = .ok (.putfield 36, 3) := by decide +kernel
theorem d4_40 : decode prog_76_method_1_code 40 = .ok (.return_, 1) := by decide +kernel
theorem pn_4 : plainName "com/example/rangewise/rangewise/TimestampedId" = true := by first | (simp [plainName, overriddenIn]; done) | decide +kernel
theorem ef_4 (m : MethodId) (x0 : Addr) (x1 : Int64) (x2 : Addr) : entryFrame m #[(.ref x0), (.long x1), (.ref x2)] 4 = mkF m 0 #[.val (.ref x0), .val (.long x1), .second, .val (.ref x2)] [] := by first | (simp [entryFrame, mkF, argsToLocals, Value.category]; done) | rfl
def Q4 (Z : State) (a1 : Addr) (q2 : Int64) (a3 : Addr) (u_timestamp_a1 : Value) (u_id_a1 : Value) (h0 : Heap) (n0 : Nat) (v : Option Value) (h : Heap) (L : List Loc) : Prop := v = none ∧ Fr n0 L ∧ Keep h0 h [a1] ∧ Exa Z h a1 "com/example/rangewise/rangewise/TimestampedId" ∧ Fld Z h a1 "com/example/rangewise/rangewise/TimestampedId" "timestamp" "J" (.long q2) ∧ Fld Z h a1 "com/example/rangewise/rangewise/TimestampedId" "id" "Lcom/example/rangewise/rangewise/Id;" (.ref a3)
set_option maxRecDepth 65536 in
set_option maxHeartbeats 40000000 in
theorem rm4 (l : Launch) (Z : State) (a0 : Array Value) (hw : ∀ d ∈ tables_1, d.before a0 Z = true) (ws : List Jvm.Cond) (a1 : Addr) (q2 : Int64) (a3 : Addr) (u_timestamp_a1 : Value) (u_id_a1 : Value) (h0 : Heap) (n0 : Nat) (Z0 : n0 ≤ h0.size) (hlow : ¬ q2 = (-1 : Int64)) (E_a1 : Exa Z h0 a1 "com/example/rangewise/rangewise/TimestampedId") (F_timestamp_a1 : Fld Z h0 a1 "com/example/rangewise/rangewise/TimestampedId" "timestamp" "J" u_timestamp_a1) (g_a1 : n0 ≤ a1) (E_a3 : Exa Z h0 a3 "com/example/rangewise/rangewise/Id") (F_id_a1 : Fld Z h0 a1 "com/example/rangewise/rangewise/TimestampedId" "id" "Lcom/example/rangewise/rangewise/Id;" u_id_a1) :
    MetFree l (⟨"com/example/rangewise/rangewise/TimestampedId", "<init>", "(JLcom/example/rangewise/rangewise/Id;)V"⟩ : MethodName) (head1 (Jvm.Cond.code (⟨"com/example/rangewise/rangewise/TimestampedId", "<init>", "(JLcom/example/rangewise/rangewise/Id;)V"⟩ : MethodName) prog_76_method_1_code 4 none :: ws) ({ frames := 2, cells := 0, slots := 0, locals := 30 } : Room)) (fun a U => a = #[(.ref a1), (.long q2), (.ref a3)] ∧ Z.Warmed39 U.vm ∧ U.heap = h0) (fun _ _ _ _ _ => True) (fun _ U o U' => ∃ v L, o = .returned v ∧ Q4 Z a1 q2 a3 u_timestamp_a1 u_id_a1 h0 n0 v U'.heap L ∧ FrameEnd U o U' L ({ frames := 2, cells := 0, slots := 0, locals := 30 } : Room).cells ({ frames := 2, cells := 0, slots := 0, locals := 30 } : Room).slots) := by
  refine MetFree.of_bodySF (plainFor_of_name pn_4) hisR ?_
  intro p e s m args below meth c s₁ Bd hml0 hP hK
  obtain ⟨rfl, hZ, hh⟩ := hP
  have hx := Bd.exec
  have hby := Bd.bytes
  have hml : c.maxLocals = 4 := hml0
  have hown : s.vm.findClass "com/example/rangewise/rangewise/TimestampedId" = some m.cls := findClass_of_methodNamed Bd.named
  have hnm := (name_of_methodNamed Bd.named Bd.method).1
  have X0 : Stand p l e ({ frames := 2, cells := 0, slots := 0, locals := 30 } : Room) s m #[(.ref a1), (.long q2), (.ref a3)] below meth c s₁ [] 0 0 := Stand.of_body Bd
  have e0 : s₁.heap = h0 := by rw [← hh, Bd.state]; rfl
  have N0 := Fr.nil n0
  apply own_in
  refine own_pre (B := s₁.setTop (mkF m 0 #[.val (.ref a1), .val (.long q2), .second, .val (.ref a3)] [])) (fun t k => castTop (ef_4 m a1 q2 a3) k) ?_
  refine own_pre (B := s₁.setTop (mkF m 1 #[.val (.ref a1), .val (.long q2), .second, .val (.ref a3)] [(.ref a1)])) (fun t k => XS.aloadN X0.here hx rfl (hb hby d4_0) rfl rfl k) ?_
  obtain ⟨T4, X4, e4, st4⟩ := initO X0 hx hZ hown (hw _ (ow 28 rfl)) (hw _ (ow 12 rfl)) (hw _ (ow 13 rfl)) e0 (g := (mkF m 1 #[.val (.ref a1), .val (.long q2), .second, .val (.ref a3)] [(.ref a1)])) rfl (by rw [hml]; rfl) rfl (hb hby d4_1) (by decide) (W := 0) (by show 2 * 0 + _ ≤ _; exact Nat.le_of_eq rfl) (by decide)
  refine own_pre (B := T4.setTop (mkF m 4 #[.val (.ref a1), .val (.long q2), .second, .val (.ref a3)] [])) (fun t k => st4 t k) ?_
  refine own_pre (B := T4.setTop (mkF m 5 #[.val (.ref a1), .val (.long q2), .second, .val (.ref a3)] [(.long q2)])) (fun t k => XS.lloadN X4.here hx rfl (hb hby d4_4) rfl k) ?_
  refine own_pre (B := T4.setTop (mkF m 8 #[.val (.ref a1), .val (.long q2), .second, .val (.ref a3)] [(.long (-2 : Int64)), (.long q2)])) (fun t k => X4.ldc2Long hx hown (mvT hZ (hw _ (ow 29 rfl))) (g := (mkF m 5 #[.val (.ref a1), .val (.long q2), .second, .val (.ref a3)] [(.long q2)])) rfl (hb hby d4_5) _ k) ?_
  obtain ⟨_, _, ⟨T5, L5, k5, n5⟩, -, X5, ⟨Lc5, hQ5, l5, y5, z5⟩, st5⟩ := Jvm.LawKit.callS X4 hx (y := (⟨"java/lang/Long", "compareUnsigned", "(JJ)I"⟩ : MethodName)) hown (mvT hZ (hw _ (ow 30 rfl))) (mvT hZ (hw _ (ow 31 rfl))) (mvT hZ (hw _ (ow 32 rfl))) (mvT hZ (hw _ (ow 33 rfl))) (by decide) (backOf (W := 0) (rm5 l Z a0 hw [] q2 (-2 : Int64) h0 n0 Z0 ) hZ (hw _ (ow 33 rfl)) (hw _ (ow 32 rfl)) (by decide) (by decide)) (g := (mkF m 8 #[.val (.ref a1), .val (.long q2), .second, .val (.ref a3)] [(.long (-2 : Int64)), (.long q2)])) rfl (by rw [hml]; rfl) (argsL := [(.long q2), (.long (-2 : Int64))]) (rest := []) (lenOf pd_0 rfl) rfl (by show 2 * 0 + _ ≤ _; exact Nat.le_of_eq rfl) (hb hby d4_8) (fun _ _ => ⟨rfl, e4, (by decide : 0 + 0 ≤ _), (by decide : 0 + 0 ≤ _)⟩)
  dsimp only [Pt.U, Pt.locs, Pt.cells, Pt.slots] at X5 l5 y5 z5 st5 hQ5
  subst l5 y5 z5
  obtain ⟨rfl, N5q, e5⟩ := hQ5
  have N5 := Fr.app N0 N5q
  refine own_pre (B := T5.setTop (mkF m 11 #[.val (.ref a1), .val (.long q2), .second, .val (.ref a3)] [(.int (own_f5 q2 (-2 : Int64)))])) (fun t k => st5 t k) ?_
  refine own_pre (B := T5.setTop (mkF m 24 #[.val (.ref a1), .val (.long q2), .second, .val (.ref a3)] [])) (fun t k => XS.ifYes X5.here hx rfl (pc0 := 11) (pc' := 24) rfl (hb hby d4_11) rfl ((if0 _ _).trans (flt (own_low hlow)).2.2.2) (by decide) (by decide) k) ?_
  refine own_pre (B := T5.setTop (mkF m 25 #[.val (.ref a1), .val (.long q2), .second, .val (.ref a3)] [(.ref a1)])) (fun t k => XS.aloadN X5.here hx rfl (hb hby d4_24) rfl rfl k) ?_
  refine own_pre (B := T5.setTop (mkF m 26 #[.val (.ref a1), .val (.long q2), .second, .val (.ref a3)] [(.long q2), (.ref a1)])) (fun t k => XS.lloadN X5.here hx rfl (hb hby d4_25) rfl k) ?_
  have K6 : Keep h0 h0 [a1] := (Keep.refl h0 [a1])
  obtain ⟨T7, h7, X7, e7, W7, st7⟩ := putF X5 hx hZ hown (host := "") (Or.inl (hw _ (ow 38 rfl))) Via.refl e5 F_timestamp_a1 E_a1 (Or.inr ⟨(hw _ (ow 39 rfl)), rfl, hnm⟩) (hw _ (ow 23 rfl)) (ty := .long) (by decide) rfl rfl (g := (mkF m 26 #[.val (.ref a1), .val (.long q2), .second, .val (.ref a3)] [(.long q2), (.ref a1)])) rfl rfl (hb hby d4_26)
  have Fw7 := Fld.same W7 F_timestamp_a1
  have N7 := Fr.snoc X7 N5 g_a1
  refine own_pre (B := T7.setTop (mkF m 29 #[.val (.ref a1), .val (.long q2), .second, .val (.ref a3)] [])) (fun t k => st7 t k) ?_
  refine own_pre (B := T7.setTop (mkF m 30 #[.val (.ref a1), .val (.long q2), .second, .val (.ref a3)] [(.ref a1)])) (fun t k => XS.aloadN X7.here hx rfl (hb hby d4_29) rfl rfl k) ?_
  refine own_pre (B := T7.setTop (mkF m 31 #[.val (.ref a1), .val (.long q2), .second, .val (.ref a3)] [(.ref a3), (.ref a1)])) (fun t k => XS.aloadN X7.here hx rfl (hb hby d4_30) rfl rfl k) ?_
  have sz8 : n0 ≤ h7.size := (Nat.le_trans Z0 (Keep.of_wr W7).1)
  obtain ⟨_, _, ⟨T9, L9, k9, n9⟩, -, X9, ⟨Lc9, hQ9, l9, y9, z9⟩, st9⟩ := Jvm.LawKit.callS X7 hx (y := (⟨"java/util/Objects", "requireNonNull", "(Ljava/lang/Object;)Ljava/lang/Object;"⟩ : MethodName)) hown (mvT hZ (hw _ (ow 40 rfl))) (mvT hZ (hw _ (ow 41 rfl))) (mvT hZ (hw _ (ow 42 rfl))) (mvT hZ (hw _ (ow 43 rfl))) (by decide) (backOf (W := 1) (rm7 l Z a0 hw [] a3 h7 n0 sz8 ) hZ (hw _ (ow 43 rfl)) (hw _ (ow 42 rfl)) (by decide) (by decide)) (g := (mkF m 31 #[.val (.ref a1), .val (.long q2), .second, .val (.ref a3)] [(.ref a3), (.ref a1)])) rfl (by rw [hml]; rfl) (argsL := [(.ref a3)]) (rest := [(.ref a1)]) (lenOf pd_1 rfl) rfl (by show 2 * 0 + _ ≤ _; exact Nat.le_of_eq rfl) (hb hby d4_31) (fun _ _ => ⟨rfl, e7, (by decide : 0 + 0 ≤ _), (by decide : 0 + 0 ≤ _)⟩)
  dsimp only [Pt.U, Pt.locs, Pt.cells, Pt.slots] at X9 l9 y9 z9 st9 hQ9
  subst l9 y9 z9
  obtain ⟨rfl, N9q, e9⟩ := hQ9
  have N9 := Fr.app N7 N9q
  refine own_pre (B := T9.setTop (mkF m 34 #[.val (.ref a1), .val (.long q2), .second, .val (.ref a3)] [(.ref a3), (.ref a1)])) (fun t k => st9 t k) ?_
  have c10 := (Exa.wr W7 E_a3)
  obtain ⟨T11, X11, e11, st11⟩ := castY X9 hx hZ hown (hw _ (ow 44 rfl)) e9 (Ins.self c10) (g := (mkF m 34 #[.val (.ref a1), .val (.long q2), .second, .val (.ref a3)] [(.ref a3), (.ref a1)])) rfl rfl (hb hby d4_34)
  refine own_pre (B := T11.setTop (mkF m 37 #[.val (.ref a1), .val (.long q2), .second, .val (.ref a3)] [(.ref a3), (.ref a1)])) (fun t k => st11 t k) ?_
  have c12 := (Exa.wr W7 E_a1)
  have c13 := (Fld.other W7 F_id_a1 (Or.inr (slot_ne (Or.inr (hw _ (ow 47 rfl))) (Or.inr (hw _ (ow 39 rfl))) (by decide) (t := (.object "com/example/rangewise/rangewise/Id")) (t' := .long) (by decide) (by decide))))
  have K14 : Keep h0 h7 [a1] := (Keep.wr K6 W7 (Or.inl (List.mem_of_getElem? (i := 0) rfl)))
  obtain ⟨T15, h15, X15, e15, W15, st15⟩ := putF X11 hx hZ hown (host := "") (Or.inl (hw _ (ow 46 rfl))) Via.refl e11 c13 c12 (Or.inr ⟨(hw _ (ow 47 rfl)), rfl, hnm⟩) (hw _ (ow 23 rfl)) (ty := (.object "com/example/rangewise/rangewise/Id")) (by decide) rfl rfl (g := (mkF m 37 #[.val (.ref a1), .val (.long q2), .second, .val (.ref a3)] [(.ref a3), (.ref a1)])) rfl rfl (hb hby d4_37)
  have Fw15 := Fld.same W15 c13
  have N15 := Fr.snoc X15 N9 g_a1
  refine own_pre (B := T15.setTop (mkF m 40 #[.val (.ref a1), .val (.long q2), .second, .val (.ref a3)] [])) (fun t k => st15 t k) ?_
  have K16 : Keep h0 h15 [a1] := (Keep.wr K14 W15 (Or.inl (List.mem_of_getElem? (i := 0) rfl)))
  have c17 := (Exa.wr W15 c12)
  have c18 := (Fld.other W15 Fw7 (Or.inr (slot_ne (Or.inr (hw _ (ow 39 rfl))) (Or.inr (hw _ (ow 47 rfl))) (by decide) (t := .long) (t' := (.object "com/example/rangewise/rangewise/Id")) (by decide) (by decide))))
  obtain ⟨fsr19, hrr19, hrunr19, hendedr19, hWr19, hsamer19⟩ := X15.leave (v := none) (fun _ => rfl)
  refine ⟨_, _, (X15.returnOut hx Bd.returns (hb hby d4_40) hrr19), hrunr19, hendedr19, _, _, rfl, ?_, ⟨_, rfl⟩, hWr19, hsamer19.mono (by decide) (by decide)⟩
  show Q4 Z a1 q2 a3 u_timestamp_a1 u_id_a1 h0 n0 _ T15.heap _
  rw [e15]
  exact ⟨rfl, N15, K16, c17, c18, Fw15⟩
theorem d9_0 : decode method_3_code 0 = .ok (.iload_n 0, 1) := by decide +kernel
theorem d9_1 : decode method_3_code 1 = .ok (.ifCond .ne 5, 3) := by decide +kernel
theorem d9_4 : decode method_3_code 4 = .ok (.lload_n 1, 1) := by decide +kernel
theorem d9_5 : decode method_3_code 5 = .ok (.lreturn, 1) := by decide +kernel
theorem d9_6 : decode method_3_code 6 = .ok (.iload_n 0, 1) := by decide +kernel
theorem d9_7 : decode method_3_code 7 = .ok (.iconst 1, 1) := by decide +kernel
theorem d9_8 : decode method_3_code 8 = .ok (.if_icmp .ne 5, 3) := by decide +kernel
theorem d9_11 : decode method_3_code 11 = .ok (.lload_n 3, 1) := by decide +kernel
theorem d9_12 : decode method_3_code 12 = .ok (.lreturn, 1) := by decide +kernel
theorem d9_13 : decode method_3_code 13 = .ok (.iload_n 0, 1) := by decide +kernel
theorem d9_14 : decode method_3_code 14 = .ok (.iconst 2, 1) := by decide +kernel
theorem d9_15 : decode method_3_code 15 = .ok (.if_icmp .ne 6, 3) := by decide +kernel
theorem d9_18 : decode method_3_code 18 = .ok (.lload 5, 2) := by decide +kernel
theorem d9_20 : decode method_3_code 20 = .ok (.lreturn, 1) := by decide +kernel
theorem d9_21 : decode method_3_code 21 = .ok (.lload 7, 2) := by decide +kernel
theorem d9_23 : decode method_3_code 23 = .ok (.lreturn, 1) := by decide +kernel
theorem pn_9 : plainName "com/example/rangewise/rangewise/TimestampedIdEqualsPinLaw" = true := by first | (simp [plainName, overriddenIn]; done) | decide +kernel
theorem ef_9 (m : MethodId) (x0 : Int32) (x1 : Int64) (x2 : Int64) (x3 : Int64) (x4 : Int64) : entryFrame m #[(.int x0), (.long x1), (.long x2), (.long x3), (.long x4)] 9 = mkF m 0 #[.val (.int x0), .val (.long x1), .second, .val (.long x2), .second, .val (.long x3), .second, .val (.long x4), .second] [] := by first | (simp [entryFrame, mkF, argsToLocals, Value.category]; done) | rfl
def own_f9 (p1 : Int32) (q2 : Int64) (q3 : Int64) (q4 : Int64) (q5 : Int64) : Int64 := (if p1 = (0 : Int32) then q2 else (if p1 = (1 : Int32) then q3 else (if p1 = (2 : Int32) then q4 else q5)))
def Q9 (Z : State) (p1 : Int32) (q2 : Int64) (q3 : Int64) (q4 : Int64) (q5 : Int64) (h0 : Heap) (n0 : Nat) (v : Option Value) (h : Heap) (L : List Loc) : Prop := v = some (.long (own_f9 p1 q2 q3 q4 q5)) ∧ Fr n0 L ∧ h = h0
set_option maxRecDepth 65536 in
set_option maxHeartbeats 40000000 in
theorem rm9 (l : Launch) (Z : State) (a0 : Array Value) (hw : ∀ d ∈ tables_1, d.before a0 Z = true) (ws : List Jvm.Cond) (p1 : Int32) (q2 : Int64) (q3 : Int64) (q4 : Int64) (q5 : Int64) (h0 : Heap) (n0 : Nat) (Z0 : n0 ≤ h0.size) :
    MetFree l (⟨"com/example/rangewise/rangewise/TimestampedIdEqualsPinLaw", "orig", "(IJJJJ)J"⟩ : MethodName) (head1 (Jvm.Cond.code (⟨"com/example/rangewise/rangewise/TimestampedIdEqualsPinLaw", "orig", "(IJJJJ)J"⟩ : MethodName) method_3_code 9 (some .long) :: ws) ({ frames := 0, cells := 0, slots := 0, locals := 0 } : Room)) (fun a U => a = #[(.int p1), (.long q2), (.long q3), (.long q4), (.long q5)] ∧ Z.Warmed39 U.vm ∧ U.heap = h0) (fun _ _ _ _ _ => True) (fun _ U o U' => ∃ v L, o = .returned v ∧ Q9 Z p1 q2 q3 q4 q5 h0 n0 v U'.heap L ∧ FrameEnd U o U' L ({ frames := 0, cells := 0, slots := 0, locals := 0 } : Room).cells ({ frames := 0, cells := 0, slots := 0, locals := 0 } : Room).slots) := by
  refine MetFree.of_bodySF (plainFor_of_name pn_9) hisR ?_
  intro p e s m args below meth c s₁ Bd hml0 hP hK
  obtain ⟨rfl, hZ, hh⟩ := hP
  have hx := Bd.exec
  have hby := Bd.bytes
  have hml : c.maxLocals = 9 := hml0
  have hown : s.vm.findClass "com/example/rangewise/rangewise/TimestampedIdEqualsPinLaw" = some m.cls := findClass_of_methodNamed Bd.named
  have hnm := (name_of_methodNamed Bd.named Bd.method).1
  have X0 : Stand p l e ({ frames := 0, cells := 0, slots := 0, locals := 0 } : Room) s m #[(.int p1), (.long q2), (.long q3), (.long q4), (.long q5)] below meth c s₁ [] 0 0 := Stand.of_body Bd
  have e0 : s₁.heap = h0 := by rw [← hh, Bd.state]; rfl
  have N0 := Fr.nil n0
  apply own_in
  refine own_pre (B := s₁.setTop (mkF m 0 #[.val (.int p1), .val (.long q2), .second, .val (.long q3), .second, .val (.long q4), .second, .val (.long q5), .second] [])) (fun t k => castTop (ef_9 m p1 q2 q3 q4 q5) k) ?_
  refine own_pre (B := s₁.setTop (mkF m 1 #[.val (.int p1), .val (.long q2), .second, .val (.long q3), .second, .val (.long q4), .second, .val (.long q5), .second] [(.int p1)])) (fun t k => XS.iloadN X0.here hx rfl (hb hby d9_0) rfl k) ?_
  by_cases hc1_6 : p1 = (0 : Int32)
  · refine own_pre (B := s₁.setTop (mkF m 4 #[.val (.int p1), .val (.long q2), .second, .val (.long q3), .second, .val (.long q4), .second, .val (.long q5), .second] [])) (fun t k => XS.ifNo X0.here hx rfl (hb hby d9_1) rfl ((if0 _ _).trans (teq hc1_6).2) k) ?_
    refine own_pre (B := s₁.setTop (mkF m 5 #[.val (.int p1), .val (.long q2), .second, .val (.long q3), .second, .val (.long q4), .second, .val (.long q5), .second] [(.long q2)])) (fun t k => XS.lloadN X0.here hx rfl (hb hby d9_4) rfl k) ?_
    obtain ⟨fsr7, hrr7, hrunr7, hendedr7, hWr7, hsamer7⟩ := X0.leave (v := some (.long q2)) (fun h => by rw [Bd.returns] at h; cases h)
    refine ⟨_, _, (retOut X0 hx (t := .long) (i := .lreturn) Bd.returns rfl (Or.inr (Or.inl ⟨rfl, rfl, _, rfl⟩)) (hb hby d9_5) hrr7), hrunr7, hendedr7, _, _, rfl, ?_, ⟨_, rfl⟩, hWr7, hsamer7.mono (by decide) (by decide)⟩
    show Q9 Z p1 q2 q3 q4 q5 h0 n0 _ s₁.heap _
    rw [e0]
    exact ⟨(by unfold own_f9; rw [if_pos hc1_6]), N0, rfl⟩
  · refine own_pre (B := s₁.setTop (mkF m 6 #[.val (.int p1), .val (.long q2), .second, .val (.long q3), .second, .val (.long q4), .second, .val (.long q5), .second] [])) (fun t k => XS.ifYes X0.here hx rfl (pc0 := 1) (pc' := 6) rfl (hb hby d9_1) rfl ((if0 _ _).trans (feq hc1_6).2) (by decide) (by decide) k) ?_
    refine own_pre (B := s₁.setTop (mkF m 7 #[.val (.int p1), .val (.long q2), .second, .val (.long q3), .second, .val (.long q4), .second, .val (.long q5), .second] [(.int p1)])) (fun t k => XS.iloadN X0.here hx rfl (hb hby d9_6) rfl k) ?_
    refine own_pre (B := s₁.setTop (mkF m 8 #[.val (.int p1), .val (.long q2), .second, .val (.long q3), .second, .val (.long q4), .second, .val (.long q5), .second] [(.int (1 : Int32)), (.int p1)])) (fun t k => XS.iconst X0.here hx rfl (hb hby d9_7) k) ?_
    by_cases hc8_8 : p1 = (1 : Int32)
    · refine own_pre (B := s₁.setTop (mkF m 11 #[.val (.int p1), .val (.long q2), .second, .val (.long q3), .second, .val (.long q4), .second, .val (.long q5), .second] [])) (fun t k => XS.icmpNo X0.here hx rfl (hb hby d9_8) rfl (teq hc8_8).2 k) ?_
      refine own_pre (B := s₁.setTop (mkF m 12 #[.val (.int p1), .val (.long q2), .second, .val (.long q3), .second, .val (.long q4), .second, .val (.long q5), .second] [(.long q3)])) (fun t k => XS.lloadN X0.here hx rfl (hb hby d9_11) rfl k) ?_
      obtain ⟨fsr9, hrr9, hrunr9, hendedr9, hWr9, hsamer9⟩ := X0.leave (v := some (.long q3)) (fun h => by rw [Bd.returns] at h; cases h)
      refine ⟨_, _, (retOut X0 hx (t := .long) (i := .lreturn) Bd.returns rfl (Or.inr (Or.inl ⟨rfl, rfl, _, rfl⟩)) (hb hby d9_12) hrr9), hrunr9, hendedr9, _, _, rfl, ?_, ⟨_, rfl⟩, hWr9, hsamer9.mono (by decide) (by decide)⟩
      show Q9 Z p1 q2 q3 q4 q5 h0 n0 _ s₁.heap _
      rw [e0]
      exact ⟨(by unfold own_f9; rw [if_neg hc1_6, if_pos hc8_8]), N0, rfl⟩
    · refine own_pre (B := s₁.setTop (mkF m 13 #[.val (.int p1), .val (.long q2), .second, .val (.long q3), .second, .val (.long q4), .second, .val (.long q5), .second] [])) (fun t k => XS.icmpYes X0.here hx rfl (pc0 := 8) (pc' := 13) rfl (hb hby d9_8) rfl (feq hc8_8).2 (by decide) (by decide) k) ?_
      refine own_pre (B := s₁.setTop (mkF m 14 #[.val (.int p1), .val (.long q2), .second, .val (.long q3), .second, .val (.long q4), .second, .val (.long q5), .second] [(.int p1)])) (fun t k => XS.iloadN X0.here hx rfl (hb hby d9_13) rfl k) ?_
      refine own_pre (B := s₁.setTop (mkF m 15 #[.val (.int p1), .val (.long q2), .second, .val (.long q3), .second, .val (.long q4), .second, .val (.long q5), .second] [(.int (2 : Int32)), (.int p1)])) (fun t k => XS.iconst X0.here hx rfl (hb hby d9_14) k) ?_
      by_cases hc15_10 : p1 = (2 : Int32)
      · refine own_pre (B := s₁.setTop (mkF m 18 #[.val (.int p1), .val (.long q2), .second, .val (.long q3), .second, .val (.long q4), .second, .val (.long q5), .second] [])) (fun t k => XS.icmpNo X0.here hx rfl (hb hby d9_15) rfl (teq hc15_10).2 k) ?_
        refine own_pre (B := s₁.setTop (mkF m 20 #[.val (.int p1), .val (.long q2), .second, .val (.long q3), .second, .val (.long q4), .second, .val (.long q5), .second] [(.long q4)])) (fun t k => XS.lload X0.here hx rfl (hb hby d9_18) rfl k) ?_
        obtain ⟨fsr11, hrr11, hrunr11, hendedr11, hWr11, hsamer11⟩ := X0.leave (v := some (.long q4)) (fun h => by rw [Bd.returns] at h; cases h)
        refine ⟨_, _, (retOut X0 hx (t := .long) (i := .lreturn) Bd.returns rfl (Or.inr (Or.inl ⟨rfl, rfl, _, rfl⟩)) (hb hby d9_20) hrr11), hrunr11, hendedr11, _, _, rfl, ?_, ⟨_, rfl⟩, hWr11, hsamer11.mono (by decide) (by decide)⟩
        show Q9 Z p1 q2 q3 q4 q5 h0 n0 _ s₁.heap _
        rw [e0]
        exact ⟨(by unfold own_f9; rw [if_neg hc1_6, if_neg hc8_8, if_pos hc15_10]), N0, rfl⟩
      · refine own_pre (B := s₁.setTop (mkF m 21 #[.val (.int p1), .val (.long q2), .second, .val (.long q3), .second, .val (.long q4), .second, .val (.long q5), .second] [])) (fun t k => XS.icmpYes X0.here hx rfl (pc0 := 15) (pc' := 21) rfl (hb hby d9_15) rfl (feq hc15_10).2 (by decide) (by decide) k) ?_
        refine own_pre (B := s₁.setTop (mkF m 23 #[.val (.int p1), .val (.long q2), .second, .val (.long q3), .second, .val (.long q4), .second, .val (.long q5), .second] [(.long q5)])) (fun t k => XS.lload X0.here hx rfl (hb hby d9_21) rfl k) ?_
        obtain ⟨fsr12, hrr12, hrunr12, hendedr12, hWr12, hsamer12⟩ := X0.leave (v := some (.long q5)) (fun h => by rw [Bd.returns] at h; cases h)
        refine ⟨_, _, (retOut X0 hx (t := .long) (i := .lreturn) Bd.returns rfl (Or.inr (Or.inl ⟨rfl, rfl, _, rfl⟩)) (hb hby d9_23) hrr12), hrunr12, hendedr12, _, _, rfl, ?_, ⟨_, rfl⟩, hWr12, hsamer12.mono (by decide) (by decide)⟩
        show Q9 Z p1 q2 q3 q4 q5 h0 n0 _ s₁.heap _
        rw [e0]
        exact ⟨(by unfold own_f9; rw [if_neg hc1_6, if_neg hc8_8, if_neg hc15_10]), N0, rfl⟩
theorem d10_0 : decode prog_25_method_8_code 0 = .ok (.aload_n 1, 1) := by decide +kernel
theorem d10_1 : decode prog_25_method_8_code 1 = .ok (.instanceof 1, 3) := by decide +kernel
theorem d10_4 : decode prog_25_method_8_code 4 = .ok (.ifCond .ne 5, 3) := by decide +kernel
theorem d10_9 : decode prog_25_method_8_code 9 = .ok (.aload_n 1, 1) := by decide +kernel
theorem d10_10 : decode prog_25_method_8_code 10 = .ok (.checkcast 1, 3) := by decide +kernel
theorem d10_13 : decode prog_25_method_8_code 13 = .ok (.astore_n 2, 1) := by decide +kernel
theorem d10_14 : decode prog_25_method_8_code 14 = .ok (.aload_n 0, 1) := by decide +kernel
theorem d10_15 : decode prog_25_method_8_code 15 = .ok (.getfield 11, 3) := by decide +kernel
theorem d10_18 : decode prog_25_method_8_code 18 = .ok (.aload_n 2, 1) := by decide +kernel
theorem d10_19 : decode prog_25_method_8_code 19 = .ok (.getfield 11, 3) := by decide +kernel
theorem d10_22 : decode prog_25_method_8_code 22 = .ok (.lcmp, 1) := by decide +kernel
theorem d10_23 : decode prog_25_method_8_code 23 = .ok (.ifCond .ne 43, 3) := by decide +kernel
theorem d10_26 : decode prog_25_method_8_code 26 = .ok (.aload_n 0, 1) := by decide +kernel
theorem d10_27 : decode prog_25_method_8_code 27 = .ok (.getfield 15, 3) := by decide +kernel
theorem d10_30 : decode prog_25_method_8_code 30 = .ok (.aload_n 2, 1) := by decide +kernel
theorem d10_31 : decode prog_25_method_8_code 31 = .ok (.getfield 15, 3) := by decide +kernel
theorem d10_34 : decode prog_25_method_8_code 34 = .ok (.lcmp, 1) := by decide +kernel
theorem d10_35 : decode prog_25_method_8_code 35 = .ok (.ifCond .ne 31, 3) := by decide +kernel
theorem d10_38 : decode prog_25_method_8_code 38 = .ok (.aload_n 0, 1) := by decide +kernel
theorem d10_39 : decode prog_25_method_8_code 39 = .ok (.getfield 18, 3) := by decide +kernel
theorem d10_42 : decode prog_25_method_8_code 42 = .ok (.aload_n 2, 1) := by decide +kernel
theorem d10_43 : decode prog_25_method_8_code 43 = .ok (.getfield 18, 3) := by decide +kernel
theorem d10_46 : decode prog_25_method_8_code 46 = .ok (.lcmp, 1) := by decide +kernel
theorem d10_47 : decode prog_25_method_8_code 47 = .ok (.ifCond .ne 19, 3) := by decide +kernel
theorem d10_50 : decode prog_25_method_8_code 50 = .ok (.aload_n 0, 1) := by decide +kernel
theorem d10_51 : decode prog_25_method_8_code 51 = .ok (.getfield 21, 3) := by decide +kernel
theorem d10_54 : decode prog_25_method_8_code 54 = .ok (.aload_n 2, 1) := by decide +kernel
theorem d10_55 : decode prog_25_method_8_code 55 = .ok (.getfield 21, 3) := by decide +kernel
theorem d10_58 : decode prog_25_method_8_code 58 = .ok (.lcmp, 1) := by decide +kernel
theorem d10_59 : decode prog_25_method_8_code 59 = .ok (.ifCond .ne 7, 3) := by decide +kernel
theorem d10_62 : decode prog_25_method_8_code 62 = .ok (.iconst 1, 1) := by decide +kernel
theorem d10_63 : decode prog_25_method_8_code 63 = .ok (.goto 4, 3) := by decide +kernel
theorem d10_66 : decode prog_25_method_8_code 66 = .ok (.iconst 0, 1) := by decide +kernel
theorem d10_67 : decode prog_25_method_8_code 67 = .ok (.ireturn, 1) := by decide +kernel
theorem pn_10 : plainName "com/example/rangewise/rangewise/Id" = true := by first | (simp [plainName, overriddenIn]; done) | decide +kernel
theorem ef_10 (m : MethodId) (x0 : Addr) (x1 : Addr) : entryFrame m #[(.ref x0), (.ref x1)] 3 = mkF m 0 #[.val (.ref x0), .val (.ref x1), .unset] [] := by first | (simp [entryFrame, mkF, argsToLocals, Value.category]; done) | rfl
def own_f10 (w_word0_a1 : Int64) (w_word0_a2 : Int64) (w_word1_a1 : Int64) (w_word1_a2 : Int64) (w_word2_a1 : Int64) (w_word2_a2 : Int64) (w_word3_a1 : Int64) (w_word3_a2 : Int64) : Int32 := (if w_word0_a1 = w_word0_a2 then (if w_word1_a1 = w_word1_a2 then (if w_word2_a1 = w_word2_a2 then (if w_word3_a1 = w_word3_a2 then (1 : Int32) else (0 : Int32)) else (0 : Int32)) else (0 : Int32)) else (0 : Int32))
def Q10 (Z : State) (a1 : Addr) (a2 : Addr) (w_word0_a1 : Int64) (w_word0_a2 : Int64) (w_word1_a1 : Int64) (w_word1_a2 : Int64) (w_word2_a1 : Int64) (w_word2_a2 : Int64) (w_word3_a1 : Int64) (w_word3_a2 : Int64) (h0 : Heap) (n0 : Nat) (v : Option Value) (h : Heap) (L : List Loc) : Prop := v = some (.int (own_f10 w_word0_a1 w_word0_a2 w_word1_a1 w_word1_a2 w_word2_a1 w_word2_a2 w_word3_a1 w_word3_a2)) ∧ Fr n0 L ∧ h = h0
set_option maxRecDepth 65536 in
set_option maxHeartbeats 40000000 in
theorem rm10 (l : Launch) (Z : State) (a0 : Array Value) (hw : ∀ d ∈ tables_1, d.before a0 Z = true) (ws : List Jvm.Cond) (a1 : Addr) (a2 : Addr) (w_word0_a1 : Int64) (w_word0_a2 : Int64) (w_word1_a1 : Int64) (w_word1_a2 : Int64) (w_word2_a1 : Int64) (w_word2_a2 : Int64) (w_word3_a1 : Int64) (w_word3_a2 : Int64) (h0 : Heap) (n0 : Nat) (Z0 : n0 ≤ h0.size) (E_a2 : Exa Z h0 a2 "com/example/rangewise/rangewise/Id") (F_word0_a1 : Fld Z h0 a1 "com/example/rangewise/rangewise/Id" "word0" "J" (.long w_word0_a1)) (F_word0_a2 : Fld Z h0 a2 "com/example/rangewise/rangewise/Id" "word0" "J" (.long w_word0_a2)) (F_word1_a1 : Fld Z h0 a1 "com/example/rangewise/rangewise/Id" "word1" "J" (.long w_word1_a1)) (F_word1_a2 : Fld Z h0 a2 "com/example/rangewise/rangewise/Id" "word1" "J" (.long w_word1_a2)) (F_word2_a1 : Fld Z h0 a1 "com/example/rangewise/rangewise/Id" "word2" "J" (.long w_word2_a1)) (F_word2_a2 : Fld Z h0 a2 "com/example/rangewise/rangewise/Id" "word2" "J" (.long w_word2_a2)) (F_word3_a1 : Fld Z h0 a1 "com/example/rangewise/rangewise/Id" "word3" "J" (.long w_word3_a1)) (F_word3_a2 : Fld Z h0 a2 "com/example/rangewise/rangewise/Id" "word3" "J" (.long w_word3_a2)) :
    MetFree l (⟨"com/example/rangewise/rangewise/Id", "equals", "(Ljava/lang/Object;)Z"⟩ : MethodName) (head1 (Jvm.Cond.code (⟨"com/example/rangewise/rangewise/Id", "equals", "(Ljava/lang/Object;)Z"⟩ : MethodName) prog_25_method_8_code 3 (some .boolean) :: ws) ({ frames := 0, cells := 0, slots := 0, locals := 0 } : Room)) (fun a U => a = #[(.ref a1), (.ref a2)] ∧ Z.Warmed39 U.vm ∧ U.heap = h0) (fun _ _ _ _ _ => True) (fun _ U o U' => ∃ v L, o = .returned v ∧ Q10 Z a1 a2 w_word0_a1 w_word0_a2 w_word1_a1 w_word1_a2 w_word2_a1 w_word2_a2 w_word3_a1 w_word3_a2 h0 n0 v U'.heap L ∧ FrameEnd U o U' L ({ frames := 0, cells := 0, slots := 0, locals := 0 } : Room).cells ({ frames := 0, cells := 0, slots := 0, locals := 0 } : Room).slots) := by
  refine MetFree.of_bodySF (plainFor_of_name pn_10) hisR ?_
  intro p e s m args below meth c s₁ Bd hml0 hP hK
  obtain ⟨rfl, hZ, hh⟩ := hP
  have hx := Bd.exec
  have hby := Bd.bytes
  have hml : c.maxLocals = 3 := hml0
  have hown : s.vm.findClass "com/example/rangewise/rangewise/Id" = some m.cls := findClass_of_methodNamed Bd.named
  have hnm := (name_of_methodNamed Bd.named Bd.method).1
  have X0 : Stand p l e ({ frames := 0, cells := 0, slots := 0, locals := 0 } : Room) s m #[(.ref a1), (.ref a2)] below meth c s₁ [] 0 0 := Stand.of_body Bd
  have e0 : s₁.heap = h0 := by rw [← hh, Bd.state]; rfl
  have N0 := Fr.nil n0
  apply own_in
  refine own_pre (B := s₁.setTop (mkF m 0 #[.val (.ref a1), .val (.ref a2), .unset] [])) (fun t k => castTop (ef_10 m a1 a2) k) ?_
  refine own_pre (B := s₁.setTop (mkF m 1 #[.val (.ref a1), .val (.ref a2), .unset] [(.ref a2)])) (fun t k => XS.aloadN X0.here hx rfl (hb hby d10_0) rfl rfl k) ?_
  obtain ⟨T3, X3, e3, st3⟩ := instY X0 hx hZ hown (hw _ (ow 63 rfl)) e0 (Ins.self E_a2) (g := (mkF m 1 #[.val (.ref a1), .val (.ref a2), .unset] [(.ref a2)])) rfl rfl (hb hby d10_1)
  refine own_pre (B := T3.setTop (mkF m 4 #[.val (.ref a1), .val (.ref a2), .unset] [(.int (1 : Int32))])) (fun t k => st3 t k) ?_
  refine own_pre (B := T3.setTop (mkF m 9 #[.val (.ref a1), .val (.ref a2), .unset] [])) (fun t k => XS.ifYes X3.here hx rfl (pc0 := 4) (pc' := 9) rfl (hb hby d10_4) rfl ((if0 _ _).trans (feq (by decide : ¬ ((1 : Int32) = (0 : Int32)))).2) (by decide) (by decide) k) ?_
  refine own_pre (B := T3.setTop (mkF m 10 #[.val (.ref a1), .val (.ref a2), .unset] [(.ref a2)])) (fun t k => XS.aloadN X3.here hx rfl (hb hby d10_9) rfl rfl k) ?_
  obtain ⟨T4, X4, e4, st4⟩ := castY X3 hx hZ hown (hw _ (ow 63 rfl)) e3 (Ins.self E_a2) (g := (mkF m 10 #[.val (.ref a1), .val (.ref a2), .unset] [(.ref a2)])) rfl rfl (hb hby d10_10)
  refine own_pre (B := T4.setTop (mkF m 13 #[.val (.ref a1), .val (.ref a2), .unset] [(.ref a2)])) (fun t k => st4 t k) ?_
  refine own_pre (B := T4.setTop (mkF m 14 #[.val (.ref a1), .val (.ref a2), .val (.ref a2)] [])) (fun t k => XS.astoreN X4.here hx rfl (hb hby d10_13) rfl rfl (l' := #[.val (.ref a1), .val (.ref a2), .val (.ref a2)]) rfl k) ?_
  refine own_pre (B := T4.setTop (mkF m 15 #[.val (.ref a1), .val (.ref a2), .val (.ref a2)] [(.ref a1)])) (fun t k => XS.aloadN X4.here hx rfl (hb hby d10_14) rfl rfl k) ?_
  obtain ⟨T5, X5, e5, st5⟩ := getF X4 hx hZ hown (host := "") (Or.inl (hw _ (ow 14 rfl))) Via.refl e4 F_word0_a1 (g := (mkF m 15 #[.val (.ref a1), .val (.ref a2), .val (.ref a2)] [(.ref a1)])) rfl rfl (hb hby d10_15)
  refine own_pre (B := T5.setTop (mkF m 18 #[.val (.ref a1), .val (.ref a2), .val (.ref a2)] [(.long w_word0_a1)])) (fun t k => st5 t k) ?_
  refine own_pre (B := T5.setTop (mkF m 19 #[.val (.ref a1), .val (.ref a2), .val (.ref a2)] [(.ref a2), (.long w_word0_a1)])) (fun t k => XS.aloadN X5.here hx rfl (hb hby d10_18) rfl rfl k) ?_
  obtain ⟨T6, X6, e6, st6⟩ := getF X5 hx hZ hown (host := "") (Or.inl (hw _ (ow 14 rfl))) Via.refl e5 F_word0_a2 (g := (mkF m 19 #[.val (.ref a1), .val (.ref a2), .val (.ref a2)] [(.ref a2), (.long w_word0_a1)])) rfl rfl (hb hby d10_19)
  refine own_pre (B := T6.setTop (mkF m 22 #[.val (.ref a1), .val (.ref a2), .val (.ref a2)] [(.long w_word0_a2), (.long w_word0_a1)])) (fun t k => st6 t k) ?_
  refine own_pre (B := T6.setTop (mkF m 23 #[.val (.ref a1), .val (.ref a2), .val (.ref a2)] [(.int (lcmpW w_word0_a1 w_word0_a2))])) (fun t k => XS.lcmp X6.here hx rfl (hb hby d10_22) rfl k) ?_
  by_cases hc23_7 : w_word0_a1 = w_word0_a2
  · refine own_pre (B := T6.setTop (mkF m 26 #[.val (.ref a1), .val (.ref a2), .val (.ref a2)] [])) (fun t k => XS.ifNo X6.here hx rfl (hb hby d10_23) rfl ((if0 _ _).trans (teq ((lw_eq w_word0_a1 w_word0_a2).mpr hc23_7)).2) k) ?_
    refine own_pre (B := T6.setTop (mkF m 27 #[.val (.ref a1), .val (.ref a2), .val (.ref a2)] [(.ref a1)])) (fun t k => XS.aloadN X6.here hx rfl (hb hby d10_26) rfl rfl k) ?_
    obtain ⟨T8, X8, e8, st8⟩ := getF X6 hx hZ hown (host := "") (Or.inl (hw _ (ow 16 rfl))) Via.refl e6 F_word1_a1 (g := (mkF m 27 #[.val (.ref a1), .val (.ref a2), .val (.ref a2)] [(.ref a1)])) rfl rfl (hb hby d10_27)
    refine own_pre (B := T8.setTop (mkF m 30 #[.val (.ref a1), .val (.ref a2), .val (.ref a2)] [(.long w_word1_a1)])) (fun t k => st8 t k) ?_
    refine own_pre (B := T8.setTop (mkF m 31 #[.val (.ref a1), .val (.ref a2), .val (.ref a2)] [(.ref a2), (.long w_word1_a1)])) (fun t k => XS.aloadN X8.here hx rfl (hb hby d10_30) rfl rfl k) ?_
    obtain ⟨T9, X9, e9, st9⟩ := getF X8 hx hZ hown (host := "") (Or.inl (hw _ (ow 16 rfl))) Via.refl e8 F_word1_a2 (g := (mkF m 31 #[.val (.ref a1), .val (.ref a2), .val (.ref a2)] [(.ref a2), (.long w_word1_a1)])) rfl rfl (hb hby d10_31)
    refine own_pre (B := T9.setTop (mkF m 34 #[.val (.ref a1), .val (.ref a2), .val (.ref a2)] [(.long w_word1_a2), (.long w_word1_a1)])) (fun t k => st9 t k) ?_
    refine own_pre (B := T9.setTop (mkF m 35 #[.val (.ref a1), .val (.ref a2), .val (.ref a2)] [(.int (lcmpW w_word1_a1 w_word1_a2))])) (fun t k => XS.lcmp X9.here hx rfl (hb hby d10_34) rfl k) ?_
    by_cases hc35_10 : w_word1_a1 = w_word1_a2
    · refine own_pre (B := T9.setTop (mkF m 38 #[.val (.ref a1), .val (.ref a2), .val (.ref a2)] [])) (fun t k => XS.ifNo X9.here hx rfl (hb hby d10_35) rfl ((if0 _ _).trans (teq ((lw_eq w_word1_a1 w_word1_a2).mpr hc35_10)).2) k) ?_
      refine own_pre (B := T9.setTop (mkF m 39 #[.val (.ref a1), .val (.ref a2), .val (.ref a2)] [(.ref a1)])) (fun t k => XS.aloadN X9.here hx rfl (hb hby d10_38) rfl rfl k) ?_
      obtain ⟨T11, X11, e11, st11⟩ := getF X9 hx hZ hown (host := "") (Or.inl (hw _ (ow 18 rfl))) Via.refl e9 F_word2_a1 (g := (mkF m 39 #[.val (.ref a1), .val (.ref a2), .val (.ref a2)] [(.ref a1)])) rfl rfl (hb hby d10_39)
      refine own_pre (B := T11.setTop (mkF m 42 #[.val (.ref a1), .val (.ref a2), .val (.ref a2)] [(.long w_word2_a1)])) (fun t k => st11 t k) ?_
      refine own_pre (B := T11.setTop (mkF m 43 #[.val (.ref a1), .val (.ref a2), .val (.ref a2)] [(.ref a2), (.long w_word2_a1)])) (fun t k => XS.aloadN X11.here hx rfl (hb hby d10_42) rfl rfl k) ?_
      obtain ⟨T12, X12, e12, st12⟩ := getF X11 hx hZ hown (host := "") (Or.inl (hw _ (ow 18 rfl))) Via.refl e11 F_word2_a2 (g := (mkF m 43 #[.val (.ref a1), .val (.ref a2), .val (.ref a2)] [(.ref a2), (.long w_word2_a1)])) rfl rfl (hb hby d10_43)
      refine own_pre (B := T12.setTop (mkF m 46 #[.val (.ref a1), .val (.ref a2), .val (.ref a2)] [(.long w_word2_a2), (.long w_word2_a1)])) (fun t k => st12 t k) ?_
      refine own_pre (B := T12.setTop (mkF m 47 #[.val (.ref a1), .val (.ref a2), .val (.ref a2)] [(.int (lcmpW w_word2_a1 w_word2_a2))])) (fun t k => XS.lcmp X12.here hx rfl (hb hby d10_46) rfl k) ?_
      by_cases hc47_13 : w_word2_a1 = w_word2_a2
      · refine own_pre (B := T12.setTop (mkF m 50 #[.val (.ref a1), .val (.ref a2), .val (.ref a2)] [])) (fun t k => XS.ifNo X12.here hx rfl (hb hby d10_47) rfl ((if0 _ _).trans (teq ((lw_eq w_word2_a1 w_word2_a2).mpr hc47_13)).2) k) ?_
        refine own_pre (B := T12.setTop (mkF m 51 #[.val (.ref a1), .val (.ref a2), .val (.ref a2)] [(.ref a1)])) (fun t k => XS.aloadN X12.here hx rfl (hb hby d10_50) rfl rfl k) ?_
        obtain ⟨T14, X14, e14, st14⟩ := getF X12 hx hZ hown (host := "") (Or.inl (hw _ (ow 20 rfl))) Via.refl e12 F_word3_a1 (g := (mkF m 51 #[.val (.ref a1), .val (.ref a2), .val (.ref a2)] [(.ref a1)])) rfl rfl (hb hby d10_51)
        refine own_pre (B := T14.setTop (mkF m 54 #[.val (.ref a1), .val (.ref a2), .val (.ref a2)] [(.long w_word3_a1)])) (fun t k => st14 t k) ?_
        refine own_pre (B := T14.setTop (mkF m 55 #[.val (.ref a1), .val (.ref a2), .val (.ref a2)] [(.ref a2), (.long w_word3_a1)])) (fun t k => XS.aloadN X14.here hx rfl (hb hby d10_54) rfl rfl k) ?_
        obtain ⟨T15, X15, e15, st15⟩ := getF X14 hx hZ hown (host := "") (Or.inl (hw _ (ow 20 rfl))) Via.refl e14 F_word3_a2 (g := (mkF m 55 #[.val (.ref a1), .val (.ref a2), .val (.ref a2)] [(.ref a2), (.long w_word3_a1)])) rfl rfl (hb hby d10_55)
        refine own_pre (B := T15.setTop (mkF m 58 #[.val (.ref a1), .val (.ref a2), .val (.ref a2)] [(.long w_word3_a2), (.long w_word3_a1)])) (fun t k => st15 t k) ?_
        refine own_pre (B := T15.setTop (mkF m 59 #[.val (.ref a1), .val (.ref a2), .val (.ref a2)] [(.int (lcmpW w_word3_a1 w_word3_a2))])) (fun t k => XS.lcmp X15.here hx rfl (hb hby d10_58) rfl k) ?_
        by_cases hc59_16 : w_word3_a1 = w_word3_a2
        · refine own_pre (B := T15.setTop (mkF m 62 #[.val (.ref a1), .val (.ref a2), .val (.ref a2)] [])) (fun t k => XS.ifNo X15.here hx rfl (hb hby d10_59) rfl ((if0 _ _).trans (teq ((lw_eq w_word3_a1 w_word3_a2).mpr hc59_16)).2) k) ?_
          refine own_pre (B := T15.setTop (mkF m 63 #[.val (.ref a1), .val (.ref a2), .val (.ref a2)] [(.int (1 : Int32))])) (fun t k => XS.iconst X15.here hx rfl (hb hby d10_62) k) ?_
          refine own_pre (B := T15.setTop (mkF m 67 #[.val (.ref a1), .val (.ref a2), .val (.ref a2)] [(.int (1 : Int32))])) (fun t k => XS.goto X15.here hx rfl (pc0 := 63) (pc' := 67) rfl (hb hby d10_63) (by decide) (by decide) k) ?_
          obtain ⟨fsr17, hrr17, hrunr17, hendedr17, hWr17, hsamer17⟩ := X15.leave (v := some (.int (1 : Int32))) (fun h => by rw [Bd.returns] at h; cases h)
          refine ⟨_, _, (retN X15 hx (t := .boolean) Bd.returns (by simp) (hb hby d10_67) hrr17), hrunr17, hendedr17, _, _, rfl, ?_, ⟨_, rfl⟩, hWr17, hsamer17.mono (by decide) (by decide)⟩
          show Q10 Z a1 a2 w_word0_a1 w_word0_a2 w_word1_a1 w_word1_a2 w_word2_a1 w_word2_a2 w_word3_a1 w_word3_a2 h0 n0 _ T15.heap _
          rw [e15]
          exact ⟨(by unfold own_f10; rw [if_pos hc23_7, if_pos hc35_10, if_pos hc47_13, if_pos hc59_16]), N0, rfl⟩
        · refine own_pre (B := T15.setTop (mkF m 66 #[.val (.ref a1), .val (.ref a2), .val (.ref a2)] [])) (fun t k => XS.ifYes X15.here hx rfl (pc0 := 59) (pc' := 66) rfl (hb hby d10_59) rfl ((if0 _ _).trans (feq (mt (lw_eq w_word3_a1 w_word3_a2).mp hc59_16)).2) (by decide) (by decide) k) ?_
          refine own_pre (B := T15.setTop (mkF m 67 #[.val (.ref a1), .val (.ref a2), .val (.ref a2)] [(.int (0 : Int32))])) (fun t k => XS.iconst X15.here hx rfl (hb hby d10_66) k) ?_
          obtain ⟨fsr18, hrr18, hrunr18, hendedr18, hWr18, hsamer18⟩ := X15.leave (v := some (.int (0 : Int32))) (fun h => by rw [Bd.returns] at h; cases h)
          refine ⟨_, _, (retN X15 hx (t := .boolean) Bd.returns (by simp) (hb hby d10_67) hrr18), hrunr18, hendedr18, _, _, rfl, ?_, ⟨_, rfl⟩, hWr18, hsamer18.mono (by decide) (by decide)⟩
          show Q10 Z a1 a2 w_word0_a1 w_word0_a2 w_word1_a1 w_word1_a2 w_word2_a1 w_word2_a2 w_word3_a1 w_word3_a2 h0 n0 _ T15.heap _
          rw [e15]
          exact ⟨(by unfold own_f10; rw [if_pos hc23_7, if_pos hc35_10, if_pos hc47_13, if_neg hc59_16]), N0, rfl⟩
      · refine own_pre (B := T12.setTop (mkF m 66 #[.val (.ref a1), .val (.ref a2), .val (.ref a2)] [])) (fun t k => XS.ifYes X12.here hx rfl (pc0 := 47) (pc' := 66) rfl (hb hby d10_47) rfl ((if0 _ _).trans (feq (mt (lw_eq w_word2_a1 w_word2_a2).mp hc47_13)).2) (by decide) (by decide) k) ?_
        refine own_pre (B := T12.setTop (mkF m 67 #[.val (.ref a1), .val (.ref a2), .val (.ref a2)] [(.int (0 : Int32))])) (fun t k => XS.iconst X12.here hx rfl (hb hby d10_66) k) ?_
        obtain ⟨fsr19, hrr19, hrunr19, hendedr19, hWr19, hsamer19⟩ := X12.leave (v := some (.int (0 : Int32))) (fun h => by rw [Bd.returns] at h; cases h)
        refine ⟨_, _, (retN X12 hx (t := .boolean) Bd.returns (by simp) (hb hby d10_67) hrr19), hrunr19, hendedr19, _, _, rfl, ?_, ⟨_, rfl⟩, hWr19, hsamer19.mono (by decide) (by decide)⟩
        show Q10 Z a1 a2 w_word0_a1 w_word0_a2 w_word1_a1 w_word1_a2 w_word2_a1 w_word2_a2 w_word3_a1 w_word3_a2 h0 n0 _ T12.heap _
        rw [e12]
        exact ⟨(by unfold own_f10; rw [if_pos hc23_7, if_pos hc35_10, if_neg hc47_13]), N0, rfl⟩
    · refine own_pre (B := T9.setTop (mkF m 66 #[.val (.ref a1), .val (.ref a2), .val (.ref a2)] [])) (fun t k => XS.ifYes X9.here hx rfl (pc0 := 35) (pc' := 66) rfl (hb hby d10_35) rfl ((if0 _ _).trans (feq (mt (lw_eq w_word1_a1 w_word1_a2).mp hc35_10)).2) (by decide) (by decide) k) ?_
      refine own_pre (B := T9.setTop (mkF m 67 #[.val (.ref a1), .val (.ref a2), .val (.ref a2)] [(.int (0 : Int32))])) (fun t k => XS.iconst X9.here hx rfl (hb hby d10_66) k) ?_
      obtain ⟨fsr20, hrr20, hrunr20, hendedr20, hWr20, hsamer20⟩ := X9.leave (v := some (.int (0 : Int32))) (fun h => by rw [Bd.returns] at h; cases h)
      refine ⟨_, _, (retN X9 hx (t := .boolean) Bd.returns (by simp) (hb hby d10_67) hrr20), hrunr20, hendedr20, _, _, rfl, ?_, ⟨_, rfl⟩, hWr20, hsamer20.mono (by decide) (by decide)⟩
      show Q10 Z a1 a2 w_word0_a1 w_word0_a2 w_word1_a1 w_word1_a2 w_word2_a1 w_word2_a2 w_word3_a1 w_word3_a2 h0 n0 _ T9.heap _
      rw [e9]
      exact ⟨(by unfold own_f10; rw [if_pos hc23_7, if_neg hc35_10]), N0, rfl⟩
  · refine own_pre (B := T6.setTop (mkF m 66 #[.val (.ref a1), .val (.ref a2), .val (.ref a2)] [])) (fun t k => XS.ifYes X6.here hx rfl (pc0 := 23) (pc' := 66) rfl (hb hby d10_23) rfl ((if0 _ _).trans (feq (mt (lw_eq w_word0_a1 w_word0_a2).mp hc23_7)).2) (by decide) (by decide) k) ?_
    refine own_pre (B := T6.setTop (mkF m 67 #[.val (.ref a1), .val (.ref a2), .val (.ref a2)] [(.int (0 : Int32))])) (fun t k => XS.iconst X6.here hx rfl (hb hby d10_66) k) ?_
    obtain ⟨fsr21, hrr21, hrunr21, hendedr21, hWr21, hsamer21⟩ := X6.leave (v := some (.int (0 : Int32))) (fun h => by rw [Bd.returns] at h; cases h)
    refine ⟨_, _, (retN X6 hx (t := .boolean) Bd.returns (by simp) (hb hby d10_67) hrr21), hrunr21, hendedr21, _, _, rfl, ?_, ⟨_, rfl⟩, hWr21, hsamer21.mono (by decide) (by decide)⟩
    show Q10 Z a1 a2 w_word0_a1 w_word0_a2 w_word1_a1 w_word1_a2 w_word2_a1 w_word2_a2 w_word3_a1 w_word3_a2 h0 n0 _ T6.heap _
    rw [e6]
    exact ⟨(by unfold own_f10; rw [if_neg hc23_7]), N0, rfl⟩
theorem pd_2 : parseMethodDescriptor "(Ljava/lang/Object;)Z" = some ⟨[(.object "java/lang/Object")], some .boolean⟩ := by decide +kernel
theorem d8_0 : decode prog_76_method_7_code 0 = .ok (.aload_n 1, 1) := by decide +kernel
theorem d8_1 : decode prog_76_method_7_code 1 = .ok (.instanceof 7, 3) := by decide +kernel
theorem d8_4 : decode prog_76_method_7_code 4 = .ok (.ifCond .ne 5, 3) := by decide +kernel
theorem d8_9 : decode prog_76_method_7_code 9 = .ok (.aload_n 1, 1) := by decide +kernel
theorem d8_10 : decode prog_76_method_7_code 10 = .ok (.checkcast 7, 3) := by decide +kernel
theorem d8_13 : decode prog_76_method_7_code 13 = .ok (.astore_n 2, 1) := by decide +kernel
theorem d8_14 : decode prog_76_method_7_code 14 = .ok (.aload_n 0, 1) := by decide +kernel
theorem d8_15 : decode prog_76_method_7_code 15 = .ok (.getfield 24, 3) := by decide +kernel
theorem d8_18 : decode prog_76_method_7_code 18 = .ok (.aload_n 2, 1) := by decide +kernel
theorem d8_19 : decode prog_76_method_7_code 19 = .ok (.getfield 24, 3) := by decide +kernel
theorem d8_22 : decode prog_76_method_7_code 22 = .ok (.lcmp, 1) := by decide +kernel
theorem d8_23 : decode prog_76_method_7_code 23 = .ok (.ifCond .ne 21, 3) := by decide +kernel
theorem d8_26 : decode prog_76_method_7_code 26 = .ok (.aload_n 0, 1) := by decide +kernel
theorem d8_27 : decode prog_76_method_7_code 27 = .ok (.getfield 36, 3) := by decide +kernel
theorem d8_30 : decode prog_76_method_7_code 30 = .ok (.aload_n 2, 1) := by decide +kernel
theorem d8_31 : decode prog_76_method_7_code 31 = .ok (.getfield 36, 3) := by decide +kernel
theorem d8_34 : decode prog_76_method_7_code 34 = .ok (.invokevirtual 86, 3) := by decide +kernel
theorem d8_37 : decode prog_76_method_7_code 37 = .ok (.ifCond .eq 7, 3) := by decide +kernel
theorem d8_40 : decode prog_76_method_7_code 40 = .ok (.iconst 1, 1) := by decide +kernel
theorem d8_41 : decode prog_76_method_7_code 41 = .ok (.goto 4, 3) := by decide +kernel
theorem d8_44 : decode prog_76_method_7_code 44 = .ok (.iconst 0, 1) := by decide +kernel
theorem d8_45 : decode prog_76_method_7_code 45 = .ok (.ireturn, 1) := by decide +kernel
theorem pn_8 : plainName "com/example/rangewise/rangewise/TimestampedId" = true := by first | (simp [plainName, overriddenIn]; done) | decide +kernel
theorem ef_8 (m : MethodId) (x0 : Addr) (x1 : Addr) : entryFrame m #[(.ref x0), (.ref x1)] 3 = mkF m 0 #[.val (.ref x0), .val (.ref x1), .unset] [] := by first | (simp [entryFrame, mkF, argsToLocals, Value.category]; done) | rfl
def own_f8 (w_timestamp_a1 : Int64) (w_timestamp_a2 : Int64) (w_word0_w_id_a1 : Int64) (w_word0_w_id_a2 : Int64) (w_word1_w_id_a1 : Int64) (w_word1_w_id_a2 : Int64) (w_word2_w_id_a1 : Int64) (w_word2_w_id_a2 : Int64) (w_word3_w_id_a1 : Int64) (w_word3_w_id_a2 : Int64) : Int32 := (if w_timestamp_a1 = w_timestamp_a2 then (if (own_f10 w_word0_w_id_a1 w_word0_w_id_a2 w_word1_w_id_a1 w_word1_w_id_a2 w_word2_w_id_a1 w_word2_w_id_a2 w_word3_w_id_a1 w_word3_w_id_a2) = (0 : Int32) then (0 : Int32) else (1 : Int32)) else (0 : Int32))
def Q8 (Z : State) (a1 : Addr) (a2 : Addr) (w_timestamp_a1 : Int64) (w_timestamp_a2 : Int64) (w_id_a1 : Addr) (w_id_a2 : Addr) (w_word0_w_id_a1 : Int64) (w_word0_w_id_a2 : Int64) (w_word1_w_id_a1 : Int64) (w_word1_w_id_a2 : Int64) (w_word2_w_id_a1 : Int64) (w_word2_w_id_a2 : Int64) (w_word3_w_id_a1 : Int64) (w_word3_w_id_a2 : Int64) (h0 : Heap) (n0 : Nat) (v : Option Value) (h : Heap) (L : List Loc) : Prop := v = some (.int (own_f8 w_timestamp_a1 w_timestamp_a2 w_word0_w_id_a1 w_word0_w_id_a2 w_word1_w_id_a1 w_word1_w_id_a2 w_word2_w_id_a1 w_word2_w_id_a2 w_word3_w_id_a1 w_word3_w_id_a2)) ∧ Fr n0 L ∧ h = h0
set_option maxRecDepth 65536 in
set_option maxHeartbeats 40000000 in
theorem rm8 (l : Launch) (Z : State) (a0 : Array Value) (hw : ∀ d ∈ tables_1, d.before a0 Z = true) (ws : List Jvm.Cond) (a1 : Addr) (a2 : Addr) (w_timestamp_a1 : Int64) (w_timestamp_a2 : Int64) (w_id_a1 : Addr) (w_id_a2 : Addr) (w_word0_w_id_a1 : Int64) (w_word0_w_id_a2 : Int64) (w_word1_w_id_a1 : Int64) (w_word1_w_id_a2 : Int64) (w_word2_w_id_a1 : Int64) (w_word2_w_id_a2 : Int64) (w_word3_w_id_a1 : Int64) (w_word3_w_id_a2 : Int64) (h0 : Heap) (n0 : Nat) (Z0 : n0 ≤ h0.size) (E_a2 : Exa Z h0 a2 "com/example/rangewise/rangewise/TimestampedId") (F_timestamp_a1 : Fld Z h0 a1 "com/example/rangewise/rangewise/TimestampedId" "timestamp" "J" (.long w_timestamp_a1)) (F_timestamp_a2 : Fld Z h0 a2 "com/example/rangewise/rangewise/TimestampedId" "timestamp" "J" (.long w_timestamp_a2)) (F_id_a1 : Fld Z h0 a1 "com/example/rangewise/rangewise/TimestampedId" "id" "Lcom/example/rangewise/rangewise/Id;" (.ref w_id_a1)) (F_id_a2 : Fld Z h0 a2 "com/example/rangewise/rangewise/TimestampedId" "id" "Lcom/example/rangewise/rangewise/Id;" (.ref w_id_a2)) (E_w_id_a2 : Exa Z h0 w_id_a2 "com/example/rangewise/rangewise/Id") (F_word0_w_id_a1 : Fld Z h0 w_id_a1 "com/example/rangewise/rangewise/Id" "word0" "J" (.long w_word0_w_id_a1)) (F_word0_w_id_a2 : Fld Z h0 w_id_a2 "com/example/rangewise/rangewise/Id" "word0" "J" (.long w_word0_w_id_a2)) (F_word1_w_id_a1 : Fld Z h0 w_id_a1 "com/example/rangewise/rangewise/Id" "word1" "J" (.long w_word1_w_id_a1)) (F_word1_w_id_a2 : Fld Z h0 w_id_a2 "com/example/rangewise/rangewise/Id" "word1" "J" (.long w_word1_w_id_a2)) (F_word2_w_id_a1 : Fld Z h0 w_id_a1 "com/example/rangewise/rangewise/Id" "word2" "J" (.long w_word2_w_id_a1)) (F_word2_w_id_a2 : Fld Z h0 w_id_a2 "com/example/rangewise/rangewise/Id" "word2" "J" (.long w_word2_w_id_a2)) (F_word3_w_id_a1 : Fld Z h0 w_id_a1 "com/example/rangewise/rangewise/Id" "word3" "J" (.long w_word3_w_id_a1)) (F_word3_w_id_a2 : Fld Z h0 w_id_a2 "com/example/rangewise/rangewise/Id" "word3" "J" (.long w_word3_w_id_a2)) (E_w_id_a1 : Exa Z h0 w_id_a1 "com/example/rangewise/rangewise/Id") :
    MetFree l (⟨"com/example/rangewise/rangewise/TimestampedId", "equals", "(Ljava/lang/Object;)Z"⟩ : MethodName) (head1 (Jvm.Cond.code (⟨"com/example/rangewise/rangewise/TimestampedId", "equals", "(Ljava/lang/Object;)Z"⟩ : MethodName) prog_76_method_7_code 3 (some .boolean) :: ws) ({ frames := 1, cells := 0, slots := 0, locals := 14 } : Room)) (fun a U => a = #[(.ref a1), (.ref a2)] ∧ Z.Warmed39 U.vm ∧ U.heap = h0) (fun _ _ _ _ _ => True) (fun _ U o U' => ∃ v L, o = .returned v ∧ Q8 Z a1 a2 w_timestamp_a1 w_timestamp_a2 w_id_a1 w_id_a2 w_word0_w_id_a1 w_word0_w_id_a2 w_word1_w_id_a1 w_word1_w_id_a2 w_word2_w_id_a1 w_word2_w_id_a2 w_word3_w_id_a1 w_word3_w_id_a2 h0 n0 v U'.heap L ∧ FrameEnd U o U' L ({ frames := 1, cells := 0, slots := 0, locals := 14 } : Room).cells ({ frames := 1, cells := 0, slots := 0, locals := 14 } : Room).slots) := by
  refine MetFree.of_bodySF (plainFor_of_name pn_8) hisR ?_
  intro p e s m args below meth c s₁ Bd hml0 hP hK
  obtain ⟨rfl, hZ, hh⟩ := hP
  have hx := Bd.exec
  have hby := Bd.bytes
  have hml : c.maxLocals = 3 := hml0
  have hown : s.vm.findClass "com/example/rangewise/rangewise/TimestampedId" = some m.cls := findClass_of_methodNamed Bd.named
  have hnm := (name_of_methodNamed Bd.named Bd.method).1
  have X0 : Stand p l e ({ frames := 1, cells := 0, slots := 0, locals := 14 } : Room) s m #[(.ref a1), (.ref a2)] below meth c s₁ [] 0 0 := Stand.of_body Bd
  have e0 : s₁.heap = h0 := by rw [← hh, Bd.state]; rfl
  have N0 := Fr.nil n0
  apply own_in
  refine own_pre (B := s₁.setTop (mkF m 0 #[.val (.ref a1), .val (.ref a2), .unset] [])) (fun t k => castTop (ef_8 m a1 a2) k) ?_
  refine own_pre (B := s₁.setTop (mkF m 1 #[.val (.ref a1), .val (.ref a2), .unset] [(.ref a2)])) (fun t k => XS.aloadN X0.here hx rfl (hb hby d8_0) rfl rfl k) ?_
  obtain ⟨T3, X3, e3, st3⟩ := instY X0 hx hZ hown (hw _ (ow 53 rfl)) e0 (Ins.self E_a2) (g := (mkF m 1 #[.val (.ref a1), .val (.ref a2), .unset] [(.ref a2)])) rfl rfl (hb hby d8_1)
  refine own_pre (B := T3.setTop (mkF m 4 #[.val (.ref a1), .val (.ref a2), .unset] [(.int (1 : Int32))])) (fun t k => st3 t k) ?_
  refine own_pre (B := T3.setTop (mkF m 9 #[.val (.ref a1), .val (.ref a2), .unset] [])) (fun t k => XS.ifYes X3.here hx rfl (pc0 := 4) (pc' := 9) rfl (hb hby d8_4) rfl ((if0 _ _).trans (feq (by decide : ¬ ((1 : Int32) = (0 : Int32)))).2) (by decide) (by decide) k) ?_
  refine own_pre (B := T3.setTop (mkF m 10 #[.val (.ref a1), .val (.ref a2), .unset] [(.ref a2)])) (fun t k => XS.aloadN X3.here hx rfl (hb hby d8_9) rfl rfl k) ?_
  obtain ⟨T4, X4, e4, st4⟩ := castY X3 hx hZ hown (hw _ (ow 53 rfl)) e3 (Ins.self E_a2) (g := (mkF m 10 #[.val (.ref a1), .val (.ref a2), .unset] [(.ref a2)])) rfl rfl (hb hby d8_10)
  refine own_pre (B := T4.setTop (mkF m 13 #[.val (.ref a1), .val (.ref a2), .unset] [(.ref a2)])) (fun t k => st4 t k) ?_
  refine own_pre (B := T4.setTop (mkF m 14 #[.val (.ref a1), .val (.ref a2), .val (.ref a2)] [])) (fun t k => XS.astoreN X4.here hx rfl (hb hby d8_13) rfl rfl (l' := #[.val (.ref a1), .val (.ref a2), .val (.ref a2)]) rfl k) ?_
  refine own_pre (B := T4.setTop (mkF m 15 #[.val (.ref a1), .val (.ref a2), .val (.ref a2)] [(.ref a1)])) (fun t k => XS.aloadN X4.here hx rfl (hb hby d8_14) rfl rfl k) ?_
  obtain ⟨T5, X5, e5, st5⟩ := getF X4 hx hZ hown (host := "") (Or.inl (hw _ (ow 38 rfl))) Via.refl e4 F_timestamp_a1 (g := (mkF m 15 #[.val (.ref a1), .val (.ref a2), .val (.ref a2)] [(.ref a1)])) rfl rfl (hb hby d8_15)
  refine own_pre (B := T5.setTop (mkF m 18 #[.val (.ref a1), .val (.ref a2), .val (.ref a2)] [(.long w_timestamp_a1)])) (fun t k => st5 t k) ?_
  refine own_pre (B := T5.setTop (mkF m 19 #[.val (.ref a1), .val (.ref a2), .val (.ref a2)] [(.ref a2), (.long w_timestamp_a1)])) (fun t k => XS.aloadN X5.here hx rfl (hb hby d8_18) rfl rfl k) ?_
  obtain ⟨T6, X6, e6, st6⟩ := getF X5 hx hZ hown (host := "") (Or.inl (hw _ (ow 38 rfl))) Via.refl e5 F_timestamp_a2 (g := (mkF m 19 #[.val (.ref a1), .val (.ref a2), .val (.ref a2)] [(.ref a2), (.long w_timestamp_a1)])) rfl rfl (hb hby d8_19)
  refine own_pre (B := T6.setTop (mkF m 22 #[.val (.ref a1), .val (.ref a2), .val (.ref a2)] [(.long w_timestamp_a2), (.long w_timestamp_a1)])) (fun t k => st6 t k) ?_
  refine own_pre (B := T6.setTop (mkF m 23 #[.val (.ref a1), .val (.ref a2), .val (.ref a2)] [(.int (lcmpW w_timestamp_a1 w_timestamp_a2))])) (fun t k => XS.lcmp X6.here hx rfl (hb hby d8_22) rfl k) ?_
  by_cases hc23_7 : w_timestamp_a1 = w_timestamp_a2
  · refine own_pre (B := T6.setTop (mkF m 26 #[.val (.ref a1), .val (.ref a2), .val (.ref a2)] [])) (fun t k => XS.ifNo X6.here hx rfl (hb hby d8_23) rfl ((if0 _ _).trans (teq ((lw_eq w_timestamp_a1 w_timestamp_a2).mpr hc23_7)).2) k) ?_
    refine own_pre (B := T6.setTop (mkF m 27 #[.val (.ref a1), .val (.ref a2), .val (.ref a2)] [(.ref a1)])) (fun t k => XS.aloadN X6.here hx rfl (hb hby d8_26) rfl rfl k) ?_
    obtain ⟨T8, X8, e8, st8⟩ := getF X6 hx hZ hown (host := "") (Or.inl (hw _ (ow 46 rfl))) Via.refl e6 F_id_a1 (g := (mkF m 27 #[.val (.ref a1), .val (.ref a2), .val (.ref a2)] [(.ref a1)])) rfl rfl (hb hby d8_27)
    refine own_pre (B := T8.setTop (mkF m 30 #[.val (.ref a1), .val (.ref a2), .val (.ref a2)] [(.ref w_id_a1)])) (fun t k => st8 t k) ?_
    refine own_pre (B := T8.setTop (mkF m 31 #[.val (.ref a1), .val (.ref a2), .val (.ref a2)] [(.ref a2), (.ref w_id_a1)])) (fun t k => XS.aloadN X8.here hx rfl (hb hby d8_30) rfl rfl k) ?_
    obtain ⟨T9, X9, e9, st9⟩ := getF X8 hx hZ hown (host := "") (Or.inl (hw _ (ow 46 rfl))) Via.refl e8 F_id_a2 (g := (mkF m 31 #[.val (.ref a1), .val (.ref a2), .val (.ref a2)] [(.ref a2), (.ref w_id_a1)])) rfl rfl (hb hby d8_31)
    refine own_pre (B := T9.setTop (mkF m 34 #[.val (.ref a1), .val (.ref a2), .val (.ref a2)] [(.ref w_id_a2), (.ref w_id_a1)])) (fun t k => st9 t k) ?_
    obtain ⟨cq10, kq10, q10a, q10b, q10c⟩ := isOf hZ e9 E_w_id_a1
    obtain ⟨_, _, ⟨T10, L10, k10, n10⟩, -, X10, ⟨Lc10, hQ10, l10, y10, z10⟩, st10⟩ := X9.virtualBack hx (y := (⟨"com/example/rangewise/rangewise/Id", "equals", "(Ljava/lang/Object;)Z"⟩ : MethodName)) (z := (⟨"com/example/rangewise/rangewise/Id", "equals", "(Ljava/lang/Object;)Z"⟩ : MethodName)) hown (mvT hZ (hw _ (ow 58 rfl))) (mvT hZ (hw _ (ow 59 rfl))) (notFace_of_selects (args := #[]) (mvT hZ (hw _ (ow 61 rfl)))) (mvT hZ (hw _ (ow 61 rfl))) (mvT hZ (hw _ (ow 60 rfl))) (by decide) (backOf (W := 0) (rm10 l Z a0 hw [] w_id_a1 w_id_a2 w_word0_w_id_a1 w_word0_w_id_a2 w_word1_w_id_a1 w_word1_w_id_a2 w_word2_w_id_a1 w_word2_w_id_a2 w_word3_w_id_a1 w_word3_w_id_a2 h0 n0 Z0 E_w_id_a2 F_word0_w_id_a1 F_word0_w_id_a2 F_word1_w_id_a1 F_word1_w_id_a2 F_word2_w_id_a1 F_word2_w_id_a2 F_word3_w_id_a1 F_word3_w_id_a2) hZ (hw _ (ow 62 rfl)) (hw _ (ow 7 rfl)) (by decide) (by decide)) q10a q10c (g := (mkF m 34 #[.val (.ref a1), .val (.ref a2), .val (.ref a2)] [(.ref w_id_a2), (.ref w_id_a1)])) rfl (by rw [hml]; rfl) (Steps.refl _) (argsL := [(.ref w_id_a2)]) (rest := []) (lenOf pd_2 rfl) rfl (by show 2 * 0 + _ ≤ _; exact Nat.le_of_eq rfl) (hb hby d8_34) (fun _ _ => ⟨rfl, e9, (by decide : 0 + 0 ≤ _), (by decide : 0 + 0 ≤ _)⟩)
    dsimp only [Pt.U, Pt.locs, Pt.cells, Pt.slots] at X10 l10 y10 z10 st10 hQ10
    subst l10 y10 z10
    obtain ⟨rfl, N10q, e10⟩ := hQ10
    have N10 := Fr.app N0 N10q
    refine own_pre (B := T10.setTop (mkF m 37 #[.val (.ref a1), .val (.ref a2), .val (.ref a2)] [(.int (own_f10 w_word0_w_id_a1 w_word0_w_id_a2 w_word1_w_id_a1 w_word1_w_id_a2 w_word2_w_id_a1 w_word2_w_id_a2 w_word3_w_id_a1 w_word3_w_id_a2))])) (fun t k => st10.trans k) ?_
    by_cases hc37_11 : (own_f10 w_word0_w_id_a1 w_word0_w_id_a2 w_word1_w_id_a1 w_word1_w_id_a2 w_word2_w_id_a1 w_word2_w_id_a2 w_word3_w_id_a1 w_word3_w_id_a2) = (0 : Int32)
    · refine own_pre (B := T10.setTop (mkF m 44 #[.val (.ref a1), .val (.ref a2), .val (.ref a2)] [])) (fun t k => XS.ifYes X10.here hx rfl (pc0 := 37) (pc' := 44) rfl (hb hby d8_37) rfl ((if0 _ _).trans (teq hc37_11).1) (by decide) (by decide) k) ?_
      refine own_pre (B := T10.setTop (mkF m 45 #[.val (.ref a1), .val (.ref a2), .val (.ref a2)] [(.int (0 : Int32))])) (fun t k => XS.iconst X10.here hx rfl (hb hby d8_44) k) ?_
      obtain ⟨fsr12, hrr12, hrunr12, hendedr12, hWr12, hsamer12⟩ := X10.leave (v := some (.int (0 : Int32))) (fun h => by rw [Bd.returns] at h; cases h)
      refine ⟨_, _, (retN X10 hx (t := .boolean) Bd.returns (by simp) (hb hby d8_45) hrr12), hrunr12, hendedr12, _, _, rfl, ?_, ⟨_, rfl⟩, hWr12, hsamer12.mono (by decide) (by decide)⟩
      show Q8 Z a1 a2 w_timestamp_a1 w_timestamp_a2 w_id_a1 w_id_a2 w_word0_w_id_a1 w_word0_w_id_a2 w_word1_w_id_a1 w_word1_w_id_a2 w_word2_w_id_a1 w_word2_w_id_a2 w_word3_w_id_a1 w_word3_w_id_a2 h0 n0 _ T10.heap _
      rw [e10]
      exact ⟨(by unfold own_f8; rw [if_pos hc23_7, if_pos hc37_11]), N10, rfl⟩
    · refine own_pre (B := T10.setTop (mkF m 40 #[.val (.ref a1), .val (.ref a2), .val (.ref a2)] [])) (fun t k => XS.ifNo X10.here hx rfl (hb hby d8_37) rfl ((if0 _ _).trans (feq hc37_11).1) k) ?_
      refine own_pre (B := T10.setTop (mkF m 41 #[.val (.ref a1), .val (.ref a2), .val (.ref a2)] [(.int (1 : Int32))])) (fun t k => XS.iconst X10.here hx rfl (hb hby d8_40) k) ?_
      refine own_pre (B := T10.setTop (mkF m 45 #[.val (.ref a1), .val (.ref a2), .val (.ref a2)] [(.int (1 : Int32))])) (fun t k => XS.goto X10.here hx rfl (pc0 := 41) (pc' := 45) rfl (hb hby d8_41) (by decide) (by decide) k) ?_
      obtain ⟨fsr13, hrr13, hrunr13, hendedr13, hWr13, hsamer13⟩ := X10.leave (v := some (.int (1 : Int32))) (fun h => by rw [Bd.returns] at h; cases h)
      refine ⟨_, _, (retN X10 hx (t := .boolean) Bd.returns (by simp) (hb hby d8_45) hrr13), hrunr13, hendedr13, _, _, rfl, ?_, ⟨_, rfl⟩, hWr13, hsamer13.mono (by decide) (by decide)⟩
      show Q8 Z a1 a2 w_timestamp_a1 w_timestamp_a2 w_id_a1 w_id_a2 w_word0_w_id_a1 w_word0_w_id_a2 w_word1_w_id_a1 w_word1_w_id_a2 w_word2_w_id_a1 w_word2_w_id_a2 w_word3_w_id_a1 w_word3_w_id_a2 h0 n0 _ T10.heap _
      rw [e10]
      exact ⟨(by unfold own_f8; rw [if_pos hc23_7, if_neg hc37_11]), N10, rfl⟩
  · refine own_pre (B := T6.setTop (mkF m 44 #[.val (.ref a1), .val (.ref a2), .val (.ref a2)] [])) (fun t k => XS.ifYes X6.here hx rfl (pc0 := 23) (pc' := 44) rfl (hb hby d8_23) rfl ((if0 _ _).trans (feq (mt (lw_eq w_timestamp_a1 w_timestamp_a2).mp hc23_7)).2) (by decide) (by decide) k) ?_
    refine own_pre (B := T6.setTop (mkF m 45 #[.val (.ref a1), .val (.ref a2), .val (.ref a2)] [(.int (0 : Int32))])) (fun t k => XS.iconst X6.here hx rfl (hb hby d8_44) k) ?_
    obtain ⟨fsr14, hrr14, hrunr14, hendedr14, hWr14, hsamer14⟩ := X6.leave (v := some (.int (0 : Int32))) (fun h => by rw [Bd.returns] at h; cases h)
    refine ⟨_, _, (retN X6 hx (t := .boolean) Bd.returns (by simp) (hb hby d8_45) hrr14), hrunr14, hendedr14, _, _, rfl, ?_, ⟨_, rfl⟩, hWr14, hsamer14.mono (by decide) (by decide)⟩
    show Q8 Z a1 a2 w_timestamp_a1 w_timestamp_a2 w_id_a1 w_id_a2 w_word0_w_id_a1 w_word0_w_id_a2 w_word1_w_id_a1 w_word1_w_id_a2 w_word2_w_id_a1 w_word2_w_id_a2 w_word3_w_id_a1 w_word3_w_id_a2 h0 n0 _ T6.heap _
    rw [e6]
    exact ⟨(by unfold own_f8; rw [if_neg hc23_7]), N0, rfl⟩
theorem d8_7 : decode prog_76_method_7_code 7 = .ok (.iconst 0, 1) := by decide +kernel
theorem d8_8 : decode prog_76_method_7_code 8 = .ok (.ireturn, 1) := by decide +kernel
theorem ef_8n (m : MethodId) (x0 : Addr) : entryFrame m #[(.ref x0), .null] 3 = mkF m 0 #[.val (.ref x0), .val .null, .unset] [] := by first | (simp [entryFrame, mkF, argsToLocals, Value.category]; done) | rfl
def own_f8n  : Int32 := (0 : Int32)
def Q8n (Z : State) (a1 : Addr) (h0 : Heap) (n0 : Nat) (v : Option Value) (h : Heap) (L : List Loc) : Prop := v = some (.int own_f8n) ∧ Fr n0 L ∧ h = h0
set_option maxRecDepth 65536 in
set_option maxHeartbeats 40000000 in
theorem rm8n (l : Launch) (Z : State) (a0 : Array Value) (hw : ∀ d ∈ tables_1, d.before a0 Z = true) (ws : List Jvm.Cond) (a1 : Addr) (h0 : Heap) (n0 : Nat) (Z0 : n0 ≤ h0.size) :
    MetFree l (⟨"com/example/rangewise/rangewise/TimestampedId", "equals", "(Ljava/lang/Object;)Z"⟩ : MethodName) (head1 (Jvm.Cond.code (⟨"com/example/rangewise/rangewise/TimestampedId", "equals", "(Ljava/lang/Object;)Z"⟩ : MethodName) prog_76_method_7_code 3 (some .boolean) :: ws) ({ frames := 0, cells := 0, slots := 0, locals := 0 } : Room)) (fun a U => a = #[(.ref a1), .null] ∧ Z.Warmed39 U.vm ∧ U.heap = h0) (fun _ _ _ _ _ => True) (fun _ U o U' => ∃ v L, o = .returned v ∧ Q8n Z a1 h0 n0 v U'.heap L ∧ FrameEnd U o U' L ({ frames := 0, cells := 0, slots := 0, locals := 0 } : Room).cells ({ frames := 0, cells := 0, slots := 0, locals := 0 } : Room).slots) := by
  refine MetFree.of_bodySF (plainFor_of_name pn_8) hisR ?_
  intro p e s m args below meth c s₁ Bd hml0 hP hK
  obtain ⟨rfl, hZ, hh⟩ := hP
  have hx := Bd.exec
  have hby := Bd.bytes
  have hml : c.maxLocals = 3 := hml0
  have hown : s.vm.findClass "com/example/rangewise/rangewise/TimestampedId" = some m.cls := findClass_of_methodNamed Bd.named
  have hnm := (name_of_methodNamed Bd.named Bd.method).1
  have X0 : Stand p l e ({ frames := 0, cells := 0, slots := 0, locals := 0 } : Room) s m #[(.ref a1), .null] below meth c s₁ [] 0 0 := Stand.of_body Bd
  have e0 : s₁.heap = h0 := by rw [← hh, Bd.state]; rfl
  have N0 := Fr.nil n0
  apply own_in
  refine own_pre (B := s₁.setTop (mkF m 0 #[.val (.ref a1), .val .null, .unset] [])) (fun t k => castTop (ef_8n m a1) k) ?_
  refine own_pre (B := s₁.setTop (mkF m 1 #[.val (.ref a1), .val .null, .unset] [.null])) (fun t k => XS.aloadN X0.here hx rfl (hb hby d8_0) rfl rfl k) ?_
  refine own_pre (B := s₁.setTop (mkF m 4 #[.val (.ref a1), .val .null, .unset] [(.int (0 : Int32))])) (fun t k => X0.instanceofNull hx (g := (mkF m 1 #[.val (.ref a1), .val .null, .unset] [.null])) rfl rfl (hb hby d8_1) t k) ?_
  refine own_pre (B := s₁.setTop (mkF m 7 #[.val (.ref a1), .val .null, .unset] [])) (fun t k => XS.ifNo X0.here hx rfl (hb hby d8_4) rfl ((if0 _ _).trans (teq (rfl : (0 : Int32) = (0 : Int32))).2) k) ?_
  refine own_pre (B := s₁.setTop (mkF m 8 #[.val (.ref a1), .val .null, .unset] [(.int (0 : Int32))])) (fun t k => XS.iconst X0.here hx rfl (hb hby d8_7) k) ?_
  obtain ⟨fsr2, hrr2, hrunr2, hendedr2, hWr2, hsamer2⟩ := X0.leave (v := some (.int (0 : Int32))) (fun h => by rw [Bd.returns] at h; cases h)
  refine ⟨_, _, (retN X0 hx (t := .boolean) Bd.returns (by simp) (hb hby d8_8) hrr2), hrunr2, hendedr2, _, _, rfl, ?_, ⟨_, rfl⟩, hWr2, hsamer2.mono (by decide) (by decide)⟩
  show Q8n Z a1 h0 n0 _ s₁.heap _
  rw [e0]
  exact ⟨rfl, N0, rfl⟩
theorem ef_8x (m : MethodId) (x0 : Addr) (x1 : Addr) : entryFrame m #[(.ref x0), (.ref x1)] 3 = mkF m 0 #[.val (.ref x0), .val (.ref x1), .unset] [] := by first | (simp [entryFrame, mkF, argsToLocals, Value.category]; done) | rfl
def own_f8x  : Int32 := (0 : Int32)
def Q8x (Z : State) (a1 : Addr) (a2 : Addr) (h0 : Heap) (n0 : Nat) (v : Option Value) (h : Heap) (L : List Loc) : Prop := v = some (.int own_f8x) ∧ Fr n0 L ∧ h = h0
set_option maxRecDepth 65536 in
set_option maxHeartbeats 40000000 in
theorem rm8x (l : Launch) (Z : State) (a0 : Array Value) (hw : ∀ d ∈ tables_1, d.before a0 Z = true) (ws : List Jvm.Cond) (a1 : Addr) (a2 : Addr) (h0 : Heap) (n0 : Nat) (Z0 : n0 ≤ h0.size) (E_a2 : Exa Z h0 a2 "com/example/rangewise/rangewise/Id") :
    MetFree l (⟨"com/example/rangewise/rangewise/TimestampedId", "equals", "(Ljava/lang/Object;)Z"⟩ : MethodName) (head1 (Jvm.Cond.code (⟨"com/example/rangewise/rangewise/TimestampedId", "equals", "(Ljava/lang/Object;)Z"⟩ : MethodName) prog_76_method_7_code 3 (some .boolean) :: ws) ({ frames := 0, cells := 0, slots := 0, locals := 0 } : Room)) (fun a U => a = #[(.ref a1), (.ref a2)] ∧ Z.Warmed39 U.vm ∧ U.heap = h0) (fun _ _ _ _ _ => True) (fun _ U o U' => ∃ v L, o = .returned v ∧ Q8x Z a1 a2 h0 n0 v U'.heap L ∧ FrameEnd U o U' L ({ frames := 0, cells := 0, slots := 0, locals := 0 } : Room).cells ({ frames := 0, cells := 0, slots := 0, locals := 0 } : Room).slots) := by
  refine MetFree.of_bodySF (plainFor_of_name pn_8) hisR ?_
  intro p e s m args below meth c s₁ Bd hml0 hP hK
  obtain ⟨rfl, hZ, hh⟩ := hP
  have hx := Bd.exec
  have hby := Bd.bytes
  have hml : c.maxLocals = 3 := hml0
  have hown : s.vm.findClass "com/example/rangewise/rangewise/TimestampedId" = some m.cls := findClass_of_methodNamed Bd.named
  have hnm := (name_of_methodNamed Bd.named Bd.method).1
  have X0 : Stand p l e ({ frames := 0, cells := 0, slots := 0, locals := 0 } : Room) s m #[(.ref a1), (.ref a2)] below meth c s₁ [] 0 0 := Stand.of_body Bd
  have e0 : s₁.heap = h0 := by rw [← hh, Bd.state]; rfl
  have N0 := Fr.nil n0
  apply own_in
  refine own_pre (B := s₁.setTop (mkF m 0 #[.val (.ref a1), .val (.ref a2), .unset] [])) (fun t k => castTop (ef_8x m a1 a2) k) ?_
  refine own_pre (B := s₁.setTop (mkF m 1 #[.val (.ref a1), .val (.ref a2), .unset] [(.ref a2)])) (fun t k => XS.aloadN X0.here hx rfl (hb hby d8_0) rfl rfl k) ?_
  obtain ⟨T3, X3, e3, st3⟩ := instNo X0 hx hZ hown (hw _ (ow 53 rfl)) e0 E_a2 (own_not hw) (g := (mkF m 1 #[.val (.ref a1), .val (.ref a2), .unset] [(.ref a2)])) rfl rfl (hb hby d8_1)
  refine own_pre (B := T3.setTop (mkF m 4 #[.val (.ref a1), .val (.ref a2), .unset] [(.int (0 : Int32))])) (fun t k => st3 t k) ?_
  refine own_pre (B := T3.setTop (mkF m 7 #[.val (.ref a1), .val (.ref a2), .unset] [])) (fun t k => XS.ifNo X3.here hx rfl (hb hby d8_4) rfl ((if0 _ _).trans (teq (rfl : (0 : Int32) = (0 : Int32))).2) k) ?_
  refine own_pre (B := T3.setTop (mkF m 8 #[.val (.ref a1), .val (.ref a2), .unset] [(.int (0 : Int32))])) (fun t k => XS.iconst X3.here hx rfl (hb hby d8_7) k) ?_
  obtain ⟨fsr4, hrr4, hrunr4, hendedr4, hWr4, hsamer4⟩ := X3.leave (v := some (.int (0 : Int32))) (fun h => by rw [Bd.returns] at h; cases h)
  refine ⟨_, _, (retN X3 hx (t := .boolean) Bd.returns (by simp) (hb hby d8_8) hrr4), hrunr4, hendedr4, _, _, rfl, ?_, ⟨_, rfl⟩, hWr4, hsamer4.mono (by decide) (by decide)⟩
  show Q8x Z a1 a2 h0 n0 _ T3.heap _
  rw [e3]
  exact ⟨rfl, N0, rfl⟩
theorem own_k (sel : Int32) : (sel &&& 3) = 0 ∨ (sel &&& 3) = 1 ∨ (sel &&& 3) = 2 ∨ (sel &&& 3) = 3 := by
  have m := c_mask sel 3 2 (by decide) (by decide)
  have e0 : (0 : Int32).toInt = 0 := by decide
  have e1 : (1 : Int32).toInt = 1 := by decide
  have e2 : (2 : Int32).toInt = 2 := by decide
  have e3 : (3 : Int32).toInt = 3 := by decide
  rw [← Int32.toInt_inj, ← Int32.toInt_inj, ← Int32.toInt_inj, ← Int32.toInt_inj]
  omega
theorem own_main {a b r o0 o1 o2 o3 z0 z1 z2 z3 : Int64} {sel z : Int32} (h0 : z0 = (if z = 0 then o0 else (if (sel &&& 3) = 0 then r else o0))) (h1 : z1 = (if z = 0 then o1 else (if (sel &&& 3) = 1 then r else o1)))
    (h2 : z2 = (if z = 0 then o2 else (if (sel &&& 3) = 2 then r else o2))) (h3 : z3 = (if z = 0 then o3 else (if (sel &&& 3) = 3 then r else o3))) :
    own_f8 a b o0 z0 o1 z1 o2 z2 o3 z3 = (if a = b then (if z = 0 then (1 : Int32) else (if r = own_f9 (sel &&& 3) o0 o1 o2 o3 then (1 : Int32) else 0)) else 0) := by
  unfold own_f8
  by_cases hab : a = b
  · rw [if_pos hab, if_pos hab]
    unfold own_f10 own_f9
    by_cases hz : z = 0
    · rw [if_pos hz] at h0 h1 h2 h3 ⊢
      subst h0 h1 h2 h3
      simp
    · rw [if_neg hz] at h0 h1 h2 h3 ⊢
      rcases own_k sel with k | k | k | k
      · rw [k] at h0 h1 h2 h3 ⊢
        rw [if_pos rfl] at h0; rw [if_neg (by decide)] at h1 h2 h3
        subst h0 h1 h2 h3
        by_cases hr : o0 = z0 <;> simp [hr, eq_comm]
      · rw [k] at h0 h1 h2 h3 ⊢
        rw [if_pos rfl] at h1; rw [if_neg (by decide)] at h0 h2 h3
        subst h0 h1 h2 h3
        by_cases hr : o1 = z1 <;> simp [hr, eq_comm]
      · rw [k] at h0 h1 h2 h3 ⊢
        rw [if_pos rfl] at h2; rw [if_neg (by decide)] at h0 h1 h3
        subst h0 h1 h2 h3
        by_cases hr : o2 = z2 <;> simp [hr, eq_comm]
      · rw [k] at h0 h1 h2 h3 ⊢
        rw [if_pos rfl] at h3; rw [if_neg (by decide)] at h0 h1 h2
        subst h0 h1 h2 h3
        by_cases hr : o3 = z3 <;> simp [hr, eq_comm]
  · rw [if_neg hab, if_neg hab]
theorem own_sym (a b c d e f g h i j : Int64) : own_f8 a b c d e f g h i j = own_f8 b a d c f e h g j i := by
  unfold own_f8 own_f10; simp only [eq_comm]
theorem own_self (a b c d e : Int64) : ¬ own_f8 a a b b c c d d e e = 0 := by unfold own_f8 own_f10; simp
theorem pd_3 : parseMethodDescriptor "(J)J" = some ⟨[.long], some .long⟩ := by decide +kernel
theorem pd_4 : parseMethodDescriptor "(JJJJ)V" = some ⟨[.long, .long, .long, .long], none⟩ := by decide +kernel
theorem pd_5 : parseMethodDescriptor "(JLcom/example/rangewise/rangewise/Id;)V" = some ⟨[.long, (.object "com/example/rangewise/rangewise/Id")], none⟩ := by decide +kernel
theorem pd_6 : parseMethodDescriptor "(IJJJJ)J" = some ⟨[.int, .long, .long, .long, .long], some .long⟩ := by decide +kernel
theorem pn_0 : plainName "com/example/rangewise/rangewise/TimestampedIdEqualsPinLaw" = true := by first | (simp [plainName, overriddenIn]; done) | decide +kernel
theorem ef_0 (m : MethodId) (x0 : Int64) (x1 : Int64) (x2 : Int64) (x3 : Int64) (x4 : Int64) (x5 : Int32) : entryFrame m #[(.long x0), (.long x1), (.long x2), (.long x3), (.long x4), (.int x5)] maxLocals = mkF m 0 #[.val (.long x0), .second, .val (.long x1), .second, .val (.long x2), .second, .val (.long x3), .second, .val (.long x4), .second, .val (.int x5), .unset, .unset, .unset, .unset, .unset, .unset, .unset, .unset, .unset, .unset, .unset, .unset, .unset, .unset, .unset, .unset, .unset, .unset, .unset, .unset] [] := by first | (simp [entryFrame, mkF, argsToLocals, Value.category, maxLocals]; done) | rfl
def Q0 (Z : State) (q1 : Int64) (q2 : Int64) (q3 : Int64) (q4 : Int64) (q5 : Int64) (p6 : Int32) (h0 : Heap) (n0 : Nat) (v : Option Value) (h : Heap) (L : List Loc) : Prop := v = some (.int 1) ∧ Fr n0 L
set_option maxRecDepth 65536 in
set_option maxHeartbeats 40000000 in
theorem rm0 (l : Launch) (Z : State) (a0 : Array Value) (hw : ∀ d ∈ tables_1, d.before a0 Z = true) (ws : List Jvm.Cond) (q1 : Int64) (q2 : Int64) (q3 : Int64) (q4 : Int64) (q5 : Int64) (p6 : Int32) (h0 : Heap) (n0 : Nat) (Z0 : n0 ≤ h0.size) :
    MetFree l x (head1 (Jvm.Cond.code x code maxLocals ret :: ws) room_1) (fun a U => a = #[(.long q1), (.long q2), (.long q3), (.long q4), (.long q5), (.int p6)] ∧ Z.Warmed39 U.vm ∧ U.heap = h0) (fun _ _ _ _ _ => True) (fun _ U o U' => ∃ v L, o = .returned v ∧ Q0 Z q1 q2 q3 q4 q5 p6 h0 n0 v U'.heap L ∧ FrameEnd U o U' L 4 12) := by
  refine MetFree.of_bodySF (plainFor_of_name pn_0) hisR ?_
  intro p e s m args below meth c s₁ Bd hml0 hP hK
  obtain ⟨rfl, hZ, hh⟩ := hP
  have hx := Bd.exec
  have hby := Bd.bytes
  have hml : c.maxLocals = 31 := hml0
  have hown : s.vm.findClass "com/example/rangewise/rangewise/TimestampedIdEqualsPinLaw" = some m.cls := findClass_of_methodNamed Bd.named
  have hnm := (name_of_methodNamed Bd.named Bd.method).1
  have X0 : Stand p l e room_1 s m #[(.long q1), (.long q2), (.long q3), (.long q4), (.long q5), (.int p6)] below meth c s₁ [] 0 0 := Stand.of_body Bd
  have e0 : s₁.heap = h0 := by rw [← hh, Bd.state]; rfl
  have N0 := Fr.nil n0
  apply own_in
  refine own_pre (B := s₁.setTop (mkF m 0 #[.val (.long q1), .second, .val (.long q2), .second, .val (.long q3), .second, .val (.long q4), .second, .val (.long q5), .second, .val (.int p6), .unset, .unset, .unset, .unset, .unset, .unset, .unset, .unset, .unset, .unset, .unset, .unset, .unset, .unset, .unset, .unset, .unset, .unset, .unset, .unset] [])) (fun t k => castTop (ef_0 m q1 q2 q3 q4 q5 p6) k) ?_
  refine own_pre (B := s₁.setTop (mkF m 1 #[.val (.long q1), .second, .val (.long q2), .second, .val (.long q3), .second, .val (.long q4), .second, .val (.long q5), .second, .val (.int p6), .unset, .unset, .unset, .unset, .unset, .unset, .unset, .unset, .unset, .unset, .unset, .unset, .unset, .unset, .unset, .unset, .unset, .unset, .unset, .unset] [(.long q1)])) (fun t k => XS.lloadN X0.here hx rfl (hb hby at_0) rfl k) ?_
  obtain ⟨_, _, ⟨T7, L7, k7, n7⟩, -, X7, ⟨Lc7, hQ7, l7, y7, z7⟩, st7⟩ := Jvm.LawKit.callS X0 hx (y := (⟨"com/example/rangewise/rangewise/TimestampedIdEqualsPinLaw", "fix", "(J)J"⟩ : MethodName)) hown (mvT hZ (hw _ (ow 0 rfl))) (mvT hZ (hw _ (ow 1 rfl))) (mvT hZ (hw _ (ow 2 rfl))) (mvT hZ (hw _ (ow 3 rfl))) (by decide) (backOf (W := 0) (rm1 l Z a0 hw [] q1 h0 n0 Z0 ) hZ (hw _ (ow 3 rfl)) (hw _ (ow 2 rfl)) (by decide) (by decide)) (g := (mkF m 1 #[.val (.long q1), .second, .val (.long q2), .second, .val (.long q3), .second, .val (.long q4), .second, .val (.long q5), .second, .val (.int p6), .unset, .unset, .unset, .unset, .unset, .unset, .unset, .unset, .unset, .unset, .unset, .unset, .unset, .unset, .unset, .unset, .unset, .unset, .unset, .unset] [(.long q1)])) rfl (by rw [hml]; rfl) (argsL := [(.long q1)]) (rest := []) (lenOf pd_3 rfl) rfl (by show 2 * 0 + _ ≤ _; exact Nat.le_of_eq rfl) (hb hby at_1) (fun _ _ => ⟨rfl, e0, (by decide : 0 + 0 ≤ _), (by decide : 0 + 0 ≤ _)⟩)
  dsimp only [Pt.U, Pt.locs, Pt.cells, Pt.slots] at X7 l7 y7 z7 st7 hQ7
  subst l7 y7 z7
  obtain ⟨rfl, N7q, e7⟩ := hQ7
  have N7 := Fr.app N0 N7q
  refine own_pre (B := T7.setTop (mkF m 4 #[.val (.long q1), .second, .val (.long q2), .second, .val (.long q3), .second, .val (.long q4), .second, .val (.long q5), .second, .val (.int p6), .unset, .unset, .unset, .unset, .unset, .unset, .unset, .unset, .unset, .unset, .unset, .unset, .unset, .unset, .unset, .unset, .unset, .unset, .unset, .unset] [(.long (own_f1 q1))])) (fun t k => st7 t k) ?_
  refine own_pre (B := T7.setTop (mkF m 6 #[.val (.long q1), .second, .val (.long q2), .second, .val (.long q3), .second, .val (.long q4), .second, .val (.long q5), .second, .val (.int p6), .val (.long (own_f1 q1)), .second, .unset, .unset, .unset, .unset, .unset, .unset, .unset, .unset, .unset, .unset, .unset, .unset, .unset, .unset, .unset, .unset, .unset, .unset] [])) (fun t k => XS.lstore X7.here hx rfl (hb hby at_4) rfl (l' := #[.val (.long q1), .second, .val (.long q2), .second, .val (.long q3), .second, .val (.long q4), .second, .val (.long q5), .second, .val (.int p6), .val (.long (own_f1 q1)), .second, .unset, .unset, .unset, .unset, .unset, .unset, .unset, .unset, .unset, .unset, .unset, .unset, .unset, .unset, .unset, .unset, .unset, .unset]) rfl k) ?_
  refine own_pre (B := T7.setTop (mkF m 8 #[.val (.long q1), .second, .val (.long q2), .second, .val (.long q3), .second, .val (.long q4), .second, .val (.long q5), .second, .val (.int p6), .val (.long (own_f1 q1)), .second, .unset, .unset, .unset, .unset, .unset, .unset, .unset, .unset, .unset, .unset, .unset, .unset, .unset, .unset, .unset, .unset, .unset, .unset] [(.int p6)])) (fun t k => XS.iload X7.here hx rfl (hb hby at_6) rfl k) ?_
  refine own_pre (B := T7.setTop (mkF m 10 #[.val (.long q1), .second, .val (.long q2), .second, .val (.long q3), .second, .val (.long q4), .second, .val (.long q5), .second, .val (.int p6), .val (.long (own_f1 q1)), .second, .unset, .unset, .unset, .unset, .unset, .unset, .unset, .unset, .unset, .unset, .unset, .unset, .unset, .unset, .unset, .unset, .unset, .unset] [(.int (8 : Int32)), (.int p6)])) (fun t k => XS.bipush X7.here hx rfl (hb hby at_8) k) ?_
  refine own_pre (B := T7.setTop (mkF m 11 #[.val (.long q1), .second, .val (.long q2), .second, .val (.long q3), .second, .val (.long q4), .second, .val (.long q5), .second, .val (.int p6), .val (.long (own_f1 q1)), .second, .unset, .unset, .unset, .unset, .unset, .unset, .unset, .unset, .unset, .unset, .unset, .unset, .unset, .unset, .unset, .unset, .unset, .unset] [(.int (p6 &&& (8 : Int32)))])) (fun t k => XS.iand X7.here hx rfl (hb hby at_10) rfl k) ?_
  obtain ⟨z8, hz8⟩ : ∃ z : Int64, z = (if (p6 &&& (8 : Int32)) = (0 : Int32) then (own_f1 q2) else (own_f1 q1)) := ⟨_, rfl⟩
  have K10 : Keep h0 h0 [] := (Keep.refl h0 [])
  obtain ⟨_, ⟨T9, h9, L9, rfl, X9, e9, N9, K9j⟩, st9⟩ : own_J p.tables e below (fun B => ∃ (T' : State) (h' : Heap) (L' : List Loc), B = T'.setTop (mkF m 23 #[.val (.long q1), .second, .val (.long q2), .second, .val (.long q3), .second, .val (.long q4), .second, .val (.long q5), .second, .val (.int p6), .val (.long (own_f1 q1)), .second, .unset, .unset, .unset, .unset, .unset, .unset, .unset, .unset, .unset, .unset, .unset, .unset, .unset, .unset, .unset, .unset, .unset, .unset] [(.long z8)]) ∧ Stand p l e room_1 s m #[(.long q1), (.long q2), (.long q3), (.long q4), (.long q5), (.int p6)] below meth c T' L' 0 0 ∧ T'.heap = h' ∧ Fr n0 L' ∧ Keep h0 h' []) (T7.setTop (mkF m 11 #[.val (.long q1), .second, .val (.long q2), .second, .val (.long q3), .second, .val (.long q4), .second, .val (.long q5), .second, .val (.int p6), .val (.long (own_f1 q1)), .second, .unset, .unset, .unset, .unset, .unset, .unset, .unset, .unset, .unset, .unset, .unset, .unset, .unset, .unset, .unset, .unset, .unset, .unset] [(.int (p6 &&& (8 : Int32)))])) := by
    by_cases hc11_11 : (p6 &&& (8 : Int32)) = (0 : Int32)
    · refine own_preJ (B := T7.setTop (mkF m 19 #[.val (.long q1), .second, .val (.long q2), .second, .val (.long q3), .second, .val (.long q4), .second, .val (.long q5), .second, .val (.int p6), .val (.long (own_f1 q1)), .second, .unset, .unset, .unset, .unset, .unset, .unset, .unset, .unset, .unset, .unset, .unset, .unset, .unset, .unset, .unset, .unset, .unset, .unset] [])) (fun t k => XS.ifYes X7.here hx rfl (pc0 := 11) (pc' := 19) rfl (hb hby at_11) rfl ((if0 _ _).trans (teq hc11_11).1) (by decide) (by decide) k) ?_
      refine own_preJ (B := T7.setTop (mkF m 20 #[.val (.long q1), .second, .val (.long q2), .second, .val (.long q3), .second, .val (.long q4), .second, .val (.long q5), .second, .val (.int p6), .val (.long (own_f1 q1)), .second, .unset, .unset, .unset, .unset, .unset, .unset, .unset, .unset, .unset, .unset, .unset, .unset, .unset, .unset, .unset, .unset, .unset, .unset] [(.long q2)])) (fun t k => XS.lloadN X7.here hx rfl (hb hby at_19) rfl k) ?_
      obtain ⟨_, _, ⟨T12, L12, k12, n12⟩, -, X12, ⟨Lc12, hQ12, l12, y12, z12⟩, st12⟩ := Jvm.LawKit.callS X7 hx (y := (⟨"com/example/rangewise/rangewise/TimestampedIdEqualsPinLaw", "fix", "(J)J"⟩ : MethodName)) hown (mvT hZ (hw _ (ow 0 rfl))) (mvT hZ (hw _ (ow 1 rfl))) (mvT hZ (hw _ (ow 2 rfl))) (mvT hZ (hw _ (ow 3 rfl))) (by decide) (backOf (W := 0) (rm1 l Z a0 hw [] q2 h0 n0 Z0 ) hZ (hw _ (ow 3 rfl)) (hw _ (ow 2 rfl)) (by decide) (by decide)) (g := (mkF m 20 #[.val (.long q1), .second, .val (.long q2), .second, .val (.long q3), .second, .val (.long q4), .second, .val (.long q5), .second, .val (.int p6), .val (.long (own_f1 q1)), .second, .unset, .unset, .unset, .unset, .unset, .unset, .unset, .unset, .unset, .unset, .unset, .unset, .unset, .unset, .unset, .unset, .unset, .unset] [(.long q2)])) rfl (by rw [hml]; rfl) (argsL := [(.long q2)]) (rest := []) (lenOf pd_3 rfl) rfl (by show 2 * 0 + _ ≤ _; exact Nat.le_of_eq rfl) (hb hby at_20) (fun _ _ => ⟨rfl, e7, (by decide : 0 + 0 ≤ _), (by decide : 0 + 0 ≤ _)⟩)
      dsimp only [Pt.U, Pt.locs, Pt.cells, Pt.slots] at X12 l12 y12 z12 st12 hQ12
      subst l12 y12 z12
      obtain ⟨rfl, N12q, e12⟩ := hQ12
      have N12 := Fr.app N7 N12q
      refine own_preJ (B := T12.setTop (mkF m 23 #[.val (.long q1), .second, .val (.long q2), .second, .val (.long q3), .second, .val (.long q4), .second, .val (.long q5), .second, .val (.int p6), .val (.long (own_f1 q1)), .second, .unset, .unset, .unset, .unset, .unset, .unset, .unset, .unset, .unset, .unset, .unset, .unset, .unset, .unset, .unset, .unset, .unset, .unset] [(.long (own_f1 q2))])) (fun t k => st12 t k) ?_
      rw [if_pos hc11_11] at hz8
      subst hz8
      exact ⟨_, ⟨_, _, _, rfl, own_more X12 (by decide) (by decide), e12, N12, K10⟩, fun t k => k⟩
    · refine own_preJ (B := T7.setTop (mkF m 14 #[.val (.long q1), .second, .val (.long q2), .second, .val (.long q3), .second, .val (.long q4), .second, .val (.long q5), .second, .val (.int p6), .val (.long (own_f1 q1)), .second, .unset, .unset, .unset, .unset, .unset, .unset, .unset, .unset, .unset, .unset, .unset, .unset, .unset, .unset, .unset, .unset, .unset, .unset] [])) (fun t k => XS.ifNo X7.here hx rfl (hb hby at_11) rfl ((if0 _ _).trans (feq hc11_11).1) k) ?_
      refine own_preJ (B := T7.setTop (mkF m 16 #[.val (.long q1), .second, .val (.long q2), .second, .val (.long q3), .second, .val (.long q4), .second, .val (.long q5), .second, .val (.int p6), .val (.long (own_f1 q1)), .second, .unset, .unset, .unset, .unset, .unset, .unset, .unset, .unset, .unset, .unset, .unset, .unset, .unset, .unset, .unset, .unset, .unset, .unset] [(.long (own_f1 q1))])) (fun t k => XS.lload X7.here hx rfl (hb hby at_14) rfl k) ?_
      refine own_preJ (B := T7.setTop (mkF m 23 #[.val (.long q1), .second, .val (.long q2), .second, .val (.long q3), .second, .val (.long q4), .second, .val (.long q5), .second, .val (.int p6), .val (.long (own_f1 q1)), .second, .unset, .unset, .unset, .unset, .unset, .unset, .unset, .unset, .unset, .unset, .unset, .unset, .unset, .unset, .unset, .unset, .unset, .unset] [(.long (own_f1 q1))])) (fun t k => XS.goto X7.here hx rfl (pc0 := 16) (pc' := 23) rfl (hb hby at_16) (by decide) (by decide) k) ?_
      rw [if_neg hc11_11] at hz8
      subst hz8
      exact ⟨_, ⟨_, _, _, rfl, own_more X7 (by decide) (by decide), e7, N7, K10⟩, fun t k => k⟩
  refine own_pre (B := T9.setTop (mkF m 23 #[.val (.long q1), .second, .val (.long q2), .second, .val (.long q3), .second, .val (.long q4), .second, .val (.long q5), .second, .val (.int p6), .val (.long (own_f1 q1)), .second, .unset, .unset, .unset, .unset, .unset, .unset, .unset, .unset, .unset, .unset, .unset, .unset, .unset, .unset, .unset, .unset, .unset, .unset] [(.long z8)])) (fun t k => st9 t k) ?_
  refine own_pre (B := T9.setTop (mkF m 25 #[.val (.long q1), .second, .val (.long q2), .second, .val (.long q3), .second, .val (.long q4), .second, .val (.long q5), .second, .val (.int p6), .val (.long (own_f1 q1)), .second, .val (.long z8), .second, .unset, .unset, .unset, .unset, .unset, .unset, .unset, .unset, .unset, .unset, .unset, .unset, .unset, .unset, .unset, .unset] [])) (fun t k => XS.lstore X9.here hx rfl (hb hby at_23) rfl (l' := #[.val (.long q1), .second, .val (.long q2), .second, .val (.long q3), .second, .val (.long q4), .second, .val (.long q5), .second, .val (.int p6), .val (.long (own_f1 q1)), .second, .val (.long z8), .second, .unset, .unset, .unset, .unset, .unset, .unset, .unset, .unset, .unset, .unset, .unset, .unset, .unset, .unset, .unset, .unset]) rfl k) ?_
  refine own_pre (B := T9.setTop (mkF m 27 #[.val (.long q1), .second, .val (.long q2), .second, .val (.long q3), .second, .val (.long q4), .second, .val (.long q5), .second, .val (.int p6), .val (.long (own_f1 q1)), .second, .val (.long z8), .second, .unset, .unset, .unset, .unset, .unset, .unset, .unset, .unset, .unset, .unset, .unset, .unset, .unset, .unset, .unset, .unset] [(.int p6)])) (fun t k => XS.iload X9.here hx rfl (hb hby at_25) rfl k) ?_
  refine own_pre (B := T9.setTop (mkF m 28 #[.val (.long q1), .second, .val (.long q2), .second, .val (.long q3), .second, .val (.long q4), .second, .val (.long q5), .second, .val (.int p6), .val (.long (own_f1 q1)), .second, .val (.long z8), .second, .unset, .unset, .unset, .unset, .unset, .unset, .unset, .unset, .unset, .unset, .unset, .unset, .unset, .unset, .unset, .unset] [(.int (3 : Int32)), (.int p6)])) (fun t k => XS.iconst X9.here hx rfl (hb hby at_27) k) ?_
  refine own_pre (B := T9.setTop (mkF m 29 #[.val (.long q1), .second, .val (.long q2), .second, .val (.long q3), .second, .val (.long q4), .second, .val (.long q5), .second, .val (.int p6), .val (.long (own_f1 q1)), .second, .val (.long z8), .second, .unset, .unset, .unset, .unset, .unset, .unset, .unset, .unset, .unset, .unset, .unset, .unset, .unset, .unset, .unset, .unset] [(.int (p6 &&& (3 : Int32)))])) (fun t k => XS.iand X9.here hx rfl (hb hby at_28) rfl k) ?_
  refine own_pre (B := T9.setTop (mkF m 31 #[.val (.long q1), .second, .val (.long q2), .second, .val (.long q3), .second, .val (.long q4), .second, .val (.long q5), .second, .val (.int p6), .val (.long (own_f1 q1)), .second, .val (.long z8), .second, .val (.int (p6 &&& (3 : Int32))), .unset, .unset, .unset, .unset, .unset, .unset, .unset, .unset, .unset, .unset, .unset, .unset, .unset, .unset, .unset] [])) (fun t k => XS.istore X9.here hx rfl (hb hby at_29) rfl (l' := #[.val (.long q1), .second, .val (.long q2), .second, .val (.long q3), .second, .val (.long q4), .second, .val (.long q5), .second, .val (.int p6), .val (.long (own_f1 q1)), .second, .val (.long z8), .second, .val (.int (p6 &&& (3 : Int32))), .unset, .unset, .unset, .unset, .unset, .unset, .unset, .unset, .unset, .unset, .unset, .unset, .unset, .unset, .unset]) rfl k) ?_
  refine own_pre (B := T9.setTop (mkF m 33 #[.val (.long q1), .second, .val (.long q2), .second, .val (.long q3), .second, .val (.long q4), .second, .val (.long q5), .second, .val (.int p6), .val (.long (own_f1 q1)), .second, .val (.long z8), .second, .val (.int (p6 &&& (3 : Int32))), .unset, .unset, .unset, .unset, .unset, .unset, .unset, .unset, .unset, .unset, .unset, .unset, .unset, .unset, .unset] [(.int p6)])) (fun t k => XS.iload X9.here hx rfl (hb hby at_31) rfl k) ?_
  refine own_pre (B := T9.setTop (mkF m 34 #[.val (.long q1), .second, .val (.long q2), .second, .val (.long q3), .second, .val (.long q4), .second, .val (.long q5), .second, .val (.int p6), .val (.long (own_f1 q1)), .second, .val (.long z8), .second, .val (.int (p6 &&& (3 : Int32))), .unset, .unset, .unset, .unset, .unset, .unset, .unset, .unset, .unset, .unset, .unset, .unset, .unset, .unset, .unset] [(.int (4 : Int32)), (.int p6)])) (fun t k => XS.iconst X9.here hx rfl (hb hby at_33) k) ?_
  refine own_pre (B := T9.setTop (mkF m 35 #[.val (.long q1), .second, .val (.long q2), .second, .val (.long q3), .second, .val (.long q4), .second, .val (.long q5), .second, .val (.int p6), .val (.long (own_f1 q1)), .second, .val (.long z8), .second, .val (.int (p6 &&& (3 : Int32))), .unset, .unset, .unset, .unset, .unset, .unset, .unset, .unset, .unset, .unset, .unset, .unset, .unset, .unset, .unset] [(.int (p6 &&& (4 : Int32)))])) (fun t k => XS.iand X9.here hx rfl (hb hby at_34) rfl k) ?_
  obtain ⟨z13, hz13⟩ : ∃ z : Int32, z = (if (p6 &&& (4 : Int32)) = (0 : Int32) then (0 : Int32) else (1 : Int32)) := ⟨_, rfl⟩
  refine own_pre (B := T9.setTop (mkF m 43 #[.val (.long q1), .second, .val (.long q2), .second, .val (.long q3), .second, .val (.long q4), .second, .val (.long q5), .second, .val (.int p6), .val (.long (own_f1 q1)), .second, .val (.long z8), .second, .val (.int (p6 &&& (3 : Int32))), .unset, .unset, .unset, .unset, .unset, .unset, .unset, .unset, .unset, .unset, .unset, .unset, .unset, .unset, .unset] [(.int z13)])) (fun t k => ?_) ?_
  · by_cases hc35_14 : (p6 &&& (4 : Int32)) = (0 : Int32)
    · refine XS.ifYes X9.here hx rfl (pc0 := 35) (pc' := 42) rfl (hb hby at_35) rfl ((if0 _ _).trans (teq hc35_14).1) (by decide) (by decide) ?_
      show Steps p.tables e below (T9.setTop (mkF m 42 #[.val (.long q1), .second, .val (.long q2), .second, .val (.long q3), .second, .val (.long q4), .second, .val (.long q5), .second, .val (.int p6), .val (.long (own_f1 q1)), .second, .val (.long z8), .second, .val (.int (p6 &&& (3 : Int32))), .unset, .unset, .unset, .unset, .unset, .unset, .unset, .unset, .unset, .unset, .unset, .unset, .unset, .unset, .unset] [])) _
      refine XS.iconst X9.here hx rfl (hb hby at_42) ?_
      show Steps p.tables e below (T9.setTop (mkF m 43 #[.val (.long q1), .second, .val (.long q2), .second, .val (.long q3), .second, .val (.long q4), .second, .val (.long q5), .second, .val (.int p6), .val (.long (own_f1 q1)), .second, .val (.long z8), .second, .val (.int (p6 &&& (3 : Int32))), .unset, .unset, .unset, .unset, .unset, .unset, .unset, .unset, .unset, .unset, .unset, .unset, .unset, .unset, .unset] [(.int (0 : Int32))])) _
      rw [if_pos hc35_14] at hz13
      subst hz13
      exact k
    · refine XS.ifNo X9.here hx rfl (hb hby at_35) rfl ((if0 _ _).trans (feq hc35_14).1) ?_
      show Steps p.tables e below (T9.setTop (mkF m 38 #[.val (.long q1), .second, .val (.long q2), .second, .val (.long q3), .second, .val (.long q4), .second, .val (.long q5), .second, .val (.int p6), .val (.long (own_f1 q1)), .second, .val (.long z8), .second, .val (.int (p6 &&& (3 : Int32))), .unset, .unset, .unset, .unset, .unset, .unset, .unset, .unset, .unset, .unset, .unset, .unset, .unset, .unset, .unset] [])) _
      refine XS.iconst X9.here hx rfl (hb hby at_38) ?_
      show Steps p.tables e below (T9.setTop (mkF m 39 #[.val (.long q1), .second, .val (.long q2), .second, .val (.long q3), .second, .val (.long q4), .second, .val (.long q5), .second, .val (.int p6), .val (.long (own_f1 q1)), .second, .val (.long z8), .second, .val (.int (p6 &&& (3 : Int32))), .unset, .unset, .unset, .unset, .unset, .unset, .unset, .unset, .unset, .unset, .unset, .unset, .unset, .unset, .unset] [(.int (1 : Int32))])) _
      refine XS.goto X9.here hx rfl (pc0 := 39) (pc' := 43) rfl (hb hby at_39) (by decide) (by decide) ?_
      show Steps p.tables e below (T9.setTop (mkF m 43 #[.val (.long q1), .second, .val (.long q2), .second, .val (.long q3), .second, .val (.long q4), .second, .val (.long q5), .second, .val (.int p6), .val (.long (own_f1 q1)), .second, .val (.long z8), .second, .val (.int (p6 &&& (3 : Int32))), .unset, .unset, .unset, .unset, .unset, .unset, .unset, .unset, .unset, .unset, .unset, .unset, .unset, .unset, .unset] [(.int (1 : Int32))])) _
      rw [if_neg hc35_14] at hz13
      subst hz13
      exact k
  refine own_pre (B := T9.setTop (mkF m 45 #[.val (.long q1), .second, .val (.long q2), .second, .val (.long q3), .second, .val (.long q4), .second, .val (.long q5), .second, .val (.int p6), .val (.long (own_f1 q1)), .second, .val (.long z8), .second, .val (.int (p6 &&& (3 : Int32))), .val (.int z13), .unset, .unset, .unset, .unset, .unset, .unset, .unset, .unset, .unset, .unset, .unset, .unset, .unset, .unset] [])) (fun t k => XS.istore X9.here hx rfl (hb hby at_43) rfl (l' := #[.val (.long q1), .second, .val (.long q2), .second, .val (.long q3), .second, .val (.long q4), .second, .val (.long q5), .second, .val (.int p6), .val (.long (own_f1 q1)), .second, .val (.long z8), .second, .val (.int (p6 &&& (3 : Int32))), .val (.int z13), .unset, .unset, .unset, .unset, .unset, .unset, .unset, .unset, .unset, .unset, .unset, .unset, .unset, .unset]) rfl k) ?_
  refine own_pre (B := T9.setTop (mkF m 47 #[.val (.long q1), .second, .val (.long q2), .second, .val (.long q3), .second, .val (.long q4), .second, .val (.long q5), .second, .val (.int p6), .val (.long (own_f1 q1)), .second, .val (.long z8), .second, .val (.int (p6 &&& (3 : Int32))), .val (.int z13), .unset, .unset, .unset, .unset, .unset, .unset, .unset, .unset, .unset, .unset, .unset, .unset, .unset, .unset] [(.int p6)])) (fun t k => XS.iload X9.here hx rfl (hb hby at_45) rfl k) ?_
  refine own_pre (B := T9.setTop (mkF m 48 #[.val (.long q1), .second, .val (.long q2), .second, .val (.long q3), .second, .val (.long q4), .second, .val (.long q5), .second, .val (.int p6), .val (.long (own_f1 q1)), .second, .val (.long z8), .second, .val (.int (p6 &&& (3 : Int32))), .val (.int z13), .unset, .unset, .unset, .unset, .unset, .unset, .unset, .unset, .unset, .unset, .unset, .unset, .unset, .unset] [(.int (4 : Int32)), (.int p6)])) (fun t k => XS.iconst X9.here hx rfl (hb hby at_47) k) ?_
  refine own_pre (B := T9.setTop (mkF m 49 #[.val (.long q1), .second, .val (.long q2), .second, .val (.long q3), .second, .val (.long q4), .second, .val (.long q5), .second, .val (.int p6), .val (.long (own_f1 q1)), .second, .val (.long z8), .second, .val (.int (p6 &&& (3 : Int32))), .val (.int z13), .unset, .unset, .unset, .unset, .unset, .unset, .unset, .unset, .unset, .unset, .unset, .unset, .unset, .unset] [(.int ((p6.toUInt32 >>> ((4 : Int32) &&& 31).toUInt32).toInt32))])) (fun t k => XS.iushr X9.here hx rfl (hb hby at_48) rfl k) ?_
  refine own_pre (B := T9.setTop (mkF m 50 #[.val (.long q1), .second, .val (.long q2), .second, .val (.long q3), .second, .val (.long q4), .second, .val (.long q5), .second, .val (.int p6), .val (.long (own_f1 q1)), .second, .val (.long z8), .second, .val (.int (p6 &&& (3 : Int32))), .val (.int z13), .unset, .unset, .unset, .unset, .unset, .unset, .unset, .unset, .unset, .unset, .unset, .unset, .unset, .unset] [(.int (3 : Int32)), (.int ((p6.toUInt32 >>> ((4 : Int32) &&& 31).toUInt32).toInt32))])) (fun t k => XS.iconst X9.here hx rfl (hb hby at_49) k) ?_
  refine own_pre (B := T9.setTop (mkF m 51 #[.val (.long q1), .second, .val (.long q2), .second, .val (.long q3), .second, .val (.long q4), .second, .val (.long q5), .second, .val (.int p6), .val (.long (own_f1 q1)), .second, .val (.long z8), .second, .val (.int (p6 &&& (3 : Int32))), .val (.int z13), .unset, .unset, .unset, .unset, .unset, .unset, .unset, .unset, .unset, .unset, .unset, .unset, .unset, .unset] [(.int (((p6.toUInt32 >>> ((4 : Int32) &&& 31).toUInt32).toInt32) &&& (3 : Int32)))])) (fun t k => XS.iand X9.here hx rfl (hb hby at_50) rfl k) ?_
  refine own_pre (B := T9.setTop (mkF m 53 #[.val (.long q1), .second, .val (.long q2), .second, .val (.long q3), .second, .val (.long q4), .second, .val (.long q5), .second, .val (.int p6), .val (.long (own_f1 q1)), .second, .val (.long z8), .second, .val (.int (p6 &&& (3 : Int32))), .val (.int z13), .val (.int (((p6.toUInt32 >>> ((4 : Int32) &&& 31).toUInt32).toInt32) &&& (3 : Int32))), .unset, .unset, .unset, .unset, .unset, .unset, .unset, .unset, .unset, .unset, .unset, .unset, .unset] [])) (fun t k => XS.istore X9.here hx rfl (hb hby at_51) rfl (l' := #[.val (.long q1), .second, .val (.long q2), .second, .val (.long q3), .second, .val (.long q4), .second, .val (.long q5), .second, .val (.int p6), .val (.long (own_f1 q1)), .second, .val (.long z8), .second, .val (.int (p6 &&& (3 : Int32))), .val (.int z13), .val (.int (((p6.toUInt32 >>> ((4 : Int32) &&& 31).toUInt32).toInt32) &&& (3 : Int32))), .unset, .unset, .unset, .unset, .unset, .unset, .unset, .unset, .unset, .unset, .unset, .unset, .unset]) rfl k) ?_
  refine own_pre (B := T9.setTop (mkF m 55 #[.val (.long q1), .second, .val (.long q2), .second, .val (.long q3), .second, .val (.long q4), .second, .val (.long q5), .second, .val (.int p6), .val (.long (own_f1 q1)), .second, .val (.long z8), .second, .val (.int (p6 &&& (3 : Int32))), .val (.int z13), .val (.int (((p6.toUInt32 >>> ((4 : Int32) &&& 31).toUInt32).toInt32) &&& (3 : Int32))), .unset, .unset, .unset, .unset, .unset, .unset, .unset, .unset, .unset, .unset, .unset, .unset, .unset] [(.long q3)])) (fun t k => XS.lload X9.here hx rfl (hb hby at_53) rfl k) ?_
  refine own_pre (B := T9.setTop (mkF m 57 #[.val (.long q1), .second, .val (.long q2), .second, .val (.long q3), .second, .val (.long q4), .second, .val (.long q5), .second, .val (.int p6), .val (.long (own_f1 q1)), .second, .val (.long z8), .second, .val (.int (p6 &&& (3 : Int32))), .val (.int z13), .val (.int (((p6.toUInt32 >>> ((4 : Int32) &&& 31).toUInt32).toInt32) &&& (3 : Int32))), .val (.long q3), .second, .unset, .unset, .unset, .unset, .unset, .unset, .unset, .unset, .unset, .unset, .unset] [])) (fun t k => XS.lstore X9.here hx rfl (hb hby at_55) rfl (l' := #[.val (.long q1), .second, .val (.long q2), .second, .val (.long q3), .second, .val (.long q4), .second, .val (.long q5), .second, .val (.int p6), .val (.long (own_f1 q1)), .second, .val (.long z8), .second, .val (.int (p6 &&& (3 : Int32))), .val (.int z13), .val (.int (((p6.toUInt32 >>> ((4 : Int32) &&& 31).toUInt32).toInt32) &&& (3 : Int32))), .val (.long q3), .second, .unset, .unset, .unset, .unset, .unset, .unset, .unset, .unset, .unset, .unset, .unset]) rfl k) ?_
  refine own_pre (B := T9.setTop (mkF m 59 #[.val (.long q1), .second, .val (.long q2), .second, .val (.long q3), .second, .val (.long q4), .second, .val (.long q5), .second, .val (.int p6), .val (.long (own_f1 q1)), .second, .val (.long z8), .second, .val (.int (p6 &&& (3 : Int32))), .val (.int z13), .val (.int (((p6.toUInt32 >>> ((4 : Int32) &&& 31).toUInt32).toInt32) &&& (3 : Int32))), .val (.long q3), .second, .unset, .unset, .unset, .unset, .unset, .unset, .unset, .unset, .unset, .unset, .unset] [(.long q4)])) (fun t k => XS.lload X9.here hx rfl (hb hby at_57) rfl k) ?_
  refine own_pre (B := T9.setTop (mkF m 61 #[.val (.long q1), .second, .val (.long q2), .second, .val (.long q3), .second, .val (.long q4), .second, .val (.long q5), .second, .val (.int p6), .val (.long (own_f1 q1)), .second, .val (.long z8), .second, .val (.int (p6 &&& (3 : Int32))), .val (.int z13), .val (.int (((p6.toUInt32 >>> ((4 : Int32) &&& 31).toUInt32).toInt32) &&& (3 : Int32))), .val (.long q3), .second, .val (.long q4), .second, .unset, .unset, .unset, .unset, .unset, .unset, .unset, .unset, .unset] [])) (fun t k => XS.lstore X9.here hx rfl (hb hby at_59) rfl (l' := #[.val (.long q1), .second, .val (.long q2), .second, .val (.long q3), .second, .val (.long q4), .second, .val (.long q5), .second, .val (.int p6), .val (.long (own_f1 q1)), .second, .val (.long z8), .second, .val (.int (p6 &&& (3 : Int32))), .val (.int z13), .val (.int (((p6.toUInt32 >>> ((4 : Int32) &&& 31).toUInt32).toInt32) &&& (3 : Int32))), .val (.long q3), .second, .val (.long q4), .second, .unset, .unset, .unset, .unset, .unset, .unset, .unset, .unset, .unset]) rfl k) ?_
  refine own_pre (B := T9.setTop (mkF m 63 #[.val (.long q1), .second, .val (.long q2), .second, .val (.long q3), .second, .val (.long q4), .second, .val (.long q5), .second, .val (.int p6), .val (.long (own_f1 q1)), .second, .val (.long z8), .second, .val (.int (p6 &&& (3 : Int32))), .val (.int z13), .val (.int (((p6.toUInt32 >>> ((4 : Int32) &&& 31).toUInt32).toInt32) &&& (3 : Int32))), .val (.long q3), .second, .val (.long q4), .second, .unset, .unset, .unset, .unset, .unset, .unset, .unset, .unset, .unset] [(.long q3)])) (fun t k => XS.lload X9.here hx rfl (hb hby at_61) rfl k) ?_
  refine own_pre (B := T9.setTop (mkF m 66 #[.val (.long q1), .second, .val (.long q2), .second, .val (.long q3), .second, .val (.long q4), .second, .val (.long q5), .second, .val (.int p6), .val (.long (own_f1 q1)), .second, .val (.long z8), .second, .val (.int (p6 &&& (3 : Int32))), .val (.int z13), .val (.int (((p6.toUInt32 >>> ((4 : Int32) &&& 31).toUInt32).toInt32) &&& (3 : Int32))), .val (.long q3), .second, .val (.long q4), .second, .unset, .unset, .unset, .unset, .unset, .unset, .unset, .unset, .unset] [(.long (-1 : Int64)), (.long q3)])) (fun t k => X9.ldc2Long hx hown (mvT hZ (hw _ (ow 4 rfl))) (g := (mkF m 63 #[.val (.long q1), .second, .val (.long q2), .second, .val (.long q3), .second, .val (.long q4), .second, .val (.long q5), .second, .val (.int p6), .val (.long (own_f1 q1)), .second, .val (.long z8), .second, .val (.int (p6 &&& (3 : Int32))), .val (.int z13), .val (.int (((p6.toUInt32 >>> ((4 : Int32) &&& 31).toUInt32).toInt32) &&& (3 : Int32))), .val (.long q3), .second, .val (.long q4), .second, .unset, .unset, .unset, .unset, .unset, .unset, .unset, .unset, .unset] [(.long q3)])) rfl (hb hby at_63) _ k) ?_
  refine own_pre (B := T9.setTop (mkF m 67 #[.val (.long q1), .second, .val (.long q2), .second, .val (.long q3), .second, .val (.long q4), .second, .val (.long q5), .second, .val (.int p6), .val (.long (own_f1 q1)), .second, .val (.long z8), .second, .val (.int (p6 &&& (3 : Int32))), .val (.int z13), .val (.int (((p6.toUInt32 >>> ((4 : Int32) &&& 31).toUInt32).toInt32) &&& (3 : Int32))), .val (.long q3), .second, .val (.long q4), .second, .unset, .unset, .unset, .unset, .unset, .unset, .unset, .unset, .unset] [(.long (q3 ^^^ (-1 : Int64)))])) (fun t k => XS.lxor X9.here hx rfl (hb hby at_66) rfl k) ?_
  refine own_pre (B := T9.setTop (mkF m 69 #[.val (.long q1), .second, .val (.long q2), .second, .val (.long q3), .second, .val (.long q4), .second, .val (.long q5), .second, .val (.int p6), .val (.long (own_f1 q1)), .second, .val (.long z8), .second, .val (.int (p6 &&& (3 : Int32))), .val (.int z13), .val (.int (((p6.toUInt32 >>> ((4 : Int32) &&& 31).toUInt32).toInt32) &&& (3 : Int32))), .val (.long q3), .second, .val (.long q4), .second, .val (.long (q3 ^^^ (-1 : Int64))), .second, .unset, .unset, .unset, .unset, .unset, .unset, .unset] [])) (fun t k => XS.lstore X9.here hx rfl (hb hby at_67) rfl (l' := #[.val (.long q1), .second, .val (.long q2), .second, .val (.long q3), .second, .val (.long q4), .second, .val (.long q5), .second, .val (.int p6), .val (.long (own_f1 q1)), .second, .val (.long z8), .second, .val (.int (p6 &&& (3 : Int32))), .val (.int z13), .val (.int (((p6.toUInt32 >>> ((4 : Int32) &&& 31).toUInt32).toInt32) &&& (3 : Int32))), .val (.long q3), .second, .val (.long q4), .second, .val (.long (q3 ^^^ (-1 : Int64))), .second, .unset, .unset, .unset, .unset, .unset, .unset, .unset]) rfl k) ?_
  refine own_pre (B := T9.setTop (mkF m 71 #[.val (.long q1), .second, .val (.long q2), .second, .val (.long q3), .second, .val (.long q4), .second, .val (.long q5), .second, .val (.int p6), .val (.long (own_f1 q1)), .second, .val (.long z8), .second, .val (.int (p6 &&& (3 : Int32))), .val (.int z13), .val (.int (((p6.toUInt32 >>> ((4 : Int32) &&& 31).toUInt32).toInt32) &&& (3 : Int32))), .val (.long q3), .second, .val (.long q4), .second, .val (.long (q3 ^^^ (-1 : Int64))), .second, .unset, .unset, .unset, .unset, .unset, .unset, .unset] [(.long q4)])) (fun t k => XS.lload X9.here hx rfl (hb hby at_69) rfl k) ?_
  refine own_pre (B := T9.setTop (mkF m 74 #[.val (.long q1), .second, .val (.long q2), .second, .val (.long q3), .second, .val (.long q4), .second, .val (.long q5), .second, .val (.int p6), .val (.long (own_f1 q1)), .second, .val (.long z8), .second, .val (.int (p6 &&& (3 : Int32))), .val (.int z13), .val (.int (((p6.toUInt32 >>> ((4 : Int32) &&& 31).toUInt32).toInt32) &&& (3 : Int32))), .val (.long q3), .second, .val (.long q4), .second, .val (.long (q3 ^^^ (-1 : Int64))), .second, .unset, .unset, .unset, .unset, .unset, .unset, .unset] [(.long (-1 : Int64)), (.long q4)])) (fun t k => X9.ldc2Long hx hown (mvT hZ (hw _ (ow 4 rfl))) (g := (mkF m 71 #[.val (.long q1), .second, .val (.long q2), .second, .val (.long q3), .second, .val (.long q4), .second, .val (.long q5), .second, .val (.int p6), .val (.long (own_f1 q1)), .second, .val (.long z8), .second, .val (.int (p6 &&& (3 : Int32))), .val (.int z13), .val (.int (((p6.toUInt32 >>> ((4 : Int32) &&& 31).toUInt32).toInt32) &&& (3 : Int32))), .val (.long q3), .second, .val (.long q4), .second, .val (.long (q3 ^^^ (-1 : Int64))), .second, .unset, .unset, .unset, .unset, .unset, .unset, .unset] [(.long q4)])) rfl (hb hby at_71) _ k) ?_
  refine own_pre (B := T9.setTop (mkF m 75 #[.val (.long q1), .second, .val (.long q2), .second, .val (.long q3), .second, .val (.long q4), .second, .val (.long q5), .second, .val (.int p6), .val (.long (own_f1 q1)), .second, .val (.long z8), .second, .val (.int (p6 &&& (3 : Int32))), .val (.int z13), .val (.int (((p6.toUInt32 >>> ((4 : Int32) &&& 31).toUInt32).toInt32) &&& (3 : Int32))), .val (.long q3), .second, .val (.long q4), .second, .val (.long (q3 ^^^ (-1 : Int64))), .second, .unset, .unset, .unset, .unset, .unset, .unset, .unset] [(.long (q4 ^^^ (-1 : Int64)))])) (fun t k => XS.lxor X9.here hx rfl (hb hby at_74) rfl k) ?_
  refine own_pre (B := T9.setTop (mkF m 77 #[.val (.long q1), .second, .val (.long q2), .second, .val (.long q3), .second, .val (.long q4), .second, .val (.long q5), .second, .val (.int p6), .val (.long (own_f1 q1)), .second, .val (.long z8), .second, .val (.int (p6 &&& (3 : Int32))), .val (.int z13), .val (.int (((p6.toUInt32 >>> ((4 : Int32) &&& 31).toUInt32).toInt32) &&& (3 : Int32))), .val (.long q3), .second, .val (.long q4), .second, .val (.long (q3 ^^^ (-1 : Int64))), .second, .val (.long (q4 ^^^ (-1 : Int64))), .second, .unset, .unset, .unset, .unset, .unset] [])) (fun t k => XS.lstore X9.here hx rfl (hb hby at_75) rfl (l' := #[.val (.long q1), .second, .val (.long q2), .second, .val (.long q3), .second, .val (.long q4), .second, .val (.long q5), .second, .val (.int p6), .val (.long (own_f1 q1)), .second, .val (.long z8), .second, .val (.int (p6 &&& (3 : Int32))), .val (.int z13), .val (.int (((p6.toUInt32 >>> ((4 : Int32) &&& 31).toUInt32).toInt32) &&& (3 : Int32))), .val (.long q3), .second, .val (.long q4), .second, .val (.long (q3 ^^^ (-1 : Int64))), .second, .val (.long (q4 ^^^ (-1 : Int64))), .second, .unset, .unset, .unset, .unset, .unset]) rfl k) ?_
  obtain ⟨T15, h15, X15, e15, E15, A15, D15, -, st15⟩ := newO X9 hx hZ hown (hw _ (ow 5 rfl)) (hw _ (ow 6 rfl)) (hw _ (ow 7 rfl)) e9 (g := (mkF m 77 #[.val (.long q1), .second, .val (.long q2), .second, .val (.long q3), .second, .val (.long q4), .second, .val (.long q5), .second, .val (.int p6), .val (.long (own_f1 q1)), .second, .val (.long z8), .second, .val (.int (p6 &&& (3 : Int32))), .val (.int z13), .val (.int (((p6.toUInt32 >>> ((4 : Int32) &&& 31).toUInt32).toInt32) &&& (3 : Int32))), .val (.long q3), .second, .val (.long q4), .second, .val (.long (q3 ^^^ (-1 : Int64))), .second, .val (.long (q4 ^^^ (-1 : Int64))), .second, .unset, .unset, .unset, .unset, .unset] [])) rfl (hb hby at_77) (by decide) (by decide)
  have sz16 : n0 ≤ h9.size := (Nat.le_trans Z0 K9j.1)
  obtain ⟨b15, g15⟩ : ∃ z, z = h9.size := ⟨_, rfl⟩
  rw [← g15] at A15 D15 st15
  have g_b15 : n0 ≤ b15 := Nat.le_trans sz16 (Nat.le_of_eq g15.symm)
  have s_b15 : h0.size ≤ b15 := Nat.le_trans K9j.1 (Nat.le_of_eq g15.symm)
  have F_word0_b15 : Fld Z h15 b15 "com/example/rangewise/rangewise/Id" "word0" "J" (.long (0 : Int64)) := D15 (Or.inr (hw _ (ow 15 rfl))) (ty := .long) (by decide)
  have F_word1_b15 : Fld Z h15 b15 "com/example/rangewise/rangewise/Id" "word1" "J" (.long (0 : Int64)) := D15 (Or.inr (hw _ (ow 17 rfl))) (ty := .long) (by decide)
  have F_word2_b15 : Fld Z h15 b15 "com/example/rangewise/rangewise/Id" "word2" "J" (.long (0 : Int64)) := D15 (Or.inr (hw _ (ow 19 rfl))) (ty := .long) (by decide)
  have F_word3_b15 : Fld Z h15 b15 "com/example/rangewise/rangewise/Id" "word3" "J" (.long (0 : Int64)) := D15 (Or.inr (hw _ (ow 21 rfl))) (ty := .long) (by decide)
  refine own_pre (B := T15.setTop (mkF m 80 #[.val (.long q1), .second, .val (.long q2), .second, .val (.long q3), .second, .val (.long q4), .second, .val (.long q5), .second, .val (.int p6), .val (.long (own_f1 q1)), .second, .val (.long z8), .second, .val (.int (p6 &&& (3 : Int32))), .val (.int z13), .val (.int (((p6.toUInt32 >>> ((4 : Int32) &&& 31).toUInt32).toInt32) &&& (3 : Int32))), .val (.long q3), .second, .val (.long q4), .second, .val (.long (q3 ^^^ (-1 : Int64))), .second, .val (.long (q4 ^^^ (-1 : Int64))), .second, .unset, .unset, .unset, .unset, .unset] [(.ref b15)])) (fun t k => st15 t k) ?_
  refine own_pre (B := T15.setTop (mkF m 81 #[.val (.long q1), .second, .val (.long q2), .second, .val (.long q3), .second, .val (.long q4), .second, .val (.long q5), .second, .val (.int p6), .val (.long (own_f1 q1)), .second, .val (.long z8), .second, .val (.int (p6 &&& (3 : Int32))), .val (.int z13), .val (.int (((p6.toUInt32 >>> ((4 : Int32) &&& 31).toUInt32).toInt32) &&& (3 : Int32))), .val (.long q3), .second, .val (.long q4), .second, .val (.long (q3 ^^^ (-1 : Int64))), .second, .val (.long (q4 ^^^ (-1 : Int64))), .second, .unset, .unset, .unset, .unset, .unset] [(.ref b15), (.ref b15)])) (fun t k => XS.dup X15.here hx rfl (hb hby at_80) rfl rfl k) ?_
  refine own_pre (B := T15.setTop (mkF m 83 #[.val (.long q1), .second, .val (.long q2), .second, .val (.long q3), .second, .val (.long q4), .second, .val (.long q5), .second, .val (.int p6), .val (.long (own_f1 q1)), .second, .val (.long z8), .second, .val (.int (p6 &&& (3 : Int32))), .val (.int z13), .val (.int (((p6.toUInt32 >>> ((4 : Int32) &&& 31).toUInt32).toInt32) &&& (3 : Int32))), .val (.long q3), .second, .val (.long q4), .second, .val (.long (q3 ^^^ (-1 : Int64))), .second, .val (.long (q4 ^^^ (-1 : Int64))), .second, .unset, .unset, .unset, .unset, .unset] [(.long q3), (.ref b15), (.ref b15)])) (fun t k => XS.lload X15.here hx rfl (hb hby at_81) rfl k) ?_
  refine own_pre (B := T15.setTop (mkF m 85 #[.val (.long q1), .second, .val (.long q2), .second, .val (.long q3), .second, .val (.long q4), .second, .val (.long q5), .second, .val (.int p6), .val (.long (own_f1 q1)), .second, .val (.long z8), .second, .val (.int (p6 &&& (3 : Int32))), .val (.int z13), .val (.int (((p6.toUInt32 >>> ((4 : Int32) &&& 31).toUInt32).toInt32) &&& (3 : Int32))), .val (.long q3), .second, .val (.long q4), .second, .val (.long (q3 ^^^ (-1 : Int64))), .second, .val (.long (q4 ^^^ (-1 : Int64))), .second, .unset, .unset, .unset, .unset, .unset] [(.long q4), (.long q3), (.ref b15), (.ref b15)])) (fun t k => XS.lload X15.here hx rfl (hb hby at_83) rfl k) ?_
  refine own_pre (B := T15.setTop (mkF m 87 #[.val (.long q1), .second, .val (.long q2), .second, .val (.long q3), .second, .val (.long q4), .second, .val (.long q5), .second, .val (.int p6), .val (.long (own_f1 q1)), .second, .val (.long z8), .second, .val (.int (p6 &&& (3 : Int32))), .val (.int z13), .val (.int (((p6.toUInt32 >>> ((4 : Int32) &&& 31).toUInt32).toInt32) &&& (3 : Int32))), .val (.long q3), .second, .val (.long q4), .second, .val (.long (q3 ^^^ (-1 : Int64))), .second, .val (.long (q4 ^^^ (-1 : Int64))), .second, .unset, .unset, .unset, .unset, .unset] [(.long (q3 ^^^ (-1 : Int64))), (.long q4), (.long q3), (.ref b15), (.ref b15)])) (fun t k => XS.lload X15.here hx rfl (hb hby at_85) rfl k) ?_
  refine own_pre (B := T15.setTop (mkF m 89 #[.val (.long q1), .second, .val (.long q2), .second, .val (.long q3), .second, .val (.long q4), .second, .val (.long q5), .second, .val (.int p6), .val (.long (own_f1 q1)), .second, .val (.long z8), .second, .val (.int (p6 &&& (3 : Int32))), .val (.int z13), .val (.int (((p6.toUInt32 >>> ((4 : Int32) &&& 31).toUInt32).toInt32) &&& (3 : Int32))), .val (.long q3), .second, .val (.long q4), .second, .val (.long (q3 ^^^ (-1 : Int64))), .second, .val (.long (q4 ^^^ (-1 : Int64))), .second, .unset, .unset, .unset, .unset, .unset] [(.long (q4 ^^^ (-1 : Int64))), (.long (q3 ^^^ (-1 : Int64))), (.long q4), (.long q3), (.ref b15), (.ref b15)])) (fun t k => XS.lload X15.here hx rfl (hb hby at_87) rfl k) ?_
  have sz17 : n0 ≤ h15.size := (Nat.le_trans sz16 E15.1)
  obtain ⟨_, _, ⟨T18, L18, k18, n18⟩, -, X18, ⟨Lc18, hQ18, l18, y18, z18⟩, st18⟩ := X15.specialBack hx (y := (⟨"com/example/rangewise/rangewise/Id", "<init>", "(JJJJ)V"⟩ : MethodName)) rfl hown (mvT hZ (hw _ (ow 8 rfl))) (mvT hZ (hw _ (ow 9 rfl))) (mvT hZ (hw _ (ow 10 rfl))) (by decide) (backOf (W := 1) (rm2 l Z a0 hw [] b15 q3 q4 (q3 ^^^ (-1 : Int64)) (q4 ^^^ (-1 : Int64)) (.long (0 : Int64)) (.long (0 : Int64)) (.long (0 : Int64)) (.long (0 : Int64)) h15 n0 sz17 A15 F_word0_b15 g_b15 F_word1_b15 F_word2_b15 F_word3_b15) hZ (hw _ (ow 10 rfl)) (hw _ (ow 7 rfl)) (by decide) (by decide)) (g := (mkF m 89 #[.val (.long q1), .second, .val (.long q2), .second, .val (.long q3), .second, .val (.long q4), .second, .val (.long q5), .second, .val (.int p6), .val (.long (own_f1 q1)), .second, .val (.long z8), .second, .val (.int (p6 &&& (3 : Int32))), .val (.int z13), .val (.int (((p6.toUInt32 >>> ((4 : Int32) &&& 31).toUInt32).toInt32) &&& (3 : Int32))), .val (.long q3), .second, .val (.long q4), .second, .val (.long (q3 ^^^ (-1 : Int64))), .second, .val (.long (q4 ^^^ (-1 : Int64))), .second, .unset, .unset, .unset, .unset, .unset] [(.long (q4 ^^^ (-1 : Int64))), (.long (q3 ^^^ (-1 : Int64))), (.long q4), (.long q3), (.ref b15), (.ref b15)])) rfl (by rw [hml]; rfl) (Steps.refl _) (a := b15) (argsL := [(.long q3), (.long q4), (.long (q3 ^^^ (-1 : Int64))), (.long (q4 ^^^ (-1 : Int64)))]) (rest := [(.ref b15)]) (lenOf pd_4 rfl) rfl (by show 2 * 0 + _ ≤ _; exact Nat.le_of_eq rfl) (hb hby at_89) (fun _ _ => ⟨rfl, e15, (by decide : 1 + 0 ≤ _), (by decide : 4 + 0 ≤ _)⟩)
  dsimp only [Pt.U, Pt.locs, Pt.cells, Pt.slots] at X18 l18 y18 z18 st18 hQ18
  subst l18 y18 z18
  obtain ⟨rfl, N18q, K18, q18_0, q18_1, q18_2, q18_3, q18_4⟩ := hQ18
  have N18 := Fr.app N9 N18q
  have K19 : Keep h0 h15 [] := (Keep.ext K9j E15)
  refine own_pre (B := T18.setTop (mkF m 92 #[.val (.long q1), .second, .val (.long q2), .second, .val (.long q3), .second, .val (.long q4), .second, .val (.long q5), .second, .val (.int p6), .val (.long (own_f1 q1)), .second, .val (.long z8), .second, .val (.int (p6 &&& (3 : Int32))), .val (.int z13), .val (.int (((p6.toUInt32 >>> ((4 : Int32) &&& 31).toUInt32).toInt32) &&& (3 : Int32))), .val (.long q3), .second, .val (.long q4), .second, .val (.long (q3 ^^^ (-1 : Int64))), .second, .val (.long (q4 ^^^ (-1 : Int64))), .second, .unset, .unset, .unset, .unset, .unset] [(.ref b15)])) (fun t k => st18.trans k) ?_
  refine own_pre (B := T18.setTop (mkF m 94 #[.val (.long q1), .second, .val (.long q2), .second, .val (.long q3), .second, .val (.long q4), .second, .val (.long q5), .second, .val (.int p6), .val (.long (own_f1 q1)), .second, .val (.long z8), .second, .val (.int (p6 &&& (3 : Int32))), .val (.int z13), .val (.int (((p6.toUInt32 >>> ((4 : Int32) &&& 31).toUInt32).toInt32) &&& (3 : Int32))), .val (.long q3), .second, .val (.long q4), .second, .val (.long (q3 ^^^ (-1 : Int64))), .second, .val (.long (q4 ^^^ (-1 : Int64))), .second, .val (.ref b15), .unset, .unset, .unset, .unset] [])) (fun t k => XS.astore X18.here hx rfl (hb hby at_92) rfl rfl (l' := #[.val (.long q1), .second, .val (.long q2), .second, .val (.long q3), .second, .val (.long q4), .second, .val (.long q5), .second, .val (.int p6), .val (.long (own_f1 q1)), .second, .val (.long z8), .second, .val (.int (p6 &&& (3 : Int32))), .val (.int z13), .val (.int (((p6.toUInt32 >>> ((4 : Int32) &&& 31).toUInt32).toInt32) &&& (3 : Int32))), .val (.long q3), .second, .val (.long q4), .second, .val (.long (q3 ^^^ (-1 : Int64))), .second, .val (.long (q4 ^^^ (-1 : Int64))), .second, .val (.ref b15), .unset, .unset, .unset, .unset]) rfl k) ?_
  have K20 : Keep h0 T18.heap [] := (Keep.trans K19 K18 (allS (P := fun x => x ∈ [] ∨ h0.size ≤ x) (Or.inr s_b15) all0))
  obtain ⟨T21, h21, X21, e21, E21, A21, D21, -, st21⟩ := newO X18 hx hZ hown (hw _ (ow 5 rfl)) (hw _ (ow 6 rfl)) (hw _ (ow 7 rfl)) rfl (g := (mkF m 94 #[.val (.long q1), .second, .val (.long q2), .second, .val (.long q3), .second, .val (.long q4), .second, .val (.long q5), .second, .val (.int p6), .val (.long (own_f1 q1)), .second, .val (.long z8), .second, .val (.int (p6 &&& (3 : Int32))), .val (.int z13), .val (.int (((p6.toUInt32 >>> ((4 : Int32) &&& 31).toUInt32).toInt32) &&& (3 : Int32))), .val (.long q3), .second, .val (.long q4), .second, .val (.long (q3 ^^^ (-1 : Int64))), .second, .val (.long (q4 ^^^ (-1 : Int64))), .second, .val (.ref b15), .unset, .unset, .unset, .unset] [])) rfl (hb hby at_94) (by decide) (by decide)
  have sz22 : n0 ≤ T18.heap.size := (Nat.le_trans sz17 K18.1)
  obtain ⟨b21, g21⟩ : ∃ z, z = T18.heap.size := ⟨_, rfl⟩
  rw [← g21] at A21 D21 st21
  have g_b21 : n0 ≤ b21 := Nat.le_trans sz22 (Nat.le_of_eq g21.symm)
  have s_b21 : h0.size ≤ b21 := Nat.le_trans K20.1 (Nat.le_of_eq g21.symm)
  have ne23 : b15 ≠ b21 := Nat.ne_of_lt (Nat.lt_of_lt_of_le (Exa.lt q18_0) (Nat.le_of_eq g21.symm))
  have F_word0_b21 : Fld Z h21 b21 "com/example/rangewise/rangewise/Id" "word0" "J" (.long (0 : Int64)) := D21 (Or.inr (hw _ (ow 15 rfl))) (ty := .long) (by decide)
  have F_word1_b21 : Fld Z h21 b21 "com/example/rangewise/rangewise/Id" "word1" "J" (.long (0 : Int64)) := D21 (Or.inr (hw _ (ow 17 rfl))) (ty := .long) (by decide)
  have F_word2_b21 : Fld Z h21 b21 "com/example/rangewise/rangewise/Id" "word2" "J" (.long (0 : Int64)) := D21 (Or.inr (hw _ (ow 19 rfl))) (ty := .long) (by decide)
  have F_word3_b21 : Fld Z h21 b21 "com/example/rangewise/rangewise/Id" "word3" "J" (.long (0 : Int64)) := D21 (Or.inr (hw _ (ow 21 rfl))) (ty := .long) (by decide)
  refine own_pre (B := T21.setTop (mkF m 97 #[.val (.long q1), .second, .val (.long q2), .second, .val (.long q3), .second, .val (.long q4), .second, .val (.long q5), .second, .val (.int p6), .val (.long (own_f1 q1)), .second, .val (.long z8), .second, .val (.int (p6 &&& (3 : Int32))), .val (.int z13), .val (.int (((p6.toUInt32 >>> ((4 : Int32) &&& 31).toUInt32).toInt32) &&& (3 : Int32))), .val (.long q3), .second, .val (.long q4), .second, .val (.long (q3 ^^^ (-1 : Int64))), .second, .val (.long (q4 ^^^ (-1 : Int64))), .second, .val (.ref b15), .unset, .unset, .unset, .unset] [(.ref b21)])) (fun t k => st21 t k) ?_
  refine own_pre (B := T21.setTop (mkF m 98 #[.val (.long q1), .second, .val (.long q2), .second, .val (.long q3), .second, .val (.long q4), .second, .val (.long q5), .second, .val (.int p6), .val (.long (own_f1 q1)), .second, .val (.long z8), .second, .val (.int (p6 &&& (3 : Int32))), .val (.int z13), .val (.int (((p6.toUInt32 >>> ((4 : Int32) &&& 31).toUInt32).toInt32) &&& (3 : Int32))), .val (.long q3), .second, .val (.long q4), .second, .val (.long (q3 ^^^ (-1 : Int64))), .second, .val (.long (q4 ^^^ (-1 : Int64))), .second, .val (.ref b15), .unset, .unset, .unset, .unset] [(.ref b21), (.ref b21)])) (fun t k => XS.dup X21.here hx rfl (hb hby at_97) rfl rfl k) ?_
  refine own_pre (B := T21.setTop (mkF m 100 #[.val (.long q1), .second, .val (.long q2), .second, .val (.long q3), .second, .val (.long q4), .second, .val (.long q5), .second, .val (.int p6), .val (.long (own_f1 q1)), .second, .val (.long z8), .second, .val (.int (p6 &&& (3 : Int32))), .val (.int z13), .val (.int (((p6.toUInt32 >>> ((4 : Int32) &&& 31).toUInt32).toInt32) &&& (3 : Int32))), .val (.long q3), .second, .val (.long q4), .second, .val (.long (q3 ^^^ (-1 : Int64))), .second, .val (.long (q4 ^^^ (-1 : Int64))), .second, .val (.ref b15), .unset, .unset, .unset, .unset] [(.int z13), (.ref b21), (.ref b21)])) (fun t k => XS.iload X21.here hx rfl (hb hby at_98) rfl k) ?_
  obtain ⟨z24, hz24⟩ : ∃ z : Int64, z = (if z13 = (0 : Int32) then q3 else (if (p6 &&& (3 : Int32)) = (0 : Int32) then q5 else q3)) := ⟨_, rfl⟩
  refine own_pre (B := T21.setTop (mkF m 115 #[.val (.long q1), .second, .val (.long q2), .second, .val (.long q3), .second, .val (.long q4), .second, .val (.long q5), .second, .val (.int p6), .val (.long (own_f1 q1)), .second, .val (.long z8), .second, .val (.int (p6 &&& (3 : Int32))), .val (.int z13), .val (.int (((p6.toUInt32 >>> ((4 : Int32) &&& 31).toUInt32).toInt32) &&& (3 : Int32))), .val (.long q3), .second, .val (.long q4), .second, .val (.long (q3 ^^^ (-1 : Int64))), .second, .val (.long (q4 ^^^ (-1 : Int64))), .second, .val (.ref b15), .unset, .unset, .unset, .unset] [(.long z24), (.ref b21), (.ref b21)])) (fun t k => ?_) ?_
  · by_cases hc100_25 : z13 = (0 : Int32)
    · refine XS.ifYes X21.here hx rfl (pc0 := 100) (pc' := 113) rfl (hb hby at_100) rfl ((if0 _ _).trans (teq hc100_25).1) (by decide) (by decide) ?_
      show Steps p.tables e below (T21.setTop (mkF m 113 #[.val (.long q1), .second, .val (.long q2), .second, .val (.long q3), .second, .val (.long q4), .second, .val (.long q5), .second, .val (.int p6), .val (.long (own_f1 q1)), .second, .val (.long z8), .second, .val (.int (p6 &&& (3 : Int32))), .val (.int z13), .val (.int (((p6.toUInt32 >>> ((4 : Int32) &&& 31).toUInt32).toInt32) &&& (3 : Int32))), .val (.long q3), .second, .val (.long q4), .second, .val (.long (q3 ^^^ (-1 : Int64))), .second, .val (.long (q4 ^^^ (-1 : Int64))), .second, .val (.ref b15), .unset, .unset, .unset, .unset] [(.ref b21), (.ref b21)])) _
      refine XS.lload X21.here hx rfl (hb hby at_113) rfl ?_
      show Steps p.tables e below (T21.setTop (mkF m 115 #[.val (.long q1), .second, .val (.long q2), .second, .val (.long q3), .second, .val (.long q4), .second, .val (.long q5), .second, .val (.int p6), .val (.long (own_f1 q1)), .second, .val (.long z8), .second, .val (.int (p6 &&& (3 : Int32))), .val (.int z13), .val (.int (((p6.toUInt32 >>> ((4 : Int32) &&& 31).toUInt32).toInt32) &&& (3 : Int32))), .val (.long q3), .second, .val (.long q4), .second, .val (.long (q3 ^^^ (-1 : Int64))), .second, .val (.long (q4 ^^^ (-1 : Int64))), .second, .val (.ref b15), .unset, .unset, .unset, .unset] [(.long q3), (.ref b21), (.ref b21)])) _
      rw [if_pos hc100_25] at hz24
      subst hz24
      exact k
    · refine XS.ifNo X21.here hx rfl (hb hby at_100) rfl ((if0 _ _).trans (feq hc100_25).1) ?_
      show Steps p.tables e below (T21.setTop (mkF m 103 #[.val (.long q1), .second, .val (.long q2), .second, .val (.long q3), .second, .val (.long q4), .second, .val (.long q5), .second, .val (.int p6), .val (.long (own_f1 q1)), .second, .val (.long z8), .second, .val (.int (p6 &&& (3 : Int32))), .val (.int z13), .val (.int (((p6.toUInt32 >>> ((4 : Int32) &&& 31).toUInt32).toInt32) &&& (3 : Int32))), .val (.long q3), .second, .val (.long q4), .second, .val (.long (q3 ^^^ (-1 : Int64))), .second, .val (.long (q4 ^^^ (-1 : Int64))), .second, .val (.ref b15), .unset, .unset, .unset, .unset] [(.ref b21), (.ref b21)])) _
      refine XS.iload X21.here hx rfl (hb hby at_103) rfl ?_
      show Steps p.tables e below (T21.setTop (mkF m 105 #[.val (.long q1), .second, .val (.long q2), .second, .val (.long q3), .second, .val (.long q4), .second, .val (.long q5), .second, .val (.int p6), .val (.long (own_f1 q1)), .second, .val (.long z8), .second, .val (.int (p6 &&& (3 : Int32))), .val (.int z13), .val (.int (((p6.toUInt32 >>> ((4 : Int32) &&& 31).toUInt32).toInt32) &&& (3 : Int32))), .val (.long q3), .second, .val (.long q4), .second, .val (.long (q3 ^^^ (-1 : Int64))), .second, .val (.long (q4 ^^^ (-1 : Int64))), .second, .val (.ref b15), .unset, .unset, .unset, .unset] [(.int (p6 &&& (3 : Int32))), (.ref b21), (.ref b21)])) _
      by_cases hc105_26 : (p6 &&& (3 : Int32)) = (0 : Int32)
      · refine XS.ifNo X21.here hx rfl (hb hby at_105) rfl ((if0 _ _).trans (teq hc105_26).2) ?_
        show Steps p.tables e below (T21.setTop (mkF m 108 #[.val (.long q1), .second, .val (.long q2), .second, .val (.long q3), .second, .val (.long q4), .second, .val (.long q5), .second, .val (.int p6), .val (.long (own_f1 q1)), .second, .val (.long z8), .second, .val (.int (p6 &&& (3 : Int32))), .val (.int z13), .val (.int (((p6.toUInt32 >>> ((4 : Int32) &&& 31).toUInt32).toInt32) &&& (3 : Int32))), .val (.long q3), .second, .val (.long q4), .second, .val (.long (q3 ^^^ (-1 : Int64))), .second, .val (.long (q4 ^^^ (-1 : Int64))), .second, .val (.ref b15), .unset, .unset, .unset, .unset] [(.ref b21), (.ref b21)])) _
        refine XS.lload X21.here hx rfl (hb hby at_108) rfl ?_
        show Steps p.tables e below (T21.setTop (mkF m 110 #[.val (.long q1), .second, .val (.long q2), .second, .val (.long q3), .second, .val (.long q4), .second, .val (.long q5), .second, .val (.int p6), .val (.long (own_f1 q1)), .second, .val (.long z8), .second, .val (.int (p6 &&& (3 : Int32))), .val (.int z13), .val (.int (((p6.toUInt32 >>> ((4 : Int32) &&& 31).toUInt32).toInt32) &&& (3 : Int32))), .val (.long q3), .second, .val (.long q4), .second, .val (.long (q3 ^^^ (-1 : Int64))), .second, .val (.long (q4 ^^^ (-1 : Int64))), .second, .val (.ref b15), .unset, .unset, .unset, .unset] [(.long q5), (.ref b21), (.ref b21)])) _
        refine XS.goto X21.here hx rfl (pc0 := 110) (pc' := 115) rfl (hb hby at_110) (by decide) (by decide) ?_
        show Steps p.tables e below (T21.setTop (mkF m 115 #[.val (.long q1), .second, .val (.long q2), .second, .val (.long q3), .second, .val (.long q4), .second, .val (.long q5), .second, .val (.int p6), .val (.long (own_f1 q1)), .second, .val (.long z8), .second, .val (.int (p6 &&& (3 : Int32))), .val (.int z13), .val (.int (((p6.toUInt32 >>> ((4 : Int32) &&& 31).toUInt32).toInt32) &&& (3 : Int32))), .val (.long q3), .second, .val (.long q4), .second, .val (.long (q3 ^^^ (-1 : Int64))), .second, .val (.long (q4 ^^^ (-1 : Int64))), .second, .val (.ref b15), .unset, .unset, .unset, .unset] [(.long q5), (.ref b21), (.ref b21)])) _
        rw [if_neg hc100_25, if_pos hc105_26] at hz24
        subst hz24
        exact k
      · refine XS.ifYes X21.here hx rfl (pc0 := 105) (pc' := 113) rfl (hb hby at_105) rfl ((if0 _ _).trans (feq hc105_26).2) (by decide) (by decide) ?_
        show Steps p.tables e below (T21.setTop (mkF m 113 #[.val (.long q1), .second, .val (.long q2), .second, .val (.long q3), .second, .val (.long q4), .second, .val (.long q5), .second, .val (.int p6), .val (.long (own_f1 q1)), .second, .val (.long z8), .second, .val (.int (p6 &&& (3 : Int32))), .val (.int z13), .val (.int (((p6.toUInt32 >>> ((4 : Int32) &&& 31).toUInt32).toInt32) &&& (3 : Int32))), .val (.long q3), .second, .val (.long q4), .second, .val (.long (q3 ^^^ (-1 : Int64))), .second, .val (.long (q4 ^^^ (-1 : Int64))), .second, .val (.ref b15), .unset, .unset, .unset, .unset] [(.ref b21), (.ref b21)])) _
        refine XS.lload X21.here hx rfl (hb hby at_113) rfl ?_
        show Steps p.tables e below (T21.setTop (mkF m 115 #[.val (.long q1), .second, .val (.long q2), .second, .val (.long q3), .second, .val (.long q4), .second, .val (.long q5), .second, .val (.int p6), .val (.long (own_f1 q1)), .second, .val (.long z8), .second, .val (.int (p6 &&& (3 : Int32))), .val (.int z13), .val (.int (((p6.toUInt32 >>> ((4 : Int32) &&& 31).toUInt32).toInt32) &&& (3 : Int32))), .val (.long q3), .second, .val (.long q4), .second, .val (.long (q3 ^^^ (-1 : Int64))), .second, .val (.long (q4 ^^^ (-1 : Int64))), .second, .val (.ref b15), .unset, .unset, .unset, .unset] [(.long q3), (.ref b21), (.ref b21)])) _
        rw [if_neg hc100_25, if_neg hc105_26] at hz24
        subst hz24
        exact k
  refine own_pre (B := T21.setTop (mkF m 117 #[.val (.long q1), .second, .val (.long q2), .second, .val (.long q3), .second, .val (.long q4), .second, .val (.long q5), .second, .val (.int p6), .val (.long (own_f1 q1)), .second, .val (.long z8), .second, .val (.int (p6 &&& (3 : Int32))), .val (.int z13), .val (.int (((p6.toUInt32 >>> ((4 : Int32) &&& 31).toUInt32).toInt32) &&& (3 : Int32))), .val (.long q3), .second, .val (.long q4), .second, .val (.long (q3 ^^^ (-1 : Int64))), .second, .val (.long (q4 ^^^ (-1 : Int64))), .second, .val (.ref b15), .unset, .unset, .unset, .unset] [(.int z13), (.long z24), (.ref b21), (.ref b21)])) (fun t k => XS.iload X21.here hx rfl (hb hby at_115) rfl k) ?_
  obtain ⟨z27, hz27⟩ : ∃ z : Int64, z = (if z13 = (0 : Int32) then q4 else (if (p6 &&& (3 : Int32)) = (1 : Int32) then q5 else q4)) := ⟨_, rfl⟩
  refine own_pre (B := T21.setTop (mkF m 133 #[.val (.long q1), .second, .val (.long q2), .second, .val (.long q3), .second, .val (.long q4), .second, .val (.long q5), .second, .val (.int p6), .val (.long (own_f1 q1)), .second, .val (.long z8), .second, .val (.int (p6 &&& (3 : Int32))), .val (.int z13), .val (.int (((p6.toUInt32 >>> ((4 : Int32) &&& 31).toUInt32).toInt32) &&& (3 : Int32))), .val (.long q3), .second, .val (.long q4), .second, .val (.long (q3 ^^^ (-1 : Int64))), .second, .val (.long (q4 ^^^ (-1 : Int64))), .second, .val (.ref b15), .unset, .unset, .unset, .unset] [(.long z27), (.long z24), (.ref b21), (.ref b21)])) (fun t k => ?_) ?_
  · by_cases hc117_28 : z13 = (0 : Int32)
    · refine XS.ifYes X21.here hx rfl (pc0 := 117) (pc' := 131) rfl (hb hby at_117) rfl ((if0 _ _).trans (teq hc117_28).1) (by decide) (by decide) ?_
      show Steps p.tables e below (T21.setTop (mkF m 131 #[.val (.long q1), .second, .val (.long q2), .second, .val (.long q3), .second, .val (.long q4), .second, .val (.long q5), .second, .val (.int p6), .val (.long (own_f1 q1)), .second, .val (.long z8), .second, .val (.int (p6 &&& (3 : Int32))), .val (.int z13), .val (.int (((p6.toUInt32 >>> ((4 : Int32) &&& 31).toUInt32).toInt32) &&& (3 : Int32))), .val (.long q3), .second, .val (.long q4), .second, .val (.long (q3 ^^^ (-1 : Int64))), .second, .val (.long (q4 ^^^ (-1 : Int64))), .second, .val (.ref b15), .unset, .unset, .unset, .unset] [(.long z24), (.ref b21), (.ref b21)])) _
      refine XS.lload X21.here hx rfl (hb hby at_131) rfl ?_
      show Steps p.tables e below (T21.setTop (mkF m 133 #[.val (.long q1), .second, .val (.long q2), .second, .val (.long q3), .second, .val (.long q4), .second, .val (.long q5), .second, .val (.int p6), .val (.long (own_f1 q1)), .second, .val (.long z8), .second, .val (.int (p6 &&& (3 : Int32))), .val (.int z13), .val (.int (((p6.toUInt32 >>> ((4 : Int32) &&& 31).toUInt32).toInt32) &&& (3 : Int32))), .val (.long q3), .second, .val (.long q4), .second, .val (.long (q3 ^^^ (-1 : Int64))), .second, .val (.long (q4 ^^^ (-1 : Int64))), .second, .val (.ref b15), .unset, .unset, .unset, .unset] [(.long q4), (.long z24), (.ref b21), (.ref b21)])) _
      rw [if_pos hc117_28] at hz27
      subst hz27
      exact k
    · refine XS.ifNo X21.here hx rfl (hb hby at_117) rfl ((if0 _ _).trans (feq hc117_28).1) ?_
      show Steps p.tables e below (T21.setTop (mkF m 120 #[.val (.long q1), .second, .val (.long q2), .second, .val (.long q3), .second, .val (.long q4), .second, .val (.long q5), .second, .val (.int p6), .val (.long (own_f1 q1)), .second, .val (.long z8), .second, .val (.int (p6 &&& (3 : Int32))), .val (.int z13), .val (.int (((p6.toUInt32 >>> ((4 : Int32) &&& 31).toUInt32).toInt32) &&& (3 : Int32))), .val (.long q3), .second, .val (.long q4), .second, .val (.long (q3 ^^^ (-1 : Int64))), .second, .val (.long (q4 ^^^ (-1 : Int64))), .second, .val (.ref b15), .unset, .unset, .unset, .unset] [(.long z24), (.ref b21), (.ref b21)])) _
      refine XS.iload X21.here hx rfl (hb hby at_120) rfl ?_
      show Steps p.tables e below (T21.setTop (mkF m 122 #[.val (.long q1), .second, .val (.long q2), .second, .val (.long q3), .second, .val (.long q4), .second, .val (.long q5), .second, .val (.int p6), .val (.long (own_f1 q1)), .second, .val (.long z8), .second, .val (.int (p6 &&& (3 : Int32))), .val (.int z13), .val (.int (((p6.toUInt32 >>> ((4 : Int32) &&& 31).toUInt32).toInt32) &&& (3 : Int32))), .val (.long q3), .second, .val (.long q4), .second, .val (.long (q3 ^^^ (-1 : Int64))), .second, .val (.long (q4 ^^^ (-1 : Int64))), .second, .val (.ref b15), .unset, .unset, .unset, .unset] [(.int (p6 &&& (3 : Int32))), (.long z24), (.ref b21), (.ref b21)])) _
      refine XS.iconst X21.here hx rfl (hb hby at_122) ?_
      show Steps p.tables e below (T21.setTop (mkF m 123 #[.val (.long q1), .second, .val (.long q2), .second, .val (.long q3), .second, .val (.long q4), .second, .val (.long q5), .second, .val (.int p6), .val (.long (own_f1 q1)), .second, .val (.long z8), .second, .val (.int (p6 &&& (3 : Int32))), .val (.int z13), .val (.int (((p6.toUInt32 >>> ((4 : Int32) &&& 31).toUInt32).toInt32) &&& (3 : Int32))), .val (.long q3), .second, .val (.long q4), .second, .val (.long (q3 ^^^ (-1 : Int64))), .second, .val (.long (q4 ^^^ (-1 : Int64))), .second, .val (.ref b15), .unset, .unset, .unset, .unset] [(.int (1 : Int32)), (.int (p6 &&& (3 : Int32))), (.long z24), (.ref b21), (.ref b21)])) _
      by_cases hc123_29 : (p6 &&& (3 : Int32)) = (1 : Int32)
      · refine XS.icmpNo X21.here hx rfl (hb hby at_123) rfl (teq hc123_29).2 ?_
        show Steps p.tables e below (T21.setTop (mkF m 126 #[.val (.long q1), .second, .val (.long q2), .second, .val (.long q3), .second, .val (.long q4), .second, .val (.long q5), .second, .val (.int p6), .val (.long (own_f1 q1)), .second, .val (.long z8), .second, .val (.int (p6 &&& (3 : Int32))), .val (.int z13), .val (.int (((p6.toUInt32 >>> ((4 : Int32) &&& 31).toUInt32).toInt32) &&& (3 : Int32))), .val (.long q3), .second, .val (.long q4), .second, .val (.long (q3 ^^^ (-1 : Int64))), .second, .val (.long (q4 ^^^ (-1 : Int64))), .second, .val (.ref b15), .unset, .unset, .unset, .unset] [(.long z24), (.ref b21), (.ref b21)])) _
        refine XS.lload X21.here hx rfl (hb hby at_126) rfl ?_
        show Steps p.tables e below (T21.setTop (mkF m 128 #[.val (.long q1), .second, .val (.long q2), .second, .val (.long q3), .second, .val (.long q4), .second, .val (.long q5), .second, .val (.int p6), .val (.long (own_f1 q1)), .second, .val (.long z8), .second, .val (.int (p6 &&& (3 : Int32))), .val (.int z13), .val (.int (((p6.toUInt32 >>> ((4 : Int32) &&& 31).toUInt32).toInt32) &&& (3 : Int32))), .val (.long q3), .second, .val (.long q4), .second, .val (.long (q3 ^^^ (-1 : Int64))), .second, .val (.long (q4 ^^^ (-1 : Int64))), .second, .val (.ref b15), .unset, .unset, .unset, .unset] [(.long q5), (.long z24), (.ref b21), (.ref b21)])) _
        refine XS.goto X21.here hx rfl (pc0 := 128) (pc' := 133) rfl (hb hby at_128) (by decide) (by decide) ?_
        show Steps p.tables e below (T21.setTop (mkF m 133 #[.val (.long q1), .second, .val (.long q2), .second, .val (.long q3), .second, .val (.long q4), .second, .val (.long q5), .second, .val (.int p6), .val (.long (own_f1 q1)), .second, .val (.long z8), .second, .val (.int (p6 &&& (3 : Int32))), .val (.int z13), .val (.int (((p6.toUInt32 >>> ((4 : Int32) &&& 31).toUInt32).toInt32) &&& (3 : Int32))), .val (.long q3), .second, .val (.long q4), .second, .val (.long (q3 ^^^ (-1 : Int64))), .second, .val (.long (q4 ^^^ (-1 : Int64))), .second, .val (.ref b15), .unset, .unset, .unset, .unset] [(.long q5), (.long z24), (.ref b21), (.ref b21)])) _
        rw [if_neg hc117_28, if_pos hc123_29] at hz27
        subst hz27
        exact k
      · refine XS.icmpYes X21.here hx rfl (pc0 := 123) (pc' := 131) rfl (hb hby at_123) rfl (feq hc123_29).2 (by decide) (by decide) ?_
        show Steps p.tables e below (T21.setTop (mkF m 131 #[.val (.long q1), .second, .val (.long q2), .second, .val (.long q3), .second, .val (.long q4), .second, .val (.long q5), .second, .val (.int p6), .val (.long (own_f1 q1)), .second, .val (.long z8), .second, .val (.int (p6 &&& (3 : Int32))), .val (.int z13), .val (.int (((p6.toUInt32 >>> ((4 : Int32) &&& 31).toUInt32).toInt32) &&& (3 : Int32))), .val (.long q3), .second, .val (.long q4), .second, .val (.long (q3 ^^^ (-1 : Int64))), .second, .val (.long (q4 ^^^ (-1 : Int64))), .second, .val (.ref b15), .unset, .unset, .unset, .unset] [(.long z24), (.ref b21), (.ref b21)])) _
        refine XS.lload X21.here hx rfl (hb hby at_131) rfl ?_
        show Steps p.tables e below (T21.setTop (mkF m 133 #[.val (.long q1), .second, .val (.long q2), .second, .val (.long q3), .second, .val (.long q4), .second, .val (.long q5), .second, .val (.int p6), .val (.long (own_f1 q1)), .second, .val (.long z8), .second, .val (.int (p6 &&& (3 : Int32))), .val (.int z13), .val (.int (((p6.toUInt32 >>> ((4 : Int32) &&& 31).toUInt32).toInt32) &&& (3 : Int32))), .val (.long q3), .second, .val (.long q4), .second, .val (.long (q3 ^^^ (-1 : Int64))), .second, .val (.long (q4 ^^^ (-1 : Int64))), .second, .val (.ref b15), .unset, .unset, .unset, .unset] [(.long q4), (.long z24), (.ref b21), (.ref b21)])) _
        rw [if_neg hc117_28, if_neg hc123_29] at hz27
        subst hz27
        exact k
  refine own_pre (B := T21.setTop (mkF m 135 #[.val (.long q1), .second, .val (.long q2), .second, .val (.long q3), .second, .val (.long q4), .second, .val (.long q5), .second, .val (.int p6), .val (.long (own_f1 q1)), .second, .val (.long z8), .second, .val (.int (p6 &&& (3 : Int32))), .val (.int z13), .val (.int (((p6.toUInt32 >>> ((4 : Int32) &&& 31).toUInt32).toInt32) &&& (3 : Int32))), .val (.long q3), .second, .val (.long q4), .second, .val (.long (q3 ^^^ (-1 : Int64))), .second, .val (.long (q4 ^^^ (-1 : Int64))), .second, .val (.ref b15), .unset, .unset, .unset, .unset] [(.int z13), (.long z27), (.long z24), (.ref b21), (.ref b21)])) (fun t k => XS.iload X21.here hx rfl (hb hby at_133) rfl k) ?_
  obtain ⟨z30, hz30⟩ : ∃ z : Int64, z = (if z13 = (0 : Int32) then (q3 ^^^ (-1 : Int64)) else (if (p6 &&& (3 : Int32)) = (2 : Int32) then q5 else (q3 ^^^ (-1 : Int64)))) := ⟨_, rfl⟩
  refine own_pre (B := T21.setTop (mkF m 151 #[.val (.long q1), .second, .val (.long q2), .second, .val (.long q3), .second, .val (.long q4), .second, .val (.long q5), .second, .val (.int p6), .val (.long (own_f1 q1)), .second, .val (.long z8), .second, .val (.int (p6 &&& (3 : Int32))), .val (.int z13), .val (.int (((p6.toUInt32 >>> ((4 : Int32) &&& 31).toUInt32).toInt32) &&& (3 : Int32))), .val (.long q3), .second, .val (.long q4), .second, .val (.long (q3 ^^^ (-1 : Int64))), .second, .val (.long (q4 ^^^ (-1 : Int64))), .second, .val (.ref b15), .unset, .unset, .unset, .unset] [(.long z30), (.long z27), (.long z24), (.ref b21), (.ref b21)])) (fun t k => ?_) ?_
  · by_cases hc135_31 : z13 = (0 : Int32)
    · refine XS.ifYes X21.here hx rfl (pc0 := 135) (pc' := 149) rfl (hb hby at_135) rfl ((if0 _ _).trans (teq hc135_31).1) (by decide) (by decide) ?_
      show Steps p.tables e below (T21.setTop (mkF m 149 #[.val (.long q1), .second, .val (.long q2), .second, .val (.long q3), .second, .val (.long q4), .second, .val (.long q5), .second, .val (.int p6), .val (.long (own_f1 q1)), .second, .val (.long z8), .second, .val (.int (p6 &&& (3 : Int32))), .val (.int z13), .val (.int (((p6.toUInt32 >>> ((4 : Int32) &&& 31).toUInt32).toInt32) &&& (3 : Int32))), .val (.long q3), .second, .val (.long q4), .second, .val (.long (q3 ^^^ (-1 : Int64))), .second, .val (.long (q4 ^^^ (-1 : Int64))), .second, .val (.ref b15), .unset, .unset, .unset, .unset] [(.long z27), (.long z24), (.ref b21), (.ref b21)])) _
      refine XS.lload X21.here hx rfl (hb hby at_149) rfl ?_
      show Steps p.tables e below (T21.setTop (mkF m 151 #[.val (.long q1), .second, .val (.long q2), .second, .val (.long q3), .second, .val (.long q4), .second, .val (.long q5), .second, .val (.int p6), .val (.long (own_f1 q1)), .second, .val (.long z8), .second, .val (.int (p6 &&& (3 : Int32))), .val (.int z13), .val (.int (((p6.toUInt32 >>> ((4 : Int32) &&& 31).toUInt32).toInt32) &&& (3 : Int32))), .val (.long q3), .second, .val (.long q4), .second, .val (.long (q3 ^^^ (-1 : Int64))), .second, .val (.long (q4 ^^^ (-1 : Int64))), .second, .val (.ref b15), .unset, .unset, .unset, .unset] [(.long (q3 ^^^ (-1 : Int64))), (.long z27), (.long z24), (.ref b21), (.ref b21)])) _
      rw [if_pos hc135_31] at hz30
      subst hz30
      exact k
    · refine XS.ifNo X21.here hx rfl (hb hby at_135) rfl ((if0 _ _).trans (feq hc135_31).1) ?_
      show Steps p.tables e below (T21.setTop (mkF m 138 #[.val (.long q1), .second, .val (.long q2), .second, .val (.long q3), .second, .val (.long q4), .second, .val (.long q5), .second, .val (.int p6), .val (.long (own_f1 q1)), .second, .val (.long z8), .second, .val (.int (p6 &&& (3 : Int32))), .val (.int z13), .val (.int (((p6.toUInt32 >>> ((4 : Int32) &&& 31).toUInt32).toInt32) &&& (3 : Int32))), .val (.long q3), .second, .val (.long q4), .second, .val (.long (q3 ^^^ (-1 : Int64))), .second, .val (.long (q4 ^^^ (-1 : Int64))), .second, .val (.ref b15), .unset, .unset, .unset, .unset] [(.long z27), (.long z24), (.ref b21), (.ref b21)])) _
      refine XS.iload X21.here hx rfl (hb hby at_138) rfl ?_
      show Steps p.tables e below (T21.setTop (mkF m 140 #[.val (.long q1), .second, .val (.long q2), .second, .val (.long q3), .second, .val (.long q4), .second, .val (.long q5), .second, .val (.int p6), .val (.long (own_f1 q1)), .second, .val (.long z8), .second, .val (.int (p6 &&& (3 : Int32))), .val (.int z13), .val (.int (((p6.toUInt32 >>> ((4 : Int32) &&& 31).toUInt32).toInt32) &&& (3 : Int32))), .val (.long q3), .second, .val (.long q4), .second, .val (.long (q3 ^^^ (-1 : Int64))), .second, .val (.long (q4 ^^^ (-1 : Int64))), .second, .val (.ref b15), .unset, .unset, .unset, .unset] [(.int (p6 &&& (3 : Int32))), (.long z27), (.long z24), (.ref b21), (.ref b21)])) _
      refine XS.iconst X21.here hx rfl (hb hby at_140) ?_
      show Steps p.tables e below (T21.setTop (mkF m 141 #[.val (.long q1), .second, .val (.long q2), .second, .val (.long q3), .second, .val (.long q4), .second, .val (.long q5), .second, .val (.int p6), .val (.long (own_f1 q1)), .second, .val (.long z8), .second, .val (.int (p6 &&& (3 : Int32))), .val (.int z13), .val (.int (((p6.toUInt32 >>> ((4 : Int32) &&& 31).toUInt32).toInt32) &&& (3 : Int32))), .val (.long q3), .second, .val (.long q4), .second, .val (.long (q3 ^^^ (-1 : Int64))), .second, .val (.long (q4 ^^^ (-1 : Int64))), .second, .val (.ref b15), .unset, .unset, .unset, .unset] [(.int (2 : Int32)), (.int (p6 &&& (3 : Int32))), (.long z27), (.long z24), (.ref b21), (.ref b21)])) _
      by_cases hc141_32 : (p6 &&& (3 : Int32)) = (2 : Int32)
      · refine XS.icmpNo X21.here hx rfl (hb hby at_141) rfl (teq hc141_32).2 ?_
        show Steps p.tables e below (T21.setTop (mkF m 144 #[.val (.long q1), .second, .val (.long q2), .second, .val (.long q3), .second, .val (.long q4), .second, .val (.long q5), .second, .val (.int p6), .val (.long (own_f1 q1)), .second, .val (.long z8), .second, .val (.int (p6 &&& (3 : Int32))), .val (.int z13), .val (.int (((p6.toUInt32 >>> ((4 : Int32) &&& 31).toUInt32).toInt32) &&& (3 : Int32))), .val (.long q3), .second, .val (.long q4), .second, .val (.long (q3 ^^^ (-1 : Int64))), .second, .val (.long (q4 ^^^ (-1 : Int64))), .second, .val (.ref b15), .unset, .unset, .unset, .unset] [(.long z27), (.long z24), (.ref b21), (.ref b21)])) _
        refine XS.lload X21.here hx rfl (hb hby at_144) rfl ?_
        show Steps p.tables e below (T21.setTop (mkF m 146 #[.val (.long q1), .second, .val (.long q2), .second, .val (.long q3), .second, .val (.long q4), .second, .val (.long q5), .second, .val (.int p6), .val (.long (own_f1 q1)), .second, .val (.long z8), .second, .val (.int (p6 &&& (3 : Int32))), .val (.int z13), .val (.int (((p6.toUInt32 >>> ((4 : Int32) &&& 31).toUInt32).toInt32) &&& (3 : Int32))), .val (.long q3), .second, .val (.long q4), .second, .val (.long (q3 ^^^ (-1 : Int64))), .second, .val (.long (q4 ^^^ (-1 : Int64))), .second, .val (.ref b15), .unset, .unset, .unset, .unset] [(.long q5), (.long z27), (.long z24), (.ref b21), (.ref b21)])) _
        refine XS.goto X21.here hx rfl (pc0 := 146) (pc' := 151) rfl (hb hby at_146) (by decide) (by decide) ?_
        show Steps p.tables e below (T21.setTop (mkF m 151 #[.val (.long q1), .second, .val (.long q2), .second, .val (.long q3), .second, .val (.long q4), .second, .val (.long q5), .second, .val (.int p6), .val (.long (own_f1 q1)), .second, .val (.long z8), .second, .val (.int (p6 &&& (3 : Int32))), .val (.int z13), .val (.int (((p6.toUInt32 >>> ((4 : Int32) &&& 31).toUInt32).toInt32) &&& (3 : Int32))), .val (.long q3), .second, .val (.long q4), .second, .val (.long (q3 ^^^ (-1 : Int64))), .second, .val (.long (q4 ^^^ (-1 : Int64))), .second, .val (.ref b15), .unset, .unset, .unset, .unset] [(.long q5), (.long z27), (.long z24), (.ref b21), (.ref b21)])) _
        rw [if_neg hc135_31, if_pos hc141_32] at hz30
        subst hz30
        exact k
      · refine XS.icmpYes X21.here hx rfl (pc0 := 141) (pc' := 149) rfl (hb hby at_141) rfl (feq hc141_32).2 (by decide) (by decide) ?_
        show Steps p.tables e below (T21.setTop (mkF m 149 #[.val (.long q1), .second, .val (.long q2), .second, .val (.long q3), .second, .val (.long q4), .second, .val (.long q5), .second, .val (.int p6), .val (.long (own_f1 q1)), .second, .val (.long z8), .second, .val (.int (p6 &&& (3 : Int32))), .val (.int z13), .val (.int (((p6.toUInt32 >>> ((4 : Int32) &&& 31).toUInt32).toInt32) &&& (3 : Int32))), .val (.long q3), .second, .val (.long q4), .second, .val (.long (q3 ^^^ (-1 : Int64))), .second, .val (.long (q4 ^^^ (-1 : Int64))), .second, .val (.ref b15), .unset, .unset, .unset, .unset] [(.long z27), (.long z24), (.ref b21), (.ref b21)])) _
        refine XS.lload X21.here hx rfl (hb hby at_149) rfl ?_
        show Steps p.tables e below (T21.setTop (mkF m 151 #[.val (.long q1), .second, .val (.long q2), .second, .val (.long q3), .second, .val (.long q4), .second, .val (.long q5), .second, .val (.int p6), .val (.long (own_f1 q1)), .second, .val (.long z8), .second, .val (.int (p6 &&& (3 : Int32))), .val (.int z13), .val (.int (((p6.toUInt32 >>> ((4 : Int32) &&& 31).toUInt32).toInt32) &&& (3 : Int32))), .val (.long q3), .second, .val (.long q4), .second, .val (.long (q3 ^^^ (-1 : Int64))), .second, .val (.long (q4 ^^^ (-1 : Int64))), .second, .val (.ref b15), .unset, .unset, .unset, .unset] [(.long (q3 ^^^ (-1 : Int64))), (.long z27), (.long z24), (.ref b21), (.ref b21)])) _
        rw [if_neg hc135_31, if_neg hc141_32] at hz30
        subst hz30
        exact k
  refine own_pre (B := T21.setTop (mkF m 153 #[.val (.long q1), .second, .val (.long q2), .second, .val (.long q3), .second, .val (.long q4), .second, .val (.long q5), .second, .val (.int p6), .val (.long (own_f1 q1)), .second, .val (.long z8), .second, .val (.int (p6 &&& (3 : Int32))), .val (.int z13), .val (.int (((p6.toUInt32 >>> ((4 : Int32) &&& 31).toUInt32).toInt32) &&& (3 : Int32))), .val (.long q3), .second, .val (.long q4), .second, .val (.long (q3 ^^^ (-1 : Int64))), .second, .val (.long (q4 ^^^ (-1 : Int64))), .second, .val (.ref b15), .unset, .unset, .unset, .unset] [(.int z13), (.long z30), (.long z27), (.long z24), (.ref b21), (.ref b21)])) (fun t k => XS.iload X21.here hx rfl (hb hby at_151) rfl k) ?_
  obtain ⟨z33, hz33⟩ : ∃ z : Int64, z = (if z13 = (0 : Int32) then (q4 ^^^ (-1 : Int64)) else (if (p6 &&& (3 : Int32)) = (3 : Int32) then q5 else (q4 ^^^ (-1 : Int64)))) := ⟨_, rfl⟩
  refine own_pre (B := T21.setTop (mkF m 169 #[.val (.long q1), .second, .val (.long q2), .second, .val (.long q3), .second, .val (.long q4), .second, .val (.long q5), .second, .val (.int p6), .val (.long (own_f1 q1)), .second, .val (.long z8), .second, .val (.int (p6 &&& (3 : Int32))), .val (.int z13), .val (.int (((p6.toUInt32 >>> ((4 : Int32) &&& 31).toUInt32).toInt32) &&& (3 : Int32))), .val (.long q3), .second, .val (.long q4), .second, .val (.long (q3 ^^^ (-1 : Int64))), .second, .val (.long (q4 ^^^ (-1 : Int64))), .second, .val (.ref b15), .unset, .unset, .unset, .unset] [(.long z33), (.long z30), (.long z27), (.long z24), (.ref b21), (.ref b21)])) (fun t k => ?_) ?_
  · by_cases hc153_34 : z13 = (0 : Int32)
    · refine XS.ifYes X21.here hx rfl (pc0 := 153) (pc' := 167) rfl (hb hby at_153) rfl ((if0 _ _).trans (teq hc153_34).1) (by decide) (by decide) ?_
      show Steps p.tables e below (T21.setTop (mkF m 167 #[.val (.long q1), .second, .val (.long q2), .second, .val (.long q3), .second, .val (.long q4), .second, .val (.long q5), .second, .val (.int p6), .val (.long (own_f1 q1)), .second, .val (.long z8), .second, .val (.int (p6 &&& (3 : Int32))), .val (.int z13), .val (.int (((p6.toUInt32 >>> ((4 : Int32) &&& 31).toUInt32).toInt32) &&& (3 : Int32))), .val (.long q3), .second, .val (.long q4), .second, .val (.long (q3 ^^^ (-1 : Int64))), .second, .val (.long (q4 ^^^ (-1 : Int64))), .second, .val (.ref b15), .unset, .unset, .unset, .unset] [(.long z30), (.long z27), (.long z24), (.ref b21), (.ref b21)])) _
      refine XS.lload X21.here hx rfl (hb hby at_167) rfl ?_
      show Steps p.tables e below (T21.setTop (mkF m 169 #[.val (.long q1), .second, .val (.long q2), .second, .val (.long q3), .second, .val (.long q4), .second, .val (.long q5), .second, .val (.int p6), .val (.long (own_f1 q1)), .second, .val (.long z8), .second, .val (.int (p6 &&& (3 : Int32))), .val (.int z13), .val (.int (((p6.toUInt32 >>> ((4 : Int32) &&& 31).toUInt32).toInt32) &&& (3 : Int32))), .val (.long q3), .second, .val (.long q4), .second, .val (.long (q3 ^^^ (-1 : Int64))), .second, .val (.long (q4 ^^^ (-1 : Int64))), .second, .val (.ref b15), .unset, .unset, .unset, .unset] [(.long (q4 ^^^ (-1 : Int64))), (.long z30), (.long z27), (.long z24), (.ref b21), (.ref b21)])) _
      rw [if_pos hc153_34] at hz33
      subst hz33
      exact k
    · refine XS.ifNo X21.here hx rfl (hb hby at_153) rfl ((if0 _ _).trans (feq hc153_34).1) ?_
      show Steps p.tables e below (T21.setTop (mkF m 156 #[.val (.long q1), .second, .val (.long q2), .second, .val (.long q3), .second, .val (.long q4), .second, .val (.long q5), .second, .val (.int p6), .val (.long (own_f1 q1)), .second, .val (.long z8), .second, .val (.int (p6 &&& (3 : Int32))), .val (.int z13), .val (.int (((p6.toUInt32 >>> ((4 : Int32) &&& 31).toUInt32).toInt32) &&& (3 : Int32))), .val (.long q3), .second, .val (.long q4), .second, .val (.long (q3 ^^^ (-1 : Int64))), .second, .val (.long (q4 ^^^ (-1 : Int64))), .second, .val (.ref b15), .unset, .unset, .unset, .unset] [(.long z30), (.long z27), (.long z24), (.ref b21), (.ref b21)])) _
      refine XS.iload X21.here hx rfl (hb hby at_156) rfl ?_
      show Steps p.tables e below (T21.setTop (mkF m 158 #[.val (.long q1), .second, .val (.long q2), .second, .val (.long q3), .second, .val (.long q4), .second, .val (.long q5), .second, .val (.int p6), .val (.long (own_f1 q1)), .second, .val (.long z8), .second, .val (.int (p6 &&& (3 : Int32))), .val (.int z13), .val (.int (((p6.toUInt32 >>> ((4 : Int32) &&& 31).toUInt32).toInt32) &&& (3 : Int32))), .val (.long q3), .second, .val (.long q4), .second, .val (.long (q3 ^^^ (-1 : Int64))), .second, .val (.long (q4 ^^^ (-1 : Int64))), .second, .val (.ref b15), .unset, .unset, .unset, .unset] [(.int (p6 &&& (3 : Int32))), (.long z30), (.long z27), (.long z24), (.ref b21), (.ref b21)])) _
      refine XS.iconst X21.here hx rfl (hb hby at_158) ?_
      show Steps p.tables e below (T21.setTop (mkF m 159 #[.val (.long q1), .second, .val (.long q2), .second, .val (.long q3), .second, .val (.long q4), .second, .val (.long q5), .second, .val (.int p6), .val (.long (own_f1 q1)), .second, .val (.long z8), .second, .val (.int (p6 &&& (3 : Int32))), .val (.int z13), .val (.int (((p6.toUInt32 >>> ((4 : Int32) &&& 31).toUInt32).toInt32) &&& (3 : Int32))), .val (.long q3), .second, .val (.long q4), .second, .val (.long (q3 ^^^ (-1 : Int64))), .second, .val (.long (q4 ^^^ (-1 : Int64))), .second, .val (.ref b15), .unset, .unset, .unset, .unset] [(.int (3 : Int32)), (.int (p6 &&& (3 : Int32))), (.long z30), (.long z27), (.long z24), (.ref b21), (.ref b21)])) _
      by_cases hc159_35 : (p6 &&& (3 : Int32)) = (3 : Int32)
      · refine XS.icmpNo X21.here hx rfl (hb hby at_159) rfl (teq hc159_35).2 ?_
        show Steps p.tables e below (T21.setTop (mkF m 162 #[.val (.long q1), .second, .val (.long q2), .second, .val (.long q3), .second, .val (.long q4), .second, .val (.long q5), .second, .val (.int p6), .val (.long (own_f1 q1)), .second, .val (.long z8), .second, .val (.int (p6 &&& (3 : Int32))), .val (.int z13), .val (.int (((p6.toUInt32 >>> ((4 : Int32) &&& 31).toUInt32).toInt32) &&& (3 : Int32))), .val (.long q3), .second, .val (.long q4), .second, .val (.long (q3 ^^^ (-1 : Int64))), .second, .val (.long (q4 ^^^ (-1 : Int64))), .second, .val (.ref b15), .unset, .unset, .unset, .unset] [(.long z30), (.long z27), (.long z24), (.ref b21), (.ref b21)])) _
        refine XS.lload X21.here hx rfl (hb hby at_162) rfl ?_
        show Steps p.tables e below (T21.setTop (mkF m 164 #[.val (.long q1), .second, .val (.long q2), .second, .val (.long q3), .second, .val (.long q4), .second, .val (.long q5), .second, .val (.int p6), .val (.long (own_f1 q1)), .second, .val (.long z8), .second, .val (.int (p6 &&& (3 : Int32))), .val (.int z13), .val (.int (((p6.toUInt32 >>> ((4 : Int32) &&& 31).toUInt32).toInt32) &&& (3 : Int32))), .val (.long q3), .second, .val (.long q4), .second, .val (.long (q3 ^^^ (-1 : Int64))), .second, .val (.long (q4 ^^^ (-1 : Int64))), .second, .val (.ref b15), .unset, .unset, .unset, .unset] [(.long q5), (.long z30), (.long z27), (.long z24), (.ref b21), (.ref b21)])) _
        refine XS.goto X21.here hx rfl (pc0 := 164) (pc' := 169) rfl (hb hby at_164) (by decide) (by decide) ?_
        show Steps p.tables e below (T21.setTop (mkF m 169 #[.val (.long q1), .second, .val (.long q2), .second, .val (.long q3), .second, .val (.long q4), .second, .val (.long q5), .second, .val (.int p6), .val (.long (own_f1 q1)), .second, .val (.long z8), .second, .val (.int (p6 &&& (3 : Int32))), .val (.int z13), .val (.int (((p6.toUInt32 >>> ((4 : Int32) &&& 31).toUInt32).toInt32) &&& (3 : Int32))), .val (.long q3), .second, .val (.long q4), .second, .val (.long (q3 ^^^ (-1 : Int64))), .second, .val (.long (q4 ^^^ (-1 : Int64))), .second, .val (.ref b15), .unset, .unset, .unset, .unset] [(.long q5), (.long z30), (.long z27), (.long z24), (.ref b21), (.ref b21)])) _
        rw [if_neg hc153_34, if_pos hc159_35] at hz33
        subst hz33
        exact k
      · refine XS.icmpYes X21.here hx rfl (pc0 := 159) (pc' := 167) rfl (hb hby at_159) rfl (feq hc159_35).2 (by decide) (by decide) ?_
        show Steps p.tables e below (T21.setTop (mkF m 167 #[.val (.long q1), .second, .val (.long q2), .second, .val (.long q3), .second, .val (.long q4), .second, .val (.long q5), .second, .val (.int p6), .val (.long (own_f1 q1)), .second, .val (.long z8), .second, .val (.int (p6 &&& (3 : Int32))), .val (.int z13), .val (.int (((p6.toUInt32 >>> ((4 : Int32) &&& 31).toUInt32).toInt32) &&& (3 : Int32))), .val (.long q3), .second, .val (.long q4), .second, .val (.long (q3 ^^^ (-1 : Int64))), .second, .val (.long (q4 ^^^ (-1 : Int64))), .second, .val (.ref b15), .unset, .unset, .unset, .unset] [(.long z30), (.long z27), (.long z24), (.ref b21), (.ref b21)])) _
        refine XS.lload X21.here hx rfl (hb hby at_167) rfl ?_
        show Steps p.tables e below (T21.setTop (mkF m 169 #[.val (.long q1), .second, .val (.long q2), .second, .val (.long q3), .second, .val (.long q4), .second, .val (.long q5), .second, .val (.int p6), .val (.long (own_f1 q1)), .second, .val (.long z8), .second, .val (.int (p6 &&& (3 : Int32))), .val (.int z13), .val (.int (((p6.toUInt32 >>> ((4 : Int32) &&& 31).toUInt32).toInt32) &&& (3 : Int32))), .val (.long q3), .second, .val (.long q4), .second, .val (.long (q3 ^^^ (-1 : Int64))), .second, .val (.long (q4 ^^^ (-1 : Int64))), .second, .val (.ref b15), .unset, .unset, .unset, .unset] [(.long (q4 ^^^ (-1 : Int64))), (.long z30), (.long z27), (.long z24), (.ref b21), (.ref b21)])) _
        rw [if_neg hc153_34, if_neg hc159_35] at hz33
        subst hz33
        exact k
  have sz36 : n0 ≤ h21.size := (Nat.le_trans sz22 E21.1)
  obtain ⟨_, _, ⟨T37, L37, k37, n37⟩, -, X37, ⟨Lc37, hQ37, l37, y37, z37⟩, st37⟩ := X21.specialBack hx (y := (⟨"com/example/rangewise/rangewise/Id", "<init>", "(JJJJ)V"⟩ : MethodName)) rfl hown (mvT hZ (hw _ (ow 8 rfl))) (mvT hZ (hw _ (ow 9 rfl))) (mvT hZ (hw _ (ow 10 rfl))) (by decide) (backOf (W := 1) (rm2 l Z a0 hw [] b21 z24 z27 z30 z33 (.long (0 : Int64)) (.long (0 : Int64)) (.long (0 : Int64)) (.long (0 : Int64)) h21 n0 sz36 A21 F_word0_b21 g_b21 F_word1_b21 F_word2_b21 F_word3_b21) hZ (hw _ (ow 10 rfl)) (hw _ (ow 7 rfl)) (by decide) (by decide)) (g := (mkF m 169 #[.val (.long q1), .second, .val (.long q2), .second, .val (.long q3), .second, .val (.long q4), .second, .val (.long q5), .second, .val (.int p6), .val (.long (own_f1 q1)), .second, .val (.long z8), .second, .val (.int (p6 &&& (3 : Int32))), .val (.int z13), .val (.int (((p6.toUInt32 >>> ((4 : Int32) &&& 31).toUInt32).toInt32) &&& (3 : Int32))), .val (.long q3), .second, .val (.long q4), .second, .val (.long (q3 ^^^ (-1 : Int64))), .second, .val (.long (q4 ^^^ (-1 : Int64))), .second, .val (.ref b15), .unset, .unset, .unset, .unset] [(.long z33), (.long z30), (.long z27), (.long z24), (.ref b21), (.ref b21)])) rfl (by rw [hml]; rfl) (Steps.refl _) (a := b21) (argsL := [(.long z24), (.long z27), (.long z30), (.long z33)]) (rest := [(.ref b21)]) (lenOf pd_4 rfl) rfl (by show 2 * 0 + _ ≤ _; exact Nat.le_of_eq rfl) (hb hby at_169) (fun _ _ => ⟨rfl, e21, (by decide : 2 + 0 ≤ _), (by decide : 8 + 0 ≤ _)⟩)
  dsimp only [Pt.U, Pt.locs, Pt.cells, Pt.slots] at X37 l37 y37 z37 st37 hQ37
  subst l37 y37 z37
  obtain ⟨rfl, N37q, K37, q37_0, q37_1, q37_2, q37_3, q37_4⟩ := hQ37
  have N37 := Fr.app N18 N37q
  have K38 : Keep h0 h21 [] := (Keep.ext K20 E21)
  refine own_pre (B := T37.setTop (mkF m 172 #[.val (.long q1), .second, .val (.long q2), .second, .val (.long q3), .second, .val (.long q4), .second, .val (.long q5), .second, .val (.int p6), .val (.long (own_f1 q1)), .second, .val (.long z8), .second, .val (.int (p6 &&& (3 : Int32))), .val (.int z13), .val (.int (((p6.toUInt32 >>> ((4 : Int32) &&& 31).toUInt32).toInt32) &&& (3 : Int32))), .val (.long q3), .second, .val (.long q4), .second, .val (.long (q3 ^^^ (-1 : Int64))), .second, .val (.long (q4 ^^^ (-1 : Int64))), .second, .val (.ref b15), .unset, .unset, .unset, .unset] [(.ref b21)])) (fun t k => st37.trans k) ?_
  refine own_pre (B := T37.setTop (mkF m 174 #[.val (.long q1), .second, .val (.long q2), .second, .val (.long q3), .second, .val (.long q4), .second, .val (.long q5), .second, .val (.int p6), .val (.long (own_f1 q1)), .second, .val (.long z8), .second, .val (.int (p6 &&& (3 : Int32))), .val (.int z13), .val (.int (((p6.toUInt32 >>> ((4 : Int32) &&& 31).toUInt32).toInt32) &&& (3 : Int32))), .val (.long q3), .second, .val (.long q4), .second, .val (.long (q3 ^^^ (-1 : Int64))), .second, .val (.long (q4 ^^^ (-1 : Int64))), .second, .val (.ref b15), .val (.ref b21), .unset, .unset, .unset] [])) (fun t k => XS.astore X37.here hx rfl (hb hby at_172) rfl rfl (l' := #[.val (.long q1), .second, .val (.long q2), .second, .val (.long q3), .second, .val (.long q4), .second, .val (.long q5), .second, .val (.int p6), .val (.long (own_f1 q1)), .second, .val (.long z8), .second, .val (.int (p6 &&& (3 : Int32))), .val (.int z13), .val (.int (((p6.toUInt32 >>> ((4 : Int32) &&& 31).toUInt32).toInt32) &&& (3 : Int32))), .val (.long q3), .second, .val (.long q4), .second, .val (.long (q3 ^^^ (-1 : Int64))), .second, .val (.long (q4 ^^^ (-1 : Int64))), .second, .val (.ref b15), .val (.ref b21), .unset, .unset, .unset]) rfl k) ?_
  have K39 : Keep h0 T37.heap [] := (Keep.trans K38 K37 (allS (P := fun x => x ∈ [] ∨ h0.size ≤ x) (Or.inr s_b21) all0))
  obtain ⟨T40, h40, X40, e40, E40, A40, D40, -, st40⟩ := newO X37 hx hZ hown (hw _ (ow 22 rfl)) (hw _ (ow 23 rfl)) (hw _ (ow 24 rfl)) rfl (g := (mkF m 174 #[.val (.long q1), .second, .val (.long q2), .second, .val (.long q3), .second, .val (.long q4), .second, .val (.long q5), .second, .val (.int p6), .val (.long (own_f1 q1)), .second, .val (.long z8), .second, .val (.int (p6 &&& (3 : Int32))), .val (.int z13), .val (.int (((p6.toUInt32 >>> ((4 : Int32) &&& 31).toUInt32).toInt32) &&& (3 : Int32))), .val (.long q3), .second, .val (.long q4), .second, .val (.long (q3 ^^^ (-1 : Int64))), .second, .val (.long (q4 ^^^ (-1 : Int64))), .second, .val (.ref b15), .val (.ref b21), .unset, .unset, .unset] [])) rfl (hb hby at_174) (by decide) (by decide)
  have sz41 : n0 ≤ T37.heap.size := (Nat.le_trans sz36 K37.1)
  obtain ⟨b40, g40⟩ : ∃ z, z = T37.heap.size := ⟨_, rfl⟩
  rw [← g40] at A40 D40 st40
  have g_b40 : n0 ≤ b40 := Nat.le_trans sz41 (Nat.le_of_eq g40.symm)
  have s_b40 : h0.size ≤ b40 := Nat.le_trans K39.1 (Nat.le_of_eq g40.symm)
  have c42 := (Exa.keep (q18_0.ext E21) K37)
  have ne43 : b15 ≠ b40 := Nat.ne_of_lt (Nat.lt_of_lt_of_le (Exa.lt c42) (Nat.le_of_eq g40.symm))
  have ne44 : b21 ≠ b40 := Nat.ne_of_lt (Nat.lt_of_lt_of_le (Exa.lt q37_0) (Nat.le_of_eq g40.symm))
  have F_timestamp_b40 : Fld Z h40 b40 "com/example/rangewise/rangewise/TimestampedId" "timestamp" "J" (.long (0 : Int64)) := D40 (Or.inr (hw _ (ow 39 rfl))) (ty := .long) (by decide)
  have F_id_b40 : Fld Z h40 b40 "com/example/rangewise/rangewise/TimestampedId" "id" "Lcom/example/rangewise/rangewise/Id;" .null := D40 (Or.inr (hw _ (ow 47 rfl))) (ty := (.object "com/example/rangewise/rangewise/Id")) (by decide)
  refine own_pre (B := T40.setTop (mkF m 177 #[.val (.long q1), .second, .val (.long q2), .second, .val (.long q3), .second, .val (.long q4), .second, .val (.long q5), .second, .val (.int p6), .val (.long (own_f1 q1)), .second, .val (.long z8), .second, .val (.int (p6 &&& (3 : Int32))), .val (.int z13), .val (.int (((p6.toUInt32 >>> ((4 : Int32) &&& 31).toUInt32).toInt32) &&& (3 : Int32))), .val (.long q3), .second, .val (.long q4), .second, .val (.long (q3 ^^^ (-1 : Int64))), .second, .val (.long (q4 ^^^ (-1 : Int64))), .second, .val (.ref b15), .val (.ref b21), .unset, .unset, .unset] [(.ref b40)])) (fun t k => st40 t k) ?_
  refine own_pre (B := T40.setTop (mkF m 178 #[.val (.long q1), .second, .val (.long q2), .second, .val (.long q3), .second, .val (.long q4), .second, .val (.long q5), .second, .val (.int p6), .val (.long (own_f1 q1)), .second, .val (.long z8), .second, .val (.int (p6 &&& (3 : Int32))), .val (.int z13), .val (.int (((p6.toUInt32 >>> ((4 : Int32) &&& 31).toUInt32).toInt32) &&& (3 : Int32))), .val (.long q3), .second, .val (.long q4), .second, .val (.long (q3 ^^^ (-1 : Int64))), .second, .val (.long (q4 ^^^ (-1 : Int64))), .second, .val (.ref b15), .val (.ref b21), .unset, .unset, .unset] [(.ref b40), (.ref b40)])) (fun t k => XS.dup X40.here hx rfl (hb hby at_177) rfl rfl k) ?_
  refine own_pre (B := T40.setTop (mkF m 180 #[.val (.long q1), .second, .val (.long q2), .second, .val (.long q3), .second, .val (.long q4), .second, .val (.long q5), .second, .val (.int p6), .val (.long (own_f1 q1)), .second, .val (.long z8), .second, .val (.int (p6 &&& (3 : Int32))), .val (.int z13), .val (.int (((p6.toUInt32 >>> ((4 : Int32) &&& 31).toUInt32).toInt32) &&& (3 : Int32))), .val (.long q3), .second, .val (.long q4), .second, .val (.long (q3 ^^^ (-1 : Int64))), .second, .val (.long (q4 ^^^ (-1 : Int64))), .second, .val (.ref b15), .val (.ref b21), .unset, .unset, .unset] [(.long (own_f1 q1)), (.ref b40), (.ref b40)])) (fun t k => XS.lload X40.here hx rfl (hb hby at_178) rfl k) ?_
  refine own_pre (B := T40.setTop (mkF m 182 #[.val (.long q1), .second, .val (.long q2), .second, .val (.long q3), .second, .val (.long q4), .second, .val (.long q5), .second, .val (.int p6), .val (.long (own_f1 q1)), .second, .val (.long z8), .second, .val (.int (p6 &&& (3 : Int32))), .val (.int z13), .val (.int (((p6.toUInt32 >>> ((4 : Int32) &&& 31).toUInt32).toInt32) &&& (3 : Int32))), .val (.long q3), .second, .val (.long q4), .second, .val (.long (q3 ^^^ (-1 : Int64))), .second, .val (.long (q4 ^^^ (-1 : Int64))), .second, .val (.ref b15), .val (.ref b21), .unset, .unset, .unset] [(.ref b15), (.long (own_f1 q1)), (.ref b40), (.ref b40)])) (fun t k => XS.aload X40.here hx rfl (hb hby at_180) rfl rfl k) ?_
  have c45 := (c42.ext E40)
  have sz46 : n0 ≤ h40.size := (Nat.le_trans sz41 E40.1)
  obtain ⟨_, _, ⟨T47, L47, k47, n47⟩, -, X47, ⟨Lc47, hQ47, l47, y47, z47⟩, st47⟩ := X40.specialBack hx (y := (⟨"com/example/rangewise/rangewise/TimestampedId", "<init>", "(JLcom/example/rangewise/rangewise/Id;)V"⟩ : MethodName)) rfl hown (mvT hZ (hw _ (ow 25 rfl))) (mvT hZ (hw _ (ow 26 rfl))) (mvT hZ (hw _ (ow 27 rfl))) (by decide) (backOf (W := 1) (rm4 l Z a0 hw [] b40 (own_f1 q1) b15 (.long (0 : Int64)) .null h40 n0 sz46 (own_fix _) A40 F_timestamp_b40 g_b40 c45 F_id_b40) hZ (hw _ (ow 27 rfl)) (hw _ (ow 24 rfl)) (by decide) (by decide)) (g := (mkF m 182 #[.val (.long q1), .second, .val (.long q2), .second, .val (.long q3), .second, .val (.long q4), .second, .val (.long q5), .second, .val (.int p6), .val (.long (own_f1 q1)), .second, .val (.long z8), .second, .val (.int (p6 &&& (3 : Int32))), .val (.int z13), .val (.int (((p6.toUInt32 >>> ((4 : Int32) &&& 31).toUInt32).toInt32) &&& (3 : Int32))), .val (.long q3), .second, .val (.long q4), .second, .val (.long (q3 ^^^ (-1 : Int64))), .second, .val (.long (q4 ^^^ (-1 : Int64))), .second, .val (.ref b15), .val (.ref b21), .unset, .unset, .unset] [(.ref b15), (.long (own_f1 q1)), (.ref b40), (.ref b40)])) rfl (by rw [hml]; rfl) (Steps.refl _) (a := b40) (argsL := [(.long (own_f1 q1)), (.ref b15)]) (rest := [(.ref b40)]) (lenOf pd_5 rfl) rfl (by show 2 * 0 + _ ≤ _; exact Nat.le_of_eq rfl) (hb hby at_182) (fun _ _ => ⟨rfl, e40, (by decide : 3 + 0 ≤ _), (by decide : 10 + 0 ≤ _)⟩)
  dsimp only [Pt.U, Pt.locs, Pt.cells, Pt.slots] at X47 l47 y47 z47 st47 hQ47
  subst l47 y47 z47
  obtain ⟨rfl, N47q, K47, q47_0, q47_1, q47_2⟩ := hQ47
  have N47 := Fr.app N37 N47q
  have K48 : Keep h0 h40 [] := (Keep.ext K39 E40)
  refine own_pre (B := T47.setTop (mkF m 185 #[.val (.long q1), .second, .val (.long q2), .second, .val (.long q3), .second, .val (.long q4), .second, .val (.long q5), .second, .val (.int p6), .val (.long (own_f1 q1)), .second, .val (.long z8), .second, .val (.int (p6 &&& (3 : Int32))), .val (.int z13), .val (.int (((p6.toUInt32 >>> ((4 : Int32) &&& 31).toUInt32).toInt32) &&& (3 : Int32))), .val (.long q3), .second, .val (.long q4), .second, .val (.long (q3 ^^^ (-1 : Int64))), .second, .val (.long (q4 ^^^ (-1 : Int64))), .second, .val (.ref b15), .val (.ref b21), .unset, .unset, .unset] [(.ref b40)])) (fun t k => st47.trans k) ?_
  refine own_pre (B := T47.setTop (mkF m 187 #[.val (.long q1), .second, .val (.long q2), .second, .val (.long q3), .second, .val (.long q4), .second, .val (.long q5), .second, .val (.int p6), .val (.long (own_f1 q1)), .second, .val (.long z8), .second, .val (.int (p6 &&& (3 : Int32))), .val (.int z13), .val (.int (((p6.toUInt32 >>> ((4 : Int32) &&& 31).toUInt32).toInt32) &&& (3 : Int32))), .val (.long q3), .second, .val (.long q4), .second, .val (.long (q3 ^^^ (-1 : Int64))), .second, .val (.long (q4 ^^^ (-1 : Int64))), .second, .val (.ref b15), .val (.ref b21), .val (.ref b40), .unset, .unset] [])) (fun t k => XS.astore X47.here hx rfl (hb hby at_185) rfl rfl (l' := #[.val (.long q1), .second, .val (.long q2), .second, .val (.long q3), .second, .val (.long q4), .second, .val (.long q5), .second, .val (.int p6), .val (.long (own_f1 q1)), .second, .val (.long z8), .second, .val (.int (p6 &&& (3 : Int32))), .val (.int z13), .val (.int (((p6.toUInt32 >>> ((4 : Int32) &&& 31).toUInt32).toInt32) &&& (3 : Int32))), .val (.long q3), .second, .val (.long q4), .second, .val (.long (q3 ^^^ (-1 : Int64))), .second, .val (.long (q4 ^^^ (-1 : Int64))), .second, .val (.ref b15), .val (.ref b21), .val (.ref b40), .unset, .unset]) rfl k) ?_
  have K49 : Keep h0 T47.heap [] := (Keep.trans K48 K47 (allS (P := fun x => x ∈ [] ∨ h0.size ≤ x) (Or.inr s_b40) all0))
  obtain ⟨T50, h50, X50, e50, E50, A50, D50, -, st50⟩ := newO X47 hx hZ hown (hw _ (ow 22 rfl)) (hw _ (ow 23 rfl)) (hw _ (ow 24 rfl)) rfl (g := (mkF m 187 #[.val (.long q1), .second, .val (.long q2), .second, .val (.long q3), .second, .val (.long q4), .second, .val (.long q5), .second, .val (.int p6), .val (.long (own_f1 q1)), .second, .val (.long z8), .second, .val (.int (p6 &&& (3 : Int32))), .val (.int z13), .val (.int (((p6.toUInt32 >>> ((4 : Int32) &&& 31).toUInt32).toInt32) &&& (3 : Int32))), .val (.long q3), .second, .val (.long q4), .second, .val (.long (q3 ^^^ (-1 : Int64))), .second, .val (.long (q4 ^^^ (-1 : Int64))), .second, .val (.ref b15), .val (.ref b21), .val (.ref b40), .unset, .unset] [])) rfl (hb hby at_187) (by decide) (by decide)
  have sz51 : n0 ≤ T47.heap.size := (Nat.le_trans sz46 K47.1)
  obtain ⟨b50, g50⟩ : ∃ z, z = T47.heap.size := ⟨_, rfl⟩
  rw [← g50] at A50 D50 st50
  have g_b50 : n0 ≤ b50 := Nat.le_trans sz51 (Nat.le_of_eq g50.symm)
  have s_b50 : h0.size ≤ b50 := Nat.le_trans K49.1 (Nat.le_of_eq g50.symm)
  have c52 := (Exa.keep c45 K47)
  have ne53 : b15 ≠ b50 := Nat.ne_of_lt (Nat.lt_of_lt_of_le (Exa.lt c52) (Nat.le_of_eq g50.symm))
  have c54 := (Exa.keep (q37_0.ext E40) K47)
  have ne55 : b21 ≠ b50 := Nat.ne_of_lt (Nat.lt_of_lt_of_le (Exa.lt c54) (Nat.le_of_eq g50.symm))
  have ne56 : b40 ≠ b50 := Nat.ne_of_lt (Nat.lt_of_lt_of_le (Exa.lt q47_0) (Nat.le_of_eq g50.symm))
  have F_timestamp_b50 : Fld Z h50 b50 "com/example/rangewise/rangewise/TimestampedId" "timestamp" "J" (.long (0 : Int64)) := D50 (Or.inr (hw _ (ow 39 rfl))) (ty := .long) (by decide)
  have F_id_b50 : Fld Z h50 b50 "com/example/rangewise/rangewise/TimestampedId" "id" "Lcom/example/rangewise/rangewise/Id;" .null := D50 (Or.inr (hw _ (ow 47 rfl))) (ty := (.object "com/example/rangewise/rangewise/Id")) (by decide)
  refine own_pre (B := T50.setTop (mkF m 190 #[.val (.long q1), .second, .val (.long q2), .second, .val (.long q3), .second, .val (.long q4), .second, .val (.long q5), .second, .val (.int p6), .val (.long (own_f1 q1)), .second, .val (.long z8), .second, .val (.int (p6 &&& (3 : Int32))), .val (.int z13), .val (.int (((p6.toUInt32 >>> ((4 : Int32) &&& 31).toUInt32).toInt32) &&& (3 : Int32))), .val (.long q3), .second, .val (.long q4), .second, .val (.long (q3 ^^^ (-1 : Int64))), .second, .val (.long (q4 ^^^ (-1 : Int64))), .second, .val (.ref b15), .val (.ref b21), .val (.ref b40), .unset, .unset] [(.ref b50)])) (fun t k => st50 t k) ?_
  refine own_pre (B := T50.setTop (mkF m 191 #[.val (.long q1), .second, .val (.long q2), .second, .val (.long q3), .second, .val (.long q4), .second, .val (.long q5), .second, .val (.int p6), .val (.long (own_f1 q1)), .second, .val (.long z8), .second, .val (.int (p6 &&& (3 : Int32))), .val (.int z13), .val (.int (((p6.toUInt32 >>> ((4 : Int32) &&& 31).toUInt32).toInt32) &&& (3 : Int32))), .val (.long q3), .second, .val (.long q4), .second, .val (.long (q3 ^^^ (-1 : Int64))), .second, .val (.long (q4 ^^^ (-1 : Int64))), .second, .val (.ref b15), .val (.ref b21), .val (.ref b40), .unset, .unset] [(.ref b50), (.ref b50)])) (fun t k => XS.dup X50.here hx rfl (hb hby at_190) rfl rfl k) ?_
  refine own_pre (B := T50.setTop (mkF m 193 #[.val (.long q1), .second, .val (.long q2), .second, .val (.long q3), .second, .val (.long q4), .second, .val (.long q5), .second, .val (.int p6), .val (.long (own_f1 q1)), .second, .val (.long z8), .second, .val (.int (p6 &&& (3 : Int32))), .val (.int z13), .val (.int (((p6.toUInt32 >>> ((4 : Int32) &&& 31).toUInt32).toInt32) &&& (3 : Int32))), .val (.long q3), .second, .val (.long q4), .second, .val (.long (q3 ^^^ (-1 : Int64))), .second, .val (.long (q4 ^^^ (-1 : Int64))), .second, .val (.ref b15), .val (.ref b21), .val (.ref b40), .unset, .unset] [(.long z8), (.ref b50), (.ref b50)])) (fun t k => XS.lload X50.here hx rfl (hb hby at_191) rfl k) ?_
  refine own_pre (B := T50.setTop (mkF m 195 #[.val (.long q1), .second, .val (.long q2), .second, .val (.long q3), .second, .val (.long q4), .second, .val (.long q5), .second, .val (.int p6), .val (.long (own_f1 q1)), .second, .val (.long z8), .second, .val (.int (p6 &&& (3 : Int32))), .val (.int z13), .val (.int (((p6.toUInt32 >>> ((4 : Int32) &&& 31).toUInt32).toInt32) &&& (3 : Int32))), .val (.long q3), .second, .val (.long q4), .second, .val (.long (q3 ^^^ (-1 : Int64))), .second, .val (.long (q4 ^^^ (-1 : Int64))), .second, .val (.ref b15), .val (.ref b21), .val (.ref b40), .unset, .unset] [(.ref b21), (.long z8), (.ref b50), (.ref b50)])) (fun t k => XS.aload X50.here hx rfl (hb hby at_193) rfl rfl k) ?_
  have c57 := (c54.ext E50)
  have sz58 : n0 ≤ h50.size := (Nat.le_trans sz51 E50.1)
  obtain ⟨_, _, ⟨T59, L59, k59, n59⟩, -, X59, ⟨Lc59, hQ59, l59, y59, z59⟩, st59⟩ := X50.specialBack hx (y := (⟨"com/example/rangewise/rangewise/TimestampedId", "<init>", "(JLcom/example/rangewise/rangewise/Id;)V"⟩ : MethodName)) rfl hown (mvT hZ (hw _ (ow 25 rfl))) (mvT hZ (hw _ (ow 26 rfl))) (mvT hZ (hw _ (ow 27 rfl))) (by decide) (backOf (W := 1) (rm4 l Z a0 hw [] b50 z8 b21 (.long (0 : Int64)) .null h50 n0 sz58 (own_fix2 hz8) A50 F_timestamp_b50 g_b50 c57 F_id_b50) hZ (hw _ (ow 27 rfl)) (hw _ (ow 24 rfl)) (by decide) (by decide)) (g := (mkF m 195 #[.val (.long q1), .second, .val (.long q2), .second, .val (.long q3), .second, .val (.long q4), .second, .val (.long q5), .second, .val (.int p6), .val (.long (own_f1 q1)), .second, .val (.long z8), .second, .val (.int (p6 &&& (3 : Int32))), .val (.int z13), .val (.int (((p6.toUInt32 >>> ((4 : Int32) &&& 31).toUInt32).toInt32) &&& (3 : Int32))), .val (.long q3), .second, .val (.long q4), .second, .val (.long (q3 ^^^ (-1 : Int64))), .second, .val (.long (q4 ^^^ (-1 : Int64))), .second, .val (.ref b15), .val (.ref b21), .val (.ref b40), .unset, .unset] [(.ref b21), (.long z8), (.ref b50), (.ref b50)])) rfl (by rw [hml]; rfl) (Steps.refl _) (a := b50) (argsL := [(.long z8), (.ref b21)]) (rest := [(.ref b50)]) (lenOf pd_5 rfl) rfl (by show 2 * 0 + _ ≤ _; exact Nat.le_of_eq rfl) (hb hby at_195) (fun _ _ => ⟨rfl, e50, (by decide : 4 + 0 ≤ _), (by decide : 12 + 0 ≤ _)⟩)
  dsimp only [Pt.U, Pt.locs, Pt.cells, Pt.slots] at X59 l59 y59 z59 st59 hQ59
  subst l59 y59 z59
  obtain ⟨rfl, N59q, K59, q59_0, q59_1, q59_2⟩ := hQ59
  have N59 := Fr.app N47 N59q
  have K60 : Keep h0 h50 [] := (Keep.ext K49 E50)
  refine own_pre (B := T59.setTop (mkF m 198 #[.val (.long q1), .second, .val (.long q2), .second, .val (.long q3), .second, .val (.long q4), .second, .val (.long q5), .second, .val (.int p6), .val (.long (own_f1 q1)), .second, .val (.long z8), .second, .val (.int (p6 &&& (3 : Int32))), .val (.int z13), .val (.int (((p6.toUInt32 >>> ((4 : Int32) &&& 31).toUInt32).toInt32) &&& (3 : Int32))), .val (.long q3), .second, .val (.long q4), .second, .val (.long (q3 ^^^ (-1 : Int64))), .second, .val (.long (q4 ^^^ (-1 : Int64))), .second, .val (.ref b15), .val (.ref b21), .val (.ref b40), .unset, .unset] [(.ref b50)])) (fun t k => st59.trans k) ?_
  refine own_pre (B := T59.setTop (mkF m 200 #[.val (.long q1), .second, .val (.long q2), .second, .val (.long q3), .second, .val (.long q4), .second, .val (.long q5), .second, .val (.int p6), .val (.long (own_f1 q1)), .second, .val (.long z8), .second, .val (.int (p6 &&& (3 : Int32))), .val (.int z13), .val (.int (((p6.toUInt32 >>> ((4 : Int32) &&& 31).toUInt32).toInt32) &&& (3 : Int32))), .val (.long q3), .second, .val (.long q4), .second, .val (.long (q3 ^^^ (-1 : Int64))), .second, .val (.long (q4 ^^^ (-1 : Int64))), .second, .val (.ref b15), .val (.ref b21), .val (.ref b40), .val (.ref b50), .unset] [])) (fun t k => XS.astore X59.here hx rfl (hb hby at_198) rfl rfl (l' := #[.val (.long q1), .second, .val (.long q2), .second, .val (.long q3), .second, .val (.long q4), .second, .val (.long q5), .second, .val (.int p6), .val (.long (own_f1 q1)), .second, .val (.long z8), .second, .val (.int (p6 &&& (3 : Int32))), .val (.int z13), .val (.int (((p6.toUInt32 >>> ((4 : Int32) &&& 31).toUInt32).toInt32) &&& (3 : Int32))), .val (.long q3), .second, .val (.long q4), .second, .val (.long (q3 ^^^ (-1 : Int64))), .second, .val (.long (q4 ^^^ (-1 : Int64))), .second, .val (.ref b15), .val (.ref b21), .val (.ref b40), .val (.ref b50), .unset]) rfl k) ?_
  refine own_pre (B := T59.setTop (mkF m 202 #[.val (.long q1), .second, .val (.long q2), .second, .val (.long q3), .second, .val (.long q4), .second, .val (.long q5), .second, .val (.int p6), .val (.long (own_f1 q1)), .second, .val (.long z8), .second, .val (.int (p6 &&& (3 : Int32))), .val (.int z13), .val (.int (((p6.toUInt32 >>> ((4 : Int32) &&& 31).toUInt32).toInt32) &&& (3 : Int32))), .val (.long q3), .second, .val (.long q4), .second, .val (.long (q3 ^^^ (-1 : Int64))), .second, .val (.long (q4 ^^^ (-1 : Int64))), .second, .val (.ref b15), .val (.ref b21), .val (.ref b40), .val (.ref b50), .unset] [(.int (((p6.toUInt32 >>> ((4 : Int32) &&& 31).toUInt32).toInt32) &&& (3 : Int32)))])) (fun t k => XS.iload X59.here hx rfl (hb hby at_200) rfl k) ?_
  refine own_pre (B := T59.setTop (mkF m 203 #[.val (.long q1), .second, .val (.long q2), .second, .val (.long q3), .second, .val (.long q4), .second, .val (.long q5), .second, .val (.int p6), .val (.long (own_f1 q1)), .second, .val (.long z8), .second, .val (.int (p6 &&& (3 : Int32))), .val (.int z13), .val (.int (((p6.toUInt32 >>> ((4 : Int32) &&& 31).toUInt32).toInt32) &&& (3 : Int32))), .val (.long q3), .second, .val (.long q4), .second, .val (.long (q3 ^^^ (-1 : Int64))), .second, .val (.long (q4 ^^^ (-1 : Int64))), .second, .val (.ref b15), .val (.ref b21), .val (.ref b40), .val (.ref b50), .unset] [(.int (1 : Int32)), (.int (((p6.toUInt32 >>> ((4 : Int32) &&& 31).toUInt32).toInt32) &&& (3 : Int32)))])) (fun t k => XS.iconst X59.here hx rfl (hb hby at_202) k) ?_
  by_cases hc203_61 : (((p6.toUInt32 >>> ((4 : Int32) &&& 31).toUInt32).toInt32) &&& (3 : Int32)) = (1 : Int32)
  · refine own_pre (B := T59.setTop (mkF m 206 #[.val (.long q1), .second, .val (.long q2), .second, .val (.long q3), .second, .val (.long q4), .second, .val (.long q5), .second, .val (.int p6), .val (.long (own_f1 q1)), .second, .val (.long z8), .second, .val (.int (p6 &&& (3 : Int32))), .val (.int z13), .val (.int (((p6.toUInt32 >>> ((4 : Int32) &&& 31).toUInt32).toInt32) &&& (3 : Int32))), .val (.long q3), .second, .val (.long q4), .second, .val (.long (q3 ^^^ (-1 : Int64))), .second, .val (.long (q4 ^^^ (-1 : Int64))), .second, .val (.ref b15), .val (.ref b21), .val (.ref b40), .val (.ref b50), .unset] [])) (fun t k => XS.icmpNo X59.here hx rfl (hb hby at_203) rfl (teq hc203_61).2 k) ?_
    refine own_pre (B := T59.setTop (mkF m 208 #[.val (.long q1), .second, .val (.long q2), .second, .val (.long q3), .second, .val (.long q4), .second, .val (.long q5), .second, .val (.int p6), .val (.long (own_f1 q1)), .second, .val (.long z8), .second, .val (.int (p6 &&& (3 : Int32))), .val (.int z13), .val (.int (((p6.toUInt32 >>> ((4 : Int32) &&& 31).toUInt32).toInt32) &&& (3 : Int32))), .val (.long q3), .second, .val (.long q4), .second, .val (.long (q3 ^^^ (-1 : Int64))), .second, .val (.long (q4 ^^^ (-1 : Int64))), .second, .val (.ref b15), .val (.ref b21), .val (.ref b40), .val (.ref b50), .unset] [(.ref b40)])) (fun t k => XS.aload X59.here hx rfl (hb hby at_206) rfl rfl k) ?_
    refine own_pre (B := T59.setTop (mkF m 210 #[.val (.long q1), .second, .val (.long q2), .second, .val (.long q3), .second, .val (.long q4), .second, .val (.long q5), .second, .val (.int p6), .val (.long (own_f1 q1)), .second, .val (.long z8), .second, .val (.int (p6 &&& (3 : Int32))), .val (.int z13), .val (.int (((p6.toUInt32 >>> ((4 : Int32) &&& 31).toUInt32).toInt32) &&& (3 : Int32))), .val (.long q3), .second, .val (.long q4), .second, .val (.long (q3 ^^^ (-1 : Int64))), .second, .val (.long (q4 ^^^ (-1 : Int64))), .second, .val (.ref b15), .val (.ref b21), .val (.ref b40), .val (.ref b50), .unset] [(.ref b40), (.ref b40)])) (fun t k => XS.aload X59.here hx rfl (hb hby at_208) rfl rfl k) ?_
    have c62 := (Exa.keep (q47_0.ext E50) K59)
    have c63 := (Fld.keep (q47_1.ext E50) K59 (ninS ne56 nin0))
    have c64 := (Fld.keep (q47_2.ext E50) K59 (ninS ne56 nin0))
    have c65 := (Exa.keep (c52.ext E50) K59)
    have c66 := (Fld.keep ((Fld.keep ((Fld.keep (q18_1.ext E21) K37 (ninS ne23 nin0)).ext E40) K47 (ninS ne43 nin0)).ext E50) K59 (ninS ne53 nin0))
    have c67 := (Fld.keep ((Fld.keep ((Fld.keep (q18_2.ext E21) K37 (ninS ne23 nin0)).ext E40) K47 (ninS ne43 nin0)).ext E50) K59 (ninS ne53 nin0))
    have c68 := (Fld.keep ((Fld.keep ((Fld.keep (q18_3.ext E21) K37 (ninS ne23 nin0)).ext E40) K47 (ninS ne43 nin0)).ext E50) K59 (ninS ne53 nin0))
    have c69 := (Fld.keep ((Fld.keep ((Fld.keep (q18_4.ext E21) K37 (ninS ne23 nin0)).ext E40) K47 (ninS ne43 nin0)).ext E50) K59 (ninS ne53 nin0))
    have sz70 : n0 ≤ T59.heap.size := (Nat.le_trans sz58 K59.1)
    obtain ⟨cq71, kq71, q71a, q71b, q71c⟩ := isOf hZ rfl c62
    obtain ⟨_, _, ⟨T71, L71, k71, n71⟩, -, X71, ⟨Lc71, hQ71, l71, y71, z71⟩, st71⟩ := X59.virtualBack hx (y := (⟨"com/example/rangewise/rangewise/TimestampedId", "equals", "(Ljava/lang/Object;)Z"⟩ : MethodName)) (z := (⟨"com/example/rangewise/rangewise/TimestampedId", "equals", "(Ljava/lang/Object;)Z"⟩ : MethodName)) hown (mvT hZ (hw _ (ow 48 rfl))) (mvT hZ (hw _ (ow 49 rfl))) (notFace_of_selects (args := #[]) (mvT hZ (hw _ (ow 51 rfl)))) (mvT hZ (hw _ (ow 51 rfl))) (mvT hZ (hw _ (ow 50 rfl))) (by decide) (backOf (W := 0) (rm8 l Z a0 hw [] b40 b40 (own_f1 q1) (own_f1 q1) b15 b15 q3 q3 q4 q4 (q3 ^^^ (-1 : Int64)) (q3 ^^^ (-1 : Int64)) (q4 ^^^ (-1 : Int64)) (q4 ^^^ (-1 : Int64)) T59.heap n0 sz70 c62 c63 c63 c64 c64 c65 c66 c66 c67 c67 c68 c68 c69 c69 c65) hZ (hw _ (ow 52 rfl)) (hw _ (ow 24 rfl)) (by decide) (by decide)) q71a q71c (g := (mkF m 210 #[.val (.long q1), .second, .val (.long q2), .second, .val (.long q3), .second, .val (.long q4), .second, .val (.long q5), .second, .val (.int p6), .val (.long (own_f1 q1)), .second, .val (.long z8), .second, .val (.int (p6 &&& (3 : Int32))), .val (.int z13), .val (.int (((p6.toUInt32 >>> ((4 : Int32) &&& 31).toUInt32).toInt32) &&& (3 : Int32))), .val (.long q3), .second, .val (.long q4), .second, .val (.long (q3 ^^^ (-1 : Int64))), .second, .val (.long (q4 ^^^ (-1 : Int64))), .second, .val (.ref b15), .val (.ref b21), .val (.ref b40), .val (.ref b50), .unset] [(.ref b40), (.ref b40)])) rfl (by rw [hml]; rfl) (Steps.refl _) (argsL := [(.ref b40)]) (rest := []) (lenOf pd_2 rfl) rfl (by show 2 * 0 + _ ≤ _; exact Nat.le_of_eq rfl) (hb hby at_210) (fun _ _ => ⟨rfl, rfl, (by decide : 4 + 0 ≤ _), (by decide : 12 + 0 ≤ _)⟩)
    dsimp only [Pt.U, Pt.locs, Pt.cells, Pt.slots] at X71 l71 y71 z71 st71 hQ71
    subst l71 y71 z71
    obtain ⟨rfl, N71q, e71⟩ := hQ71
    have N71 := Fr.app N59 N71q
    refine own_pre (B := T71.setTop (mkF m 213 #[.val (.long q1), .second, .val (.long q2), .second, .val (.long q3), .second, .val (.long q4), .second, .val (.long q5), .second, .val (.int p6), .val (.long (own_f1 q1)), .second, .val (.long z8), .second, .val (.int (p6 &&& (3 : Int32))), .val (.int z13), .val (.int (((p6.toUInt32 >>> ((4 : Int32) &&& 31).toUInt32).toInt32) &&& (3 : Int32))), .val (.long q3), .second, .val (.long q4), .second, .val (.long (q3 ^^^ (-1 : Int64))), .second, .val (.long (q4 ^^^ (-1 : Int64))), .second, .val (.ref b15), .val (.ref b21), .val (.ref b40), .val (.ref b50), .unset] [(.int (own_f8 (own_f1 q1) (own_f1 q1) q3 q3 q4 q4 (q3 ^^^ (-1 : Int64)) (q3 ^^^ (-1 : Int64)) (q4 ^^^ (-1 : Int64)) (q4 ^^^ (-1 : Int64))))])) (fun t k => st71.trans k) ?_
    refine own_pre (B := T71.setTop (mkF m 216 #[.val (.long q1), .second, .val (.long q2), .second, .val (.long q3), .second, .val (.long q4), .second, .val (.long q5), .second, .val (.int p6), .val (.long (own_f1 q1)), .second, .val (.long z8), .second, .val (.int (p6 &&& (3 : Int32))), .val (.int z13), .val (.int (((p6.toUInt32 >>> ((4 : Int32) &&& 31).toUInt32).toInt32) &&& (3 : Int32))), .val (.long q3), .second, .val (.long q4), .second, .val (.long (q3 ^^^ (-1 : Int64))), .second, .val (.long (q4 ^^^ (-1 : Int64))), .second, .val (.ref b15), .val (.ref b21), .val (.ref b40), .val (.ref b50), .unset] [])) (fun t k => XS.ifNo X71.here hx rfl (hb hby at_213) rfl ((if0 _ _).trans (feq (own_self _ _ _ _ _)).1) k) ?_
    refine own_pre (B := T71.setTop (mkF m 218 #[.val (.long q1), .second, .val (.long q2), .second, .val (.long q3), .second, .val (.long q4), .second, .val (.long q5), .second, .val (.int p6), .val (.long (own_f1 q1)), .second, .val (.long z8), .second, .val (.int (p6 &&& (3 : Int32))), .val (.int z13), .val (.int (((p6.toUInt32 >>> ((4 : Int32) &&& 31).toUInt32).toInt32) &&& (3 : Int32))), .val (.long q3), .second, .val (.long q4), .second, .val (.long (q3 ^^^ (-1 : Int64))), .second, .val (.long (q4 ^^^ (-1 : Int64))), .second, .val (.ref b15), .val (.ref b21), .val (.ref b40), .val (.ref b50), .unset] [(.ref b50)])) (fun t k => XS.aload X71.here hx rfl (hb hby at_216) rfl rfl k) ?_
    refine own_pre (B := T71.setTop (mkF m 220 #[.val (.long q1), .second, .val (.long q2), .second, .val (.long q3), .second, .val (.long q4), .second, .val (.long q5), .second, .val (.int p6), .val (.long (own_f1 q1)), .second, .val (.long z8), .second, .val (.int (p6 &&& (3 : Int32))), .val (.int z13), .val (.int (((p6.toUInt32 >>> ((4 : Int32) &&& 31).toUInt32).toInt32) &&& (3 : Int32))), .val (.long q3), .second, .val (.long q4), .second, .val (.long (q3 ^^^ (-1 : Int64))), .second, .val (.long (q4 ^^^ (-1 : Int64))), .second, .val (.ref b15), .val (.ref b21), .val (.ref b40), .val (.ref b50), .unset] [(.ref b50), (.ref b50)])) (fun t k => XS.aload X71.here hx rfl (hb hby at_218) rfl rfl k) ?_
    have c72 := (Exa.keep c57 K59)
    have c73 := (Fld.keep ((Fld.keep (q37_1.ext E40) K47 (ninS ne44 nin0)).ext E50) K59 (ninS ne55 nin0))
    have c74 := (Fld.keep ((Fld.keep (q37_2.ext E40) K47 (ninS ne44 nin0)).ext E50) K59 (ninS ne55 nin0))
    have c75 := (Fld.keep ((Fld.keep (q37_3.ext E40) K47 (ninS ne44 nin0)).ext E50) K59 (ninS ne55 nin0))
    have c76 := (Fld.keep ((Fld.keep (q37_4.ext E40) K47 (ninS ne44 nin0)).ext E50) K59 (ninS ne55 nin0))
    obtain ⟨cq77, kq77, q77a, q77b, q77c⟩ := isOf hZ e71 q59_0
    obtain ⟨_, _, ⟨T77, L77, k77, n77⟩, -, X77, ⟨Lc77, hQ77, l77, y77, z77⟩, st77⟩ := X71.virtualBack hx (y := (⟨"com/example/rangewise/rangewise/TimestampedId", "equals", "(Ljava/lang/Object;)Z"⟩ : MethodName)) (z := (⟨"com/example/rangewise/rangewise/TimestampedId", "equals", "(Ljava/lang/Object;)Z"⟩ : MethodName)) hown (mvT hZ (hw _ (ow 48 rfl))) (mvT hZ (hw _ (ow 49 rfl))) (notFace_of_selects (args := #[]) (mvT hZ (hw _ (ow 51 rfl)))) (mvT hZ (hw _ (ow 51 rfl))) (mvT hZ (hw _ (ow 50 rfl))) (by decide) (backOf (W := 0) (rm8 l Z a0 hw [] b50 b50 z8 z8 b21 b21 z24 z24 z27 z27 z30 z30 z33 z33 T59.heap n0 sz70 q59_0 q59_1 q59_1 q59_2 q59_2 c72 c73 c73 c74 c74 c75 c75 c76 c76 c72) hZ (hw _ (ow 52 rfl)) (hw _ (ow 24 rfl)) (by decide) (by decide)) q77a q77c (g := (mkF m 220 #[.val (.long q1), .second, .val (.long q2), .second, .val (.long q3), .second, .val (.long q4), .second, .val (.long q5), .second, .val (.int p6), .val (.long (own_f1 q1)), .second, .val (.long z8), .second, .val (.int (p6 &&& (3 : Int32))), .val (.int z13), .val (.int (((p6.toUInt32 >>> ((4 : Int32) &&& 31).toUInt32).toInt32) &&& (3 : Int32))), .val (.long q3), .second, .val (.long q4), .second, .val (.long (q3 ^^^ (-1 : Int64))), .second, .val (.long (q4 ^^^ (-1 : Int64))), .second, .val (.ref b15), .val (.ref b21), .val (.ref b40), .val (.ref b50), .unset] [(.ref b50), (.ref b50)])) rfl (by rw [hml]; rfl) (Steps.refl _) (argsL := [(.ref b50)]) (rest := []) (lenOf pd_2 rfl) rfl (by show 2 * 0 + _ ≤ _; exact Nat.le_of_eq rfl) (hb hby at_220) (fun _ _ => ⟨rfl, e71, (by decide : 4 + 0 ≤ _), (by decide : 12 + 0 ≤ _)⟩)
    dsimp only [Pt.U, Pt.locs, Pt.cells, Pt.slots] at X77 l77 y77 z77 st77 hQ77
    subst l77 y77 z77
    obtain ⟨rfl, N77q, e77⟩ := hQ77
    have N77 := Fr.app N71 N77q
    refine own_pre (B := T77.setTop (mkF m 223 #[.val (.long q1), .second, .val (.long q2), .second, .val (.long q3), .second, .val (.long q4), .second, .val (.long q5), .second, .val (.int p6), .val (.long (own_f1 q1)), .second, .val (.long z8), .second, .val (.int (p6 &&& (3 : Int32))), .val (.int z13), .val (.int (((p6.toUInt32 >>> ((4 : Int32) &&& 31).toUInt32).toInt32) &&& (3 : Int32))), .val (.long q3), .second, .val (.long q4), .second, .val (.long (q3 ^^^ (-1 : Int64))), .second, .val (.long (q4 ^^^ (-1 : Int64))), .second, .val (.ref b15), .val (.ref b21), .val (.ref b40), .val (.ref b50), .unset] [(.int (own_f8 z8 z8 z24 z24 z27 z27 z30 z30 z33 z33))])) (fun t k => st77.trans k) ?_
    refine own_pre (B := T77.setTop (mkF m 226 #[.val (.long q1), .second, .val (.long q2), .second, .val (.long q3), .second, .val (.long q4), .second, .val (.long q5), .second, .val (.int p6), .val (.long (own_f1 q1)), .second, .val (.long z8), .second, .val (.int (p6 &&& (3 : Int32))), .val (.int z13), .val (.int (((p6.toUInt32 >>> ((4 : Int32) &&& 31).toUInt32).toInt32) &&& (3 : Int32))), .val (.long q3), .second, .val (.long q4), .second, .val (.long (q3 ^^^ (-1 : Int64))), .second, .val (.long (q4 ^^^ (-1 : Int64))), .second, .val (.ref b15), .val (.ref b21), .val (.ref b40), .val (.ref b50), .unset] [])) (fun t k => XS.ifNo X77.here hx rfl (hb hby at_223) rfl ((if0 _ _).trans (feq (own_self _ _ _ _ _)).1) k) ?_
    refine own_pre (B := T77.setTop (mkF m 227 #[.val (.long q1), .second, .val (.long q2), .second, .val (.long q3), .second, .val (.long q4), .second, .val (.long q5), .second, .val (.int p6), .val (.long (own_f1 q1)), .second, .val (.long z8), .second, .val (.int (p6 &&& (3 : Int32))), .val (.int z13), .val (.int (((p6.toUInt32 >>> ((4 : Int32) &&& 31).toUInt32).toInt32) &&& (3 : Int32))), .val (.long q3), .second, .val (.long q4), .second, .val (.long (q3 ^^^ (-1 : Int64))), .second, .val (.long (q4 ^^^ (-1 : Int64))), .second, .val (.ref b15), .val (.ref b21), .val (.ref b40), .val (.ref b50), .unset] [(.int (1 : Int32))])) (fun t k => XS.iconst X77.here hx rfl (hb hby at_226) k) ?_
    refine own_pre (B := T77.setTop (mkF m 231 #[.val (.long q1), .second, .val (.long q2), .second, .val (.long q3), .second, .val (.long q4), .second, .val (.long q5), .second, .val (.int p6), .val (.long (own_f1 q1)), .second, .val (.long z8), .second, .val (.int (p6 &&& (3 : Int32))), .val (.int z13), .val (.int (((p6.toUInt32 >>> ((4 : Int32) &&& 31).toUInt32).toInt32) &&& (3 : Int32))), .val (.long q3), .second, .val (.long q4), .second, .val (.long (q3 ^^^ (-1 : Int64))), .second, .val (.long (q4 ^^^ (-1 : Int64))), .second, .val (.ref b15), .val (.ref b21), .val (.ref b40), .val (.ref b50), .unset] [(.int (1 : Int32))])) (fun t k => XS.goto X77.here hx rfl (pc0 := 227) (pc' := 231) rfl (hb hby at_227) (by decide) (by decide) k) ?_
    obtain ⟨fsr78, hrr78, hrunr78, hendedr78, hWr78, hsamer78⟩ := X77.leave (v := some (.int (1 : Int32))) (fun h => by rw [Bd.returns] at h; cases h)
    refine ⟨_, _, (retN X77 hx (t := .boolean) Bd.returns (by simp) (hb hby at_231) hrr78), hrunr78, hendedr78, _, _, rfl, ?_, ⟨_, rfl⟩, hWr78, hsamer78.mono (by decide) (by decide)⟩
    show Q0 Z q1 q2 q3 q4 q5 p6 h0 n0 _ T77.heap _
    rw [e77]
    exact ⟨rfl, N77⟩
  · refine own_pre (B := T59.setTop (mkF m 232 #[.val (.long q1), .second, .val (.long q2), .second, .val (.long q3), .second, .val (.long q4), .second, .val (.long q5), .second, .val (.int p6), .val (.long (own_f1 q1)), .second, .val (.long z8), .second, .val (.int (p6 &&& (3 : Int32))), .val (.int z13), .val (.int (((p6.toUInt32 >>> ((4 : Int32) &&& 31).toUInt32).toInt32) &&& (3 : Int32))), .val (.long q3), .second, .val (.long q4), .second, .val (.long (q3 ^^^ (-1 : Int64))), .second, .val (.long (q4 ^^^ (-1 : Int64))), .second, .val (.ref b15), .val (.ref b21), .val (.ref b40), .val (.ref b50), .unset] [])) (fun t k => XS.icmpYes X59.here hx rfl (pc0 := 203) (pc' := 232) rfl (hb hby at_203) rfl (feq hc203_61).2 (by decide) (by decide) k) ?_
    refine own_pre (B := T59.setTop (mkF m 234 #[.val (.long q1), .second, .val (.long q2), .second, .val (.long q3), .second, .val (.long q4), .second, .val (.long q5), .second, .val (.int p6), .val (.long (own_f1 q1)), .second, .val (.long z8), .second, .val (.int (p6 &&& (3 : Int32))), .val (.int z13), .val (.int (((p6.toUInt32 >>> ((4 : Int32) &&& 31).toUInt32).toInt32) &&& (3 : Int32))), .val (.long q3), .second, .val (.long q4), .second, .val (.long (q3 ^^^ (-1 : Int64))), .second, .val (.long (q4 ^^^ (-1 : Int64))), .second, .val (.ref b15), .val (.ref b21), .val (.ref b40), .val (.ref b50), .unset] [(.int (((p6.toUInt32 >>> ((4 : Int32) &&& 31).toUInt32).toInt32) &&& (3 : Int32)))])) (fun t k => XS.iload X59.here hx rfl (hb hby at_232) rfl k) ?_
    refine own_pre (B := T59.setTop (mkF m 235 #[.val (.long q1), .second, .val (.long q2), .second, .val (.long q3), .second, .val (.long q4), .second, .val (.long q5), .second, .val (.int p6), .val (.long (own_f1 q1)), .second, .val (.long z8), .second, .val (.int (p6 &&& (3 : Int32))), .val (.int z13), .val (.int (((p6.toUInt32 >>> ((4 : Int32) &&& 31).toUInt32).toInt32) &&& (3 : Int32))), .val (.long q3), .second, .val (.long q4), .second, .val (.long (q3 ^^^ (-1 : Int64))), .second, .val (.long (q4 ^^^ (-1 : Int64))), .second, .val (.ref b15), .val (.ref b21), .val (.ref b40), .val (.ref b50), .unset] [(.int (2 : Int32)), (.int (((p6.toUInt32 >>> ((4 : Int32) &&& 31).toUInt32).toInt32) &&& (3 : Int32)))])) (fun t k => XS.iconst X59.here hx rfl (hb hby at_234) k) ?_
    by_cases hc235_79 : (((p6.toUInt32 >>> ((4 : Int32) &&& 31).toUInt32).toInt32) &&& (3 : Int32)) = (2 : Int32)
    · refine own_pre (B := T59.setTop (mkF m 238 #[.val (.long q1), .second, .val (.long q2), .second, .val (.long q3), .second, .val (.long q4), .second, .val (.long q5), .second, .val (.int p6), .val (.long (own_f1 q1)), .second, .val (.long z8), .second, .val (.int (p6 &&& (3 : Int32))), .val (.int z13), .val (.int (((p6.toUInt32 >>> ((4 : Int32) &&& 31).toUInt32).toInt32) &&& (3 : Int32))), .val (.long q3), .second, .val (.long q4), .second, .val (.long (q3 ^^^ (-1 : Int64))), .second, .val (.long (q4 ^^^ (-1 : Int64))), .second, .val (.ref b15), .val (.ref b21), .val (.ref b40), .val (.ref b50), .unset] [])) (fun t k => XS.icmpNo X59.here hx rfl (hb hby at_235) rfl (teq hc235_79).2 k) ?_
      refine own_pre (B := T59.setTop (mkF m 240 #[.val (.long q1), .second, .val (.long q2), .second, .val (.long q3), .second, .val (.long q4), .second, .val (.long q5), .second, .val (.int p6), .val (.long (own_f1 q1)), .second, .val (.long z8), .second, .val (.int (p6 &&& (3 : Int32))), .val (.int z13), .val (.int (((p6.toUInt32 >>> ((4 : Int32) &&& 31).toUInt32).toInt32) &&& (3 : Int32))), .val (.long q3), .second, .val (.long q4), .second, .val (.long (q3 ^^^ (-1 : Int64))), .second, .val (.long (q4 ^^^ (-1 : Int64))), .second, .val (.ref b15), .val (.ref b21), .val (.ref b40), .val (.ref b50), .unset] [(.ref b40)])) (fun t k => XS.aload X59.here hx rfl (hb hby at_238) rfl rfl k) ?_
      refine own_pre (B := T59.setTop (mkF m 242 #[.val (.long q1), .second, .val (.long q2), .second, .val (.long q3), .second, .val (.long q4), .second, .val (.long q5), .second, .val (.int p6), .val (.long (own_f1 q1)), .second, .val (.long z8), .second, .val (.int (p6 &&& (3 : Int32))), .val (.int z13), .val (.int (((p6.toUInt32 >>> ((4 : Int32) &&& 31).toUInt32).toInt32) &&& (3 : Int32))), .val (.long q3), .second, .val (.long q4), .second, .val (.long (q3 ^^^ (-1 : Int64))), .second, .val (.long (q4 ^^^ (-1 : Int64))), .second, .val (.ref b15), .val (.ref b21), .val (.ref b40), .val (.ref b50), .unset] [(.ref b15), (.ref b40)])) (fun t k => XS.aload X59.here hx rfl (hb hby at_240) rfl rfl k) ?_
      have c80 := (Exa.keep (c52.ext E50) K59)
      have sz81 : n0 ≤ T59.heap.size := (Nat.le_trans sz58 K59.1)
      have c83 := (Exa.keep (q47_0.ext E50) K59)
      obtain ⟨cq82, kq82, q82a, q82b, q82c⟩ := isOf hZ rfl c83
      obtain ⟨_, _, ⟨T82, L82, k82, n82⟩, -, X82, ⟨Lc82, hQ82, l82, y82, z82⟩, st82⟩ := X59.virtualBack hx (y := (⟨"com/example/rangewise/rangewise/TimestampedId", "equals", "(Ljava/lang/Object;)Z"⟩ : MethodName)) (z := (⟨"com/example/rangewise/rangewise/TimestampedId", "equals", "(Ljava/lang/Object;)Z"⟩ : MethodName)) hown (mvT hZ (hw _ (ow 48 rfl))) (mvT hZ (hw _ (ow 49 rfl))) (notFace_of_selects (args := #[]) (mvT hZ (hw _ (ow 51 rfl)))) (mvT hZ (hw _ (ow 51 rfl))) (mvT hZ (hw _ (ow 50 rfl))) (by decide) (backOf (W := 0) (rm8x l Z a0 hw [] b40 b15 T59.heap n0 sz81 c80) hZ (hw _ (ow 52 rfl)) (hw _ (ow 24 rfl)) (by decide) (by decide)) q82a q82c (g := (mkF m 242 #[.val (.long q1), .second, .val (.long q2), .second, .val (.long q3), .second, .val (.long q4), .second, .val (.long q5), .second, .val (.int p6), .val (.long (own_f1 q1)), .second, .val (.long z8), .second, .val (.int (p6 &&& (3 : Int32))), .val (.int z13), .val (.int (((p6.toUInt32 >>> ((4 : Int32) &&& 31).toUInt32).toInt32) &&& (3 : Int32))), .val (.long q3), .second, .val (.long q4), .second, .val (.long (q3 ^^^ (-1 : Int64))), .second, .val (.long (q4 ^^^ (-1 : Int64))), .second, .val (.ref b15), .val (.ref b21), .val (.ref b40), .val (.ref b50), .unset] [(.ref b15), (.ref b40)])) rfl (by rw [hml]; rfl) (Steps.refl _) (argsL := [(.ref b15)]) (rest := []) (lenOf pd_2 rfl) rfl (by show 2 * 0 + _ ≤ _; exact Nat.le_of_eq rfl) (hb hby at_242) (fun _ _ => ⟨rfl, rfl, (by decide : 4 + 0 ≤ _), (by decide : 12 + 0 ≤ _)⟩)
      dsimp only [Pt.U, Pt.locs, Pt.cells, Pt.slots] at X82 l82 y82 z82 st82 hQ82
      subst l82 y82 z82
      obtain ⟨rfl, N82q, e82⟩ := hQ82
      have N82 := Fr.app N59 N82q
      refine own_pre (B := T82.setTop (mkF m 245 #[.val (.long q1), .second, .val (.long q2), .second, .val (.long q3), .second, .val (.long q4), .second, .val (.long q5), .second, .val (.int p6), .val (.long (own_f1 q1)), .second, .val (.long z8), .second, .val (.int (p6 &&& (3 : Int32))), .val (.int z13), .val (.int (((p6.toUInt32 >>> ((4 : Int32) &&& 31).toUInt32).toInt32) &&& (3 : Int32))), .val (.long q3), .second, .val (.long q4), .second, .val (.long (q3 ^^^ (-1 : Int64))), .second, .val (.long (q4 ^^^ (-1 : Int64))), .second, .val (.ref b15), .val (.ref b21), .val (.ref b40), .val (.ref b50), .unset] [(.int own_f8x)])) (fun t k => st82.trans k) ?_
      refine own_pre (B := T82.setTop (mkF m 248 #[.val (.long q1), .second, .val (.long q2), .second, .val (.long q3), .second, .val (.long q4), .second, .val (.long q5), .second, .val (.int p6), .val (.long (own_f1 q1)), .second, .val (.long z8), .second, .val (.int (p6 &&& (3 : Int32))), .val (.int z13), .val (.int (((p6.toUInt32 >>> ((4 : Int32) &&& 31).toUInt32).toInt32) &&& (3 : Int32))), .val (.long q3), .second, .val (.long q4), .second, .val (.long (q3 ^^^ (-1 : Int64))), .second, .val (.long (q4 ^^^ (-1 : Int64))), .second, .val (.ref b15), .val (.ref b21), .val (.ref b40), .val (.ref b50), .unset] [])) (fun t k => XS.ifNo X82.here hx rfl (hb hby at_245) rfl ((if0 _ _).trans (teq (by rfl : own_f8x = (0 : Int32))).2) k) ?_
      refine own_pre (B := T82.setTop (mkF m 249 #[.val (.long q1), .second, .val (.long q2), .second, .val (.long q3), .second, .val (.long q4), .second, .val (.long q5), .second, .val (.int p6), .val (.long (own_f1 q1)), .second, .val (.long z8), .second, .val (.int (p6 &&& (3 : Int32))), .val (.int z13), .val (.int (((p6.toUInt32 >>> ((4 : Int32) &&& 31).toUInt32).toInt32) &&& (3 : Int32))), .val (.long q3), .second, .val (.long q4), .second, .val (.long (q3 ^^^ (-1 : Int64))), .second, .val (.long (q4 ^^^ (-1 : Int64))), .second, .val (.ref b15), .val (.ref b21), .val (.ref b40), .val (.ref b50), .unset] [(.int (1 : Int32))])) (fun t k => XS.iconst X82.here hx rfl (hb hby at_248) k) ?_
      refine own_pre (B := T82.setTop (mkF m 253 #[.val (.long q1), .second, .val (.long q2), .second, .val (.long q3), .second, .val (.long q4), .second, .val (.long q5), .second, .val (.int p6), .val (.long (own_f1 q1)), .second, .val (.long z8), .second, .val (.int (p6 &&& (3 : Int32))), .val (.int z13), .val (.int (((p6.toUInt32 >>> ((4 : Int32) &&& 31).toUInt32).toInt32) &&& (3 : Int32))), .val (.long q3), .second, .val (.long q4), .second, .val (.long (q3 ^^^ (-1 : Int64))), .second, .val (.long (q4 ^^^ (-1 : Int64))), .second, .val (.ref b15), .val (.ref b21), .val (.ref b40), .val (.ref b50), .unset] [(.int (1 : Int32))])) (fun t k => XS.goto X82.here hx rfl (pc0 := 249) (pc' := 253) rfl (hb hby at_249) (by decide) (by decide) k) ?_
      obtain ⟨fsr84, hrr84, hrunr84, hendedr84, hWr84, hsamer84⟩ := X82.leave (v := some (.int (1 : Int32))) (fun h => by rw [Bd.returns] at h; cases h)
      refine ⟨_, _, (retN X82 hx (t := .boolean) Bd.returns (by simp) (hb hby at_253) hrr84), hrunr84, hendedr84, _, _, rfl, ?_, ⟨_, rfl⟩, hWr84, hsamer84.mono (by decide) (by decide)⟩
      show Q0 Z q1 q2 q3 q4 q5 p6 h0 n0 _ T82.heap _
      rw [e82]
      exact ⟨rfl, N82⟩
    · refine own_pre (B := T59.setTop (mkF m 254 #[.val (.long q1), .second, .val (.long q2), .second, .val (.long q3), .second, .val (.long q4), .second, .val (.long q5), .second, .val (.int p6), .val (.long (own_f1 q1)), .second, .val (.long z8), .second, .val (.int (p6 &&& (3 : Int32))), .val (.int z13), .val (.int (((p6.toUInt32 >>> ((4 : Int32) &&& 31).toUInt32).toInt32) &&& (3 : Int32))), .val (.long q3), .second, .val (.long q4), .second, .val (.long (q3 ^^^ (-1 : Int64))), .second, .val (.long (q4 ^^^ (-1 : Int64))), .second, .val (.ref b15), .val (.ref b21), .val (.ref b40), .val (.ref b50), .unset] [])) (fun t k => XS.icmpYes X59.here hx rfl (pc0 := 235) (pc' := 254) rfl (hb hby at_235) rfl (feq hc235_79).2 (by decide) (by decide) k) ?_
      refine own_pre (B := T59.setTop (mkF m 256 #[.val (.long q1), .second, .val (.long q2), .second, .val (.long q3), .second, .val (.long q4), .second, .val (.long q5), .second, .val (.int p6), .val (.long (own_f1 q1)), .second, .val (.long z8), .second, .val (.int (p6 &&& (3 : Int32))), .val (.int z13), .val (.int (((p6.toUInt32 >>> ((4 : Int32) &&& 31).toUInt32).toInt32) &&& (3 : Int32))), .val (.long q3), .second, .val (.long q4), .second, .val (.long (q3 ^^^ (-1 : Int64))), .second, .val (.long (q4 ^^^ (-1 : Int64))), .second, .val (.ref b15), .val (.ref b21), .val (.ref b40), .val (.ref b50), .unset] [(.int (((p6.toUInt32 >>> ((4 : Int32) &&& 31).toUInt32).toInt32) &&& (3 : Int32)))])) (fun t k => XS.iload X59.here hx rfl (hb hby at_254) rfl k) ?_
      refine own_pre (B := T59.setTop (mkF m 257 #[.val (.long q1), .second, .val (.long q2), .second, .val (.long q3), .second, .val (.long q4), .second, .val (.long q5), .second, .val (.int p6), .val (.long (own_f1 q1)), .second, .val (.long z8), .second, .val (.int (p6 &&& (3 : Int32))), .val (.int z13), .val (.int (((p6.toUInt32 >>> ((4 : Int32) &&& 31).toUInt32).toInt32) &&& (3 : Int32))), .val (.long q3), .second, .val (.long q4), .second, .val (.long (q3 ^^^ (-1 : Int64))), .second, .val (.long (q4 ^^^ (-1 : Int64))), .second, .val (.ref b15), .val (.ref b21), .val (.ref b40), .val (.ref b50), .unset] [(.int (3 : Int32)), (.int (((p6.toUInt32 >>> ((4 : Int32) &&& 31).toUInt32).toInt32) &&& (3 : Int32)))])) (fun t k => XS.iconst X59.here hx rfl (hb hby at_256) k) ?_
      by_cases hc257_85 : (((p6.toUInt32 >>> ((4 : Int32) &&& 31).toUInt32).toInt32) &&& (3 : Int32)) = (3 : Int32)
      · refine own_pre (B := T59.setTop (mkF m 260 #[.val (.long q1), .second, .val (.long q2), .second, .val (.long q3), .second, .val (.long q4), .second, .val (.long q5), .second, .val (.int p6), .val (.long (own_f1 q1)), .second, .val (.long z8), .second, .val (.int (p6 &&& (3 : Int32))), .val (.int z13), .val (.int (((p6.toUInt32 >>> ((4 : Int32) &&& 31).toUInt32).toInt32) &&& (3 : Int32))), .val (.long q3), .second, .val (.long q4), .second, .val (.long (q3 ^^^ (-1 : Int64))), .second, .val (.long (q4 ^^^ (-1 : Int64))), .second, .val (.ref b15), .val (.ref b21), .val (.ref b40), .val (.ref b50), .unset] [])) (fun t k => XS.icmpNo X59.here hx rfl (hb hby at_257) rfl (teq hc257_85).2 k) ?_
        refine own_pre (B := T59.setTop (mkF m 262 #[.val (.long q1), .second, .val (.long q2), .second, .val (.long q3), .second, .val (.long q4), .second, .val (.long q5), .second, .val (.int p6), .val (.long (own_f1 q1)), .second, .val (.long z8), .second, .val (.int (p6 &&& (3 : Int32))), .val (.int z13), .val (.int (((p6.toUInt32 >>> ((4 : Int32) &&& 31).toUInt32).toInt32) &&& (3 : Int32))), .val (.long q3), .second, .val (.long q4), .second, .val (.long (q3 ^^^ (-1 : Int64))), .second, .val (.long (q4 ^^^ (-1 : Int64))), .second, .val (.ref b15), .val (.ref b21), .val (.ref b40), .val (.ref b50), .unset] [(.ref b40)])) (fun t k => XS.aload X59.here hx rfl (hb hby at_260) rfl rfl k) ?_
        refine own_pre (B := T59.setTop (mkF m 263 #[.val (.long q1), .second, .val (.long q2), .second, .val (.long q3), .second, .val (.long q4), .second, .val (.long q5), .second, .val (.int p6), .val (.long (own_f1 q1)), .second, .val (.long z8), .second, .val (.int (p6 &&& (3 : Int32))), .val (.int z13), .val (.int (((p6.toUInt32 >>> ((4 : Int32) &&& 31).toUInt32).toInt32) &&& (3 : Int32))), .val (.long q3), .second, .val (.long q4), .second, .val (.long (q3 ^^^ (-1 : Int64))), .second, .val (.long (q4 ^^^ (-1 : Int64))), .second, .val (.ref b15), .val (.ref b21), .val (.ref b40), .val (.ref b50), .unset] [.null, (.ref b40)])) (fun t k => XS.aconstNull X59.here hx rfl (hb hby at_262) k) ?_
        have sz86 : n0 ≤ T59.heap.size := (Nat.le_trans sz58 K59.1)
        have c88 := (Exa.keep (q47_0.ext E50) K59)
        obtain ⟨cq87, kq87, q87a, q87b, q87c⟩ := isOf hZ rfl c88
        obtain ⟨_, _, ⟨T87, L87, k87, n87⟩, -, X87, ⟨Lc87, hQ87, l87, y87, z87⟩, st87⟩ := X59.virtualBack hx (y := (⟨"com/example/rangewise/rangewise/TimestampedId", "equals", "(Ljava/lang/Object;)Z"⟩ : MethodName)) (z := (⟨"com/example/rangewise/rangewise/TimestampedId", "equals", "(Ljava/lang/Object;)Z"⟩ : MethodName)) hown (mvT hZ (hw _ (ow 48 rfl))) (mvT hZ (hw _ (ow 49 rfl))) (notFace_of_selects (args := #[]) (mvT hZ (hw _ (ow 51 rfl)))) (mvT hZ (hw _ (ow 51 rfl))) (mvT hZ (hw _ (ow 50 rfl))) (by decide) (backOf (W := 0) (rm8n l Z a0 hw [] b40 T59.heap n0 sz86 ) hZ (hw _ (ow 52 rfl)) (hw _ (ow 24 rfl)) (by decide) (by decide)) q87a q87c (g := (mkF m 263 #[.val (.long q1), .second, .val (.long q2), .second, .val (.long q3), .second, .val (.long q4), .second, .val (.long q5), .second, .val (.int p6), .val (.long (own_f1 q1)), .second, .val (.long z8), .second, .val (.int (p6 &&& (3 : Int32))), .val (.int z13), .val (.int (((p6.toUInt32 >>> ((4 : Int32) &&& 31).toUInt32).toInt32) &&& (3 : Int32))), .val (.long q3), .second, .val (.long q4), .second, .val (.long (q3 ^^^ (-1 : Int64))), .second, .val (.long (q4 ^^^ (-1 : Int64))), .second, .val (.ref b15), .val (.ref b21), .val (.ref b40), .val (.ref b50), .unset] [.null, (.ref b40)])) rfl (by rw [hml]; rfl) (Steps.refl _) (argsL := [.null]) (rest := []) (lenOf pd_2 rfl) rfl (by show 2 * 0 + _ ≤ _; exact Nat.le_of_eq rfl) (hb hby at_263) (fun _ _ => ⟨rfl, rfl, (by decide : 4 + 0 ≤ _), (by decide : 12 + 0 ≤ _)⟩)
        dsimp only [Pt.U, Pt.locs, Pt.cells, Pt.slots] at X87 l87 y87 z87 st87 hQ87
        subst l87 y87 z87
        obtain ⟨rfl, N87q, e87⟩ := hQ87
        have N87 := Fr.app N59 N87q
        refine own_pre (B := T87.setTop (mkF m 266 #[.val (.long q1), .second, .val (.long q2), .second, .val (.long q3), .second, .val (.long q4), .second, .val (.long q5), .second, .val (.int p6), .val (.long (own_f1 q1)), .second, .val (.long z8), .second, .val (.int (p6 &&& (3 : Int32))), .val (.int z13), .val (.int (((p6.toUInt32 >>> ((4 : Int32) &&& 31).toUInt32).toInt32) &&& (3 : Int32))), .val (.long q3), .second, .val (.long q4), .second, .val (.long (q3 ^^^ (-1 : Int64))), .second, .val (.long (q4 ^^^ (-1 : Int64))), .second, .val (.ref b15), .val (.ref b21), .val (.ref b40), .val (.ref b50), .unset] [(.int own_f8n)])) (fun t k => st87.trans k) ?_
        refine own_pre (B := T87.setTop (mkF m 269 #[.val (.long q1), .second, .val (.long q2), .second, .val (.long q3), .second, .val (.long q4), .second, .val (.long q5), .second, .val (.int p6), .val (.long (own_f1 q1)), .second, .val (.long z8), .second, .val (.int (p6 &&& (3 : Int32))), .val (.int z13), .val (.int (((p6.toUInt32 >>> ((4 : Int32) &&& 31).toUInt32).toInt32) &&& (3 : Int32))), .val (.long q3), .second, .val (.long q4), .second, .val (.long (q3 ^^^ (-1 : Int64))), .second, .val (.long (q4 ^^^ (-1 : Int64))), .second, .val (.ref b15), .val (.ref b21), .val (.ref b40), .val (.ref b50), .unset] [])) (fun t k => XS.ifNo X87.here hx rfl (hb hby at_266) rfl ((if0 _ _).trans (teq (by rfl : own_f8n = (0 : Int32))).2) k) ?_
        refine own_pre (B := T87.setTop (mkF m 270 #[.val (.long q1), .second, .val (.long q2), .second, .val (.long q3), .second, .val (.long q4), .second, .val (.long q5), .second, .val (.int p6), .val (.long (own_f1 q1)), .second, .val (.long z8), .second, .val (.int (p6 &&& (3 : Int32))), .val (.int z13), .val (.int (((p6.toUInt32 >>> ((4 : Int32) &&& 31).toUInt32).toInt32) &&& (3 : Int32))), .val (.long q3), .second, .val (.long q4), .second, .val (.long (q3 ^^^ (-1 : Int64))), .second, .val (.long (q4 ^^^ (-1 : Int64))), .second, .val (.ref b15), .val (.ref b21), .val (.ref b40), .val (.ref b50), .unset] [(.int (1 : Int32))])) (fun t k => XS.iconst X87.here hx rfl (hb hby at_269) k) ?_
        refine own_pre (B := T87.setTop (mkF m 274 #[.val (.long q1), .second, .val (.long q2), .second, .val (.long q3), .second, .val (.long q4), .second, .val (.long q5), .second, .val (.int p6), .val (.long (own_f1 q1)), .second, .val (.long z8), .second, .val (.int (p6 &&& (3 : Int32))), .val (.int z13), .val (.int (((p6.toUInt32 >>> ((4 : Int32) &&& 31).toUInt32).toInt32) &&& (3 : Int32))), .val (.long q3), .second, .val (.long q4), .second, .val (.long (q3 ^^^ (-1 : Int64))), .second, .val (.long (q4 ^^^ (-1 : Int64))), .second, .val (.ref b15), .val (.ref b21), .val (.ref b40), .val (.ref b50), .unset] [(.int (1 : Int32))])) (fun t k => XS.goto X87.here hx rfl (pc0 := 270) (pc' := 274) rfl (hb hby at_270) (by decide) (by decide) k) ?_
        obtain ⟨fsr89, hrr89, hrunr89, hendedr89, hWr89, hsamer89⟩ := X87.leave (v := some (.int (1 : Int32))) (fun h => by rw [Bd.returns] at h; cases h)
        refine ⟨_, _, (retN X87 hx (t := .boolean) Bd.returns (by simp) (hb hby at_274) hrr89), hrunr89, hendedr89, _, _, rfl, ?_, ⟨_, rfl⟩, hWr89, hsamer89.mono (by decide) (by decide)⟩
        show Q0 Z q1 q2 q3 q4 q5 p6 h0 n0 _ T87.heap _
        rw [e87]
        exact ⟨rfl, N87⟩
      · refine own_pre (B := T59.setTop (mkF m 275 #[.val (.long q1), .second, .val (.long q2), .second, .val (.long q3), .second, .val (.long q4), .second, .val (.long q5), .second, .val (.int p6), .val (.long (own_f1 q1)), .second, .val (.long z8), .second, .val (.int (p6 &&& (3 : Int32))), .val (.int z13), .val (.int (((p6.toUInt32 >>> ((4 : Int32) &&& 31).toUInt32).toInt32) &&& (3 : Int32))), .val (.long q3), .second, .val (.long q4), .second, .val (.long (q3 ^^^ (-1 : Int64))), .second, .val (.long (q4 ^^^ (-1 : Int64))), .second, .val (.ref b15), .val (.ref b21), .val (.ref b40), .val (.ref b50), .unset] [])) (fun t k => XS.icmpYes X59.here hx rfl (pc0 := 257) (pc' := 275) rfl (hb hby at_257) rfl (feq hc257_85).2 (by decide) (by decide) k) ?_
        refine own_pre (B := T59.setTop (mkF m 277 #[.val (.long q1), .second, .val (.long q2), .second, .val (.long q3), .second, .val (.long q4), .second, .val (.long q5), .second, .val (.int p6), .val (.long (own_f1 q1)), .second, .val (.long z8), .second, .val (.int (p6 &&& (3 : Int32))), .val (.int z13), .val (.int (((p6.toUInt32 >>> ((4 : Int32) &&& 31).toUInt32).toInt32) &&& (3 : Int32))), .val (.long q3), .second, .val (.long q4), .second, .val (.long (q3 ^^^ (-1 : Int64))), .second, .val (.long (q4 ^^^ (-1 : Int64))), .second, .val (.ref b15), .val (.ref b21), .val (.ref b40), .val (.ref b50), .unset] [(.long (own_f1 q1))])) (fun t k => XS.lload X59.here hx rfl (hb hby at_275) rfl k) ?_
        refine own_pre (B := T59.setTop (mkF m 279 #[.val (.long q1), .second, .val (.long q2), .second, .val (.long q3), .second, .val (.long q4), .second, .val (.long q5), .second, .val (.int p6), .val (.long (own_f1 q1)), .second, .val (.long z8), .second, .val (.int (p6 &&& (3 : Int32))), .val (.int z13), .val (.int (((p6.toUInt32 >>> ((4 : Int32) &&& 31).toUInt32).toInt32) &&& (3 : Int32))), .val (.long q3), .second, .val (.long q4), .second, .val (.long (q3 ^^^ (-1 : Int64))), .second, .val (.long (q4 ^^^ (-1 : Int64))), .second, .val (.ref b15), .val (.ref b21), .val (.ref b40), .val (.ref b50), .unset] [(.long z8), (.long (own_f1 q1))])) (fun t k => XS.lload X59.here hx rfl (hb hby at_277) rfl k) ?_
        refine own_pre (B := T59.setTop (mkF m 280 #[.val (.long q1), .second, .val (.long q2), .second, .val (.long q3), .second, .val (.long q4), .second, .val (.long q5), .second, .val (.int p6), .val (.long (own_f1 q1)), .second, .val (.long z8), .second, .val (.int (p6 &&& (3 : Int32))), .val (.int z13), .val (.int (((p6.toUInt32 >>> ((4 : Int32) &&& 31).toUInt32).toInt32) &&& (3 : Int32))), .val (.long q3), .second, .val (.long q4), .second, .val (.long (q3 ^^^ (-1 : Int64))), .second, .val (.long (q4 ^^^ (-1 : Int64))), .second, .val (.ref b15), .val (.ref b21), .val (.ref b40), .val (.ref b50), .unset] [(.int (lcmpW (own_f1 q1) z8))])) (fun t k => XS.lcmp X59.here hx rfl (hb hby at_279) rfl k) ?_
        obtain ⟨z90, hz90⟩ : ∃ z : Int32, z = (if (own_f1 q1) = z8 then (if z13 = (0 : Int32) then (1 : Int32) else (if q5 = (own_f9 (p6 &&& (3 : Int32)) q3 q4 (q3 ^^^ (-1 : Int64)) (q4 ^^^ (-1 : Int64))) then (1 : Int32) else (0 : Int32))) else (0 : Int32)) := ⟨_, rfl⟩
        have K92 : Keep h0 T59.heap [] := (Keep.trans K60 K59 (allS (P := fun x => x ∈ [] ∨ h0.size ≤ x) (Or.inr s_b50) all0))
        obtain ⟨_, ⟨T91, h91, L91, rfl, X91, e91, N91, K91j, j91_0, j91_1, j91_2, j91_3, j91_4, j91_5, j91_6, j91_7, j91_8, j91_9, j91_10, j91_11, j91_12, j91_13, j91_14, j91_15⟩, st91⟩ : own_J p.tables e below (fun B => ∃ (T' : State) (h' : Heap) (L' : List Loc), B = T'.setTop (mkF m 312 #[.val (.long q1), .second, .val (.long q2), .second, .val (.long q3), .second, .val (.long q4), .second, .val (.long q5), .second, .val (.int p6), .val (.long (own_f1 q1)), .second, .val (.long z8), .second, .val (.int (p6 &&& (3 : Int32))), .val (.int z13), .val (.int (((p6.toUInt32 >>> ((4 : Int32) &&& 31).toUInt32).toInt32) &&& (3 : Int32))), .val (.long q3), .second, .val (.long q4), .second, .val (.long (q3 ^^^ (-1 : Int64))), .second, .val (.long (q4 ^^^ (-1 : Int64))), .second, .val (.ref b15), .val (.ref b21), .val (.ref b40), .val (.ref b50), .unset] [(.int z90)]) ∧ Stand p l e room_1 s m #[(.long q1), (.long q2), (.long q3), (.long q4), (.long q5), (.int p6)] below meth c T' L' 4 12 ∧ T'.heap = h' ∧ Fr n0 L' ∧ Keep h0 h' [] ∧ Exa Z h' b15 "com/example/rangewise/rangewise/Id" ∧ Exa Z h' b21 "com/example/rangewise/rangewise/Id" ∧ Exa Z h' b40 "com/example/rangewise/rangewise/TimestampedId" ∧ Exa Z h' b50 "com/example/rangewise/rangewise/TimestampedId" ∧ Fld Z h' b15 "com/example/rangewise/rangewise/Id" "word0" "J" (.long q3) ∧ Fld Z h' b15 "com/example/rangewise/rangewise/Id" "word1" "J" (.long q4) ∧ Fld Z h' b15 "com/example/rangewise/rangewise/Id" "word2" "J" (.long (q3 ^^^ (-1 : Int64))) ∧ Fld Z h' b15 "com/example/rangewise/rangewise/Id" "word3" "J" (.long (q4 ^^^ (-1 : Int64))) ∧ Fld Z h' b21 "com/example/rangewise/rangewise/Id" "word0" "J" (.long z24) ∧ Fld Z h' b21 "com/example/rangewise/rangewise/Id" "word1" "J" (.long z27) ∧ Fld Z h' b21 "com/example/rangewise/rangewise/Id" "word2" "J" (.long z30) ∧ Fld Z h' b21 "com/example/rangewise/rangewise/Id" "word3" "J" (.long z33) ∧ Fld Z h' b40 "com/example/rangewise/rangewise/TimestampedId" "timestamp" "J" (.long (own_f1 q1)) ∧ Fld Z h' b40 "com/example/rangewise/rangewise/TimestampedId" "id" "Lcom/example/rangewise/rangewise/Id;" (.ref b15) ∧ Fld Z h' b50 "com/example/rangewise/rangewise/TimestampedId" "timestamp" "J" (.long z8) ∧ Fld Z h' b50 "com/example/rangewise/rangewise/TimestampedId" "id" "Lcom/example/rangewise/rangewise/Id;" (.ref b21)) (T59.setTop (mkF m 280 #[.val (.long q1), .second, .val (.long q2), .second, .val (.long q3), .second, .val (.long q4), .second, .val (.long q5), .second, .val (.int p6), .val (.long (own_f1 q1)), .second, .val (.long z8), .second, .val (.int (p6 &&& (3 : Int32))), .val (.int z13), .val (.int (((p6.toUInt32 >>> ((4 : Int32) &&& 31).toUInt32).toInt32) &&& (3 : Int32))), .val (.long q3), .second, .val (.long q4), .second, .val (.long (q3 ^^^ (-1 : Int64))), .second, .val (.long (q4 ^^^ (-1 : Int64))), .second, .val (.ref b15), .val (.ref b21), .val (.ref b40), .val (.ref b50), .unset] [(.int (lcmpW (own_f1 q1) z8))])) := by
          by_cases hc280_93 : (own_f1 q1) = z8
          · refine own_preJ (B := T59.setTop (mkF m 283 #[.val (.long q1), .second, .val (.long q2), .second, .val (.long q3), .second, .val (.long q4), .second, .val (.long q5), .second, .val (.int p6), .val (.long (own_f1 q1)), .second, .val (.long z8), .second, .val (.int (p6 &&& (3 : Int32))), .val (.int z13), .val (.int (((p6.toUInt32 >>> ((4 : Int32) &&& 31).toUInt32).toInt32) &&& (3 : Int32))), .val (.long q3), .second, .val (.long q4), .second, .val (.long (q3 ^^^ (-1 : Int64))), .second, .val (.long (q4 ^^^ (-1 : Int64))), .second, .val (.ref b15), .val (.ref b21), .val (.ref b40), .val (.ref b50), .unset] [])) (fun t k => XS.ifNo X59.here hx rfl (hb hby at_280) rfl ((if0 _ _).trans (teq ((lw_eq (own_f1 q1) z8).mpr hc280_93)).2) k) ?_
            refine own_preJ (B := T59.setTop (mkF m 285 #[.val (.long q1), .second, .val (.long q2), .second, .val (.long q3), .second, .val (.long q4), .second, .val (.long q5), .second, .val (.int p6), .val (.long (own_f1 q1)), .second, .val (.long z8), .second, .val (.int (p6 &&& (3 : Int32))), .val (.int z13), .val (.int (((p6.toUInt32 >>> ((4 : Int32) &&& 31).toUInt32).toInt32) &&& (3 : Int32))), .val (.long q3), .second, .val (.long q4), .second, .val (.long (q3 ^^^ (-1 : Int64))), .second, .val (.long (q4 ^^^ (-1 : Int64))), .second, .val (.ref b15), .val (.ref b21), .val (.ref b40), .val (.ref b50), .unset] [(.int z13)])) (fun t k => XS.iload X59.here hx rfl (hb hby at_283) rfl k) ?_
            by_cases hc285_94 : z13 = (0 : Int32)
            · refine own_preJ (B := T59.setTop (mkF m 307 #[.val (.long q1), .second, .val (.long q2), .second, .val (.long q3), .second, .val (.long q4), .second, .val (.long q5), .second, .val (.int p6), .val (.long (own_f1 q1)), .second, .val (.long z8), .second, .val (.int (p6 &&& (3 : Int32))), .val (.int z13), .val (.int (((p6.toUInt32 >>> ((4 : Int32) &&& 31).toUInt32).toInt32) &&& (3 : Int32))), .val (.long q3), .second, .val (.long q4), .second, .val (.long (q3 ^^^ (-1 : Int64))), .second, .val (.long (q4 ^^^ (-1 : Int64))), .second, .val (.ref b15), .val (.ref b21), .val (.ref b40), .val (.ref b50), .unset] [])) (fun t k => XS.ifYes X59.here hx rfl (pc0 := 285) (pc' := 307) rfl (hb hby at_285) rfl ((if0 _ _).trans (teq hc285_94).1) (by decide) (by decide) k) ?_
              refine own_preJ (B := T59.setTop (mkF m 308 #[.val (.long q1), .second, .val (.long q2), .second, .val (.long q3), .second, .val (.long q4), .second, .val (.long q5), .second, .val (.int p6), .val (.long (own_f1 q1)), .second, .val (.long z8), .second, .val (.int (p6 &&& (3 : Int32))), .val (.int z13), .val (.int (((p6.toUInt32 >>> ((4 : Int32) &&& 31).toUInt32).toInt32) &&& (3 : Int32))), .val (.long q3), .second, .val (.long q4), .second, .val (.long (q3 ^^^ (-1 : Int64))), .second, .val (.long (q4 ^^^ (-1 : Int64))), .second, .val (.ref b15), .val (.ref b21), .val (.ref b40), .val (.ref b50), .unset] [(.int (1 : Int32))])) (fun t k => XS.iconst X59.here hx rfl (hb hby at_307) k) ?_
              refine own_preJ (B := T59.setTop (mkF m 312 #[.val (.long q1), .second, .val (.long q2), .second, .val (.long q3), .second, .val (.long q4), .second, .val (.long q5), .second, .val (.int p6), .val (.long (own_f1 q1)), .second, .val (.long z8), .second, .val (.int (p6 &&& (3 : Int32))), .val (.int z13), .val (.int (((p6.toUInt32 >>> ((4 : Int32) &&& 31).toUInt32).toInt32) &&& (3 : Int32))), .val (.long q3), .second, .val (.long q4), .second, .val (.long (q3 ^^^ (-1 : Int64))), .second, .val (.long (q4 ^^^ (-1 : Int64))), .second, .val (.ref b15), .val (.ref b21), .val (.ref b40), .val (.ref b50), .unset] [(.int (1 : Int32))])) (fun t k => XS.goto X59.here hx rfl (pc0 := 308) (pc' := 312) rfl (hb hby at_308) (by decide) (by decide) k) ?_
              rw [if_pos hc280_93, if_pos hc285_94] at hz90
              subst hz90
              have c95 := (Exa.keep (c52.ext E50) K59)
              have c96 := (Exa.keep c57 K59)
              have c97 := (Exa.keep (q47_0.ext E50) K59)
              have c98 := (Fld.keep ((Fld.keep ((Fld.keep (q18_1.ext E21) K37 (ninS ne23 nin0)).ext E40) K47 (ninS ne43 nin0)).ext E50) K59 (ninS ne53 nin0))
              have c99 := (Fld.keep ((Fld.keep ((Fld.keep (q18_2.ext E21) K37 (ninS ne23 nin0)).ext E40) K47 (ninS ne43 nin0)).ext E50) K59 (ninS ne53 nin0))
              have c100 := (Fld.keep ((Fld.keep ((Fld.keep (q18_3.ext E21) K37 (ninS ne23 nin0)).ext E40) K47 (ninS ne43 nin0)).ext E50) K59 (ninS ne53 nin0))
              have c101 := (Fld.keep ((Fld.keep ((Fld.keep (q18_4.ext E21) K37 (ninS ne23 nin0)).ext E40) K47 (ninS ne43 nin0)).ext E50) K59 (ninS ne53 nin0))
              have c102 := (Fld.keep ((Fld.keep (q37_1.ext E40) K47 (ninS ne44 nin0)).ext E50) K59 (ninS ne55 nin0))
              have c103 := (Fld.keep ((Fld.keep (q37_2.ext E40) K47 (ninS ne44 nin0)).ext E50) K59 (ninS ne55 nin0))
              have c104 := (Fld.keep ((Fld.keep (q37_3.ext E40) K47 (ninS ne44 nin0)).ext E50) K59 (ninS ne55 nin0))
              have c105 := (Fld.keep ((Fld.keep (q37_4.ext E40) K47 (ninS ne44 nin0)).ext E50) K59 (ninS ne55 nin0))
              have c106 := (Fld.keep (q47_1.ext E50) K59 (ninS ne56 nin0))
              have c107 := (Fld.keep (q47_2.ext E50) K59 (ninS ne56 nin0))
              exact ⟨_, ⟨_, _, _, rfl, own_more X59 (by decide) (by decide), rfl, N59, K92, c95, c96, c97, q59_0, c98, c99, c100, c101, c102, c103, c104, c105, c106, c107, q59_1, q59_2⟩, fun t k => k⟩
            · refine own_preJ (B := T59.setTop (mkF m 288 #[.val (.long q1), .second, .val (.long q2), .second, .val (.long q3), .second, .val (.long q4), .second, .val (.long q5), .second, .val (.int p6), .val (.long (own_f1 q1)), .second, .val (.long z8), .second, .val (.int (p6 &&& (3 : Int32))), .val (.int z13), .val (.int (((p6.toUInt32 >>> ((4 : Int32) &&& 31).toUInt32).toInt32) &&& (3 : Int32))), .val (.long q3), .second, .val (.long q4), .second, .val (.long (q3 ^^^ (-1 : Int64))), .second, .val (.long (q4 ^^^ (-1 : Int64))), .second, .val (.ref b15), .val (.ref b21), .val (.ref b40), .val (.ref b50), .unset] [])) (fun t k => XS.ifNo X59.here hx rfl (hb hby at_285) rfl ((if0 _ _).trans (feq hc285_94).1) k) ?_
              refine own_preJ (B := T59.setTop (mkF m 290 #[.val (.long q1), .second, .val (.long q2), .second, .val (.long q3), .second, .val (.long q4), .second, .val (.long q5), .second, .val (.int p6), .val (.long (own_f1 q1)), .second, .val (.long z8), .second, .val (.int (p6 &&& (3 : Int32))), .val (.int z13), .val (.int (((p6.toUInt32 >>> ((4 : Int32) &&& 31).toUInt32).toInt32) &&& (3 : Int32))), .val (.long q3), .second, .val (.long q4), .second, .val (.long (q3 ^^^ (-1 : Int64))), .second, .val (.long (q4 ^^^ (-1 : Int64))), .second, .val (.ref b15), .val (.ref b21), .val (.ref b40), .val (.ref b50), .unset] [(.long q5)])) (fun t k => XS.lload X59.here hx rfl (hb hby at_288) rfl k) ?_
              refine own_preJ (B := T59.setTop (mkF m 292 #[.val (.long q1), .second, .val (.long q2), .second, .val (.long q3), .second, .val (.long q4), .second, .val (.long q5), .second, .val (.int p6), .val (.long (own_f1 q1)), .second, .val (.long z8), .second, .val (.int (p6 &&& (3 : Int32))), .val (.int z13), .val (.int (((p6.toUInt32 >>> ((4 : Int32) &&& 31).toUInt32).toInt32) &&& (3 : Int32))), .val (.long q3), .second, .val (.long q4), .second, .val (.long (q3 ^^^ (-1 : Int64))), .second, .val (.long (q4 ^^^ (-1 : Int64))), .second, .val (.ref b15), .val (.ref b21), .val (.ref b40), .val (.ref b50), .unset] [(.int (p6 &&& (3 : Int32))), (.long q5)])) (fun t k => XS.iload X59.here hx rfl (hb hby at_290) rfl k) ?_
              refine own_preJ (B := T59.setTop (mkF m 294 #[.val (.long q1), .second, .val (.long q2), .second, .val (.long q3), .second, .val (.long q4), .second, .val (.long q5), .second, .val (.int p6), .val (.long (own_f1 q1)), .second, .val (.long z8), .second, .val (.int (p6 &&& (3 : Int32))), .val (.int z13), .val (.int (((p6.toUInt32 >>> ((4 : Int32) &&& 31).toUInt32).toInt32) &&& (3 : Int32))), .val (.long q3), .second, .val (.long q4), .second, .val (.long (q3 ^^^ (-1 : Int64))), .second, .val (.long (q4 ^^^ (-1 : Int64))), .second, .val (.ref b15), .val (.ref b21), .val (.ref b40), .val (.ref b50), .unset] [(.long q3), (.int (p6 &&& (3 : Int32))), (.long q5)])) (fun t k => XS.lload X59.here hx rfl (hb hby at_292) rfl k) ?_
              refine own_preJ (B := T59.setTop (mkF m 296 #[.val (.long q1), .second, .val (.long q2), .second, .val (.long q3), .second, .val (.long q4), .second, .val (.long q5), .second, .val (.int p6), .val (.long (own_f1 q1)), .second, .val (.long z8), .second, .val (.int (p6 &&& (3 : Int32))), .val (.int z13), .val (.int (((p6.toUInt32 >>> ((4 : Int32) &&& 31).toUInt32).toInt32) &&& (3 : Int32))), .val (.long q3), .second, .val (.long q4), .second, .val (.long (q3 ^^^ (-1 : Int64))), .second, .val (.long (q4 ^^^ (-1 : Int64))), .second, .val (.ref b15), .val (.ref b21), .val (.ref b40), .val (.ref b50), .unset] [(.long q4), (.long q3), (.int (p6 &&& (3 : Int32))), (.long q5)])) (fun t k => XS.lload X59.here hx rfl (hb hby at_294) rfl k) ?_
              refine own_preJ (B := T59.setTop (mkF m 298 #[.val (.long q1), .second, .val (.long q2), .second, .val (.long q3), .second, .val (.long q4), .second, .val (.long q5), .second, .val (.int p6), .val (.long (own_f1 q1)), .second, .val (.long z8), .second, .val (.int (p6 &&& (3 : Int32))), .val (.int z13), .val (.int (((p6.toUInt32 >>> ((4 : Int32) &&& 31).toUInt32).toInt32) &&& (3 : Int32))), .val (.long q3), .second, .val (.long q4), .second, .val (.long (q3 ^^^ (-1 : Int64))), .second, .val (.long (q4 ^^^ (-1 : Int64))), .second, .val (.ref b15), .val (.ref b21), .val (.ref b40), .val (.ref b50), .unset] [(.long (q3 ^^^ (-1 : Int64))), (.long q4), (.long q3), (.int (p6 &&& (3 : Int32))), (.long q5)])) (fun t k => XS.lload X59.here hx rfl (hb hby at_296) rfl k) ?_
              refine own_preJ (B := T59.setTop (mkF m 300 #[.val (.long q1), .second, .val (.long q2), .second, .val (.long q3), .second, .val (.long q4), .second, .val (.long q5), .second, .val (.int p6), .val (.long (own_f1 q1)), .second, .val (.long z8), .second, .val (.int (p6 &&& (3 : Int32))), .val (.int z13), .val (.int (((p6.toUInt32 >>> ((4 : Int32) &&& 31).toUInt32).toInt32) &&& (3 : Int32))), .val (.long q3), .second, .val (.long q4), .second, .val (.long (q3 ^^^ (-1 : Int64))), .second, .val (.long (q4 ^^^ (-1 : Int64))), .second, .val (.ref b15), .val (.ref b21), .val (.ref b40), .val (.ref b50), .unset] [(.long (q4 ^^^ (-1 : Int64))), (.long (q3 ^^^ (-1 : Int64))), (.long q4), (.long q3), (.int (p6 &&& (3 : Int32))), (.long q5)])) (fun t k => XS.lload X59.here hx rfl (hb hby at_298) rfl k) ?_
              have sz108 : n0 ≤ T59.heap.size := (Nat.le_trans sz58 K59.1)
              obtain ⟨_, _, ⟨T109, L109, k109, n109⟩, -, X109, ⟨Lc109, hQ109, l109, y109, z109⟩, st109⟩ := Jvm.LawKit.callS X59 hx (y := (⟨"com/example/rangewise/rangewise/TimestampedIdEqualsPinLaw", "orig", "(IJJJJ)J"⟩ : MethodName)) hown (mvT hZ (hw _ (ow 55 rfl))) (mvT hZ (hw _ (ow 56 rfl))) (mvT hZ (hw _ (ow 2 rfl))) (mvT hZ (hw _ (ow 57 rfl))) (by decide) (backOf (W := 2) (rm9 l Z a0 hw [] (p6 &&& (3 : Int32)) q3 q4 (q3 ^^^ (-1 : Int64)) (q4 ^^^ (-1 : Int64)) T59.heap n0 sz108 ) hZ (hw _ (ow 57 rfl)) (hw _ (ow 2 rfl)) (by decide) (by decide)) (g := (mkF m 300 #[.val (.long q1), .second, .val (.long q2), .second, .val (.long q3), .second, .val (.long q4), .second, .val (.long q5), .second, .val (.int p6), .val (.long (own_f1 q1)), .second, .val (.long z8), .second, .val (.int (p6 &&& (3 : Int32))), .val (.int z13), .val (.int (((p6.toUInt32 >>> ((4 : Int32) &&& 31).toUInt32).toInt32) &&& (3 : Int32))), .val (.long q3), .second, .val (.long q4), .second, .val (.long (q3 ^^^ (-1 : Int64))), .second, .val (.long (q4 ^^^ (-1 : Int64))), .second, .val (.ref b15), .val (.ref b21), .val (.ref b40), .val (.ref b50), .unset] [(.long (q4 ^^^ (-1 : Int64))), (.long (q3 ^^^ (-1 : Int64))), (.long q4), (.long q3), (.int (p6 &&& (3 : Int32))), (.long q5)])) rfl (by rw [hml]; rfl) (argsL := [(.int (p6 &&& (3 : Int32))), (.long q3), (.long q4), (.long (q3 ^^^ (-1 : Int64))), (.long (q4 ^^^ (-1 : Int64)))]) (rest := [(.long q5)]) (lenOf pd_6 rfl) rfl (by show 2 * 0 + _ ≤ _; exact Nat.le_of_eq rfl) (hb hby at_300) (fun _ _ => ⟨rfl, rfl, (by decide : 4 + 0 ≤ _), (by decide : 12 + 0 ≤ _)⟩)
              dsimp only [Pt.U, Pt.locs, Pt.cells, Pt.slots] at X109 l109 y109 z109 st109 hQ109
              subst l109 y109 z109
              obtain ⟨rfl, N109q, e109⟩ := hQ109
              have N109 := Fr.app N59 N109q
              refine own_preJ (B := T109.setTop (mkF m 303 #[.val (.long q1), .second, .val (.long q2), .second, .val (.long q3), .second, .val (.long q4), .second, .val (.long q5), .second, .val (.int p6), .val (.long (own_f1 q1)), .second, .val (.long z8), .second, .val (.int (p6 &&& (3 : Int32))), .val (.int z13), .val (.int (((p6.toUInt32 >>> ((4 : Int32) &&& 31).toUInt32).toInt32) &&& (3 : Int32))), .val (.long q3), .second, .val (.long q4), .second, .val (.long (q3 ^^^ (-1 : Int64))), .second, .val (.long (q4 ^^^ (-1 : Int64))), .second, .val (.ref b15), .val (.ref b21), .val (.ref b40), .val (.ref b50), .unset] [(.long (own_f9 (p6 &&& (3 : Int32)) q3 q4 (q3 ^^^ (-1 : Int64)) (q4 ^^^ (-1 : Int64)))), (.long q5)])) (fun t k => st109 t k) ?_
              refine own_preJ (B := T109.setTop (mkF m 304 #[.val (.long q1), .second, .val (.long q2), .second, .val (.long q3), .second, .val (.long q4), .second, .val (.long q5), .second, .val (.int p6), .val (.long (own_f1 q1)), .second, .val (.long z8), .second, .val (.int (p6 &&& (3 : Int32))), .val (.int z13), .val (.int (((p6.toUInt32 >>> ((4 : Int32) &&& 31).toUInt32).toInt32) &&& (3 : Int32))), .val (.long q3), .second, .val (.long q4), .second, .val (.long (q3 ^^^ (-1 : Int64))), .second, .val (.long (q4 ^^^ (-1 : Int64))), .second, .val (.ref b15), .val (.ref b21), .val (.ref b40), .val (.ref b50), .unset] [(.int (lcmpW q5 (own_f9 (p6 &&& (3 : Int32)) q3 q4 (q3 ^^^ (-1 : Int64)) (q4 ^^^ (-1 : Int64)))))])) (fun t k => XS.lcmp X109.here hx rfl (hb hby at_303) rfl k) ?_
              by_cases hc304_110 : q5 = (own_f9 (p6 &&& (3 : Int32)) q3 q4 (q3 ^^^ (-1 : Int64)) (q4 ^^^ (-1 : Int64)))
              · refine own_preJ (B := T109.setTop (mkF m 307 #[.val (.long q1), .second, .val (.long q2), .second, .val (.long q3), .second, .val (.long q4), .second, .val (.long q5), .second, .val (.int p6), .val (.long (own_f1 q1)), .second, .val (.long z8), .second, .val (.int (p6 &&& (3 : Int32))), .val (.int z13), .val (.int (((p6.toUInt32 >>> ((4 : Int32) &&& 31).toUInt32).toInt32) &&& (3 : Int32))), .val (.long q3), .second, .val (.long q4), .second, .val (.long (q3 ^^^ (-1 : Int64))), .second, .val (.long (q4 ^^^ (-1 : Int64))), .second, .val (.ref b15), .val (.ref b21), .val (.ref b40), .val (.ref b50), .unset] [])) (fun t k => XS.ifNo X109.here hx rfl (hb hby at_304) rfl ((if0 _ _).trans (teq ((lw_eq q5 (own_f9 (p6 &&& (3 : Int32)) q3 q4 (q3 ^^^ (-1 : Int64)) (q4 ^^^ (-1 : Int64)))).mpr hc304_110)).2) k) ?_
                refine own_preJ (B := T109.setTop (mkF m 308 #[.val (.long q1), .second, .val (.long q2), .second, .val (.long q3), .second, .val (.long q4), .second, .val (.long q5), .second, .val (.int p6), .val (.long (own_f1 q1)), .second, .val (.long z8), .second, .val (.int (p6 &&& (3 : Int32))), .val (.int z13), .val (.int (((p6.toUInt32 >>> ((4 : Int32) &&& 31).toUInt32).toInt32) &&& (3 : Int32))), .val (.long q3), .second, .val (.long q4), .second, .val (.long (q3 ^^^ (-1 : Int64))), .second, .val (.long (q4 ^^^ (-1 : Int64))), .second, .val (.ref b15), .val (.ref b21), .val (.ref b40), .val (.ref b50), .unset] [(.int (1 : Int32))])) (fun t k => XS.iconst X109.here hx rfl (hb hby at_307) k) ?_
                refine own_preJ (B := T109.setTop (mkF m 312 #[.val (.long q1), .second, .val (.long q2), .second, .val (.long q3), .second, .val (.long q4), .second, .val (.long q5), .second, .val (.int p6), .val (.long (own_f1 q1)), .second, .val (.long z8), .second, .val (.int (p6 &&& (3 : Int32))), .val (.int z13), .val (.int (((p6.toUInt32 >>> ((4 : Int32) &&& 31).toUInt32).toInt32) &&& (3 : Int32))), .val (.long q3), .second, .val (.long q4), .second, .val (.long (q3 ^^^ (-1 : Int64))), .second, .val (.long (q4 ^^^ (-1 : Int64))), .second, .val (.ref b15), .val (.ref b21), .val (.ref b40), .val (.ref b50), .unset] [(.int (1 : Int32))])) (fun t k => XS.goto X109.here hx rfl (pc0 := 308) (pc' := 312) rfl (hb hby at_308) (by decide) (by decide) k) ?_
                rw [if_pos hc280_93, if_neg hc285_94, if_pos hc304_110] at hz90
                subst hz90
                have c111 := (Exa.keep (c52.ext E50) K59)
                have c112 := (Exa.keep c57 K59)
                have c113 := (Exa.keep (q47_0.ext E50) K59)
                have c114 := (Fld.keep ((Fld.keep ((Fld.keep (q18_1.ext E21) K37 (ninS ne23 nin0)).ext E40) K47 (ninS ne43 nin0)).ext E50) K59 (ninS ne53 nin0))
                have c115 := (Fld.keep ((Fld.keep ((Fld.keep (q18_2.ext E21) K37 (ninS ne23 nin0)).ext E40) K47 (ninS ne43 nin0)).ext E50) K59 (ninS ne53 nin0))
                have c116 := (Fld.keep ((Fld.keep ((Fld.keep (q18_3.ext E21) K37 (ninS ne23 nin0)).ext E40) K47 (ninS ne43 nin0)).ext E50) K59 (ninS ne53 nin0))
                have c117 := (Fld.keep ((Fld.keep ((Fld.keep (q18_4.ext E21) K37 (ninS ne23 nin0)).ext E40) K47 (ninS ne43 nin0)).ext E50) K59 (ninS ne53 nin0))
                have c118 := (Fld.keep ((Fld.keep (q37_1.ext E40) K47 (ninS ne44 nin0)).ext E50) K59 (ninS ne55 nin0))
                have c119 := (Fld.keep ((Fld.keep (q37_2.ext E40) K47 (ninS ne44 nin0)).ext E50) K59 (ninS ne55 nin0))
                have c120 := (Fld.keep ((Fld.keep (q37_3.ext E40) K47 (ninS ne44 nin0)).ext E50) K59 (ninS ne55 nin0))
                have c121 := (Fld.keep ((Fld.keep (q37_4.ext E40) K47 (ninS ne44 nin0)).ext E50) K59 (ninS ne55 nin0))
                have c122 := (Fld.keep (q47_1.ext E50) K59 (ninS ne56 nin0))
                have c123 := (Fld.keep (q47_2.ext E50) K59 (ninS ne56 nin0))
                exact ⟨_, ⟨_, _, _, rfl, own_more X109 (by decide) (by decide), e109, N109, K92, c111, c112, c113, q59_0, c114, c115, c116, c117, c118, c119, c120, c121, c122, c123, q59_1, q59_2⟩, fun t k => k⟩
              · refine own_preJ (B := T109.setTop (mkF m 311 #[.val (.long q1), .second, .val (.long q2), .second, .val (.long q3), .second, .val (.long q4), .second, .val (.long q5), .second, .val (.int p6), .val (.long (own_f1 q1)), .second, .val (.long z8), .second, .val (.int (p6 &&& (3 : Int32))), .val (.int z13), .val (.int (((p6.toUInt32 >>> ((4 : Int32) &&& 31).toUInt32).toInt32) &&& (3 : Int32))), .val (.long q3), .second, .val (.long q4), .second, .val (.long (q3 ^^^ (-1 : Int64))), .second, .val (.long (q4 ^^^ (-1 : Int64))), .second, .val (.ref b15), .val (.ref b21), .val (.ref b40), .val (.ref b50), .unset] [])) (fun t k => XS.ifYes X109.here hx rfl (pc0 := 304) (pc' := 311) rfl (hb hby at_304) rfl ((if0 _ _).trans (feq (mt (lw_eq q5 (own_f9 (p6 &&& (3 : Int32)) q3 q4 (q3 ^^^ (-1 : Int64)) (q4 ^^^ (-1 : Int64)))).mp hc304_110)).2) (by decide) (by decide) k) ?_
                refine own_preJ (B := T109.setTop (mkF m 312 #[.val (.long q1), .second, .val (.long q2), .second, .val (.long q3), .second, .val (.long q4), .second, .val (.long q5), .second, .val (.int p6), .val (.long (own_f1 q1)), .second, .val (.long z8), .second, .val (.int (p6 &&& (3 : Int32))), .val (.int z13), .val (.int (((p6.toUInt32 >>> ((4 : Int32) &&& 31).toUInt32).toInt32) &&& (3 : Int32))), .val (.long q3), .second, .val (.long q4), .second, .val (.long (q3 ^^^ (-1 : Int64))), .second, .val (.long (q4 ^^^ (-1 : Int64))), .second, .val (.ref b15), .val (.ref b21), .val (.ref b40), .val (.ref b50), .unset] [(.int (0 : Int32))])) (fun t k => XS.iconst X109.here hx rfl (hb hby at_311) k) ?_
                rw [if_pos hc280_93, if_neg hc285_94, if_neg hc304_110] at hz90
                subst hz90
                have c124 := (Exa.keep (c52.ext E50) K59)
                have c125 := (Exa.keep c57 K59)
                have c126 := (Exa.keep (q47_0.ext E50) K59)
                have c127 := (Fld.keep ((Fld.keep ((Fld.keep (q18_1.ext E21) K37 (ninS ne23 nin0)).ext E40) K47 (ninS ne43 nin0)).ext E50) K59 (ninS ne53 nin0))
                have c128 := (Fld.keep ((Fld.keep ((Fld.keep (q18_2.ext E21) K37 (ninS ne23 nin0)).ext E40) K47 (ninS ne43 nin0)).ext E50) K59 (ninS ne53 nin0))
                have c129 := (Fld.keep ((Fld.keep ((Fld.keep (q18_3.ext E21) K37 (ninS ne23 nin0)).ext E40) K47 (ninS ne43 nin0)).ext E50) K59 (ninS ne53 nin0))
                have c130 := (Fld.keep ((Fld.keep ((Fld.keep (q18_4.ext E21) K37 (ninS ne23 nin0)).ext E40) K47 (ninS ne43 nin0)).ext E50) K59 (ninS ne53 nin0))
                have c131 := (Fld.keep ((Fld.keep (q37_1.ext E40) K47 (ninS ne44 nin0)).ext E50) K59 (ninS ne55 nin0))
                have c132 := (Fld.keep ((Fld.keep (q37_2.ext E40) K47 (ninS ne44 nin0)).ext E50) K59 (ninS ne55 nin0))
                have c133 := (Fld.keep ((Fld.keep (q37_3.ext E40) K47 (ninS ne44 nin0)).ext E50) K59 (ninS ne55 nin0))
                have c134 := (Fld.keep ((Fld.keep (q37_4.ext E40) K47 (ninS ne44 nin0)).ext E50) K59 (ninS ne55 nin0))
                have c135 := (Fld.keep (q47_1.ext E50) K59 (ninS ne56 nin0))
                have c136 := (Fld.keep (q47_2.ext E50) K59 (ninS ne56 nin0))
                exact ⟨_, ⟨_, _, _, rfl, own_more X109 (by decide) (by decide), e109, N109, K92, c124, c125, c126, q59_0, c127, c128, c129, c130, c131, c132, c133, c134, c135, c136, q59_1, q59_2⟩, fun t k => k⟩
          · refine own_preJ (B := T59.setTop (mkF m 311 #[.val (.long q1), .second, .val (.long q2), .second, .val (.long q3), .second, .val (.long q4), .second, .val (.long q5), .second, .val (.int p6), .val (.long (own_f1 q1)), .second, .val (.long z8), .second, .val (.int (p6 &&& (3 : Int32))), .val (.int z13), .val (.int (((p6.toUInt32 >>> ((4 : Int32) &&& 31).toUInt32).toInt32) &&& (3 : Int32))), .val (.long q3), .second, .val (.long q4), .second, .val (.long (q3 ^^^ (-1 : Int64))), .second, .val (.long (q4 ^^^ (-1 : Int64))), .second, .val (.ref b15), .val (.ref b21), .val (.ref b40), .val (.ref b50), .unset] [])) (fun t k => XS.ifYes X59.here hx rfl (pc0 := 280) (pc' := 311) rfl (hb hby at_280) rfl ((if0 _ _).trans (feq (mt (lw_eq (own_f1 q1) z8).mp hc280_93)).2) (by decide) (by decide) k) ?_
            refine own_preJ (B := T59.setTop (mkF m 312 #[.val (.long q1), .second, .val (.long q2), .second, .val (.long q3), .second, .val (.long q4), .second, .val (.long q5), .second, .val (.int p6), .val (.long (own_f1 q1)), .second, .val (.long z8), .second, .val (.int (p6 &&& (3 : Int32))), .val (.int z13), .val (.int (((p6.toUInt32 >>> ((4 : Int32) &&& 31).toUInt32).toInt32) &&& (3 : Int32))), .val (.long q3), .second, .val (.long q4), .second, .val (.long (q3 ^^^ (-1 : Int64))), .second, .val (.long (q4 ^^^ (-1 : Int64))), .second, .val (.ref b15), .val (.ref b21), .val (.ref b40), .val (.ref b50), .unset] [(.int (0 : Int32))])) (fun t k => XS.iconst X59.here hx rfl (hb hby at_311) k) ?_
            rw [if_neg hc280_93] at hz90
            subst hz90
            have c137 := (Exa.keep (c52.ext E50) K59)
            have c138 := (Exa.keep c57 K59)
            have c139 := (Exa.keep (q47_0.ext E50) K59)
            have c140 := (Fld.keep ((Fld.keep ((Fld.keep (q18_1.ext E21) K37 (ninS ne23 nin0)).ext E40) K47 (ninS ne43 nin0)).ext E50) K59 (ninS ne53 nin0))
            have c141 := (Fld.keep ((Fld.keep ((Fld.keep (q18_2.ext E21) K37 (ninS ne23 nin0)).ext E40) K47 (ninS ne43 nin0)).ext E50) K59 (ninS ne53 nin0))
            have c142 := (Fld.keep ((Fld.keep ((Fld.keep (q18_3.ext E21) K37 (ninS ne23 nin0)).ext E40) K47 (ninS ne43 nin0)).ext E50) K59 (ninS ne53 nin0))
            have c143 := (Fld.keep ((Fld.keep ((Fld.keep (q18_4.ext E21) K37 (ninS ne23 nin0)).ext E40) K47 (ninS ne43 nin0)).ext E50) K59 (ninS ne53 nin0))
            have c144 := (Fld.keep ((Fld.keep (q37_1.ext E40) K47 (ninS ne44 nin0)).ext E50) K59 (ninS ne55 nin0))
            have c145 := (Fld.keep ((Fld.keep (q37_2.ext E40) K47 (ninS ne44 nin0)).ext E50) K59 (ninS ne55 nin0))
            have c146 := (Fld.keep ((Fld.keep (q37_3.ext E40) K47 (ninS ne44 nin0)).ext E50) K59 (ninS ne55 nin0))
            have c147 := (Fld.keep ((Fld.keep (q37_4.ext E40) K47 (ninS ne44 nin0)).ext E50) K59 (ninS ne55 nin0))
            have c148 := (Fld.keep (q47_1.ext E50) K59 (ninS ne56 nin0))
            have c149 := (Fld.keep (q47_2.ext E50) K59 (ninS ne56 nin0))
            exact ⟨_, ⟨_, _, _, rfl, own_more X59 (by decide) (by decide), rfl, N59, K92, c137, c138, c139, q59_0, c140, c141, c142, c143, c144, c145, c146, c147, c148, c149, q59_1, q59_2⟩, fun t k => k⟩
        refine own_pre (B := T91.setTop (mkF m 312 #[.val (.long q1), .second, .val (.long q2), .second, .val (.long q3), .second, .val (.long q4), .second, .val (.long q5), .second, .val (.int p6), .val (.long (own_f1 q1)), .second, .val (.long z8), .second, .val (.int (p6 &&& (3 : Int32))), .val (.int z13), .val (.int (((p6.toUInt32 >>> ((4 : Int32) &&& 31).toUInt32).toInt32) &&& (3 : Int32))), .val (.long q3), .second, .val (.long q4), .second, .val (.long (q3 ^^^ (-1 : Int64))), .second, .val (.long (q4 ^^^ (-1 : Int64))), .second, .val (.ref b15), .val (.ref b21), .val (.ref b40), .val (.ref b50), .unset] [(.int z90)])) (fun t k => st91 t k) ?_
        refine own_pre (B := T91.setTop (mkF m 314 #[.val (.long q1), .second, .val (.long q2), .second, .val (.long q3), .second, .val (.long q4), .second, .val (.long q5), .second, .val (.int p6), .val (.long (own_f1 q1)), .second, .val (.long z8), .second, .val (.int (p6 &&& (3 : Int32))), .val (.int z13), .val (.int (((p6.toUInt32 >>> ((4 : Int32) &&& 31).toUInt32).toInt32) &&& (3 : Int32))), .val (.long q3), .second, .val (.long q4), .second, .val (.long (q3 ^^^ (-1 : Int64))), .second, .val (.long (q4 ^^^ (-1 : Int64))), .second, .val (.ref b15), .val (.ref b21), .val (.ref b40), .val (.ref b50), .val (.int z90)] [])) (fun t k => XS.istore X91.here hx rfl (hb hby at_312) rfl (l' := #[.val (.long q1), .second, .val (.long q2), .second, .val (.long q3), .second, .val (.long q4), .second, .val (.long q5), .second, .val (.int p6), .val (.long (own_f1 q1)), .second, .val (.long z8), .second, .val (.int (p6 &&& (3 : Int32))), .val (.int z13), .val (.int (((p6.toUInt32 >>> ((4 : Int32) &&& 31).toUInt32).toInt32) &&& (3 : Int32))), .val (.long q3), .second, .val (.long q4), .second, .val (.long (q3 ^^^ (-1 : Int64))), .second, .val (.long (q4 ^^^ (-1 : Int64))), .second, .val (.ref b15), .val (.ref b21), .val (.ref b40), .val (.ref b50), .val (.int z90)]) rfl k) ?_
        refine own_pre (B := T91.setTop (mkF m 316 #[.val (.long q1), .second, .val (.long q2), .second, .val (.long q3), .second, .val (.long q4), .second, .val (.long q5), .second, .val (.int p6), .val (.long (own_f1 q1)), .second, .val (.long z8), .second, .val (.int (p6 &&& (3 : Int32))), .val (.int z13), .val (.int (((p6.toUInt32 >>> ((4 : Int32) &&& 31).toUInt32).toInt32) &&& (3 : Int32))), .val (.long q3), .second, .val (.long q4), .second, .val (.long (q3 ^^^ (-1 : Int64))), .second, .val (.long (q4 ^^^ (-1 : Int64))), .second, .val (.ref b15), .val (.ref b21), .val (.ref b40), .val (.ref b50), .val (.int z90)] [(.ref b40)])) (fun t k => XS.aload X91.here hx rfl (hb hby at_314) rfl rfl k) ?_
        refine own_pre (B := T91.setTop (mkF m 318 #[.val (.long q1), .second, .val (.long q2), .second, .val (.long q3), .second, .val (.long q4), .second, .val (.long q5), .second, .val (.int p6), .val (.long (own_f1 q1)), .second, .val (.long z8), .second, .val (.int (p6 &&& (3 : Int32))), .val (.int z13), .val (.int (((p6.toUInt32 >>> ((4 : Int32) &&& 31).toUInt32).toInt32) &&& (3 : Int32))), .val (.long q3), .second, .val (.long q4), .second, .val (.long (q3 ^^^ (-1 : Int64))), .second, .val (.long (q4 ^^^ (-1 : Int64))), .second, .val (.ref b15), .val (.ref b21), .val (.ref b40), .val (.ref b50), .val (.int z90)] [(.ref b50), (.ref b40)])) (fun t k => XS.aload X91.here hx rfl (hb hby at_316) rfl rfl k) ?_
        have sz150 : n0 ≤ h91.size := (Nat.le_trans Z0 K91j.1)
        obtain ⟨cq151, kq151, q151a, q151b, q151c⟩ := isOf hZ e91 j91_2
        obtain ⟨_, _, ⟨T151, L151, k151, n151⟩, -, X151, ⟨Lc151, hQ151, l151, y151, z151⟩, st151⟩ := X91.virtualBack hx (y := (⟨"com/example/rangewise/rangewise/TimestampedId", "equals", "(Ljava/lang/Object;)Z"⟩ : MethodName)) (z := (⟨"com/example/rangewise/rangewise/TimestampedId", "equals", "(Ljava/lang/Object;)Z"⟩ : MethodName)) hown (mvT hZ (hw _ (ow 48 rfl))) (mvT hZ (hw _ (ow 49 rfl))) (notFace_of_selects (args := #[]) (mvT hZ (hw _ (ow 51 rfl)))) (mvT hZ (hw _ (ow 51 rfl))) (mvT hZ (hw _ (ow 50 rfl))) (by decide) (backOf (W := 0) (rm8 l Z a0 hw [] b40 b50 (own_f1 q1) z8 b15 b21 q3 z24 q4 z27 (q3 ^^^ (-1 : Int64)) z30 (q4 ^^^ (-1 : Int64)) z33 h91 n0 sz150 j91_3 j91_12 j91_14 j91_13 j91_15 j91_1 j91_4 j91_8 j91_5 j91_9 j91_6 j91_10 j91_7 j91_11 j91_0) hZ (hw _ (ow 52 rfl)) (hw _ (ow 24 rfl)) (by decide) (by decide)) q151a q151c (g := (mkF m 318 #[.val (.long q1), .second, .val (.long q2), .second, .val (.long q3), .second, .val (.long q4), .second, .val (.long q5), .second, .val (.int p6), .val (.long (own_f1 q1)), .second, .val (.long z8), .second, .val (.int (p6 &&& (3 : Int32))), .val (.int z13), .val (.int (((p6.toUInt32 >>> ((4 : Int32) &&& 31).toUInt32).toInt32) &&& (3 : Int32))), .val (.long q3), .second, .val (.long q4), .second, .val (.long (q3 ^^^ (-1 : Int64))), .second, .val (.long (q4 ^^^ (-1 : Int64))), .second, .val (.ref b15), .val (.ref b21), .val (.ref b40), .val (.ref b50), .val (.int z90)] [(.ref b50), (.ref b40)])) rfl (by rw [hml]; rfl) (Steps.refl _) (argsL := [(.ref b50)]) (rest := []) (lenOf pd_2 rfl) rfl (by show 2 * 0 + _ ≤ _; exact Nat.le_of_eq rfl) (hb hby at_318) (fun _ _ => ⟨rfl, e91, (by decide : 4 + 0 ≤ _), (by decide : 12 + 0 ≤ _)⟩)
        dsimp only [Pt.U, Pt.locs, Pt.cells, Pt.slots] at X151 l151 y151 z151 st151 hQ151
        subst l151 y151 z151
        obtain ⟨rfl, N151q, e151⟩ := hQ151
        have N151 := Fr.app N91 N151q
        refine own_pre (B := T151.setTop (mkF m 321 #[.val (.long q1), .second, .val (.long q2), .second, .val (.long q3), .second, .val (.long q4), .second, .val (.long q5), .second, .val (.int p6), .val (.long (own_f1 q1)), .second, .val (.long z8), .second, .val (.int (p6 &&& (3 : Int32))), .val (.int z13), .val (.int (((p6.toUInt32 >>> ((4 : Int32) &&& 31).toUInt32).toInt32) &&& (3 : Int32))), .val (.long q3), .second, .val (.long q4), .second, .val (.long (q3 ^^^ (-1 : Int64))), .second, .val (.long (q4 ^^^ (-1 : Int64))), .second, .val (.ref b15), .val (.ref b21), .val (.ref b40), .val (.ref b50), .val (.int z90)] [(.int (own_f8 (own_f1 q1) z8 q3 z24 q4 z27 (q3 ^^^ (-1 : Int64)) z30 (q4 ^^^ (-1 : Int64)) z33))])) (fun t k => st151.trans k) ?_
        refine own_pre (B := T151.setTop (mkF m 323 #[.val (.long q1), .second, .val (.long q2), .second, .val (.long q3), .second, .val (.long q4), .second, .val (.long q5), .second, .val (.int p6), .val (.long (own_f1 q1)), .second, .val (.long z8), .second, .val (.int (p6 &&& (3 : Int32))), .val (.int z13), .val (.int (((p6.toUInt32 >>> ((4 : Int32) &&& 31).toUInt32).toInt32) &&& (3 : Int32))), .val (.long q3), .second, .val (.long q4), .second, .val (.long (q3 ^^^ (-1 : Int64))), .second, .val (.long (q4 ^^^ (-1 : Int64))), .second, .val (.ref b15), .val (.ref b21), .val (.ref b40), .val (.ref b50), .val (.int z90)] [(.int z90), (.int (own_f8 (own_f1 q1) z8 q3 z24 q4 z27 (q3 ^^^ (-1 : Int64)) z30 (q4 ^^^ (-1 : Int64)) z33))])) (fun t k => XS.iload X151.here hx rfl (hb hby at_321) rfl k) ?_
        refine own_pre (B := T151.setTop (mkF m 326 #[.val (.long q1), .second, .val (.long q2), .second, .val (.long q3), .second, .val (.long q4), .second, .val (.long q5), .second, .val (.int p6), .val (.long (own_f1 q1)), .second, .val (.long z8), .second, .val (.int (p6 &&& (3 : Int32))), .val (.int z13), .val (.int (((p6.toUInt32 >>> ((4 : Int32) &&& 31).toUInt32).toInt32) &&& (3 : Int32))), .val (.long q3), .second, .val (.long q4), .second, .val (.long (q3 ^^^ (-1 : Int64))), .second, .val (.long (q4 ^^^ (-1 : Int64))), .second, .val (.ref b15), .val (.ref b21), .val (.ref b40), .val (.ref b50), .val (.int z90)] [])) (fun t k => XS.icmpNo X151.here hx rfl (hb hby at_323) rfl (teq ((own_main hz24 hz27 hz30 hz33).trans hz90.symm)).2 k) ?_
        refine own_pre (B := T151.setTop (mkF m 328 #[.val (.long q1), .second, .val (.long q2), .second, .val (.long q3), .second, .val (.long q4), .second, .val (.long q5), .second, .val (.int p6), .val (.long (own_f1 q1)), .second, .val (.long z8), .second, .val (.int (p6 &&& (3 : Int32))), .val (.int z13), .val (.int (((p6.toUInt32 >>> ((4 : Int32) &&& 31).toUInt32).toInt32) &&& (3 : Int32))), .val (.long q3), .second, .val (.long q4), .second, .val (.long (q3 ^^^ (-1 : Int64))), .second, .val (.long (q4 ^^^ (-1 : Int64))), .second, .val (.ref b15), .val (.ref b21), .val (.ref b40), .val (.ref b50), .val (.int z90)] [(.ref b50)])) (fun t k => XS.aload X151.here hx rfl (hb hby at_326) rfl rfl k) ?_
        refine own_pre (B := T151.setTop (mkF m 330 #[.val (.long q1), .second, .val (.long q2), .second, .val (.long q3), .second, .val (.long q4), .second, .val (.long q5), .second, .val (.int p6), .val (.long (own_f1 q1)), .second, .val (.long z8), .second, .val (.int (p6 &&& (3 : Int32))), .val (.int z13), .val (.int (((p6.toUInt32 >>> ((4 : Int32) &&& 31).toUInt32).toInt32) &&& (3 : Int32))), .val (.long q3), .second, .val (.long q4), .second, .val (.long (q3 ^^^ (-1 : Int64))), .second, .val (.long (q4 ^^^ (-1 : Int64))), .second, .val (.ref b15), .val (.ref b21), .val (.ref b40), .val (.ref b50), .val (.int z90)] [(.ref b40), (.ref b50)])) (fun t k => XS.aload X151.here hx rfl (hb hby at_328) rfl rfl k) ?_
        obtain ⟨cq152, kq152, q152a, q152b, q152c⟩ := isOf hZ e151 j91_3
        obtain ⟨_, _, ⟨T152, L152, k152, n152⟩, -, X152, ⟨Lc152, hQ152, l152, y152, z152⟩, st152⟩ := X151.virtualBack hx (y := (⟨"com/example/rangewise/rangewise/TimestampedId", "equals", "(Ljava/lang/Object;)Z"⟩ : MethodName)) (z := (⟨"com/example/rangewise/rangewise/TimestampedId", "equals", "(Ljava/lang/Object;)Z"⟩ : MethodName)) hown (mvT hZ (hw _ (ow 48 rfl))) (mvT hZ (hw _ (ow 49 rfl))) (notFace_of_selects (args := #[]) (mvT hZ (hw _ (ow 51 rfl)))) (mvT hZ (hw _ (ow 51 rfl))) (mvT hZ (hw _ (ow 50 rfl))) (by decide) (backOf (W := 0) (rm8 l Z a0 hw [] b50 b40 z8 (own_f1 q1) b21 b15 z24 q3 z27 q4 z30 (q3 ^^^ (-1 : Int64)) z33 (q4 ^^^ (-1 : Int64)) h91 n0 sz150 j91_2 j91_14 j91_12 j91_15 j91_13 j91_0 j91_8 j91_4 j91_9 j91_5 j91_10 j91_6 j91_11 j91_7 j91_1) hZ (hw _ (ow 52 rfl)) (hw _ (ow 24 rfl)) (by decide) (by decide)) q152a q152c (g := (mkF m 330 #[.val (.long q1), .second, .val (.long q2), .second, .val (.long q3), .second, .val (.long q4), .second, .val (.long q5), .second, .val (.int p6), .val (.long (own_f1 q1)), .second, .val (.long z8), .second, .val (.int (p6 &&& (3 : Int32))), .val (.int z13), .val (.int (((p6.toUInt32 >>> ((4 : Int32) &&& 31).toUInt32).toInt32) &&& (3 : Int32))), .val (.long q3), .second, .val (.long q4), .second, .val (.long (q3 ^^^ (-1 : Int64))), .second, .val (.long (q4 ^^^ (-1 : Int64))), .second, .val (.ref b15), .val (.ref b21), .val (.ref b40), .val (.ref b50), .val (.int z90)] [(.ref b40), (.ref b50)])) rfl (by rw [hml]; rfl) (Steps.refl _) (argsL := [(.ref b40)]) (rest := []) (lenOf pd_2 rfl) rfl (by show 2 * 0 + _ ≤ _; exact Nat.le_of_eq rfl) (hb hby at_330) (fun _ _ => ⟨rfl, e151, (by decide : 4 + 0 ≤ _), (by decide : 12 + 0 ≤ _)⟩)
        dsimp only [Pt.U, Pt.locs, Pt.cells, Pt.slots] at X152 l152 y152 z152 st152 hQ152
        subst l152 y152 z152
        obtain ⟨rfl, N152q, e152⟩ := hQ152
        have N152 := Fr.app N151 N152q
        refine own_pre (B := T152.setTop (mkF m 333 #[.val (.long q1), .second, .val (.long q2), .second, .val (.long q3), .second, .val (.long q4), .second, .val (.long q5), .second, .val (.int p6), .val (.long (own_f1 q1)), .second, .val (.long z8), .second, .val (.int (p6 &&& (3 : Int32))), .val (.int z13), .val (.int (((p6.toUInt32 >>> ((4 : Int32) &&& 31).toUInt32).toInt32) &&& (3 : Int32))), .val (.long q3), .second, .val (.long q4), .second, .val (.long (q3 ^^^ (-1 : Int64))), .second, .val (.long (q4 ^^^ (-1 : Int64))), .second, .val (.ref b15), .val (.ref b21), .val (.ref b40), .val (.ref b50), .val (.int z90)] [(.int (own_f8 z8 (own_f1 q1) z24 q3 z27 q4 z30 (q3 ^^^ (-1 : Int64)) z33 (q4 ^^^ (-1 : Int64))))])) (fun t k => st152.trans k) ?_
        refine own_pre (B := T152.setTop (mkF m 335 #[.val (.long q1), .second, .val (.long q2), .second, .val (.long q3), .second, .val (.long q4), .second, .val (.long q5), .second, .val (.int p6), .val (.long (own_f1 q1)), .second, .val (.long z8), .second, .val (.int (p6 &&& (3 : Int32))), .val (.int z13), .val (.int (((p6.toUInt32 >>> ((4 : Int32) &&& 31).toUInt32).toInt32) &&& (3 : Int32))), .val (.long q3), .second, .val (.long q4), .second, .val (.long (q3 ^^^ (-1 : Int64))), .second, .val (.long (q4 ^^^ (-1 : Int64))), .second, .val (.ref b15), .val (.ref b21), .val (.ref b40), .val (.ref b50), .val (.int z90)] [(.int z90), (.int (own_f8 z8 (own_f1 q1) z24 q3 z27 q4 z30 (q3 ^^^ (-1 : Int64)) z33 (q4 ^^^ (-1 : Int64))))])) (fun t k => XS.iload X152.here hx rfl (hb hby at_333) rfl k) ?_
        refine own_pre (B := T152.setTop (mkF m 338 #[.val (.long q1), .second, .val (.long q2), .second, .val (.long q3), .second, .val (.long q4), .second, .val (.long q5), .second, .val (.int p6), .val (.long (own_f1 q1)), .second, .val (.long z8), .second, .val (.int (p6 &&& (3 : Int32))), .val (.int z13), .val (.int (((p6.toUInt32 >>> ((4 : Int32) &&& 31).toUInt32).toInt32) &&& (3 : Int32))), .val (.long q3), .second, .val (.long q4), .second, .val (.long (q3 ^^^ (-1 : Int64))), .second, .val (.long (q4 ^^^ (-1 : Int64))), .second, .val (.ref b15), .val (.ref b21), .val (.ref b40), .val (.ref b50), .val (.int z90)] [])) (fun t k => XS.icmpNo X152.here hx rfl (hb hby at_335) rfl (teq ((own_sym _ _ _ _ _ _ _ _ _ _).trans ((own_main hz24 hz27 hz30 hz33).trans hz90.symm))).2 k) ?_
        refine own_pre (B := T152.setTop (mkF m 339 #[.val (.long q1), .second, .val (.long q2), .second, .val (.long q3), .second, .val (.long q4), .second, .val (.long q5), .second, .val (.int p6), .val (.long (own_f1 q1)), .second, .val (.long z8), .second, .val (.int (p6 &&& (3 : Int32))), .val (.int z13), .val (.int (((p6.toUInt32 >>> ((4 : Int32) &&& 31).toUInt32).toInt32) &&& (3 : Int32))), .val (.long q3), .second, .val (.long q4), .second, .val (.long (q3 ^^^ (-1 : Int64))), .second, .val (.long (q4 ^^^ (-1 : Int64))), .second, .val (.ref b15), .val (.ref b21), .val (.ref b40), .val (.ref b50), .val (.int z90)] [(.int (1 : Int32))])) (fun t k => XS.iconst X152.here hx rfl (hb hby at_338) k) ?_
        refine own_pre (B := T152.setTop (mkF m 343 #[.val (.long q1), .second, .val (.long q2), .second, .val (.long q3), .second, .val (.long q4), .second, .val (.long q5), .second, .val (.int p6), .val (.long (own_f1 q1)), .second, .val (.long z8), .second, .val (.int (p6 &&& (3 : Int32))), .val (.int z13), .val (.int (((p6.toUInt32 >>> ((4 : Int32) &&& 31).toUInt32).toInt32) &&& (3 : Int32))), .val (.long q3), .second, .val (.long q4), .second, .val (.long (q3 ^^^ (-1 : Int64))), .second, .val (.long (q4 ^^^ (-1 : Int64))), .second, .val (.ref b15), .val (.ref b21), .val (.ref b40), .val (.ref b50), .val (.int z90)] [(.int (1 : Int32))])) (fun t k => XS.goto X152.here hx rfl (pc0 := 339) (pc' := 343) rfl (hb hby at_339) (by decide) (by decide) k) ?_
        obtain ⟨fsr153, hrr153, hrunr153, hendedr153, hWr153, hsamer153⟩ := X152.leave (v := some (.int (1 : Int32))) (fun h => by rw [Bd.returns] at h; cases h)
        refine ⟨_, _, (retN X152 hx (t := .boolean) Bd.returns (by simp) (hb hby at_343) hrr153), hrunr153, hendedr153, _, _, rfl, ?_, ⟨_, rfl⟩, hWr153, hsamer153.mono (by decide) (by decide)⟩
        show Q0 Z q1 q2 q3 q4 q5 p6 h0 n0 _ T152.heap _
        rw [e152]
        exact ⟨rfl, N152⟩
set_option maxRecDepth 65536 in
set_option maxHeartbeats 40000000 in
theorem comes_1 {Post : Tables → Env → Array Value → State → Outcome → State → Prop} (hpost : ∀ tb e args s v u, (limb_1_1.after args s (.returned v) u = true ∧ limb_1_2.after args s (.returned v) u = true ∧ True) → FrameEnd s (.returned v) u (Jvm.fieldLocs frame_1_writes args s ++ Jvm.arrayLocs frame_1_arrays args s ++ Jvm.staticLocs frame_1_statics s) 16 128 → Post tb e args s (.returned v) u) :
    ArmFor flags0 classFile x code maxLocals ret World_1 tables_1 room_1 Calls_1 rest_1 Pre_1 Post := by
  intro l hfl _ _ p e ha hc hk s m args below hf hA hF happ hP
  obtain ⟨hcalls, hrest, hpre⟩ := hP
  obtain ⟨-, -, -, hnamed, -, -, -, hat⟩ := (Spec.applies_iff hf).mp happ
  obtain ⟨hg, hn⟩ := and_e (Cond.before_iff.mp (show (Jvm.Cond.and given_1 narrow_1).before args s = true from hpre))
  obtain ⟨g1, g2⟩ := and_e hg
  obtain ⟨g3, g4⟩ := and_e g2
  obtain ⟨g5, g6⟩ := and_e g4
  obtain ⟨g7, g8⟩ := and_e g6
  obtain ⟨g9, g10⟩ := and_e g8
  obtain ⟨g11, g12⟩ := and_e g10
  obtain ⟨w0, w1, w2, w3, w4, w5, rfl⟩ : ∃ w0 w1 w2 w3 w4 w5 : Value, args = #[w0, w1, w2, w3, w4, w5] := by
    have hs : args.size = 6 := by simpa [Cond.value, given_1] using g1
    obtain ⟨L⟩ := args
    match L, hs with
    | [w0, w1, w2, w3, w4, w5], _ => exact ⟨w0, w1, w2, w3, w4, w5, rfl⟩
  have hw := fun d (hd : d ∈ tables_1) => atoms_spec (ws := Jvm.Cond.code x code maxLocals ret :: tables_1) hat d (List.mem_cons_of_mem _ hd)
  have hfit : Fit s := fun {y c} hc i hi => by
    obtain ⟨ha, rfl⟩ := Array.getElem?_eq_some_iff.mp hc
    have q := List.all_eq_true.mp ((Array.all_eq_true_iff_forall_mem.mp hF) _ (Array.getElem_mem ha)) i (List.mem_range.mpr hi)
    simpa [Array.getElem?_eq_getElem hi] using q
  obtain ⟨i0, ei0⟩ := isL_v g3
  obtain rfl : w0 = (.long i0) := Option.some.inj ei0
  obtain ⟨i1, ei1⟩ := isL_v g5
  obtain rfl : w1 = (.long i1) := Option.some.inj ei1
  obtain ⟨i2, ei2⟩ := isL_v g7
  obtain rfl : w2 = (.long i2) := Option.some.inj ei2
  obtain ⟨i3, ei3⟩ := isL_v g9
  obtain rfl : w3 = (.long i3) := Option.some.inj ei3
  obtain ⟨i4, ei4⟩ := isL_v g11
  obtain rfl : w4 = (.long i4) := Option.some.inj ei4
  obtain ⟨i5, ei5⟩ := is_v g12
  obtain rfl : w5 = (.int i5) := Option.some.inj ei5
  obtain ⟨n, o, h1, h2, h3, _, L, rfl, ⟨rfl, N⟩, hq⟩ := rm0 l s _ hw tables_1 i0 i1 i2 i3 i4 i5  s.heap s.heap.size (Nat.le_refl _)  p e ha hc hk s m _ below hf ((Spec.applies_iff_loose hf).mp happ).1 ⟨rfl, State.Warmed39.refl s, rfl⟩ trivial
  refine ⟨n, _, h1, h2, h3, hpost _ _ _ _ _ _ ⟨Cond.after_iff.mpr rfl, Cond.after_iff.mpr (eq_i res_at (Term.int_eval (1)) rfl), trivial⟩ ⟨hq.1, hq.2.1, (hq.2.2.sift fun y hy => Or.inr (N y hy)).mono (by decide) (by decide)⟩⟩
theorem main_1_1 : Claimed_1_1 := comes_1 fun _ _ _ _ _ _ h hF => ⟨h.1, hF⟩
theorem main_1_2 : Claimed_1_2 := comes_1 fun _ _ _ _ _ _ h hF => ⟨h.2.1, hF⟩
end Jvm.Pilot.@@N@@
namespace Jvm.Pilot.@@N@@
open Jvm Jvm.ClassFile Sem Op Lib Jvm.Free Jvm.Stand Jvm.Pilot.@@N@@.Jvm.D
/-! MADE BY PROGRAM (witnessworld.py) out of the Statement's table words and the real class files: 16 classes; the members and pool entries that the words name. The judged class is class 1, her method 3. -/
namespace start1
open Jvm.ClassFile
def u (s : String) : CpInfo := .utf8 (stringToUtf16 s)
/-- a pool by its gaps: so many unusable entries, then the entry; so many at the end -/
def gap : Nat → List CpInfo → List CpInfo
  | 0, r => r
  | n + 1, r => .unusable :: gap n r
def poolList (es : List (Nat × CpInfo)) (last : Nat) : List CpInfo := es.foldr (fun e r => gap e.1 (e.2 :: r)) (gap last [])
def pool (es : List (Nat × CpInfo)) (last : Nat) : Array CpInfo := ⟨poolList es last⟩
def fileOf (pool : Array CpInfo) (this : Nat) (attrs : Array Attribute := #[]) (ms : Array MethodInfo := #[]) (fl : Nat := 33) (sup : Nat := 0) (ifs : Array Nat := #[]) (fds : Array FieldInfo := #[]) : ClassFile where
  minorVersion := 0
  majorVersion := 65
  constantPool := pool
  accessFlags := fl
  thisClass := this
  superClass := sup
  interfaces := ifs
  fields := fds
  methods := ms
  attributes := attrs
def plain (name : String) (sup : Option ClassId) : Class where
  name := name
  kind := .ordinary
  loader := none
  accessFlags := 33
  super := sup
  interfaces := #[]
  cf := none
  fields := #[]
  methods := #[]
  instanceTypes := #[]
  staticTypes := #[]
  resolved := #[]
  callSites := []
  init := .initialized
  statics := none
  mirror := none

def pool0 : Array CpInfo := pool [(5, u "<init>"), (0, u "()V"), (1, .class_ 10), (1, u "java/lang/Object")] 113

def k0c0 : Code := { maxStack := 0, maxLocals := 1, code := object_method_1_code, exceptionTable := #[], attributes := #[] }
def k0m0 : Method := { name := "<init>", desc := "()V", sig := { parameters := [], returnType := none }, accessFlags := 1, code := some k0c0 }
/-- java/lang/Object -/
def k0 : Class := { plain "java/lang/Object" none with
  accessFlags := 33
  interfaces := #[]
  cf := some (fileOf pool0 8 #[] #[{ accessFlags := 1, nameIndex := 5, descriptorIndex := 6, attributes := #[] }] 33 0 #[] #[])
  fields := #[]
  methods := #[k0m0]
  instanceTypes := #[]
  staticTypes := #[]
  resolved := Array.replicate 124 none
  statics := none }

def pool1 : Array CpInfo := pool [(2, .class_ 4), (1, u "java/lang/Object"), (0, u "<init>"), (0, u "()V"), (0, .long 18446744073709551615), (1, .long 18446744073709551614), (1, .methodref 12 13), (0, .class_ 14), (0, .nameAndType 15 16), (0, u "com/example/rangewise/rangewise/TimestampedIdEqualsPinLaw"), (0, u "fix"), (0, u "(J)J"), (0, .class_ 18), (0, u "com/example/rangewise/rangewise/Id"), (0, .methodref 17 20), (0, .nameAndType 5 21), (0, u "(JJJJ)V"), (0, .class_ 23), (0, u "com/example/rangewise/rangewise/TimestampedId"), (0, .methodref 22 25), (0, .nameAndType 5 26), (0, u "(JLcom/example/rangewise/rangewise/Id;)V"), (0, .methodref 22 28), (0, .nameAndType 29 30), (0, u "equals"), (0, u "(Ljava/lang/Object;)Z"), (0, .methodref 12 32), (0, .nameAndType 33 34), (0, u "orig"), (0, u "(IJJJJ)J"), (3, u "law"), (0, u "(JJJJJI)Z")] 2

def k1m0 : Method := { name := "<init>", desc := "()V", sig := { parameters := [], returnType := none }, accessFlags := 1, code := none }
def k1c1 : Code := { maxStack := 4, maxLocals := 2, code := method_2_code, exceptionTable := #[], attributes := #[] }
def k1m1 : Method := { name := "fix", desc := "(J)J", sig := { parameters := [.long], returnType := some .long }, accessFlags := 10, code := some k1c1 }
def k1c2 : Code := { maxStack := 2, maxLocals := 9, code := method_3_code, exceptionTable := #[], attributes := #[] }
def k1m2 : Method := { name := "orig", desc := "(IJJJJ)J", sig := { parameters := [.int, .long, .long, .long, .long], returnType := some .long }, accessFlags := 10, code := some k1c2 }
def k1c3 : Code := { maxStack := 11, maxLocals := 31, code := code, exceptionTable := #[], attributes := #[] }
def k1m3 : Method := { name := "law", desc := "(JJJJJI)Z", sig := { parameters := [.long, .long, .long, .long, .long, .int], returnType := some .boolean }, accessFlags := 9, code := some k1c3 }
/-- com/example/rangewise/rangewise/TimestampedIdEqualsPinLaw -/
def k1 : Class := { plain "com/example/rangewise/rangewise/TimestampedIdEqualsPinLaw" (some 0) with
  accessFlags := 49
  interfaces := #[]
  cf := some (fileOf pool1 12 #[] #[{ accessFlags := 1, nameIndex := 5, descriptorIndex := 6, attributes := #[] }, { accessFlags := 10, nameIndex := 15, descriptorIndex := 16, attributes := #[] }, { accessFlags := 10, nameIndex := 33, descriptorIndex := 34, attributes := #[] }, { accessFlags := 9, nameIndex := 38, descriptorIndex := 39, attributes := #[] }] 49 2 #[] #[])
  fields := #[]
  methods := #[k1m0, k1m1, k1m2, k1m3]
  instanceTypes := #[]
  staticTypes := #[]
  resolved := Array.replicate 42 none
  statics := none }

def pool2 : Array CpInfo := pool [(1, .class_ 2), (0, u "java/lang/Comparable"), (0, .class_ 4), (0, u "java/lang/Object")] 7

/-- java/lang/Comparable -/
def k2 : Class := { plain "java/lang/Comparable" (some 0) with
  accessFlags := 1537
  interfaces := #[]
  cf := some (fileOf pool2 1 #[] #[] 1537 3 #[] #[])
  fields := #[]
  methods := #[]
  instanceTypes := #[]
  staticTypes := #[]
  resolved := Array.replicate 12 none
  statics := none }

def pool3 : Array CpInfo := pool [(1, .class_ 2), (0, u "com/example/rangewise/rangewise/Id"), (2, .methodref 6 7), (0, .class_ 8), (0, .nameAndType 9 10), (0, u "java/lang/Object"), (0, u "<init>"), (0, u "()V"), (0, .fieldref 1 12), (0, .nameAndType 13 14), (0, u "word0"), (0, u "J"), (0, .fieldref 1 16), (0, .nameAndType 17 14), (0, u "word1"), (0, .fieldref 1 19), (0, .nameAndType 20 14), (0, u "word2"), (0, .fieldref 1 22), (0, .nameAndType 23 14), (0, u "word3"), (12, u "(JJJJ)V"), (64, u "ZERO"), (0, u "Lcom/example/rangewise/rangewise/Id;"), (0, .class_ 104), (0, u "java/lang/Comparable"), (0, u "LENGTH"), (0, u "I"), (2, u "HEX_LENGTH"), (1, u "HEX_PER_WORD"), (13, u "equals"), (0, u "(Ljava/lang/Object;)Z")] 22

def k3c0 : Code := { maxStack := 3, maxLocals := 9, code := prog_25_method_1_code, exceptionTable := #[], attributes := #[] }
def k3m0 : Method := { name := "<init>", desc := "(JJJJ)V", sig := { parameters := [.long, .long, .long, .long], returnType := none }, accessFlags := 0, code := some k3c0 }
def k3c1 : Code := { maxStack := 4, maxLocals := 3, code := prog_25_method_8_code, exceptionTable := #[], attributes := #[] }
def k3m1 : Method := { name := "equals", desc := "(Ljava/lang/Object;)Z", sig := { parameters := [(.object "java/lang/Object")], returnType := some .boolean }, accessFlags := 1, code := some k3c1 }
/-- com/example/rangewise/rangewise/Id -/
def k3 : Class := { plain "com/example/rangewise/rangewise/Id" (some 0) with
  accessFlags := 49
  interfaces := #[2]
  cf := some (fileOf pool3 1 #[] #[{ accessFlags := 0, nameIndex := 9, descriptorIndex := 36, attributes := #[] }, { accessFlags := 1, nameIndex := 125, descriptorIndex := 126, attributes := #[] }] 49 6 #[103] #[{ accessFlags := 25, nameIndex := 105, descriptorIndex := 106, attributes := #[] }, { accessFlags := 25, nameIndex := 101, descriptorIndex := 102, attributes := #[] }, { accessFlags := 26, nameIndex := 109, descriptorIndex := 106, attributes := #[] }, { accessFlags := 26, nameIndex := 111, descriptorIndex := 106, attributes := #[] }, { accessFlags := 18, nameIndex := 13, descriptorIndex := 14, attributes := #[] }, { accessFlags := 18, nameIndex := 17, descriptorIndex := 14, attributes := #[] }, { accessFlags := 18, nameIndex := 20, descriptorIndex := 14, attributes := #[] }, { accessFlags := 18, nameIndex := 23, descriptorIndex := 14, attributes := #[] }])
  fields := #[{ name := "LENGTH", type := .int, accessFlags := 25, slot := 0, constantValue := 0 }, { name := "ZERO", type := (.object "com/example/rangewise/rangewise/Id"), accessFlags := 25, slot := 1, constantValue := 0 }, { name := "HEX_LENGTH", type := .int, accessFlags := 26, slot := 2, constantValue := 0 }, { name := "HEX_PER_WORD", type := .int, accessFlags := 26, slot := 3, constantValue := 0 }, { name := "word0", type := .long, accessFlags := 18, slot := 0, constantValue := 0 }, { name := "word1", type := .long, accessFlags := 18, slot := 1, constantValue := 0 }, { name := "word2", type := .long, accessFlags := 18, slot := 2, constantValue := 0 }, { name := "word3", type := .long, accessFlags := 18, slot := 3, constantValue := 0 }]
  methods := #[k3m0, k3m1]
  instanceTypes := #[.long, .long, .long, .long]
  staticTypes := #[.int, (.object "com/example/rangewise/rangewise/Id"), .int, .int]
  resolved := Array.replicate 149 none
  statics := none }

def pool4 : Array CpInfo := pool [(1, .methodref 2 3), (0, .class_ 4), (0, .nameAndType 5 6), (0, u "java/lang/Object"), (0, u "<init>"), (0, u "()V"), (0, .class_ 8), (0, u "com/example/rangewise/rangewise/TimestampedId"), (0, .long 18446744073709551614), (1, .methodref 12 13), (0, .class_ 14), (0, .nameAndType 15 16), (0, u "java/lang/Long"), (0, u "compareUnsigned"), (0, u "(JJ)I"), (7, .fieldref 7 25), (0, .nameAndType 26 27), (0, u "timestamp"), (0, u "J"), (0, .methodref 29 30), (0, .class_ 31), (0, .nameAndType 32 33), (0, u "java/util/Objects"), (0, u "requireNonNull"), (0, u "(Ljava/lang/Object;)Ljava/lang/Object;"), (0, .class_ 35), (0, u "com/example/rangewise/rangewise/Id"), (0, .fieldref 7 37), (0, .nameAndType 38 39), (0, u "id"), (0, u "Lcom/example/rangewise/rangewise/Id;"), (46, .methodref 34 87), (0, .nameAndType 88 89), (0, u "equals"), (0, u "(Ljava/lang/Object;)Z"), (10, .class_ 101), (0, u "java/lang/Comparable"), (0, u "MAX_TIMESTAMP"), (1, u "(JLcom/example/rangewise/rangewise/Id;)V")] 40

def k4c0 : Code := { maxStack := 4, maxLocals := 4, code := prog_76_method_1_code, exceptionTable := #[], attributes := #[] }
def k4m0 : Method := { name := "<init>", desc := "(JLcom/example/rangewise/rangewise/Id;)V", sig := { parameters := [.long, (.object "com/example/rangewise/rangewise/Id")], returnType := none }, accessFlags := 1, code := some k4c0 }
def k4c1 : Code := { maxStack := 4, maxLocals := 3, code := prog_76_method_7_code, exceptionTable := #[], attributes := #[] }
def k4m1 : Method := { name := "equals", desc := "(Ljava/lang/Object;)Z", sig := { parameters := [(.object "java/lang/Object")], returnType := some .boolean }, accessFlags := 1, code := some k4c1 }
/-- com/example/rangewise/rangewise/TimestampedId -/
def k4 : Class := { plain "com/example/rangewise/rangewise/TimestampedId" (some 0) with
  accessFlags := 49
  interfaces := #[2]
  cf := some (fileOf pool4 7 #[] #[{ accessFlags := 1, nameIndex := 5, descriptorIndex := 104, attributes := #[] }, { accessFlags := 1, nameIndex := 88, descriptorIndex := 89, attributes := #[] }] 49 2 #[100] #[{ accessFlags := 25, nameIndex := 102, descriptorIndex := 27, attributes := #[] }, { accessFlags := 18, nameIndex := 26, descriptorIndex := 27, attributes := #[] }, { accessFlags := 18, nameIndex := 38, descriptorIndex := 39, attributes := #[] }])
  fields := #[{ name := "MAX_TIMESTAMP", type := .long, accessFlags := 25, slot := 0, constantValue := 0 }, { name := "timestamp", type := .long, accessFlags := 18, slot := 0, constantValue := 0 }, { name := "id", type := (.object "com/example/rangewise/rangewise/Id"), accessFlags := 18, slot := 1, constantValue := 0 }]
  methods := #[k4m0, k4m1]
  instanceTypes := #[.long, (.object "com/example/rangewise/rangewise/Id")]
  staticTypes := #[.long]
  resolved := Array.replicate 145 none
  statics := none }

def pool5 : Array CpInfo := pool [(1, .class_ 2), (0, u "java/io/Serializable"), (0, .class_ 4), (0, u "java/lang/Object")] 2

/-- java/io/Serializable -/
def k5 : Class := { plain "java/io/Serializable" (some 0) with
  accessFlags := 1537
  interfaces := #[]
  cf := some (fileOf pool5 1 #[] #[] 1537 3 #[] #[])
  fields := #[]
  methods := #[]
  instanceTypes := #[]
  staticTypes := #[]
  resolved := Array.replicate 7 none
  statics := none }

def pool6 : Array CpInfo := pool [(2, .class_ 4), (1, u "java/lang/Object"), (0, u "<init>"), (0, u "()V"), (1, .class_ 10), (1, u "java/lang/Number"), (2, .class_ 14), (0, u "java/io/Serializable"), (0, u "serialVersionUID"), (0, u "J")] 20

def k6m0 : Method := { name := "<init>", desc := "()V", sig := { parameters := [], returnType := none }, accessFlags := 1, code := none }
/-- java/lang/Number -/
def k6 : Class := { plain "java/lang/Number" (some 0) with
  accessFlags := 1057
  interfaces := #[5]
  cf := some (fileOf pool6 8 #[] #[{ accessFlags := 1, nameIndex := 5, descriptorIndex := 6, attributes := #[] }] 1057 2 #[13] #[{ accessFlags := 26, nameIndex := 15, descriptorIndex := 16, attributes := #[] }])
  fields := #[{ name := "serialVersionUID", type := .long, accessFlags := 26, slot := 0, constantValue := 0 }]
  methods := #[k6m0]
  instanceTypes := #[]
  staticTypes := #[.long]
  resolved := Array.replicate 37 none
  statics := none }

def pool7 : Array CpInfo := pool [(1, .class_ 2), (0, u "java/lang/constant/Constable"), (0, .class_ 4), (0, u "java/lang/Object")] 6

/-- java/lang/constant/Constable -/
def k7 : Class := { plain "java/lang/constant/Constable" (some 0) with
  accessFlags := 1537
  interfaces := #[]
  cf := some (fileOf pool7 1 #[] #[] 1537 3 #[] #[])
  fields := #[]
  methods := #[]
  instanceTypes := #[]
  staticTypes := #[]
  resolved := Array.replicate 11 none
  statics := none }

def pool8 : Array CpInfo := pool [(1, .class_ 2), (0, u "java/lang/constant/ConstantDesc"), (0, .class_ 4), (0, u "java/lang/Object")] 32

/-- java/lang/constant/ConstantDesc -/
def k8 : Class := { plain "java/lang/constant/ConstantDesc" (some 0) with
  accessFlags := 1537
  interfaces := #[]
  cf := some (fileOf pool8 1 #[] #[] 1537 3 #[] #[])
  fields := #[]
  methods := #[]
  instanceTypes := #[]
  staticTypes := #[]
  resolved := Array.replicate 37 none
  statics := none }

def pool9 : Array CpInfo := pool [(1, .class_ 2), (0, u "java/lang/Long"), (165, .long 9223372036854775808), (66, .class_ 237), (1, u "java/lang/Long$LongCache"), (33, .class_ 272), (0, u "java/lang/Number"), (2, u "value"), (0, u "J"), (25, .methodref 1 303), (0, .nameAndType 304 305), (0, u "compare"), (0, u "(JJ)I"), (55, u "TYPE"), (0, u "Ljava/lang/Class;"), (0, .class_ 364), (0, u "java/lang/Comparable"), (0, .class_ 366), (0, u "java/lang/constant/Constable"), (0, .class_ 368), (0, u "java/lang/constant/ConstantDesc"), (0, u "MIN_VALUE"), (1, u "MAX_VALUE"), (4, u "SIZE"), (0, u "I"), (1, u "BYTES"), (1, u "serialVersionUID"), (87, u "compareUnsigned")] 54

def k9c0 : Code := { maxStack := 4, maxLocals := 4, code := jdk_35_method_42_code, exceptionTable := #[], attributes := #[] }
def k9m0 : Method := { name := "compare", desc := "(JJ)I", sig := { parameters := [.long, .long], returnType := some .int }, accessFlags := 9, code := some k9c0 }
def k9c1 : Code := { maxStack := 6, maxLocals := 4, code := jdk_35_method_43_code, exceptionTable := #[], attributes := #[] }
def k9m1 : Method := { name := "compareUnsigned", desc := "(JJ)I", sig := { parameters := [.long, .long], returnType := some .int }, accessFlags := 9, code := some k9c1 }
/-- java/lang/Long -/
def k9 : Class := { plain "java/lang/Long" (some 6) with
  accessFlags := 49
  interfaces := #[2, 7, 8]
  cf := some (fileOf pool9 1 #[.nestMembers #[235]] #[{ accessFlags := 9, nameIndex := 304, descriptorIndex := 305, attributes := #[] }, { accessFlags := 9, nameIndex := 469, descriptorIndex := 305, attributes := #[] }] 49 271 #[363, 365, 367] #[{ accessFlags := 25, nameIndex := 369, descriptorIndex := 276, attributes := #[] }, { accessFlags := 25, nameIndex := 371, descriptorIndex := 276, attributes := #[] }, { accessFlags := 25, nameIndex := 361, descriptorIndex := 362, attributes := #[] }, { accessFlags := 18, nameIndex := 275, descriptorIndex := 276, attributes := #[] }, { accessFlags := 25, nameIndex := 376, descriptorIndex := 377, attributes := #[] }, { accessFlags := 25, nameIndex := 379, descriptorIndex := 377, attributes := #[] }, { accessFlags := 26, nameIndex := 381, descriptorIndex := 276, attributes := #[] }])
  fields := #[{ name := "MIN_VALUE", type := .long, accessFlags := 25, slot := 0, constantValue := 0 }, { name := "MAX_VALUE", type := .long, accessFlags := 25, slot := 1, constantValue := 0 }, { name := "TYPE", type := (.object "java/lang/Class"), accessFlags := 25, slot := 2, constantValue := 0 }, { name := "value", type := .long, accessFlags := 18, slot := 0, constantValue := 0 }, { name := "SIZE", type := .int, accessFlags := 25, slot := 3, constantValue := 0 }, { name := "BYTES", type := .int, accessFlags := 25, slot := 4, constantValue := 0 }, { name := "serialVersionUID", type := .long, accessFlags := 26, slot := 5, constantValue := 0 }]
  methods := #[k9m0, k9m1]
  instanceTypes := #[.long]
  staticTypes := #[.long, .long, (.object "java/lang/Class"), .int, .int, .long]
  resolved := Array.replicate 524 none
  statics := none }

def pool10 : Array CpInfo := pool [(2, .class_ 4), (1, u "java/lang/Object"), (0, u "<init>"), (0, u "()V"), (35, .class_ 44), (1, u "java/util/Objects"), (0, u "requireNonNull"), (0, u "(Ljava/lang/Object;)Ljava/lang/Object;")] 137

def k10m0 : Method := { name := "<init>", desc := "()V", sig := { parameters := [], returnType := none }, accessFlags := 2, code := none }
def k10c1 : Code := { maxStack := 2, maxLocals := 1, code := jdk_31_method_10_code, exceptionTable := #[], attributes := #[] }
def k10m1 : Method := { name := "requireNonNull", desc := "(Ljava/lang/Object;)Ljava/lang/Object;", sig := { parameters := [(.object "java/lang/Object")], returnType := some (.object "java/lang/Object") }, accessFlags := 9, code := some k10c1 }
/-- java/util/Objects -/
def k10 : Class := { plain "java/util/Objects" (some 0) with
  accessFlags := 49
  interfaces := #[]
  cf := some (fileOf pool10 42 #[] #[{ accessFlags := 2, nameIndex := 5, descriptorIndex := 6, attributes := #[] }, { accessFlags := 9, nameIndex := 45, descriptorIndex := 46, attributes := #[] }] 49 2 #[] #[])
  fields := #[]
  methods := #[k10m0, k10m1]
  instanceTypes := #[]
  staticTypes := #[]
  resolved := Array.replicate 184 none
  statics := none }

def pool11 : Array CpInfo := pool [(1, u "java/lang/Cloneable"), (0, .class_ 1), (0, u "java/lang/Object"), (0, .class_ 3)] 3

/-- java/lang/Cloneable -/
def k11 : Class := { plain "java/lang/Cloneable" (some 0) with
  accessFlags := 1537
  interfaces := #[]
  cf := some (fileOf pool11 2 #[] #[] 1537 4 #[] #[])
  fields := #[]
  methods := #[]
  instanceTypes := #[]
  staticTypes := #[]
  resolved := Array.replicate 8 none
  statics := none }

/-- the primitive byte -/
def k12 : Class := { plain "byte" none with kind := .primitive 'B', accessFlags := 0x411 }
/-- [B -/
def k13 : Class := { plain "[B" (some 0) with kind := .array 12 .byte, interfaces := #[11, 5], accessFlags := 1041 }

/-- the primitive int -/
def k14 : Class := { plain "int" none with kind := .primitive 'I', accessFlags := 0x411 }
/-- [I -/
def k15 : Class := { plain "[I" (some 0) with kind := .array 14 .int, interfaces := #[11, 5], accessFlags := 1041 }

def heap : Heap := #[]
def classes : Array Class := #[k0, k1, k2, k3, k4, k5, k6, k7, k8, k9, k10, k11, k12, k13, k14, k15]
def interned : List (Array UInt16 × Addr) := []
def slotsUsed : Nat := 0
def theMethod : MethodId := ⟨1, 3⟩
def args0 : Array Value := #[.long 5, .long 6, .long 7, .long 8, .long 9, .int 5]
def aboutOver (below : List Frame) : State where
  vm := { classes := classes, interned := interned.toArray }
  heap := heap
  slotsUsed := slotsUsed
  threads := #[{ frames := .invoking theMethod args0 :: below }]
def below0 : List Frame := [.native { method := ⟨0, 0⟩, args := #[] }]
def about1 : State := aboutOver below0
def p0 : Program := .bare "" "" ""
def e0 : Env := launch0.env 0 0 0
theorem w_frames : about1.frames = Frame.invoking theMethod args0 :: below0 := rfl
set_option maxRecDepth 65536 in
theorem w_args : argsFit about1.vm theMethod args0 = true := by decide +kernel
set_option maxRecDepth 65536 in
theorem w_heap : heapFits about1 = true := by decide +kernel
set_option maxRecDepth 65536 in
theorem w_runnable : about1.curStatus? = some .runnable := by decide +kernel
set_option maxRecDepth 65536 in
theorem w_alone : about1.alone = true := by decide +kernel
set_option maxRecDepth 65536 in
theorem w_named : about1.methodNamed? x = some theMethod := by decide +kernel
set_option maxRecDepth 65536 in
theorem w_hears : about1.hears theMethod below0 = true := by decide +kernel
set_option maxRecDepth 65536 in
theorem w_ripe : about1.ripe theMethod args0 below0 = true := by decide +kernel
theorem w_running : about1.status = .running := rfl
set_option maxRecDepth 65536 in
theorem w_room : about1.hasRoom e0.platform room_1 = true :=
  launch0.hasRoom_least _ room_1 (by decide +kernel) (by decide +kernel) (by decide +kernel) (by decide +kernel) (by decide +kernel) (by decide +kernel)
theorem allAtoms_all (ts : List Jvm.Cond) (a : Array Jvm.Value) (st : Jvm.State) : (allAtoms ts).before a st = ts.all (fun c => c.before a st) := by
  induction ts with
  | nil => rfl
  | cons c t ih =>
    show (Jvm.Cond.and c (allAtoms t)).before a st = _
    rw [Jvm.Cond.before_and, ih, List.all_cons]
def words1 : List Jvm.Cond := Jvm.Cond.code x code maxLocals ret :: tables_1
/-- a 'code' word, met by the world's own term for the bytes: nothing is compared byte by byte -/
theorem code_word {y : MethodName} {bytes : ByteArray} {mx : Nat} {rt : Option FieldType} {a : Array Value} {s : State} {m : MethodId} {meth : Method} {c : Code} (h1 : s.methodNamed? y = some m) (h2 : s.vm.method? m = some meth) (h3 : meth.code = some c) (h4 : c.code = bytes)
    (h5 : (c.maxLocals == mx && c.exceptionTable.isEmpty && decide (c.maxStack ≤ mostOperands) && decide (meth.sig.returnType = rt) && !meth.locks && decide (parseMethodDescriptor y.desc = some meth.sig)) = true) : (Jvm.Cond.code y bytes mx rt).before a s = true := by
  simp only [Bool.and_eq_true, beq_iff_eq, Bool.not_eq_true', decide_eq_true_eq] at h5
  obtain ⟨⟨⟨⟨⟨g1, g2⟩, g3⟩, g4⟩, g5⟩, g6⟩ := h5
  simp [Cond.before, Cond.holds, Cond.value, h1, h2, h3, h4, g1, g2, g3, g4, g5, g6]
def isCode : Jvm.Cond → Bool
  | .code _ _ _ _ => true
  | _ => false
theorem all_split {L : List Jvm.Cond} {P : Jvm.Cond → Bool} (h1 : L.all (fun c => isCode c || P c) = true) (h2 : ∀ c ∈ L.filter isCode, P c = true) : L.all P = true := by
  refine List.all_eq_true.mpr fun c hc => ?_
  have h := List.all_eq_true.mp h1 c hc
  rcases Bool.eq_false_or_eq_true (isCode c) with hi | hi
  · exact h2 c (List.mem_filter.mpr ⟨hc, hi⟩)
  · simpa [hi] using h
set_option maxRecDepth 65536 in
theorem w_c0 : (Jvm.Cond.code x code maxLocals ret).before args0 about1 = true := code_word (m := ⟨1, 3⟩) (meth := k1m3) (c := k1c3) (by decide +kernel) rfl rfl rfl (by decide +kernel)
set_option maxRecDepth 65536 in
theorem w_c1 : (Jvm.Cond.code ({ cls := "com/example/rangewise/rangewise/TimestampedIdEqualsPinLaw", name := "fix", desc := "(J)J" } : Jvm.MethodName) method_2_code (2 : Nat) (Option.some Jvm.ClassFile.FieldType.long)).before args0 about1 = true := code_word (m := ⟨1, 1⟩) (meth := k1m1) (c := k1c1) (by decide +kernel) rfl rfl rfl (by decide +kernel)
set_option maxRecDepth 65536 in
theorem w_c2 : (Jvm.Cond.code ({ cls := "com/example/rangewise/rangewise/Id", name := "<init>", desc := "(JJJJ)V" } : Jvm.MethodName) prog_25_method_1_code (9 : Nat) (Option.none : Option Jvm.ClassFile.FieldType)).before args0 about1 = true := code_word (m := ⟨3, 0⟩) (meth := k3m0) (c := k3c0) (by decide +kernel) rfl rfl rfl (by decide +kernel)
set_option maxRecDepth 65536 in
theorem w_c3 : (Jvm.Cond.code ({ cls := "java/lang/Object", name := "<init>", desc := "()V" } : Jvm.MethodName) object_method_1_code (1 : Nat) (Option.none : Option Jvm.ClassFile.FieldType)).before args0 about1 = true := code_word (m := ⟨0, 0⟩) (meth := k0m0) (c := k0c0) (by decide +kernel) rfl rfl rfl (by decide +kernel)
set_option maxRecDepth 65536 in
theorem w_c4 : (Jvm.Cond.code ({ cls := "com/example/rangewise/rangewise/TimestampedId", name := "<init>", desc := "(JLcom/example/rangewise/rangewise/Id;)V" } : Jvm.MethodName) prog_76_method_1_code (4 : Nat) (Option.none : Option Jvm.ClassFile.FieldType)).before args0 about1 = true := code_word (m := ⟨4, 0⟩) (meth := k4m0) (c := k4c0) (by decide +kernel) rfl rfl rfl (by decide +kernel)
set_option maxRecDepth 65536 in
theorem w_c5 : (Jvm.Cond.code ({ cls := "java/lang/Long", name := "compareUnsigned", desc := "(JJ)I" } : Jvm.MethodName) jdk_35_method_43_code (4 : Nat) (Option.some Jvm.ClassFile.FieldType.int)).before args0 about1 = true := code_word (m := ⟨9, 1⟩) (meth := k9m1) (c := k9c1) (by decide +kernel) rfl rfl rfl (by decide +kernel)
set_option maxRecDepth 65536 in
theorem w_c6 : (Jvm.Cond.code ({ cls := "java/lang/Long", name := "compare", desc := "(JJ)I" } : Jvm.MethodName) jdk_35_method_42_code (4 : Nat) (Option.some Jvm.ClassFile.FieldType.int)).before args0 about1 = true := code_word (m := ⟨9, 0⟩) (meth := k9m0) (c := k9c0) (by decide +kernel) rfl rfl rfl (by decide +kernel)
set_option maxRecDepth 65536 in
theorem w_c7 : (Jvm.Cond.code ({ cls := "java/util/Objects", name := "requireNonNull", desc := "(Ljava/lang/Object;)Ljava/lang/Object;" } : Jvm.MethodName) jdk_31_method_10_code (1 : Nat) (Option.some (Jvm.ClassFile.FieldType.object "java/lang/Object"))).before args0 about1 = true := code_word (m := ⟨10, 1⟩) (meth := k10m1) (c := k10c1) (by decide +kernel) rfl rfl rfl (by decide +kernel)
set_option maxRecDepth 65536 in
theorem w_c8 : (Jvm.Cond.code ({ cls := "com/example/rangewise/rangewise/TimestampedId", name := "equals", desc := "(Ljava/lang/Object;)Z" } : Jvm.MethodName) prog_76_method_7_code (3 : Nat) (Option.some Jvm.ClassFile.FieldType.boolean)).before args0 about1 = true := code_word (m := ⟨4, 1⟩) (meth := k4m1) (c := k4c1) (by decide +kernel) rfl rfl rfl (by decide +kernel)
set_option maxRecDepth 65536 in
theorem w_c9 : (Jvm.Cond.code ({ cls := "com/example/rangewise/rangewise/TimestampedIdEqualsPinLaw", name := "orig", desc := "(IJJJJ)J" } : Jvm.MethodName) method_3_code (9 : Nat) (Option.some Jvm.ClassFile.FieldType.long)).before args0 about1 = true := code_word (m := ⟨1, 2⟩) (meth := k1m2) (c := k1c2) (by decide +kernel) rfl rfl rfl (by decide +kernel)
set_option maxRecDepth 65536 in
theorem w_c10 : (Jvm.Cond.code ({ cls := "com/example/rangewise/rangewise/Id", name := "equals", desc := "(Ljava/lang/Object;)Z" } : Jvm.MethodName) prog_25_method_8_code (3 : Nat) (Option.some Jvm.ClassFile.FieldType.boolean)).before args0 about1 = true := code_word (m := ⟨3, 1⟩) (meth := k3m1) (c := k3c1) (by decide +kernel) rfl rfl rfl (by decide +kernel)
def codes1 : List Jvm.Cond := [Jvm.Cond.code x code maxLocals ret, Jvm.Cond.code ({ cls := "com/example/rangewise/rangewise/TimestampedIdEqualsPinLaw", name := "fix", desc := "(J)J" } : Jvm.MethodName) method_2_code (2 : Nat) (Option.some Jvm.ClassFile.FieldType.long), Jvm.Cond.code ({ cls := "com/example/rangewise/rangewise/Id", name := "<init>", desc := "(JJJJ)V" } : Jvm.MethodName) prog_25_method_1_code (9 : Nat) (Option.none : Option Jvm.ClassFile.FieldType), Jvm.Cond.code ({ cls := "java/lang/Object", name := "<init>", desc := "()V" } : Jvm.MethodName) object_method_1_code (1 : Nat) (Option.none : Option Jvm.ClassFile.FieldType), Jvm.Cond.code ({ cls := "com/example/rangewise/rangewise/TimestampedId", name := "<init>", desc := "(JLcom/example/rangewise/rangewise/Id;)V" } : Jvm.MethodName) prog_76_method_1_code (4 : Nat) (Option.none : Option Jvm.ClassFile.FieldType), Jvm.Cond.code ({ cls := "java/lang/Long", name := "compareUnsigned", desc := "(JJ)I" } : Jvm.MethodName) jdk_35_method_43_code (4 : Nat) (Option.some Jvm.ClassFile.FieldType.int), Jvm.Cond.code ({ cls := "java/lang/Long", name := "compare", desc := "(JJ)I" } : Jvm.MethodName) jdk_35_method_42_code (4 : Nat) (Option.some Jvm.ClassFile.FieldType.int), Jvm.Cond.code ({ cls := "java/util/Objects", name := "requireNonNull", desc := "(Ljava/lang/Object;)Ljava/lang/Object;" } : Jvm.MethodName) jdk_31_method_10_code (1 : Nat) (Option.some (Jvm.ClassFile.FieldType.object "java/lang/Object")), Jvm.Cond.code ({ cls := "com/example/rangewise/rangewise/TimestampedId", name := "equals", desc := "(Ljava/lang/Object;)Z" } : Jvm.MethodName) prog_76_method_7_code (3 : Nat) (Option.some Jvm.ClassFile.FieldType.boolean), Jvm.Cond.code ({ cls := "com/example/rangewise/rangewise/TimestampedIdEqualsPinLaw", name := "orig", desc := "(IJJJJ)J" } : Jvm.MethodName) method_3_code (9 : Nat) (Option.some Jvm.ClassFile.FieldType.long), Jvm.Cond.code ({ cls := "com/example/rangewise/rangewise/Id", name := "equals", desc := "(Ljava/lang/Object;)Z" } : Jvm.MethodName) prog_25_method_8_code (3 : Nat) (Option.some Jvm.ClassFile.FieldType.boolean)]
set_option maxRecDepth 65536 in
theorem codes_eq : words1.filter isCode = codes1 := rfl
theorem w_codes : ∀ c ∈ words1.filter isCode, c.before args0 about1 = true := by
  rw [codes_eq]
  intro c hc
  simp only [codes1, List.mem_cons, List.not_mem_nil, or_false] at hc
  rcases hc with rfl | rfl | rfl | rfl | rfl | rfl | rfl | rfl | rfl | rfl | rfl
  · exact w_c0
  · exact w_c1
  · exact w_c2
  · exact w_c3
  · exact w_c4
  · exact w_c5
  · exact w_c6
  · exact w_c7
  · exact w_c8
  · exact w_c9
  · exact w_c10
set_option maxRecDepth 65536 in
theorem w_t1 : (words1.take 24).all (fun c => isCode c || c.before args0 about1) = true := by decide +kernel
set_option maxRecDepth 65536 in
theorem w_t2 : ((words1.drop 24).take 24).all (fun c => isCode c || c.before args0 about1) = true := by decide +kernel
set_option maxRecDepth 65536 in
theorem w_t3 : ((words1.drop 24).drop 24).all (fun c => isCode c || c.before args0 about1) = true := by decide +kernel
theorem w_tables : (allAtoms (Jvm.Cond.code x code maxLocals ret :: tables_1)).before args0 about1 = true := by
  rw [allAtoms_all]
  show words1.all (fun c => c.before args0 about1) = true
  refine all_split ?_ w_codes
  rw [← List.take_append_drop 24 words1, List.all_append, w_t1, ← List.take_append_drop 24 (words1.drop 24), List.all_append, w_t2, w_t3]
  rfl
set_option maxRecDepth 65536 in
theorem w_case : (Jvm.Cond.and given_1 narrow_1).before args0 about1 = true := by decide +kernel
theorem w_applies : (headSpec (Jvm.Cond.code x code maxLocals ret :: tables_1) room_1).applies x e0.platform about1 = true :=
  (Spec.applies_iff w_frames).mpr ⟨w_running, w_runnable, w_alone, w_named, w_hears, w_ripe, w_room, w_tables⟩
theorem atStart : AtStart classFile x code maxLocals ret World_1 tables_1 room_1 Calls_1 rest_1 Pre_1 launch0 p0 e0 about1 theMethod args0 below0 :=
  ⟨lists_1, trivial, launch0.admits_env _ _ _, launch0.least_env, fairChoices_fair.cas, fairChoices_fair.clock, w_frames, w_args, w_heap, w_applies, trivial, trivial, w_case⟩
end start1
theorem witness_1 : WitnessClaimed_1 := ⟨start1.p0, start1.e0, start1.about1, start1.theMethod, start1.args0, start1.below0, start1.atStart⟩
end Jvm.Pilot.@@N@@
