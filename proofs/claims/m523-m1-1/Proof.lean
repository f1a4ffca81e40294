import JvmDerived
import JvmDerived.Pilot.@@N@@Statement
import JvmDerived.Pilot.@@N@@Code
set_option linter.unusedVariables false
set_option linter.unusedSimpArgs false
namespace Jvm.RoadKit
open Sem ClassFile Op Lib Jvm.Stand Jvm.Free Jvm.LawKit
section New
variable {p : Program} {l : Launch} {e : Env} {R : Room} {s : State} {m : MethodId} {args : Array Value} {below : List Frame} {meth : Method} {c : Code} {T : State} {locs : List Loc} {cells slots : Nat}
theorem retI (X : Stand p l e R s m args below meth c T locs cells slots) (hx : p.tables.exec = Jvm.exec) {pc : Nat} {Ls : Array Slot} {z : Int32} {rest : List Value} (hret : meth.sig.returnType = some .int) (hd : decode c.code pc = .ok (.ireturn, 1)) {fs : List Frame}
    (hl : ∀ (f : JFrame) (acts : List Action), f.method = m → f.locked = none → f.entered = [] → (doReturn e (T.setTop f) acts (some (.int z))).1 = T.setFrames fs) : Steps p.tables e below (T.setTop (mkF m pc Ls (.int z :: rest))) (T.setFrames fs) := by
  have hm' : T.vm.method? m = some meth := X.method'
  have hn : narrow .int (.int z) = .int z := rfl
  show Steps p.tables e below (T.setTop { method := m, pc := pc, locals := Ls, stack := _ :: rest, locked := none }) _
  jvm_step X.here [X.here.top, hx, hd, hm', hret, hn]
  first | (intro acts; rw [hl _ acts rfl rfl rfl]) | rw [hl _ _ rfl rfl rfl]
  exact Steps.refl _
end New
end Jvm.RoadKit
namespace Jvm.Pilot.@@N@@
open Jvm Jvm.ClassFile Sem Op Lib Jvm.Free Jvm.Stand Jvm.LawKit Jvm.RoadKit Bundle Jvm.Pilot.@@N@@.Jvm.D
/-! the goal of a walk, gone through forwards: from the state A the run comes to an end that answers R -/
def own_G (tb : Tables) (e : Env) (below : List Frame) (R : State → Outcome → Prop) (A : State) : Prop := ∃ t o, Steps tb e below A t ∧ t.status = .running ∧ Ended t below o ∧ R t o
theorem own_in {tb : Tables} {e : Env} {below : List Frame} {R : State → Outcome → Prop} {A : State} (h : own_G tb e below R A) : ∃ t o, Steps tb e below A t ∧ t.status = .running ∧ Ended t below o ∧ R t o := h
theorem own_pre {tb : Tables} {e : Env} {below : List Frame} {R : State → Outcome → Prop} {A B : State} (k : ∀ t, Steps tb e below B t → Steps tb e below A t) (h : own_G tb e below R B) : own_G tb e below R A := by
  obtain ⟨t, o, h1, h2⟩ := h
  exact ⟨t, o, k t h1, h2⟩
/-! a part of a walk: from A the run comes to some state that answers P -/
def own_J (tb : Tables) (e : Env) (below : List Frame) (P : State → Prop) (A : State) : Prop := ∃ B, P B ∧ ∀ t, Steps tb e below B t → Steps tb e below A t
theorem own_preJ {tb : Tables} {e : Env} {below : List Frame} {P : State → Prop} {A B : State} (k : ∀ t, Steps tb e below B t → Steps tb e below A t) (h : own_J tb e below P B) : own_J tb e below P A := by
  obtain ⟨C, h1, h2⟩ := h
  exact ⟨C, h1, fun t q => k t (h2 t q)⟩
theorem own_more {p : Program} {l : Launch} {e : Env} {R : Room} {s : State} {m : MethodId} {args : Array Value} {below : List Frame} {meth : Method} {c : Code} {T : State} {locs : List Loc} {cells slots cells' slots' : Nat} (X : Stand p l e R s m args below meth c T locs cells slots) (h : cells ≤ cells') (h' : slots ≤ slots') : Stand p l e R s m args below meth c T locs cells' slots' :=
  { X with same := X.same.mono h h' }
theorem ow {d : Jvm.Cond} (i : Nat) (h : tables_1[i]? = some d) : d ∈ tables_1 := List.mem_of_getElem? h
theorem own_root {Z : State} {a0 : Array Value} {O K : String} {n : Nat} (w : (Jvm.Cond.noSuperclass O).before a0 Z = true) (wk : (Jvm.Cond.instantiable K n).before a0 Z = true) (hn : O ≠ K) : NS Z O K := by
  obtain ⟨c, k, h1, h2, h3, -, -⟩ := Cond.noSuperclass_spec w
  obtain ⟨t, kt, g1, -⟩ := Cond.instantiable_spec wk
  have ne := ids_ne h1 g1 hn
  exact ⟨c, t, h1, g1, fun fuel => by cases fuel <;> simp [Vm.isSubclassAux, ne, h2, h3]⟩
theorem own_nosub {Z : State} {a0 : Array Value} {C S K : String} {n : Nat} (w : (Jvm.Cond.superclass C S).before a0 Z = true) (wk : (Jvm.Cond.instantiable K n).before a0 Z = true) (N : NS Z C K) (hn : C ≠ K) : ∃ c t, Z.vm.findClass C = some c ∧ Z.vm.findClass K = some t ∧ Z.vm.assignable c t = false := by
  obtain ⟨c, t, h0, g0, n3⟩ := N
  obtain ⟨p, k, kp, -, h2, -, -, h5, -, -⟩ := Cond.superclass_spec h0 w
  obtain ⟨t', k', g1, g2, g3, g4, -⟩ := Cond.instantiable_spec wk
  cases g0.symm.trans g1
  have ne := ids_ne h0 g0 hn
  have g5 : k'.isInterface = false := by simp at g4; exact g4.1
  refine ⟨c, t, h0, g0, ?_⟩
  show Z.vm.assignableAux (255 + 1) c t = false
  simp [Vm.assignableAux, ne, h2, g2, h5, g3, g5, Vm.isSubclass, n3]
theorem own_cache {Z : State} {args : Array Value} {C CC D : String} {Y : Jvm.Cond} (h1 : (Jvm.Cond.arrayOf (.static CC "cache" D) (.object C)).before args Z = true) (h2 : (Jvm.Cond.eq (.length (.static CC "cache" D)) (.int 256)).before args Z = true)
    (h3 : (Jvm.Cond.all (.static CC "cache" D) (.and (.exactly (.elem (.static CC "cache" D) (.index 0)) C) Y)).before args Z = true) :
    ∃ arr c, (Term.static CC "cache" D).eval args Z none [] Z = some (.ref arr) ∧ Arr Z Z.heap arr c (.object C) ∧ c.slots.size = 256 ∧ ∀ j, j < 256 → ∃ r, c.slots[j]? = some (.ref r) ∧ Exa Z Z.heap r C := by
  obtain ⟨arr, ev⟩ := arr_v (Cond.before_iff.mp h1)
  obtain ⟨c, A⟩ := Arr.start ev (Cond.before_iff.mp h1)
  obtain ⟨hs, hl⟩ := IntBox.length_fwd h2 ev A.1 A.2.1 A.2.2
  have hat := IntBox.arrayAt_of A.1 A.2.1 A.2.2
  have h256 : c.slots.size = 256 := by
    have e := len_toInt hs
    rw [hl] at e
    have e2 : (256 : Int32).toInt = 256 := by decide
    omega
  have hall := Cond.all_elim ev hat (Cond.before_iff.mp h3)
  refine ⟨arr, c, ev, A, h256, fun j hj => ?_⟩
  obtain ⟨q, -⟩ := and_e (hall j (by omega))
  have hx' : (Jvm.Cond.exactly (.elem (.static CC "cache" D) (.index 0)) C).holds args Z none Z [j] = true := by simp [Cond.holds, q]
  obtain ⟨r, c', cell, k, e1, e2, e3, e4, e5, rfl, e7⟩ := Cond.exactly_spec hx'
  have ev' : (Term.static CC "cache" D).eval args Z none [j] Z = some (.ref arr) := ev
  obtain ⟨hn, hb⟩ := IntBox.place_nonneg j hj
  have hi : (Term.index 0).eval args Z none [j] Z = some (.int j.toInt32) := rfl
  obtain ⟨-, hv⟩ := elem_in e1 ev' hi A.1
  rw [hb] at hv
  exact ⟨r, hv, cell, k, e3, e2, e4, e5, e7⟩
theorem own_not {Z : State} {a0 : Array Value} (hw : ∀ d ∈ tables_1, d.before a0 Z = true) : ∃ c t, Z.vm.findClass "java/lang/Long" = some c ∧ Z.vm.findClass "com/example/rangewise/rangewise/Id" = some t ∧ Z.vm.assignable c t = false :=
  own_nosub (hw _ (ow 49 rfl)) (hw _ (ow 1 rfl)) (NS.step (hw _ (ow 49 rfl)) (NS.step (hw _ (ow 50 rfl)) (own_root (hw _ (ow 51 rfl)) (hw _ (ow 1 rfl)) (by decide)) (by decide)) (by decide)) (by decide)
theorem own_place {q : Int64} (h1 : ¬ q < (-128 : Int64)) (h2 : ¬ (127 : Int64) < q) : ¬ ((q.toInt32 + 128) < 0 ∨ 256 ≤ (q.toInt32 + 128).toNatClampNeg) ∧ (q.toInt32 + 128).toNatClampNeg < 256 := by
  have c := c_l2i q
  have r := rng32 q.toInt32
  have r6 := rng64 q
  have e1 : (-128 : Int64).toInt = -128 := by decide
  have e2 : (127 : Int64).toInt = 127 := by decide
  have e3 : (-128 : Int32).toInt = -128 := by decide
  have e4 : (127 : Int32).toInt = 127 := by decide
  rw [Int64.lt_iff_toInt_lt] at h1 h2
  exact IntBox.place_ok _ (by rw [Int32.lt_iff_toInt_lt]; omega) (by show ¬ (127 : Int32) < _; rw [Int32.lt_iff_toInt_lt]; omega)
theorem d1_0 : decode prog_25_method_1_code 0 = .ok (.aload_n 0, 1) := by decide +kernel
theorem d1_1 : decode prog_25_method_1_code 1 = .ok (.invokespecial 5, 3) := by decide +kernel
theorem d1_4 : decode prog_25_method_1_code 4 = .ok (.aload_n 0, 1) := by decide +kernel
theorem d1_5 : decode prog_25_method_1_code 5 = .ok (.lload_n 1, 1) := by decide +kernel
theorem d1_6 : decode prog_25_method_1_code 6 = .ok (.putfield 11, 3) := by decide +kernel
theorem d1_9 : decode prog_25_method_1_code 9 = .ok (.aload_n 0, 1) := by decide +kernel
theorem d1_10 : decode prog_25_method_1_code 10 = .ok (.lload_n 3, 1) := by decide +kernel
theorem d1_11 : decode prog_25_method_1_code 11 = .ok (.putfield 15, 3) := by decide +kernel
theorem d1_14 : decode prog_25_method_1_code 14 = .ok (.aload_n 0, 1) := by decide +kernel
theorem d1_15 : decode prog_25_method_1_code 15 = .ok (.lload 5, 2) := by decide +kernel
theorem d1_17 : decode prog_25_method_1_code 17 = .ok (.putfield 18, 3) := by decide +kernel
theorem d1_20 : decode prog_25_method_1_code 20 = .ok (.aload_n 0, 1) := by decide +kernel
theorem d1_21 : decode prog_25_method_1_code 21 = .ok (.lload 7, 2) := by decide +kernel
theorem d1_23 : decode prog_25_method_1_code 23 = .ok (.putfield 21, 3) := by decide +kernel
theorem d1_26 : decode prog_25_method_1_code 26 = .ok (.return_, 1) := by decide +kernel
theorem pn_1 : plainName "com/example/rangewise/rangewise/Id" = true := by first | (simp [plainName, overriddenIn]; done) | decide +kernel
theorem ef_1 (m : MethodId) (x0 : Addr) (x1 : Int64) (x2 : Int64) (x3 : Int64) (x4 : Int64) : entryFrame m #[(.ref x0), (.long x1), (.long x2), (.long x3), (.long x4)] 9 = mkF m 0 #[.val (.ref x0), .val (.long x1), .second, .val (.long x2), .second, .val (.long x3), .second, .val (.long x4), .second] [] := by first | (simp [entryFrame, mkF, argsToLocals, Value.category]; done) | rfl
def Q1 (Z : State) (a1 : Addr) (q2 : Int64) (q3 : Int64) (q4 : Int64) (q5 : Int64) (u_word0_a1 : Value) (u_word1_a1 : Value) (u_word2_a1 : Value) (u_word3_a1 : Value) (h0 : Heap) (n0 : Nat) (v : Option Value) (h : Heap) (L : List Loc) : Prop := v = none ∧ Fr n0 L ∧ Keep h0 h [a1] ∧ Exa Z h a1 "com/example/rangewise/rangewise/Id" ∧ Fld Z h a1 "com/example/rangewise/rangewise/Id" "word0" "J" (.long q2) ∧ Fld Z h a1 "com/example/rangewise/rangewise/Id" "word1" "J" (.long q3) ∧ Fld Z h a1 "com/example/rangewise/rangewise/Id" "word2" "J" (.long q4) ∧ Fld Z h a1 "com/example/rangewise/rangewise/Id" "word3" "J" (.long q5)
set_option maxRecDepth 65536 in
set_option maxHeartbeats 40000000 in
theorem rm1 (l : Launch) (Z : State) (a0 : Array Value) (hw : ∀ d ∈ tables_1, d.before a0 Z = true) (ws : List Jvm.Cond) (a1 : Addr) (q2 : Int64) (q3 : Int64) (q4 : Int64) (q5 : Int64) (u_word0_a1 : Value) (u_word1_a1 : Value) (u_word2_a1 : Value) (u_word3_a1 : Value) (h0 : Heap) (n0 : Nat) (Z0 : n0 ≤ h0.size) (E_a1 : Exa Z h0 a1 "com/example/rangewise/rangewise/Id") (F_word0_a1 : Fld Z h0 a1 "com/example/rangewise/rangewise/Id" "word0" "J" u_word0_a1) (g_a1 : n0 ≤ a1) (F_word1_a1 : Fld Z h0 a1 "com/example/rangewise/rangewise/Id" "word1" "J" u_word1_a1) (F_word2_a1 : Fld Z h0 a1 "com/example/rangewise/rangewise/Id" "word2" "J" u_word2_a1) (F_word3_a1 : Fld Z h0 a1 "com/example/rangewise/rangewise/Id" "word3" "J" u_word3_a1) :
    MetFree l (⟨"com/example/rangewise/rangewise/Id", "<init>", "(JJJJ)V"⟩ : MethodName) (head1 (Jvm.Cond.code (⟨"com/example/rangewise/rangewise/Id", "<init>", "(JJJJ)V"⟩ : MethodName) prog_25_method_1_code 9 none :: ws) ({ frames := 1, cells := 0, slots := 0, locals := 12 } : Room)) (fun a U => a = #[(.ref a1), (.long q2), (.long q3), (.long q4), (.long q5)] ∧ Z.Warmed39 U.vm ∧ U.heap = h0) (fun _ _ _ _ _ => True) (fun _ U o U' => ∃ v L, o = .returned v ∧ Q1 Z a1 q2 q3 q4 q5 u_word0_a1 u_word1_a1 u_word2_a1 u_word3_a1 h0 n0 v U'.heap L ∧ FrameEnd U o U' L ({ frames := 1, cells := 0, slots := 0, locals := 12 } : Room).cells ({ frames := 1, cells := 0, slots := 0, locals := 12 } : Room).slots) := by
  refine MetFree.of_bodySF (plainFor_of_name pn_1) hisR ?_
  intro p e s m args below meth c s₁ Bd hml0 hP hK
  obtain ⟨rfl, hZ, hh⟩ := hP
  have hx := Bd.exec
  have hby := Bd.bytes
  have hml : c.maxLocals = 9 := hml0
  have hown : s.vm.findClass "com/example/rangewise/rangewise/Id" = some m.cls := findClass_of_methodNamed Bd.named
  have hnm := (name_of_methodNamed Bd.named Bd.method).1
  have X0 : Stand p l e ({ frames := 1, cells := 0, slots := 0, locals := 12 } : Room) s m #[(.ref a1), (.long q2), (.long q3), (.long q4), (.long q5)] below meth c s₁ [] 0 0 := Stand.of_body Bd
  have e0 : s₁.heap = h0 := by rw [← hh, Bd.state]; rfl
  have N0 := Fr.nil n0
  apply own_in
  refine own_pre (B := s₁.setTop (mkF m 0 #[.val (.ref a1), .val (.long q2), .second, .val (.long q3), .second, .val (.long q4), .second, .val (.long q5), .second] [])) (fun t k => castTop (ef_1 m a1 q2 q3 q4 q5) k) ?_
  refine own_pre (B := s₁.setTop (mkF m 1 #[.val (.ref a1), .val (.long q2), .second, .val (.long q3), .second, .val (.long q4), .second, .val (.long q5), .second] [(.ref a1)])) (fun t k => XS.aloadN X0.here hx rfl (hb hby d1_0) rfl rfl k) ?_
  obtain ⟨T6, X6, e6, st6⟩ := initO X0 hx hZ hown (hw _ (ow 6 rfl)) (hw _ (ow 7 rfl)) (hw _ (ow 8 rfl)) e0 (g := (mkF m 1 #[.val (.ref a1), .val (.long q2), .second, .val (.long q3), .second, .val (.long q4), .second, .val (.long q5), .second] [(.ref a1)])) rfl (by rw [hml]; rfl) rfl (hb hby d1_1) (by decide) (W := 0) (by show 2 * 0 + _ ≤ _; exact Nat.le_of_eq rfl) (by decide)
  refine own_pre (B := T6.setTop (mkF m 4 #[.val (.ref a1), .val (.long q2), .second, .val (.long q3), .second, .val (.long q4), .second, .val (.long q5), .second] [])) (fun t k => st6 t k) ?_
  refine own_pre (B := T6.setTop (mkF m 5 #[.val (.ref a1), .val (.long q2), .second, .val (.long q3), .second, .val (.long q4), .second, .val (.long q5), .second] [(.ref a1)])) (fun t k => XS.aloadN X6.here hx rfl (hb hby d1_4) rfl rfl k) ?_
  refine own_pre (B := T6.setTop (mkF m 6 #[.val (.ref a1), .val (.long q2), .second, .val (.long q3), .second, .val (.long q4), .second, .val (.long q5), .second] [(.long q2), (.ref a1)])) (fun t k => XS.lloadN X6.here hx rfl (hb hby d1_5) rfl k) ?_
  have K7 : Keep h0 h0 [a1] := (Keep.refl h0 [a1])
  obtain ⟨T8, h8, X8, e8, W8, st8⟩ := putF X6 hx hZ hown (host := "") (Or.inl (hw _ (ow 9 rfl))) Via.refl e6 F_word0_a1 E_a1 (Or.inr ⟨(hw _ (ow 10 rfl)), rfl, hnm⟩) (hw _ (ow 1 rfl)) (ty := .long) (by decide) rfl rfl (g := (mkF m 6 #[.val (.ref a1), .val (.long q2), .second, .val (.long q3), .second, .val (.long q4), .second, .val (.long q5), .second] [(.long q2), (.ref a1)])) rfl rfl (hb hby d1_6)
  have Fw8 := Fld.same W8 F_word0_a1
  have N8 := Fr.snoc X8 N0 g_a1
  refine own_pre (B := T8.setTop (mkF m 9 #[.val (.ref a1), .val (.long q2), .second, .val (.long q3), .second, .val (.long q4), .second, .val (.long q5), .second] [])) (fun t k => st8 t k) ?_
  refine own_pre (B := T8.setTop (mkF m 10 #[.val (.ref a1), .val (.long q2), .second, .val (.long q3), .second, .val (.long q4), .second, .val (.long q5), .second] [(.ref a1)])) (fun t k => XS.aloadN X8.here hx rfl (hb hby d1_9) rfl rfl k) ?_
  refine own_pre (B := T8.setTop (mkF m 11 #[.val (.ref a1), .val (.long q2), .second, .val (.long q3), .second, .val (.long q4), .second, .val (.long q5), .second] [(.long q3), (.ref a1)])) (fun t k => XS.lloadN X8.here hx rfl (hb hby d1_10) rfl k) ?_
  have c9 := (Exa.wr W8 E_a1)
  have c10 := (Fld.other W8 F_word1_a1 (Or.inr (slot_ne (Or.inr (hw _ (ow 12 rfl))) (Or.inr (hw _ (ow 10 rfl))) (by decide) (t := .long) (t' := .long) (by decide) (by decide))))
  have K11 : Keep h0 h8 [a1] := (Keep.wr K7 W8 (Or.inl (List.mem_of_getElem? (i := 0) rfl)))
  obtain ⟨T12, h12, X12, e12, W12, st12⟩ := putF X8 hx hZ hown (host := "") (Or.inl (hw _ (ow 11 rfl))) Via.refl e8 c10 c9 (Or.inr ⟨(hw _ (ow 12 rfl)), rfl, hnm⟩) (hw _ (ow 1 rfl)) (ty := .long) (by decide) rfl rfl (g := (mkF m 11 #[.val (.ref a1), .val (.long q2), .second, .val (.long q3), .second, .val (.long q4), .second, .val (.long q5), .second] [(.long q3), (.ref a1)])) rfl rfl (hb hby d1_11)
  have Fw12 := Fld.same W12 c10
  have N12 := Fr.snoc X12 N8 g_a1
  refine own_pre (B := T12.setTop (mkF m 14 #[.val (.ref a1), .val (.long q2), .second, .val (.long q3), .second, .val (.long q4), .second, .val (.long q5), .second] [])) (fun t k => st12 t k) ?_
  refine own_pre (B := T12.setTop (mkF m 15 #[.val (.ref a1), .val (.long q2), .second, .val (.long q3), .second, .val (.long q4), .second, .val (.long q5), .second] [(.ref a1)])) (fun t k => XS.aloadN X12.here hx rfl (hb hby d1_14) rfl rfl k) ?_
  refine own_pre (B := T12.setTop (mkF m 17 #[.val (.ref a1), .val (.long q2), .second, .val (.long q3), .second, .val (.long q4), .second, .val (.long q5), .second] [(.long q4), (.ref a1)])) (fun t k => XS.lload X12.here hx rfl (hb hby d1_15) rfl k) ?_
  have c13 := (Exa.wr W12 c9)
  have c14 := (Fld.other W12 (Fld.other W8 F_word2_a1 (Or.inr (slot_ne (Or.inr (hw _ (ow 14 rfl))) (Or.inr (hw _ (ow 10 rfl))) (by decide) (t := .long) (t' := .long) (by decide) (by decide)))) (Or.inr (slot_ne (Or.inr (hw _ (ow 14 rfl))) (Or.inr (hw _ (ow 12 rfl))) (by decide) (t := .long) (t' := .long) (by decide) (by decide))))
  have K15 : Keep h0 h12 [a1] := (Keep.wr K11 W12 (Or.inl (List.mem_of_getElem? (i := 0) rfl)))
  obtain ⟨T16, h16, X16, e16, W16, st16⟩ := putF X12 hx hZ hown (host := "") (Or.inl (hw _ (ow 13 rfl))) Via.refl e12 c14 c13 (Or.inr ⟨(hw _ (ow 14 rfl)), rfl, hnm⟩) (hw _ (ow 1 rfl)) (ty := .long) (by decide) rfl rfl (g := (mkF m 17 #[.val (.ref a1), .val (.long q2), .second, .val (.long q3), .second, .val (.long q4), .second, .val (.long q5), .second] [(.long q4), (.ref a1)])) rfl rfl (hb hby d1_17)
  have Fw16 := Fld.same W16 c14
  have N16 := Fr.snoc X16 N12 g_a1
  refine own_pre (B := T16.setTop (mkF m 20 #[.val (.ref a1), .val (.long q2), .second, .val (.long q3), .second, .val (.long q4), .second, .val (.long q5), .second] [])) (fun t k => st16 t k) ?_
  refine own_pre (B := T16.setTop (mkF m 21 #[.val (.ref a1), .val (.long q2), .second, .val (.long q3), .second, .val (.long q4), .second, .val (.long q5), .second] [(.ref a1)])) (fun t k => XS.aloadN X16.here hx rfl (hb hby d1_20) rfl rfl k) ?_
  refine own_pre (B := T16.setTop (mkF m 23 #[.val (.ref a1), .val (.long q2), .second, .val (.long q3), .second, .val (.long q4), .second, .val (.long q5), .second] [(.long q5), (.ref a1)])) (fun t k => XS.lload X16.here hx rfl (hb hby d1_21) rfl k) ?_
  have c17 := (Exa.wr W16 c13)
  have c18 := (Fld.other W16 (Fld.other W12 (Fld.other W8 F_word3_a1 (Or.inr (slot_ne (Or.inr (hw _ (ow 16 rfl))) (Or.inr (hw _ (ow 10 rfl))) (by decide) (t := .long) (t' := .long) (by decide) (by decide)))) (Or.inr (slot_ne (Or.inr (hw _ (ow 16 rfl))) (Or.inr (hw _ (ow 12 rfl))) (by decide) (t := .long) (t' := .long) (by decide) (by decide)))) (Or.inr (slot_ne (Or.inr (hw _ (ow 16 rfl))) (Or.inr (hw _ (ow 14 rfl))) (by decide) (t := .long) (t' := .long) (by decide) (by decide))))
  have K19 : Keep h0 h16 [a1] := (Keep.wr K15 W16 (Or.inl (List.mem_of_getElem? (i := 0) rfl)))
  obtain ⟨T20, h20, X20, e20, W20, st20⟩ := putF X16 hx hZ hown (host := "") (Or.inl (hw _ (ow 15 rfl))) Via.refl e16 c18 c17 (Or.inr ⟨(hw _ (ow 16 rfl)), rfl, hnm⟩) (hw _ (ow 1 rfl)) (ty := .long) (by decide) rfl rfl (g := (mkF m 23 #[.val (.ref a1), .val (.long q2), .second, .val (.long q3), .second, .val (.long q4), .second, .val (.long q5), .second] [(.long q5), (.ref a1)])) rfl rfl (hb hby d1_23)
  have Fw20 := Fld.same W20 c18
  have N20 := Fr.snoc X20 N16 g_a1
  refine own_pre (B := T20.setTop (mkF m 26 #[.val (.ref a1), .val (.long q2), .second, .val (.long q3), .second, .val (.long q4), .second, .val (.long q5), .second] [])) (fun t k => st20 t k) ?_
  have K21 : Keep h0 h20 [a1] := (Keep.wr K19 W20 (Or.inl (List.mem_of_getElem? (i := 0) rfl)))
  have c22 := (Exa.wr W20 c17)
  have c23 := (Fld.other W20 (Fld.other W16 (Fld.other W12 Fw8 (Or.inr (slot_ne (Or.inr (hw _ (ow 10 rfl))) (Or.inr (hw _ (ow 12 rfl))) (by decide) (t := .long) (t' := .long) (by decide) (by decide)))) (Or.inr (slot_ne (Or.inr (hw _ (ow 10 rfl))) (Or.inr (hw _ (ow 14 rfl))) (by decide) (t := .long) (t' := .long) (by decide) (by decide)))) (Or.inr (slot_ne (Or.inr (hw _ (ow 10 rfl))) (Or.inr (hw _ (ow 16 rfl))) (by decide) (t := .long) (t' := .long) (by decide) (by decide))))
  have c24 := (Fld.other W20 (Fld.other W16 Fw12 (Or.inr (slot_ne (Or.inr (hw _ (ow 12 rfl))) (Or.inr (hw _ (ow 14 rfl))) (by decide) (t := .long) (t' := .long) (by decide) (by decide)))) (Or.inr (slot_ne (Or.inr (hw _ (ow 12 rfl))) (Or.inr (hw _ (ow 16 rfl))) (by decide) (t := .long) (t' := .long) (by decide) (by decide))))
  have c25 := (Fld.other W20 Fw16 (Or.inr (slot_ne (Or.inr (hw _ (ow 14 rfl))) (Or.inr (hw _ (ow 16 rfl))) (by decide) (t := .long) (t' := .long) (by decide) (by decide))))
  obtain ⟨fsr26, hrr26, hrunr26, hendedr26, hWr26, hsamer26⟩ := X20.leave (v := none) (fun _ => rfl)
  refine ⟨_, _, (X20.returnOut hx Bd.returns (hb hby d1_26) hrr26), hrunr26, hendedr26, _, _, rfl, ?_, ⟨_, rfl⟩, hWr26, hsamer26.mono (by decide) (by decide)⟩
  show Q1 Z a1 q2 q3 q4 q5 u_word0_a1 u_word1_a1 u_word2_a1 u_word3_a1 h0 n0 _ T20.heap _
  rw [e20]
  exact ⟨rfl, N20, K21, c22, c23, c24, c25, Fw20⟩
theorem d3_0 : decode method_2_code 0 = .ok (.iload 4, 2) := by decide +kernel
theorem d3_2 : decode method_2_code 2 = .ok (.iload 5, 2) := by decide +kernel
theorem d3_4 : decode method_2_code 4 = .ok (.ishr, 1) := by decide +kernel
theorem d3_5 : decode method_2_code 5 = .ok (.iconst 1, 1) := by decide +kernel
theorem d3_6 : decode method_2_code 6 = .ok (.iand, 1) := by decide +kernel
theorem d3_7 : decode method_2_code 7 = .ok (.ifCond .eq 9, 3) := by decide +kernel
theorem d3_10 : decode method_2_code 10 = .ok (.lload_n 0, 1) := by decide +kernel
theorem d3_11 : decode method_2_code 11 = .ok (.lload_n 2, 1) := by decide +kernel
theorem d3_12 : decode method_2_code 12 = .ok (.lxor, 1) := by decide +kernel
theorem d3_13 : decode method_2_code 13 = .ok (.goto 4, 3) := by decide +kernel
theorem d3_16 : decode method_2_code 16 = .ok (.lload_n 0, 1) := by decide +kernel
theorem d3_17 : decode method_2_code 17 = .ok (.lreturn, 1) := by decide +kernel
theorem pn_3 : plainName "com/example/rangewise/rangewise/IdEqualsPinLaw" = true := by first | (simp [plainName, overriddenIn]; done) | decide +kernel
theorem ef_3 (m : MethodId) (x0 : Int64) (x1 : Int64) (x2 : Int32) (x3 : Int32) : entryFrame m #[(.long x0), (.long x1), (.int x2), (.int x3)] 6 = mkF m 0 #[.val (.long x0), .second, .val (.long x1), .second, .val (.int x2), .val (.int x3)] [] := by first | (simp [entryFrame, mkF, argsToLocals, Value.category]; done) | rfl
def own_f3 (q1 : Int64) (q2 : Int64) (p3 : Int32) (p4 : Int32) : Int64 := (if ((p3 >>> (p4 &&& 31)) &&& (1 : Int32)) = (0 : Int32) then q1 else (q1 ^^^ q2))
def Q3 (Z : State) (q1 : Int64) (q2 : Int64) (p3 : Int32) (p4 : Int32) (h0 : Heap) (n0 : Nat) (v : Option Value) (h : Heap) (L : List Loc) : Prop := v = some (.long (own_f3 q1 q2 p3 p4)) ∧ Fr n0 L ∧ h = h0
set_option maxRecDepth 65536 in
set_option maxHeartbeats 40000000 in
theorem rm3 (l : Launch) (Z : State) (a0 : Array Value) (hw : ∀ d ∈ tables_1, d.before a0 Z = true) (ws : List Jvm.Cond) (q1 : Int64) (q2 : Int64) (p3 : Int32) (p4 : Int32) (h0 : Heap) (n0 : Nat) (Z0 : n0 ≤ h0.size) :
    MetFree l (⟨"com/example/rangewise/rangewise/IdEqualsPinLaw", "flip", "(JJII)J"⟩ : MethodName) (head1 (Jvm.Cond.code (⟨"com/example/rangewise/rangewise/IdEqualsPinLaw", "flip", "(JJII)J"⟩ : MethodName) method_2_code 6 (some .long) :: ws) ({ frames := 0, cells := 0, slots := 0, locals := 0 } : Room)) (fun a U => a = #[(.long q1), (.long q2), (.int p3), (.int p4)] ∧ Z.Warmed39 U.vm ∧ U.heap = h0) (fun _ _ _ _ _ => True) (fun _ U o U' => ∃ v L, o = .returned v ∧ Q3 Z q1 q2 p3 p4 h0 n0 v U'.heap L ∧ FrameEnd U o U' L ({ frames := 0, cells := 0, slots := 0, locals := 0 } : Room).cells ({ frames := 0, cells := 0, slots := 0, locals := 0 } : Room).slots) := by
  refine MetFree.of_bodySF (plainFor_of_name pn_3) hisR ?_
  intro p e s m args below meth c s₁ Bd hml0 hP hK
  obtain ⟨rfl, hZ, hh⟩ := hP
  have hx := Bd.exec
  have hby := Bd.bytes
  have hml : c.maxLocals = 6 := hml0
  have hown : s.vm.findClass "com/example/rangewise/rangewise/IdEqualsPinLaw" = some m.cls := findClass_of_methodNamed Bd.named
  have hnm := (name_of_methodNamed Bd.named Bd.method).1
  have X0 : Stand p l e ({ frames := 0, cells := 0, slots := 0, locals := 0 } : Room) s m #[(.long q1), (.long q2), (.int p3), (.int p4)] below meth c s₁ [] 0 0 := Stand.of_body Bd
  have e0 : s₁.heap = h0 := by rw [← hh, Bd.state]; rfl
  have N0 := Fr.nil n0
  apply own_in
  refine own_pre (B := s₁.setTop (mkF m 0 #[.val (.long q1), .second, .val (.long q2), .second, .val (.int p3), .val (.int p4)] [])) (fun t k => castTop (ef_3 m q1 q2 p3 p4) k) ?_
  refine own_pre (B := s₁.setTop (mkF m 2 #[.val (.long q1), .second, .val (.long q2), .second, .val (.int p3), .val (.int p4)] [(.int p3)])) (fun t k => XS.iload X0.here hx rfl (hb hby d3_0) rfl k) ?_
  refine own_pre (B := s₁.setTop (mkF m 4 #[.val (.long q1), .second, .val (.long q2), .second, .val (.int p3), .val (.int p4)] [(.int p4), (.int p3)])) (fun t k => XS.iload X0.here hx rfl (hb hby d3_2) rfl k) ?_
  refine own_pre (B := s₁.setTop (mkF m 5 #[.val (.long q1), .second, .val (.long q2), .second, .val (.int p3), .val (.int p4)] [(.int (p3 >>> (p4 &&& 31)))])) (fun t k => XS.ishr X0.here hx rfl (hb hby d3_4) rfl k) ?_
  refine own_pre (B := s₁.setTop (mkF m 6 #[.val (.long q1), .second, .val (.long q2), .second, .val (.int p3), .val (.int p4)] [(.int (1 : Int32)), (.int (p3 >>> (p4 &&& 31)))])) (fun t k => XS.iconst X0.here hx rfl (hb hby d3_5) k) ?_
  refine own_pre (B := s₁.setTop (mkF m 7 #[.val (.long q1), .second, .val (.long q2), .second, .val (.int p3), .val (.int p4)] [(.int ((p3 >>> (p4 &&& 31)) &&& (1 : Int32)))])) (fun t k => XS.iand X0.here hx rfl (hb hby d3_6) rfl k) ?_
  by_cases hc7_5 : ((p3 >>> (p4 &&& 31)) &&& (1 : Int32)) = (0 : Int32)
  · refine own_pre (B := s₁.setTop (mkF m 16 #[.val (.long q1), .second, .val (.long q2), .second, .val (.int p3), .val (.int p4)] [])) (fun t k => XS.ifYes X0.here hx rfl (pc0 := 7) (pc' := 16) rfl (hb hby d3_7) rfl ((if0 _ _).trans (teq hc7_5).1) (by decide) (by decide) k) ?_
    refine own_pre (B := s₁.setTop (mkF m 17 #[.val (.long q1), .second, .val (.long q2), .second, .val (.int p3), .val (.int p4)] [(.long q1)])) (fun t k => XS.lloadN X0.here hx rfl (hb hby d3_16) rfl k) ?_
    obtain ⟨fsr6, hrr6, hrunr6, hendedr6, hWr6, hsamer6⟩ := X0.leave (v := some (.long q1)) (fun h => by rw [Bd.returns] at h; cases h)
    refine ⟨_, _, (retOut X0 hx (t := .long) (i := .lreturn) Bd.returns rfl (Or.inr (Or.inl ⟨rfl, rfl, _, rfl⟩)) (hb hby d3_17) hrr6), hrunr6, hendedr6, _, _, rfl, ?_, ⟨_, rfl⟩, hWr6, hsamer6.mono (by decide) (by decide)⟩
    show Q3 Z q1 q2 p3 p4 h0 n0 _ s₁.heap _
    rw [e0]
    exact ⟨(by unfold own_f3; rw [if_pos hc7_5]), N0, rfl⟩
  · refine own_pre (B := s₁.setTop (mkF m 10 #[.val (.long q1), .second, .val (.long q2), .second, .val (.int p3), .val (.int p4)] [])) (fun t k => XS.ifNo X0.here hx rfl (hb hby d3_7) rfl ((if0 _ _).trans (feq hc7_5).1) k) ?_
    refine own_pre (B := s₁.setTop (mkF m 11 #[.val (.long q1), .second, .val (.long q2), .second, .val (.int p3), .val (.int p4)] [(.long q1)])) (fun t k => XS.lloadN X0.here hx rfl (hb hby d3_10) rfl k) ?_
    refine own_pre (B := s₁.setTop (mkF m 12 #[.val (.long q1), .second, .val (.long q2), .second, .val (.int p3), .val (.int p4)] [(.long q2), (.long q1)])) (fun t k => XS.lloadN X0.here hx rfl (hb hby d3_11) rfl k) ?_
    refine own_pre (B := s₁.setTop (mkF m 13 #[.val (.long q1), .second, .val (.long q2), .second, .val (.int p3), .val (.int p4)] [(.long (q1 ^^^ q2))])) (fun t k => XS.lxor X0.here hx rfl (hb hby d3_12) rfl k) ?_
    refine own_pre (B := s₁.setTop (mkF m 17 #[.val (.long q1), .second, .val (.long q2), .second, .val (.int p3), .val (.int p4)] [(.long (q1 ^^^ q2))])) (fun t k => XS.goto X0.here hx rfl (pc0 := 13) (pc' := 17) rfl (hb hby d3_13) (by decide) (by decide) k) ?_
    obtain ⟨fsr7, hrr7, hrunr7, hendedr7, hWr7, hsamer7⟩ := X0.leave (v := some (.long (q1 ^^^ q2))) (fun h => by rw [Bd.returns] at h; cases h)
    refine ⟨_, _, (retOut X0 hx (t := .long) (i := .lreturn) Bd.returns rfl (Or.inr (Or.inl ⟨rfl, rfl, _, rfl⟩)) (hb hby d3_17) hrr7), hrunr7, hendedr7, _, _, rfl, ?_, ⟨_, rfl⟩, hWr7, hsamer7.mono (by decide) (by decide)⟩
    show Q3 Z q1 q2 p3 p4 h0 n0 _ s₁.heap _
    rw [e0]
    exact ⟨(by unfold own_f3; rw [if_neg hc7_5]), N0, rfl⟩
theorem d7_0 : decode jdk_18_method_1_code 0 = .ok (.aload_n 0, 1) := by decide +kernel
theorem d7_1 : decode jdk_18_method_1_code 1 = .ok (.invokespecial 1, 3) := by decide +kernel
theorem d7_4 : decode jdk_18_method_1_code 4 = .ok (.return_, 1) := by decide +kernel
theorem pn_7 : plainName "java/lang/Number" = true := by first | (simp [plainName, overriddenIn]; done) | decide +kernel
theorem ef_7 (m : MethodId) (x0 : Addr) : entryFrame m #[(.ref x0)] 1 = mkF m 0 #[.val (.ref x0)] [] := by first | (simp [entryFrame, mkF, argsToLocals, Value.category]; done) | rfl
def Q7 (Z : State) (a1 : Addr) (h0 : Heap) (n0 : Nat) (v : Option Value) (h : Heap) (L : List Loc) : Prop := v = none ∧ Fr n0 L ∧ h = h0
set_option maxRecDepth 65536 in
set_option maxHeartbeats 40000000 in
theorem rm7 (l : Launch) (Z : State) (a0 : Array Value) (hw : ∀ d ∈ tables_1, d.before a0 Z = true) (ws : List Jvm.Cond) (a1 : Addr) (h0 : Heap) (n0 : Nat) (Z0 : n0 ≤ h0.size) :
    MetFree l (⟨"java/lang/Number", "<init>", "()V"⟩ : MethodName) (head1 (Jvm.Cond.code (⟨"java/lang/Number", "<init>", "()V"⟩ : MethodName) jdk_18_method_1_code 1 none :: ws) ({ frames := 1, cells := 0, slots := 0, locals := 12 } : Room)) (fun a U => a = #[(.ref a1)] ∧ Z.Warmed39 U.vm ∧ U.heap = h0) (fun _ _ _ _ _ => True) (fun _ U o U' => ∃ v L, o = .returned v ∧ Q7 Z a1 h0 n0 v U'.heap L ∧ FrameEnd U o U' L ({ frames := 1, cells := 0, slots := 0, locals := 12 } : Room).cells ({ frames := 1, cells := 0, slots := 0, locals := 12 } : Room).slots) := by
  refine MetFree.of_bodySF (plainFor_of_name pn_7) hisR ?_
  intro p e s m args below meth c s₁ Bd hml0 hP hK
  obtain ⟨rfl, hZ, hh⟩ := hP
  have hx := Bd.exec
  have hby := Bd.bytes
  have hml : c.maxLocals = 1 := hml0
  have hown : s.vm.findClass "java/lang/Number" = some m.cls := findClass_of_methodNamed Bd.named
  have hnm := (name_of_methodNamed Bd.named Bd.method).1
  have X0 : Stand p l e ({ frames := 1, cells := 0, slots := 0, locals := 12 } : Room) s m #[(.ref a1)] below meth c s₁ [] 0 0 := Stand.of_body Bd
  have e0 : s₁.heap = h0 := by rw [← hh, Bd.state]; rfl
  have N0 := Fr.nil n0
  apply own_in
  refine own_pre (B := s₁.setTop (mkF m 0 #[.val (.ref a1)] [])) (fun t k => castTop (ef_7 m a1) k) ?_
  refine own_pre (B := s₁.setTop (mkF m 1 #[.val (.ref a1)] [(.ref a1)])) (fun t k => XS.aloadN X0.here hx rfl (hb hby d7_0) rfl rfl k) ?_
  obtain ⟨T2, X2, e2, st2⟩ := initO X0 hx hZ hown (hw _ (ow 46 rfl)) (hw _ (ow 7 rfl)) (hw _ (ow 8 rfl)) e0 (g := (mkF m 1 #[.val (.ref a1)] [(.ref a1)])) rfl (by rw [hml]; rfl) rfl (hb hby d7_1) (by decide) (W := 0) (by show 2 * 0 + _ ≤ _; exact Nat.le_of_eq rfl) (by decide)
  refine own_pre (B := T2.setTop (mkF m 4 #[.val (.ref a1)] [])) (fun t k => st2 t k) ?_
  obtain ⟨fsr3, hrr3, hrunr3, hendedr3, hWr3, hsamer3⟩ := X2.leave (v := none) (fun _ => rfl)
  refine ⟨_, _, (X2.returnOut hx Bd.returns (hb hby d7_4) hrr3), hrunr3, hendedr3, _, _, rfl, ?_, ⟨_, rfl⟩, hWr3, hsamer3.mono (by decide) (by decide)⟩
  show Q7 Z a1 h0 n0 _ T2.heap _
  rw [e2]
  exact ⟨rfl, N0, rfl⟩
theorem pd_0 : parseMethodDescriptor "()V" = some ⟨[], none⟩ := by decide +kernel
theorem d6_0 : decode jdk_35_method_26_code 0 = .ok (.aload_n 0, 1) := by decide +kernel
theorem d6_1 : decode jdk_35_method_26_code 1 = .ok (.invokespecial 270, 3) := by decide +kernel
theorem d6_4 : decode jdk_35_method_26_code 4 = .ok (.aload_n 0, 1) := by decide +kernel
theorem d6_5 : decode jdk_35_method_26_code 5 = .ok (.lload_n 1, 1) := by decide +kernel
theorem d6_6 : decode jdk_35_method_26_code 6 = .ok (.putfield 273, 3) := by decide +kernel
theorem d6_9 : decode jdk_35_method_26_code 9 = .ok (.return_, 1) := by decide +kernel
theorem pn_6 : plainName "java/lang/Long" = true := by first | (simp [plainName, overriddenIn]; done) | decide +kernel
theorem ef_6 (m : MethodId) (x0 : Addr) (x1 : Int64) : entryFrame m #[(.ref x0), (.long x1)] 3 = mkF m 0 #[.val (.ref x0), .val (.long x1), .second] [] := by first | (simp [entryFrame, mkF, argsToLocals, Value.category]; done) | rfl
def Q6 (Z : State) (a1 : Addr) (q2 : Int64) (u_value_a1 : Value) (h0 : Heap) (n0 : Nat) (v : Option Value) (h : Heap) (L : List Loc) : Prop := v = none ∧ Fr n0 L ∧ Keep h0 h [a1] ∧ Exa Z h a1 "java/lang/Long" ∧ Fld Z h a1 "java/lang/Long" "value" "J" (.long q2)
set_option maxRecDepth 65536 in
set_option maxHeartbeats 40000000 in
theorem rm6 (l : Launch) (Z : State) (a0 : Array Value) (hw : ∀ d ∈ tables_1, d.before a0 Z = true) (ws : List Jvm.Cond) (a1 : Addr) (q2 : Int64) (u_value_a1 : Value) (h0 : Heap) (n0 : Nat) (Z0 : n0 ≤ h0.size) (E_a1 : Exa Z h0 a1 "java/lang/Long") (F_value_a1 : Fld Z h0 a1 "java/lang/Long" "value" "J" u_value_a1) (g_a1 : n0 ≤ a1) :
    MetFree l (⟨"java/lang/Long", "<init>", "(J)V"⟩ : MethodName) (head1 (Jvm.Cond.code (⟨"java/lang/Long", "<init>", "(J)V"⟩ : MethodName) jdk_35_method_26_code 3 none :: ws) ({ frames := 2, cells := 0, slots := 0, locals := 24 } : Room)) (fun a U => a = #[(.ref a1), (.long q2)] ∧ Z.Warmed39 U.vm ∧ U.heap = h0) (fun _ _ _ _ _ => True) (fun _ U o U' => ∃ v L, o = .returned v ∧ Q6 Z a1 q2 u_value_a1 h0 n0 v U'.heap L ∧ FrameEnd U o U' L ({ frames := 2, cells := 0, slots := 0, locals := 24 } : Room).cells ({ frames := 2, cells := 0, slots := 0, locals := 24 } : Room).slots) := by
  refine MetFree.of_bodySF (plainFor_of_name pn_6) hisR ?_
  intro p e s m args below meth c s₁ Bd hml0 hP hK
  obtain ⟨rfl, hZ, hh⟩ := hP
  have hx := Bd.exec
  have hby := Bd.bytes
  have hml : c.maxLocals = 3 := hml0
  have hown : s.vm.findClass "java/lang/Long" = some m.cls := findClass_of_methodNamed Bd.named
  have hnm := (name_of_methodNamed Bd.named Bd.method).1
  have X0 : Stand p l e ({ frames := 2, cells := 0, slots := 0, locals := 24 } : Room) s m #[(.ref a1), (.long q2)] below meth c s₁ [] 0 0 := Stand.of_body Bd
  have e0 : s₁.heap = h0 := by rw [← hh, Bd.state]; rfl
  have N0 := Fr.nil n0
  apply own_in
  refine own_pre (B := s₁.setTop (mkF m 0 #[.val (.ref a1), .val (.long q2), .second] [])) (fun t k => castTop (ef_6 m a1 q2) k) ?_
  refine own_pre (B := s₁.setTop (mkF m 1 #[.val (.ref a1), .val (.long q2), .second] [(.ref a1)])) (fun t k => XS.aloadN X0.here hx rfl (hb hby d6_0) rfl rfl k) ?_
  obtain ⟨_, _, ⟨T3, L3, k3, n3⟩, -, X3, ⟨Lc3, hQ3, l3, y3, z3⟩, st3⟩ := X0.specialBack hx (y := (⟨"java/lang/Number", "<init>", "()V"⟩ : MethodName)) rfl hown (mvT hZ (hw _ (ow 40 rfl))) (mvT hZ (hw _ (ow 41 rfl))) (mvT hZ (hw _ (ow 45 rfl))) (by decide) (backOf (W := 0) (rm7 l Z a0 hw [] a1 h0 n0 Z0 ) hZ (hw _ (ow 45 rfl)) (hw _ (ow 44 rfl)) (by decide) (by decide)) (g := (mkF m 1 #[.val (.ref a1), .val (.long q2), .second] [(.ref a1)])) rfl (by rw [hml]; rfl) (Steps.refl _) (a := a1) (argsL := []) (rest := []) (lenOf pd_0 rfl) rfl (by show 2 * 0 + _ ≤ _; exact Nat.le_of_eq rfl) (hb hby d6_1) (fun _ _ => ⟨rfl, e0, (by decide : 0 + 0 ≤ _), (by decide : 0 + 0 ≤ _)⟩)
  dsimp only [Pt.U, Pt.locs, Pt.cells, Pt.slots] at X3 l3 y3 z3 st3 hQ3
  subst l3 y3 z3
  obtain ⟨rfl, N3q, e3⟩ := hQ3
  have N3 := Fr.app N0 N3q
  refine own_pre (B := T3.setTop (mkF m 4 #[.val (.ref a1), .val (.long q2), .second] [])) (fun t k => st3.trans k) ?_
  refine own_pre (B := T3.setTop (mkF m 5 #[.val (.ref a1), .val (.long q2), .second] [(.ref a1)])) (fun t k => XS.aloadN X3.here hx rfl (hb hby d6_4) rfl rfl k) ?_
  refine own_pre (B := T3.setTop (mkF m 6 #[.val (.ref a1), .val (.long q2), .second] [(.long q2), (.ref a1)])) (fun t k => XS.lloadN X3.here hx rfl (hb hby d6_5) rfl k) ?_
  have K4 : Keep h0 h0 [a1] := (Keep.refl h0 [a1])
  obtain ⟨T5, h5, X5, e5, W5, st5⟩ := putF X3 hx hZ hown (host := "") (Or.inl (hw _ (ow 47 rfl))) Via.refl e3 F_value_a1 E_a1 (Or.inr ⟨(hw _ (ow 48 rfl)), rfl, hnm⟩) (hw _ (ow 35 rfl)) (ty := .long) (by decide) rfl rfl (g := (mkF m 6 #[.val (.ref a1), .val (.long q2), .second] [(.long q2), (.ref a1)])) rfl rfl (hb hby d6_6)
  have Fw5 := Fld.same W5 F_value_a1
  have N5 := Fr.snoc X5 N3 g_a1
  refine own_pre (B := T5.setTop (mkF m 9 #[.val (.ref a1), .val (.long q2), .second] [])) (fun t k => st5 t k) ?_
  have K6 : Keep h0 h5 [a1] := (Keep.wr K4 W5 (Or.inl (List.mem_of_getElem? (i := 0) rfl)))
  have c7 := (Exa.wr W5 E_a1)
  obtain ⟨fsr8, hrr8, hrunr8, hendedr8, hWr8, hsamer8⟩ := X5.leave (v := none) (fun _ => rfl)
  refine ⟨_, _, (X5.returnOut hx Bd.returns (hb hby d6_9) hrr8), hrunr8, hendedr8, _, _, rfl, ?_, ⟨_, rfl⟩, hWr8, hsamer8.mono (by decide) (by decide)⟩
  show Q6 Z a1 q2 u_value_a1 h0 n0 _ T5.heap _
  rw [e5]
  exact ⟨rfl, N5, K6, c7, Fw5⟩
theorem pd_1 : parseMethodDescriptor "(J)V" = some ⟨[.long], none⟩ := by decide +kernel
theorem d5_0 : decode jdk_35_method_24_code 0 = .ok (.sipush 128, 3) := by decide +kernel
theorem d5_3 : decode jdk_35_method_24_code 3 = .ok (.istore_n 2, 1) := by decide +kernel
theorem d5_4 : decode jdk_35_method_24_code 4 = .ok (.lload_n 0, 1) := by decide +kernel
theorem d5_5 : decode jdk_35_method_24_code 5 = .ok (.ldc2_w 230, 3) := by decide +kernel
theorem d5_8 : decode jdk_35_method_24_code 8 = .ok (.lcmp, 1) := by decide +kernel
theorem d5_9 : decode jdk_35_method_24_code 9 = .ok (.ifCond .lt 22, 3) := by decide +kernel
theorem d5_12 : decode jdk_35_method_24_code 12 = .ok (.lload_n 0, 1) := by decide +kernel
theorem d5_13 : decode jdk_35_method_24_code 13 = .ok (.ldc2_w 232, 3) := by decide +kernel
theorem d5_16 : decode jdk_35_method_24_code 16 = .ok (.lcmp, 1) := by decide +kernel
theorem d5_17 : decode jdk_35_method_24_code 17 = .ok (.ifCond .gt 14, 3) := by decide +kernel
theorem d5_20 : decode jdk_35_method_24_code 20 = .ok (.getstatic 234, 3) := by decide +kernel
theorem d5_23 : decode jdk_35_method_24_code 23 = .ok (.lload_n 0, 1) := by decide +kernel
theorem d5_24 : decode jdk_35_method_24_code 24 = .ok (.l2i, 1) := by decide +kernel
theorem d5_25 : decode jdk_35_method_24_code 25 = .ok (.sipush 128, 3) := by decide +kernel
theorem d5_28 : decode jdk_35_method_24_code 28 = .ok (.iadd, 1) := by decide +kernel
theorem d5_29 : decode jdk_35_method_24_code 29 = .ok (.aaload, 1) := by decide +kernel
theorem d5_30 : decode jdk_35_method_24_code 30 = .ok (.areturn, 1) := by decide +kernel
theorem d5_31 : decode jdk_35_method_24_code 31 = .ok (.new 1, 3) := by decide +kernel
theorem d5_34 : decode jdk_35_method_24_code 34 = .ok (.dup, 1) := by decide +kernel
theorem d5_35 : decode jdk_35_method_24_code 35 = .ok (.lload_n 0, 1) := by decide +kernel
theorem d5_36 : decode jdk_35_method_24_code 36 = .ok (.invokespecial 240, 3) := by decide +kernel
theorem d5_39 : decode jdk_35_method_24_code 39 = .ok (.areturn, 1) := by decide +kernel
theorem pn_5 : plainName "java/lang/Long" = true := by first | (simp [plainName, overriddenIn]; done) | decide +kernel
theorem ef_5 (m : MethodId) (x0 : Int64) : entryFrame m #[(.long x0)] 3 = mkF m 0 #[.val (.long x0), .second, .unset] [] := by first | (simp [entryFrame, mkF, argsToLocals, Value.category]; done) | rfl
def Q5 (Z : State) (q1 : Int64) (ca : Addr) (cc : Cell) (h0 : Heap) (n0 : Nat) (v : Option Value) (h : Heap) (L : List Loc) : Prop := ∃ b : Addr, v = some (.ref b) ∧ Fr n0 L ∧ Keep h0 h [] ∧ Exa Z h b "java/lang/Long"
set_option maxRecDepth 65536 in
set_option maxHeartbeats 40000000 in
theorem rm5 (l : Launch) (Z : State) (a0 : Array Value) (hw : ∀ d ∈ tables_1, d.before a0 Z = true) (ws : List Jvm.Cond) (q1 : Int64) (ca : Addr) (cc : Cell) (h0 : Heap) (n0 : Nat) (Z0 : n0 ≤ h0.size) (O0 : Old Z n0 h0) (SC : Sta Z Z.heap "java/lang/Long$LongCache" "cache" "[Ljava/lang/Long;" (.ref ca)) (AC : Arr Z Z.heap ca cc (.object "java/lang/Long")) (SZ256 : cc.slots.size = 256) (EL : ∀ j, j < 256 → ∃ r, cc.slots[j]? = some (.ref r) ∧ Exa Z Z.heap r "java/lang/Long") :
    MetFree l (⟨"java/lang/Long", "valueOf", "(J)Ljava/lang/Long;"⟩ : MethodName) (head1 (Jvm.Cond.code (⟨"java/lang/Long", "valueOf", "(J)Ljava/lang/Long;"⟩ : MethodName) jdk_35_method_24_code 3 (some (.object "java/lang/Long")) :: ws) ({ frames := 3, cells := 1, slots := 1, locals := 39 } : Room)) (fun a U => a = #[(.long q1)] ∧ Z.Warmed39 U.vm ∧ U.heap = h0) (fun _ _ _ _ _ => True) (fun _ U o U' => ∃ v L, o = .returned v ∧ Q5 Z q1 ca cc h0 n0 v U'.heap L ∧ FrameEnd U o U' L ({ frames := 3, cells := 1, slots := 1, locals := 39 } : Room).cells ({ frames := 3, cells := 1, slots := 1, locals := 39 } : Room).slots) := by
  refine MetFree.of_bodySF (plainFor_of_name pn_5) hisR ?_
  intro p e s m args below meth c s₁ Bd hml0 hP hK
  obtain ⟨rfl, hZ, hh⟩ := hP
  have hx := Bd.exec
  have hby := Bd.bytes
  have hml : c.maxLocals = 3 := hml0
  have hown : s.vm.findClass "java/lang/Long" = some m.cls := findClass_of_methodNamed Bd.named
  have hnm := (name_of_methodNamed Bd.named Bd.method).1
  have X0 : Stand p l e ({ frames := 3, cells := 1, slots := 1, locals := 39 } : Room) s m #[(.long q1)] below meth c s₁ [] 0 0 := Stand.of_body Bd
  have e0 : s₁.heap = h0 := by rw [← hh, Bd.state]; rfl
  have N0 := Fr.nil n0
  apply own_in
  refine own_pre (B := s₁.setTop (mkF m 0 #[.val (.long q1), .second, .unset] [])) (fun t k => castTop (ef_5 m q1) k) ?_
  refine own_pre (B := s₁.setTop (mkF m 3 #[.val (.long q1), .second, .unset] [(.int (128 : Int32))])) (fun t k => XS.sipush X0.here hx rfl (hb hby d5_0) k) ?_
  refine own_pre (B := s₁.setTop (mkF m 4 #[.val (.long q1), .second, .val (.int (128 : Int32))] [])) (fun t k => XS.istoreN X0.here hx rfl (hb hby d5_3) rfl (l' := #[.val (.long q1), .second, .val (.int (128 : Int32))]) rfl k) ?_
  refine own_pre (B := s₁.setTop (mkF m 5 #[.val (.long q1), .second, .val (.int (128 : Int32))] [(.long q1)])) (fun t k => XS.lloadN X0.here hx rfl (hb hby d5_4) rfl k) ?_
  refine own_pre (B := s₁.setTop (mkF m 8 #[.val (.long q1), .second, .val (.int (128 : Int32))] [(.long (-128 : Int64)), (.long q1)])) (fun t k => X0.ldc2Long hx hown (mvT hZ (hw _ (ow 32 rfl))) (g := (mkF m 5 #[.val (.long q1), .second, .val (.int (128 : Int32))] [(.long q1)])) rfl (hb hby d5_5) _ k) ?_
  refine own_pre (B := s₁.setTop (mkF m 9 #[.val (.long q1), .second, .val (.int (128 : Int32))] [(.int (lcmpW q1 (-128 : Int64)))])) (fun t k => XS.lcmp X0.here hx rfl (hb hby d5_8) rfl k) ?_
  by_cases hc9_2 : q1 < (-128 : Int64)
  · refine own_pre (B := s₁.setTop (mkF m 31 #[.val (.long q1), .second, .val (.int (128 : Int32))] [])) (fun t k => XS.ifYes X0.here hx rfl (pc0 := 9) (pc' := 31) rfl (hb hby d5_9) rfl ((if0 _ _).trans (tlt ((lw_lt q1 (-128 : Int64)).mpr hc9_2)).1) (by decide) (by decide) k) ?_
    have K3 : Keep h0 h0 [] := (Keep.refl h0 [])
    obtain ⟨T4, h4, X4, e4, E4, A4, D4, -, st4⟩ := newO X0 hx hZ hown (hw _ (ow 34 rfl)) (hw _ (ow 35 rfl)) (hw _ (ow 30 rfl)) e0 (g := (mkF m 31 #[.val (.long q1), .second, .val (.int (128 : Int32))] [])) rfl (hb hby d5_31) (by decide) (by decide)
    obtain ⟨b4, g4⟩ : ∃ z, z = h0.size := ⟨_, rfl⟩
    rw [← g4] at A4 D4 st4
    have g_b4 : n0 ≤ b4 := Nat.le_trans Z0 (Nat.le_of_eq g4.symm)
    have s_b4 : h0.size ≤ b4 := Nat.le_trans K3.1 (Nat.le_of_eq g4.symm)
    have F_value_b4 : Fld Z h4 b4 "java/lang/Long" "value" "J" (.long (0 : Int64)) := D4 (Or.inr (hw _ (ow 48 rfl))) (ty := .long) (by decide)
    refine own_pre (B := T4.setTop (mkF m 34 #[.val (.long q1), .second, .val (.int (128 : Int32))] [(.ref b4)])) (fun t k => st4 t k) ?_
    refine own_pre (B := T4.setTop (mkF m 35 #[.val (.long q1), .second, .val (.int (128 : Int32))] [(.ref b4), (.ref b4)])) (fun t k => XS.dup X4.here hx rfl (hb hby d5_34) rfl rfl k) ?_
    refine own_pre (B := T4.setTop (mkF m 36 #[.val (.long q1), .second, .val (.int (128 : Int32))] [(.long q1), (.ref b4), (.ref b4)])) (fun t k => XS.lloadN X4.here hx rfl (hb hby d5_35) rfl k) ?_
    have sz5 : n0 ≤ h4.size := (Nat.le_trans Z0 E4.1)
    obtain ⟨_, _, ⟨T6, L6, k6, n6⟩, -, X6, ⟨Lc6, hQ6, l6, y6, z6⟩, st6⟩ := X4.specialBack hx (y := (⟨"java/lang/Long", "<init>", "(J)V"⟩ : MethodName)) rfl hown (mvT hZ (hw _ (ow 36 rfl))) (mvT hZ (hw _ (ow 37 rfl))) (mvT hZ (hw _ (ow 39 rfl))) (by decide) (backOf (W := 1) (rm6 l Z a0 hw [] b4 q1 (.long (0 : Int64)) h4 n0 sz5 A4 F_value_b4 g_b4) hZ (hw _ (ow 39 rfl)) (hw _ (ow 30 rfl)) (by decide) (by decide)) (g := (mkF m 36 #[.val (.long q1), .second, .val (.int (128 : Int32))] [(.long q1), (.ref b4), (.ref b4)])) rfl (by rw [hml]; rfl) (Steps.refl _) (a := b4) (argsL := [(.long q1)]) (rest := [(.ref b4)]) (lenOf pd_1 rfl) rfl (by show 2 * 0 + _ ≤ _; exact Nat.le_of_eq rfl) (hb hby d5_36) (fun _ _ => ⟨rfl, e4, (by decide : 1 + 0 ≤ _), (by decide : 1 + 0 ≤ _)⟩)
    dsimp only [Pt.U, Pt.locs, Pt.cells, Pt.slots] at X6 l6 y6 z6 st6 hQ6
    subst l6 y6 z6
    obtain ⟨rfl, N6q, K6, q6_0, q6_1⟩ := hQ6
    have N6 := Fr.app N0 N6q
    have K7 : Keep h0 h4 [] := (Keep.ext K3 E4)
    refine own_pre (B := T6.setTop (mkF m 39 #[.val (.long q1), .second, .val (.int (128 : Int32))] [(.ref b4)])) (fun t k => st6.trans k) ?_
    have K8 : Keep h0 T6.heap [] := (Keep.trans K7 K6 (allS (P := fun x => x ∈ [] ∨ h0.size ≤ x) (Or.inr s_b4) all0))
    obtain ⟨fsr9, hrr9, hrunr9, hendedr9, hWr9, hsamer9⟩ := X6.leave (v := some (.ref b4)) (fun h => by rw [Bd.returns] at h; cases h)
    refine ⟨_, _, (retOut X6 hx (i := .areturn) Bd.returns rfl (Or.inr (Or.inr (Or.inr (Or.inr ⟨rfl, rfl, rfl⟩)))) (hb hby d5_39) hrr9), hrunr9, hendedr9, _, _, rfl, ?_, ⟨_, rfl⟩, hWr9, hsamer9.mono (by decide) (by decide)⟩
    show Q5 Z q1 ca cc h0 n0 _ T6.heap _
    exact ⟨b4, rfl, N6, K8, q6_0⟩
  · refine own_pre (B := s₁.setTop (mkF m 12 #[.val (.long q1), .second, .val (.int (128 : Int32))] [])) (fun t k => XS.ifNo X0.here hx rfl (hb hby d5_9) rfl ((if0 _ _).trans (flt (mt (lw_lt q1 (-128 : Int64)).mp hc9_2)).1) k) ?_
    refine own_pre (B := s₁.setTop (mkF m 13 #[.val (.long q1), .second, .val (.int (128 : Int32))] [(.long q1)])) (fun t k => XS.lloadN X0.here hx rfl (hb hby d5_12) rfl k) ?_
    refine own_pre (B := s₁.setTop (mkF m 16 #[.val (.long q1), .second, .val (.int (128 : Int32))] [(.long (127 : Int64)), (.long q1)])) (fun t k => X0.ldc2Long hx hown (mvT hZ (hw _ (ow 33 rfl))) (g := (mkF m 13 #[.val (.long q1), .second, .val (.int (128 : Int32))] [(.long q1)])) rfl (hb hby d5_13) _ k) ?_
    refine own_pre (B := s₁.setTop (mkF m 17 #[.val (.long q1), .second, .val (.int (128 : Int32))] [(.int (lcmpW q1 (127 : Int64)))])) (fun t k => XS.lcmp X0.here hx rfl (hb hby d5_16) rfl k) ?_
    by_cases hc17_10 : (127 : Int64) < q1
    · refine own_pre (B := s₁.setTop (mkF m 31 #[.val (.long q1), .second, .val (.int (128 : Int32))] [])) (fun t k => XS.ifYes X0.here hx rfl (pc0 := 17) (pc' := 31) rfl (hb hby d5_17) rfl ((if0 _ _).trans (tlt ((lw_gt q1 (127 : Int64)).mpr hc17_10)).2.2.1) (by decide) (by decide) k) ?_
      have K11 : Keep h0 h0 [] := (Keep.refl h0 [])
      obtain ⟨T12, h12, X12, e12, E12, A12, D12, -, st12⟩ := newO X0 hx hZ hown (hw _ (ow 34 rfl)) (hw _ (ow 35 rfl)) (hw _ (ow 30 rfl)) e0 (g := (mkF m 31 #[.val (.long q1), .second, .val (.int (128 : Int32))] [])) rfl (hb hby d5_31) (by decide) (by decide)
      obtain ⟨b12, g12⟩ : ∃ z, z = h0.size := ⟨_, rfl⟩
      rw [← g12] at A12 D12 st12
      have g_b12 : n0 ≤ b12 := Nat.le_trans Z0 (Nat.le_of_eq g12.symm)
      have s_b12 : h0.size ≤ b12 := Nat.le_trans K11.1 (Nat.le_of_eq g12.symm)
      have F_value_b12 : Fld Z h12 b12 "java/lang/Long" "value" "J" (.long (0 : Int64)) := D12 (Or.inr (hw _ (ow 48 rfl))) (ty := .long) (by decide)
      refine own_pre (B := T12.setTop (mkF m 34 #[.val (.long q1), .second, .val (.int (128 : Int32))] [(.ref b12)])) (fun t k => st12 t k) ?_
      refine own_pre (B := T12.setTop (mkF m 35 #[.val (.long q1), .second, .val (.int (128 : Int32))] [(.ref b12), (.ref b12)])) (fun t k => XS.dup X12.here hx rfl (hb hby d5_34) rfl rfl k) ?_
      refine own_pre (B := T12.setTop (mkF m 36 #[.val (.long q1), .second, .val (.int (128 : Int32))] [(.long q1), (.ref b12), (.ref b12)])) (fun t k => XS.lloadN X12.here hx rfl (hb hby d5_35) rfl k) ?_
      have sz13 : n0 ≤ h12.size := (Nat.le_trans Z0 E12.1)
      obtain ⟨_, _, ⟨T14, L14, k14, n14⟩, -, X14, ⟨Lc14, hQ14, l14, y14, z14⟩, st14⟩ := X12.specialBack hx (y := (⟨"java/lang/Long", "<init>", "(J)V"⟩ : MethodName)) rfl hown (mvT hZ (hw _ (ow 36 rfl))) (mvT hZ (hw _ (ow 37 rfl))) (mvT hZ (hw _ (ow 39 rfl))) (by decide) (backOf (W := 1) (rm6 l Z a0 hw [] b12 q1 (.long (0 : Int64)) h12 n0 sz13 A12 F_value_b12 g_b12) hZ (hw _ (ow 39 rfl)) (hw _ (ow 30 rfl)) (by decide) (by decide)) (g := (mkF m 36 #[.val (.long q1), .second, .val (.int (128 : Int32))] [(.long q1), (.ref b12), (.ref b12)])) rfl (by rw [hml]; rfl) (Steps.refl _) (a := b12) (argsL := [(.long q1)]) (rest := [(.ref b12)]) (lenOf pd_1 rfl) rfl (by show 2 * 0 + _ ≤ _; exact Nat.le_of_eq rfl) (hb hby d5_36) (fun _ _ => ⟨rfl, e12, (by decide : 1 + 0 ≤ _), (by decide : 1 + 0 ≤ _)⟩)
      dsimp only [Pt.U, Pt.locs, Pt.cells, Pt.slots] at X14 l14 y14 z14 st14 hQ14
      subst l14 y14 z14
      obtain ⟨rfl, N14q, K14, q14_0, q14_1⟩ := hQ14
      have N14 := Fr.app N0 N14q
      have K15 : Keep h0 h12 [] := (Keep.ext K11 E12)
      refine own_pre (B := T14.setTop (mkF m 39 #[.val (.long q1), .second, .val (.int (128 : Int32))] [(.ref b12)])) (fun t k => st14.trans k) ?_
      have K16 : Keep h0 T14.heap [] := (Keep.trans K15 K14 (allS (P := fun x => x ∈ [] ∨ h0.size ≤ x) (Or.inr s_b12) all0))
      obtain ⟨fsr17, hrr17, hrunr17, hendedr17, hWr17, hsamer17⟩ := X14.leave (v := some (.ref b12)) (fun h => by rw [Bd.returns] at h; cases h)
      refine ⟨_, _, (retOut X14 hx (i := .areturn) Bd.returns rfl (Or.inr (Or.inr (Or.inr (Or.inr ⟨rfl, rfl, rfl⟩)))) (hb hby d5_39) hrr17), hrunr17, hendedr17, _, _, rfl, ?_, ⟨_, rfl⟩, hWr17, hsamer17.mono (by decide) (by decide)⟩
      show Q5 Z q1 ca cc h0 n0 _ T14.heap _
      exact ⟨b12, rfl, N14, K16, q14_0⟩
    · refine own_pre (B := s₁.setTop (mkF m 20 #[.val (.long q1), .second, .val (.int (128 : Int32))] [])) (fun t k => XS.ifNo X0.here hx rfl (hb hby d5_17) rfl ((if0 _ _).trans (flt (mt (lw_gt q1 (127 : Int64)).mp hc17_10)).2.2.1) k) ?_
      obtain ⟨T18, X18, e18, st18⟩ := getS2 X0 hx hZ hown (host := "") (Or.inl (hw _ (ow 52 rfl))) Via.refl e0 (Sta.ext O0.2 SC) (g := (mkF m 20 #[.val (.long q1), .second, .val (.int (128 : Int32))] [])) rfl (hb hby d5_20)
      refine own_pre (B := T18.setTop (mkF m 23 #[.val (.long q1), .second, .val (.int (128 : Int32))] [(.ref ca)])) (fun t k => st18 t k) ?_
      refine own_pre (B := T18.setTop (mkF m 24 #[.val (.long q1), .second, .val (.int (128 : Int32))] [(.long q1), (.ref ca)])) (fun t k => XS.lloadN X18.here hx rfl (hb hby d5_23) rfl k) ?_
      refine own_pre (B := T18.setTop (mkF m 25 #[.val (.long q1), .second, .val (.int (128 : Int32))] [(.int (q1.toInt32)), (.ref ca)])) (fun t k => XS.l2i X18.here hx rfl (hb hby d5_24) rfl k) ?_
      refine own_pre (B := T18.setTop (mkF m 28 #[.val (.long q1), .second, .val (.int (128 : Int32))] [(.int (128 : Int32)), (.int (q1.toInt32)), (.ref ca)])) (fun t k => XS.sipush X18.here hx rfl (hb hby d5_25) k) ?_
      refine own_pre (B := T18.setTop (mkF m 29 #[.val (.long q1), .second, .val (.int (128 : Int32))] [(.int ((q1.toInt32) + (128 : Int32))), (.ref ca)])) (fun t k => XS.iadd X18.here hx rfl (hb hby d5_28) rfl k) ?_
      have pk19 := own_place hc9_2 hc17_10
      obtain ⟨r19, hr19, Er19⟩ := EL _ pk19.2
      have hin19 := pk19.1
      rw [← SZ256] at hin19
      have Ax19 := Arr.ext O0.2 AC
      refine own_pre (B := T18.setTop (mkF m 30 #[.val (.long q1), .second, .val (.int (128 : Int32))] [(.ref r19)])) (fun t k => X18.aaload hx (j := ((q1.toInt32) + (128 : Int32))) (v := (.ref r19)) (by rw [e18]; exact Ax19.1) (State.isArrayOf_alike hZ.alike Ax19.2.1) rfl Ax19.2.2 hin19 hr19 (g := (mkF m 29 #[.val (.long q1), .second, .val (.int (128 : Int32))] [(.int ((q1.toInt32) + (128 : Int32))), (.ref ca)])) rfl rfl (hb hby d5_29) t k) ?_
      have K20 : Keep h0 h0 [] := (Keep.refl h0 [])
      obtain ⟨fsr21, hrr21, hrunr21, hendedr21, hWr21, hsamer21⟩ := X18.leave (v := some (.ref r19)) (fun h => by rw [Bd.returns] at h; cases h)
      refine ⟨_, _, (retOut X18 hx (i := .areturn) Bd.returns rfl (Or.inr (Or.inr (Or.inr (Or.inr ⟨rfl, rfl, rfl⟩)))) (hb hby d5_30) hrr21), hrunr21, hendedr21, _, _, rfl, ?_, ⟨_, rfl⟩, hWr21, hsamer21.mono (by decide) (by decide)⟩
      show Q5 Z q1 ca cc h0 n0 _ T18.heap _
      rw [e18]
      exact ⟨r19, rfl, N0, K20, (Exa.ext O0.2 Er19)⟩
theorem d4_0 : decode prog_25_method_8_code 0 = .ok (.aload_n 1, 1) := by decide +kernel
theorem d4_1 : decode prog_25_method_8_code 1 = .ok (.instanceof 1, 3) := by decide +kernel
theorem d4_4 : decode prog_25_method_8_code 4 = .ok (.ifCond .ne 5, 3) := by decide +kernel
theorem d4_9 : decode prog_25_method_8_code 9 = .ok (.aload_n 1, 1) := by decide +kernel
theorem d4_10 : decode prog_25_method_8_code 10 = .ok (.checkcast 1, 3) := by decide +kernel
theorem d4_13 : decode prog_25_method_8_code 13 = .ok (.astore_n 2, 1) := by decide +kernel
theorem d4_14 : decode prog_25_method_8_code 14 = .ok (.aload_n 0, 1) := by decide +kernel
theorem d4_15 : decode prog_25_method_8_code 15 = .ok (.getfield 11, 3) := by decide +kernel
theorem d4_18 : decode prog_25_method_8_code 18 = .ok (.aload_n 2, 1) := by decide +kernel
theorem d4_19 : decode prog_25_method_8_code 19 = .ok (.getfield 11, 3) := by decide +kernel
theorem d4_22 : decode prog_25_method_8_code 22 = .ok (.lcmp, 1) := by decide +kernel
theorem d4_23 : decode prog_25_method_8_code 23 = .ok (.ifCond .ne 43, 3) := by decide +kernel
theorem d4_26 : decode prog_25_method_8_code 26 = .ok (.aload_n 0, 1) := by decide +kernel
theorem d4_27 : decode prog_25_method_8_code 27 = .ok (.getfield 15, 3) := by decide +kernel
theorem d4_30 : decode prog_25_method_8_code 30 = .ok (.aload_n 2, 1) := by decide +kernel
theorem d4_31 : decode prog_25_method_8_code 31 = .ok (.getfield 15, 3) := by decide +kernel
theorem d4_34 : decode prog_25_method_8_code 34 = .ok (.lcmp, 1) := by decide +kernel
theorem d4_35 : decode prog_25_method_8_code 35 = .ok (.ifCond .ne 31, 3) := by decide +kernel
theorem d4_38 : decode prog_25_method_8_code 38 = .ok (.aload_n 0, 1) := by decide +kernel
theorem d4_39 : decode prog_25_method_8_code 39 = .ok (.getfield 18, 3) := by decide +kernel
theorem d4_42 : decode prog_25_method_8_code 42 = .ok (.aload_n 2, 1) := by decide +kernel
theorem d4_43 : decode prog_25_method_8_code 43 = .ok (.getfield 18, 3) := by decide +kernel
theorem d4_46 : decode prog_25_method_8_code 46 = .ok (.lcmp, 1) := by decide +kernel
theorem d4_47 : decode prog_25_method_8_code 47 = .ok (.ifCond .ne 19, 3) := by decide +kernel
theorem d4_50 : decode prog_25_method_8_code 50 = .ok (.aload_n 0, 1) := by decide +kernel
theorem d4_51 : decode prog_25_method_8_code 51 = .ok (.getfield 21, 3) := by decide +kernel
theorem d4_54 : decode prog_25_method_8_code 54 = .ok (.aload_n 2, 1) := by decide +kernel
theorem d4_55 : decode prog_25_method_8_code 55 = .ok (.getfield 21, 3) := by decide +kernel
theorem d4_58 : decode prog_25_method_8_code 58 = .ok (.lcmp, 1) := by decide +kernel
theorem d4_59 : decode prog_25_method_8_code 59 = .ok (.ifCond .ne 7, 3) := by decide +kernel
theorem d4_62 : decode prog_25_method_8_code 62 = .ok (.iconst 1, 1) := by decide +kernel
theorem d4_63 : decode prog_25_method_8_code 63 = .ok (.goto 4, 3) := by decide +kernel
theorem d4_66 : decode prog_25_method_8_code 66 = .ok (.iconst 0, 1) := by decide +kernel
theorem d4_67 : decode prog_25_method_8_code 67 = .ok (.ireturn, 1) := by decide +kernel
theorem pn_4 : plainName "com/example/rangewise/rangewise/Id" = true := by first | (simp [plainName, overriddenIn]; done) | decide +kernel
theorem ef_4 (m : MethodId) (x0 : Addr) (x1 : Addr) : entryFrame m #[(.ref x0), (.ref x1)] 3 = mkF m 0 #[.val (.ref x0), .val (.ref x1), .unset] [] := by first | (simp [entryFrame, mkF, argsToLocals, Value.category]; done) | rfl
def own_f4 (w_word0_a1 : Int64) (w_word0_a2 : Int64) (w_word1_a1 : Int64) (w_word1_a2 : Int64) (w_word2_a1 : Int64) (w_word2_a2 : Int64) (w_word3_a1 : Int64) (w_word3_a2 : Int64) : Int32 := (if w_word0_a1 = w_word0_a2 then (if w_word1_a1 = w_word1_a2 then (if w_word2_a1 = w_word2_a2 then (if w_word3_a1 = w_word3_a2 then (1 : Int32) else (0 : Int32)) else (0 : Int32)) else (0 : Int32)) else (0 : Int32))
def Q4 (Z : State) (a1 : Addr) (a2 : Addr) (w_word0_a1 : Int64) (w_word0_a2 : Int64) (w_word1_a1 : Int64) (w_word1_a2 : Int64) (w_word2_a1 : Int64) (w_word2_a2 : Int64) (w_word3_a1 : Int64) (w_word3_a2 : Int64) (h0 : Heap) (n0 : Nat) (v : Option Value) (h : Heap) (L : List Loc) : Prop := v = some (.int (own_f4 w_word0_a1 w_word0_a2 w_word1_a1 w_word1_a2 w_word2_a1 w_word2_a2 w_word3_a1 w_word3_a2)) ∧ Fr n0 L ∧ h = h0
set_option maxRecDepth 65536 in
set_option maxHeartbeats 40000000 in
theorem rm4 (l : Launch) (Z : State) (a0 : Array Value) (hw : ∀ d ∈ tables_1, d.before a0 Z = true) (ws : List Jvm.Cond) (a1 : Addr) (a2 : Addr) (w_word0_a1 : Int64) (w_word0_a2 : Int64) (w_word1_a1 : Int64) (w_word1_a2 : Int64) (w_word2_a1 : Int64) (w_word2_a2 : Int64) (w_word3_a1 : Int64) (w_word3_a2 : Int64) (h0 : Heap) (n0 : Nat) (Z0 : n0 ≤ h0.size) (E_a2 : Exa Z h0 a2 "com/example/rangewise/rangewise/Id") (F_word0_a1 : Fld Z h0 a1 "com/example/rangewise/rangewise/Id" "word0" "J" (.long w_word0_a1)) (F_word0_a2 : Fld Z h0 a2 "com/example/rangewise/rangewise/Id" "word0" "J" (.long w_word0_a2)) (F_word1_a1 : Fld Z h0 a1 "com/example/rangewise/rangewise/Id" "word1" "J" (.long w_word1_a1)) (F_word1_a2 : Fld Z h0 a2 "com/example/rangewise/rangewise/Id" "word1" "J" (.long w_word1_a2)) (F_word2_a1 : Fld Z h0 a1 "com/example/rangewise/rangewise/Id" "word2" "J" (.long w_word2_a1)) (F_word2_a2 : Fld Z h0 a2 "com/example/rangewise/rangewise/Id" "word2" "J" (.long w_word2_a2)) (F_word3_a1 : Fld Z h0 a1 "com/example/rangewise/rangewise/Id" "word3" "J" (.long w_word3_a1)) (F_word3_a2 : Fld Z h0 a2 "com/example/rangewise/rangewise/Id" "word3" "J" (.long w_word3_a2)) :
    MetFree l (⟨"com/example/rangewise/rangewise/Id", "equals", "(Ljava/lang/Object;)Z"⟩ : MethodName) (head1 (Jvm.Cond.code (⟨"com/example/rangewise/rangewise/Id", "equals", "(Ljava/lang/Object;)Z"⟩ : MethodName) prog_25_method_8_code 3 (some .boolean) :: ws) ({ frames := 0, cells := 0, slots := 0, locals := 0 } : Room)) (fun a U => a = #[(.ref a1), (.ref a2)] ∧ Z.Warmed39 U.vm ∧ U.heap = h0) (fun _ _ _ _ _ => True) (fun _ U o U' => ∃ v L, o = .returned v ∧ Q4 Z a1 a2 w_word0_a1 w_word0_a2 w_word1_a1 w_word1_a2 w_word2_a1 w_word2_a2 w_word3_a1 w_word3_a2 h0 n0 v U'.heap L ∧ FrameEnd U o U' L ({ frames := 0, cells := 0, slots := 0, locals := 0 } : Room).cells ({ frames := 0, cells := 0, slots := 0, locals := 0 } : Room).slots) := by
  refine MetFree.of_bodySF (plainFor_of_name pn_4) hisR ?_
  intro p e s m args below meth c s₁ Bd hml0 hP hK
  obtain ⟨rfl, hZ, hh⟩ := hP
  have hx := Bd.exec
  have hby := Bd.bytes
  have hml : c.maxLocals = 3 := hml0
  have hown : s.vm.findClass "com/example/rangewise/rangewise/Id" = some m.cls := findClass_of_methodNamed Bd.named
  have hnm := (name_of_methodNamed Bd.named Bd.method).1
  have X0 : Stand p l e ({ frames := 0, cells := 0, slots := 0, locals := 0 } : Room) s m #[(.ref a1), (.ref a2)] below meth c s₁ [] 0 0 := Stand.of_body Bd
  have e0 : s₁.heap = h0 := by rw [← hh, Bd.state]; rfl
  have N0 := Fr.nil n0
  apply own_in
  refine own_pre (B := s₁.setTop (mkF m 0 #[.val (.ref a1), .val (.ref a2), .unset] [])) (fun t k => castTop (ef_4 m a1 a2) k) ?_
  refine own_pre (B := s₁.setTop (mkF m 1 #[.val (.ref a1), .val (.ref a2), .unset] [(.ref a2)])) (fun t k => XS.aloadN X0.here hx rfl (hb hby d4_0) rfl rfl k) ?_
  obtain ⟨T3, X3, e3, st3⟩ := instY X0 hx hZ hown (hw _ (ow 26 rfl)) e0 (Ins.self E_a2) (g := (mkF m 1 #[.val (.ref a1), .val (.ref a2), .unset] [(.ref a2)])) rfl rfl (hb hby d4_1)
  refine own_pre (B := T3.setTop (mkF m 4 #[.val (.ref a1), .val (.ref a2), .unset] [(.int (1 : Int32))])) (fun t k => st3 t k) ?_
  refine own_pre (B := T3.setTop (mkF m 9 #[.val (.ref a1), .val (.ref a2), .unset] [])) (fun t k => XS.ifYes X3.here hx rfl (pc0 := 4) (pc' := 9) rfl (hb hby d4_4) rfl ((if0 _ _).trans (feq (by decide : ¬ ((1 : Int32) = (0 : Int32)))).2) (by decide) (by decide) k) ?_
  refine own_pre (B := T3.setTop (mkF m 10 #[.val (.ref a1), .val (.ref a2), .unset] [(.ref a2)])) (fun t k => XS.aloadN X3.here hx rfl (hb hby d4_9) rfl rfl k) ?_
  obtain ⟨T4, X4, e4, st4⟩ := castY X3 hx hZ hown (hw _ (ow 26 rfl)) e3 (Ins.self E_a2) (g := (mkF m 10 #[.val (.ref a1), .val (.ref a2), .unset] [(.ref a2)])) rfl rfl (hb hby d4_10)
  refine own_pre (B := T4.setTop (mkF m 13 #[.val (.ref a1), .val (.ref a2), .unset] [(.ref a2)])) (fun t k => st4 t k) ?_
  refine own_pre (B := T4.setTop (mkF m 14 #[.val (.ref a1), .val (.ref a2), .val (.ref a2)] [])) (fun t k => XS.astoreN X4.here hx rfl (hb hby d4_13) rfl rfl (l' := #[.val (.ref a1), .val (.ref a2), .val (.ref a2)]) rfl k) ?_
  refine own_pre (B := T4.setTop (mkF m 15 #[.val (.ref a1), .val (.ref a2), .val (.ref a2)] [(.ref a1)])) (fun t k => XS.aloadN X4.here hx rfl (hb hby d4_14) rfl rfl k) ?_
  obtain ⟨T5, X5, e5, st5⟩ := getF X4 hx hZ hown (host := "") (Or.inl (hw _ (ow 9 rfl))) Via.refl e4 F_word0_a1 (g := (mkF m 15 #[.val (.ref a1), .val (.ref a2), .val (.ref a2)] [(.ref a1)])) rfl rfl (hb hby d4_15)
  refine own_pre (B := T5.setTop (mkF m 18 #[.val (.ref a1), .val (.ref a2), .val (.ref a2)] [(.long w_word0_a1)])) (fun t k => st5 t k) ?_
  refine own_pre (B := T5.setTop (mkF m 19 #[.val (.ref a1), .val (.ref a2), .val (.ref a2)] [(.ref a2), (.long w_word0_a1)])) (fun t k => XS.aloadN X5.here hx rfl (hb hby d4_18) rfl rfl k) ?_
  obtain ⟨T6, X6, e6, st6⟩ := getF X5 hx hZ hown (host := "") (Or.inl (hw _ (ow 9 rfl))) Via.refl e5 F_word0_a2 (g := (mkF m 19 #[.val (.ref a1), .val (.ref a2), .val (.ref a2)] [(.ref a2), (.long w_word0_a1)])) rfl rfl (hb hby d4_19)
  refine own_pre (B := T6.setTop (mkF m 22 #[.val (.ref a1), .val (.ref a2), .val (.ref a2)] [(.long w_word0_a2), (.long w_word0_a1)])) (fun t k => st6 t k) ?_
  refine own_pre (B := T6.setTop (mkF m 23 #[.val (.ref a1), .val (.ref a2), .val (.ref a2)] [(.int (lcmpW w_word0_a1 w_word0_a2))])) (fun t k => XS.lcmp X6.here hx rfl (hb hby d4_22) rfl k) ?_
  by_cases hc23_7 : w_word0_a1 = w_word0_a2
  · refine own_pre (B := T6.setTop (mkF m 26 #[.val (.ref a1), .val (.ref a2), .val (.ref a2)] [])) (fun t k => XS.ifNo X6.here hx rfl (hb hby d4_23) rfl ((if0 _ _).trans (teq ((lw_eq w_word0_a1 w_word0_a2).mpr hc23_7)).2) k) ?_
    refine own_pre (B := T6.setTop (mkF m 27 #[.val (.ref a1), .val (.ref a2), .val (.ref a2)] [(.ref a1)])) (fun t k => XS.aloadN X6.here hx rfl (hb hby d4_26) rfl rfl k) ?_
    obtain ⟨T8, X8, e8, st8⟩ := getF X6 hx hZ hown (host := "") (Or.inl (hw _ (ow 11 rfl))) Via.refl e6 F_word1_a1 (g := (mkF m 27 #[.val (.ref a1), .val (.ref a2), .val (.ref a2)] [(.ref a1)])) rfl rfl (hb hby d4_27)
    refine own_pre (B := T8.setTop (mkF m 30 #[.val (.ref a1), .val (.ref a2), .val (.ref a2)] [(.long w_word1_a1)])) (fun t k => st8 t k) ?_
    refine own_pre (B := T8.setTop (mkF m 31 #[.val (.ref a1), .val (.ref a2), .val (.ref a2)] [(.ref a2), (.long w_word1_a1)])) (fun t k => XS.aloadN X8.here hx rfl (hb hby d4_30) rfl rfl k) ?_
    obtain ⟨T9, X9, e9, st9⟩ := getF X8 hx hZ hown (host := "") (Or.inl (hw _ (ow 11 rfl))) Via.refl e8 F_word1_a2 (g := (mkF m 31 #[.val (.ref a1), .val (.ref a2), .val (.ref a2)] [(.ref a2), (.long w_word1_a1)])) rfl rfl (hb hby d4_31)
    refine own_pre (B := T9.setTop (mkF m 34 #[.val (.ref a1), .val (.ref a2), .val (.ref a2)] [(.long w_word1_a2), (.long w_word1_a1)])) (fun t k => st9 t k) ?_
    refine own_pre (B := T9.setTop (mkF m 35 #[.val (.ref a1), .val (.ref a2), .val (.ref a2)] [(.int (lcmpW w_word1_a1 w_word1_a2))])) (fun t k => XS.lcmp X9.here hx rfl (hb hby d4_34) rfl k) ?_
    by_cases hc35_10 : w_word1_a1 = w_word1_a2
    · refine own_pre (B := T9.setTop (mkF m 38 #[.val (.ref a1), .val (.ref a2), .val (.ref a2)] [])) (fun t k => XS.ifNo X9.here hx rfl (hb hby d4_35) rfl ((if0 _ _).trans (teq ((lw_eq w_word1_a1 w_word1_a2).mpr hc35_10)).2) k) ?_
      refine own_pre (B := T9.setTop (mkF m 39 #[.val (.ref a1), .val (.ref a2), .val (.ref a2)] [(.ref a1)])) (fun t k => XS.aloadN X9.here hx rfl (hb hby d4_38) rfl rfl k) ?_
      obtain ⟨T11, X11, e11, st11⟩ := getF X9 hx hZ hown (host := "") (Or.inl (hw _ (ow 13 rfl))) Via.refl e9 F_word2_a1 (g := (mkF m 39 #[.val (.ref a1), .val (.ref a2), .val (.ref a2)] [(.ref a1)])) rfl rfl (hb hby d4_39)
      refine own_pre (B := T11.setTop (mkF m 42 #[.val (.ref a1), .val (.ref a2), .val (.ref a2)] [(.long w_word2_a1)])) (fun t k => st11 t k) ?_
      refine own_pre (B := T11.setTop (mkF m 43 #[.val (.ref a1), .val (.ref a2), .val (.ref a2)] [(.ref a2), (.long w_word2_a1)])) (fun t k => XS.aloadN X11.here hx rfl (hb hby d4_42) rfl rfl k) ?_
      obtain ⟨T12, X12, e12, st12⟩ := getF X11 hx hZ hown (host := "") (Or.inl (hw _ (ow 13 rfl))) Via.refl e11 F_word2_a2 (g := (mkF m 43 #[.val (.ref a1), .val (.ref a2), .val (.ref a2)] [(.ref a2), (.long w_word2_a1)])) rfl rfl (hb hby d4_43)
      refine own_pre (B := T12.setTop (mkF m 46 #[.val (.ref a1), .val (.ref a2), .val (.ref a2)] [(.long w_word2_a2), (.long w_word2_a1)])) (fun t k => st12 t k) ?_
      refine own_pre (B := T12.setTop (mkF m 47 #[.val (.ref a1), .val (.ref a2), .val (.ref a2)] [(.int (lcmpW w_word2_a1 w_word2_a2))])) (fun t k => XS.lcmp X12.here hx rfl (hb hby d4_46) rfl k) ?_
      by_cases hc47_13 : w_word2_a1 = w_word2_a2
      · refine own_pre (B := T12.setTop (mkF m 50 #[.val (.ref a1), .val (.ref a2), .val (.ref a2)] [])) (fun t k => XS.ifNo X12.here hx rfl (hb hby d4_47) rfl ((if0 _ _).trans (teq ((lw_eq w_word2_a1 w_word2_a2).mpr hc47_13)).2) k) ?_
        refine own_pre (B := T12.setTop (mkF m 51 #[.val (.ref a1), .val (.ref a2), .val (.ref a2)] [(.ref a1)])) (fun t k => XS.aloadN X12.here hx rfl (hb hby d4_50) rfl rfl k) ?_
        obtain ⟨T14, X14, e14, st14⟩ := getF X12 hx hZ hown (host := "") (Or.inl (hw _ (ow 15 rfl))) Via.refl e12 F_word3_a1 (g := (mkF m 51 #[.val (.ref a1), .val (.ref a2), .val (.ref a2)] [(.ref a1)])) rfl rfl (hb hby d4_51)
        refine own_pre (B := T14.setTop (mkF m 54 #[.val (.ref a1), .val (.ref a2), .val (.ref a2)] [(.long w_word3_a1)])) (fun t k => st14 t k) ?_
        refine own_pre (B := T14.setTop (mkF m 55 #[.val (.ref a1), .val (.ref a2), .val (.ref a2)] [(.ref a2), (.long w_word3_a1)])) (fun t k => XS.aloadN X14.here hx rfl (hb hby d4_54) rfl rfl k) ?_
        obtain ⟨T15, X15, e15, st15⟩ := getF X14 hx hZ hown (host := "") (Or.inl (hw _ (ow 15 rfl))) Via.refl e14 F_word3_a2 (g := (mkF m 55 #[.val (.ref a1), .val (.ref a2), .val (.ref a2)] [(.ref a2), (.long w_word3_a1)])) rfl rfl (hb hby d4_55)
        refine own_pre (B := T15.setTop (mkF m 58 #[.val (.ref a1), .val (.ref a2), .val (.ref a2)] [(.long w_word3_a2), (.long w_word3_a1)])) (fun t k => st15 t k) ?_
        refine own_pre (B := T15.setTop (mkF m 59 #[.val (.ref a1), .val (.ref a2), .val (.ref a2)] [(.int (lcmpW w_word3_a1 w_word3_a2))])) (fun t k => XS.lcmp X15.here hx rfl (hb hby d4_58) rfl k) ?_
        by_cases hc59_16 : w_word3_a1 = w_word3_a2
        · refine own_pre (B := T15.setTop (mkF m 62 #[.val (.ref a1), .val (.ref a2), .val (.ref a2)] [])) (fun t k => XS.ifNo X15.here hx rfl (hb hby d4_59) rfl ((if0 _ _).trans (teq ((lw_eq w_word3_a1 w_word3_a2).mpr hc59_16)).2) k) ?_
          refine own_pre (B := T15.setTop (mkF m 63 #[.val (.ref a1), .val (.ref a2), .val (.ref a2)] [(.int (1 : Int32))])) (fun t k => XS.iconst X15.here hx rfl (hb hby d4_62) k) ?_
          refine own_pre (B := T15.setTop (mkF m 67 #[.val (.ref a1), .val (.ref a2), .val (.ref a2)] [(.int (1 : Int32))])) (fun t k => XS.goto X15.here hx rfl (pc0 := 63) (pc' := 67) rfl (hb hby d4_63) (by decide) (by decide) k) ?_
          obtain ⟨fsr17, hrr17, hrunr17, hendedr17, hWr17, hsamer17⟩ := X15.leave (v := some (.int (1 : Int32))) (fun h => by rw [Bd.returns] at h; cases h)
          refine ⟨_, _, (retN X15 hx (t := .boolean) Bd.returns (by simp) (hb hby d4_67) hrr17), hrunr17, hendedr17, _, _, rfl, ?_, ⟨_, rfl⟩, hWr17, hsamer17.mono (by decide) (by decide)⟩
          show Q4 Z a1 a2 w_word0_a1 w_word0_a2 w_word1_a1 w_word1_a2 w_word2_a1 w_word2_a2 w_word3_a1 w_word3_a2 h0 n0 _ T15.heap _
          rw [e15]
          exact ⟨(by unfold own_f4; rw [if_pos hc23_7, if_pos hc35_10, if_pos hc47_13, if_pos hc59_16]), N0, rfl⟩
        · refine own_pre (B := T15.setTop (mkF m 66 #[.val (.ref a1), .val (.ref a2), .val (.ref a2)] [])) (fun t k => XS.ifYes X15.here hx rfl (pc0 := 59) (pc' := 66) rfl (hb hby d4_59) rfl ((if0 _ _).trans (feq (mt (lw_eq w_word3_a1 w_word3_a2).mp hc59_16)).2) (by decide) (by decide) k) ?_
          refine own_pre (B := T15.setTop (mkF m 67 #[.val (.ref a1), .val (.ref a2), .val (.ref a2)] [(.int (0 : Int32))])) (fun t k => XS.iconst X15.here hx rfl (hb hby d4_66) k) ?_
          obtain ⟨fsr18, hrr18, hrunr18, hendedr18, hWr18, hsamer18⟩ := X15.leave (v := some (.int (0 : Int32))) (fun h => by rw [Bd.returns] at h; cases h)
          refine ⟨_, _, (retN X15 hx (t := .boolean) Bd.returns (by simp) (hb hby d4_67) hrr18), hrunr18, hendedr18, _, _, rfl, ?_, ⟨_, rfl⟩, hWr18, hsamer18.mono (by decide) (by decide)⟩
          show Q4 Z a1 a2 w_word0_a1 w_word0_a2 w_word1_a1 w_word1_a2 w_word2_a1 w_word2_a2 w_word3_a1 w_word3_a2 h0 n0 _ T15.heap _
          rw [e15]
          exact ⟨(by unfold own_f4; rw [if_pos hc23_7, if_pos hc35_10, if_pos hc47_13, if_neg hc59_16]), N0, rfl⟩
      · refine own_pre (B := T12.setTop (mkF m 66 #[.val (.ref a1), .val (.ref a2), .val (.ref a2)] [])) (fun t k => XS.ifYes X12.here hx rfl (pc0 := 47) (pc' := 66) rfl (hb hby d4_47) rfl ((if0 _ _).trans (feq (mt (lw_eq w_word2_a1 w_word2_a2).mp hc47_13)).2) (by decide) (by decide) k) ?_
        refine own_pre (B := T12.setTop (mkF m 67 #[.val (.ref a1), .val (.ref a2), .val (.ref a2)] [(.int (0 : Int32))])) (fun t k => XS.iconst X12.here hx rfl (hb hby d4_66) k) ?_
        obtain ⟨fsr19, hrr19, hrunr19, hendedr19, hWr19, hsamer19⟩ := X12.leave (v := some (.int (0 : Int32))) (fun h => by rw [Bd.returns] at h; cases h)
        refine ⟨_, _, (retN X12 hx (t := .boolean) Bd.returns (by simp) (hb hby d4_67) hrr19), hrunr19, hendedr19, _, _, rfl, ?_, ⟨_, rfl⟩, hWr19, hsamer19.mono (by decide) (by decide)⟩
        show Q4 Z a1 a2 w_word0_a1 w_word0_a2 w_word1_a1 w_word1_a2 w_word2_a1 w_word2_a2 w_word3_a1 w_word3_a2 h0 n0 _ T12.heap _
        rw [e12]
        exact ⟨(by unfold own_f4; rw [if_pos hc23_7, if_pos hc35_10, if_neg hc47_13]), N0, rfl⟩
    · refine own_pre (B := T9.setTop (mkF m 66 #[.val (.ref a1), .val (.ref a2), .val (.ref a2)] [])) (fun t k => XS.ifYes X9.here hx rfl (pc0 := 35) (pc' := 66) rfl (hb hby d4_35) rfl ((if0 _ _).trans (feq (mt (lw_eq w_word1_a1 w_word1_a2).mp hc35_10)).2) (by decide) (by decide) k) ?_
      refine own_pre (B := T9.setTop (mkF m 67 #[.val (.ref a1), .val (.ref a2), .val (.ref a2)] [(.int (0 : Int32))])) (fun t k => XS.iconst X9.here hx rfl (hb hby d4_66) k) ?_
      obtain ⟨fsr20, hrr20, hrunr20, hendedr20, hWr20, hsamer20⟩ := X9.leave (v := some (.int (0 : Int32))) (fun h => by rw [Bd.returns] at h; cases h)
      refine ⟨_, _, (retN X9 hx (t := .boolean) Bd.returns (by simp) (hb hby d4_67) hrr20), hrunr20, hendedr20, _, _, rfl, ?_, ⟨_, rfl⟩, hWr20, hsamer20.mono (by decide) (by decide)⟩
      show Q4 Z a1 a2 w_word0_a1 w_word0_a2 w_word1_a1 w_word1_a2 w_word2_a1 w_word2_a2 w_word3_a1 w_word3_a2 h0 n0 _ T9.heap _
      rw [e9]
      exact ⟨(by unfold own_f4; rw [if_pos hc23_7, if_neg hc35_10]), N0, rfl⟩
  · refine own_pre (B := T6.setTop (mkF m 66 #[.val (.ref a1), .val (.ref a2), .val (.ref a2)] [])) (fun t k => XS.ifYes X6.here hx rfl (pc0 := 23) (pc' := 66) rfl (hb hby d4_23) rfl ((if0 _ _).trans (feq (mt (lw_eq w_word0_a1 w_word0_a2).mp hc23_7)).2) (by decide) (by decide) k) ?_
    refine own_pre (B := T6.setTop (mkF m 67 #[.val (.ref a1), .val (.ref a2), .val (.ref a2)] [(.int (0 : Int32))])) (fun t k => XS.iconst X6.here hx rfl (hb hby d4_66) k) ?_
    obtain ⟨fsr21, hrr21, hrunr21, hendedr21, hWr21, hsamer21⟩ := X6.leave (v := some (.int (0 : Int32))) (fun h => by rw [Bd.returns] at h; cases h)
    refine ⟨_, _, (retN X6 hx (t := .boolean) Bd.returns (by simp) (hb hby d4_67) hrr21), hrunr21, hendedr21, _, _, rfl, ?_, ⟨_, rfl⟩, hWr21, hsamer21.mono (by decide) (by decide)⟩
    show Q4 Z a1 a2 w_word0_a1 w_word0_a2 w_word1_a1 w_word1_a2 w_word2_a1 w_word2_a2 w_word3_a1 w_word3_a2 h0 n0 _ T6.heap _
    rw [e6]
    exact ⟨(by unfold own_f4; rw [if_neg hc23_7]), N0, rfl⟩
theorem d4_7 : decode prog_25_method_8_code 7 = .ok (.iconst 0, 1) := by decide +kernel
theorem d4_8 : decode prog_25_method_8_code 8 = .ok (.ireturn, 1) := by decide +kernel
theorem ef_4n (m : MethodId) (x0 : Addr) : entryFrame m #[(.ref x0), .null] 3 = mkF m 0 #[.val (.ref x0), .val .null, .unset] [] := by first | (simp [entryFrame, mkF, argsToLocals, Value.category]; done) | rfl
def own_f4n  : Int32 := (0 : Int32)
def Q4n (Z : State) (a1 : Addr) (h0 : Heap) (n0 : Nat) (v : Option Value) (h : Heap) (L : List Loc) : Prop := v = some (.int own_f4n) ∧ Fr n0 L ∧ h = h0
set_option maxRecDepth 65536 in
set_option maxHeartbeats 40000000 in
theorem rm4n (l : Launch) (Z : State) (a0 : Array Value) (hw : ∀ d ∈ tables_1, d.before a0 Z = true) (ws : List Jvm.Cond) (a1 : Addr) (h0 : Heap) (n0 : Nat) (Z0 : n0 ≤ h0.size) :
    MetFree l (⟨"com/example/rangewise/rangewise/Id", "equals", "(Ljava/lang/Object;)Z"⟩ : MethodName) (head1 (Jvm.Cond.code (⟨"com/example/rangewise/rangewise/Id", "equals", "(Ljava/lang/Object;)Z"⟩ : MethodName) prog_25_method_8_code 3 (some .boolean) :: ws) ({ frames := 0, cells := 0, slots := 0, locals := 0 } : Room)) (fun a U => a = #[(.ref a1), .null] ∧ Z.Warmed39 U.vm ∧ U.heap = h0) (fun _ _ _ _ _ => True) (fun _ U o U' => ∃ v L, o = .returned v ∧ Q4n Z a1 h0 n0 v U'.heap L ∧ FrameEnd U o U' L ({ frames := 0, cells := 0, slots := 0, locals := 0 } : Room).cells ({ frames := 0, cells := 0, slots := 0, locals := 0 } : Room).slots) := by
  refine MetFree.of_bodySF (plainFor_of_name pn_4) hisR ?_
  intro p e s m args below meth c s₁ Bd hml0 hP hK
  obtain ⟨rfl, hZ, hh⟩ := hP
  have hx := Bd.exec
  have hby := Bd.bytes
  have hml : c.maxLocals = 3 := hml0
  have hown : s.vm.findClass "com/example/rangewise/rangewise/Id" = some m.cls := findClass_of_methodNamed Bd.named
  have hnm := (name_of_methodNamed Bd.named Bd.method).1
  have X0 : Stand p l e ({ frames := 0, cells := 0, slots := 0, locals := 0 } : Room) s m #[(.ref a1), .null] below meth c s₁ [] 0 0 := Stand.of_body Bd
  have e0 : s₁.heap = h0 := by rw [← hh, Bd.state]; rfl
  have N0 := Fr.nil n0
  apply own_in
  refine own_pre (B := s₁.setTop (mkF m 0 #[.val (.ref a1), .val .null, .unset] [])) (fun t k => castTop (ef_4n m a1) k) ?_
  refine own_pre (B := s₁.setTop (mkF m 1 #[.val (.ref a1), .val .null, .unset] [.null])) (fun t k => XS.aloadN X0.here hx rfl (hb hby d4_0) rfl rfl k) ?_
  refine own_pre (B := s₁.setTop (mkF m 4 #[.val (.ref a1), .val .null, .unset] [(.int (0 : Int32))])) (fun t k => X0.instanceofNull hx (g := (mkF m 1 #[.val (.ref a1), .val .null, .unset] [.null])) rfl rfl (hb hby d4_1) t k) ?_
  refine own_pre (B := s₁.setTop (mkF m 7 #[.val (.ref a1), .val .null, .unset] [])) (fun t k => XS.ifNo X0.here hx rfl (hb hby d4_4) rfl ((if0 _ _).trans (teq (rfl : (0 : Int32) = (0 : Int32))).2) k) ?_
  refine own_pre (B := s₁.setTop (mkF m 8 #[.val (.ref a1), .val .null, .unset] [(.int (0 : Int32))])) (fun t k => XS.iconst X0.here hx rfl (hb hby d4_7) k) ?_
  obtain ⟨fsr2, hrr2, hrunr2, hendedr2, hWr2, hsamer2⟩ := X0.leave (v := some (.int (0 : Int32))) (fun h => by rw [Bd.returns] at h; cases h)
  refine ⟨_, _, (retN X0 hx (t := .boolean) Bd.returns (by simp) (hb hby d4_8) hrr2), hrunr2, hendedr2, _, _, rfl, ?_, ⟨_, rfl⟩, hWr2, hsamer2.mono (by decide) (by decide)⟩
  show Q4n Z a1 h0 n0 _ s₁.heap _
  rw [e0]
  exact ⟨rfl, N0, rfl⟩
theorem ef_4x (m : MethodId) (x0 : Addr) (x1 : Addr) : entryFrame m #[(.ref x0), (.ref x1)] 3 = mkF m 0 #[.val (.ref x0), .val (.ref x1), .unset] [] := by first | (simp [entryFrame, mkF, argsToLocals, Value.category]; done) | rfl
def own_f4x  : Int32 := (0 : Int32)
def Q4x (Z : State) (a1 : Addr) (a2 : Addr) (h0 : Heap) (n0 : Nat) (v : Option Value) (h : Heap) (L : List Loc) : Prop := v = some (.int own_f4x) ∧ Fr n0 L ∧ h = h0
set_option maxRecDepth 65536 in
set_option maxHeartbeats 40000000 in
theorem rm4x (l : Launch) (Z : State) (a0 : Array Value) (hw : ∀ d ∈ tables_1, d.before a0 Z = true) (ws : List Jvm.Cond) (a1 : Addr) (a2 : Addr) (h0 : Heap) (n0 : Nat) (Z0 : n0 ≤ h0.size) (E_a2 : Exa Z h0 a2 "java/lang/Long") :
    MetFree l (⟨"com/example/rangewise/rangewise/Id", "equals", "(Ljava/lang/Object;)Z"⟩ : MethodName) (head1 (Jvm.Cond.code (⟨"com/example/rangewise/rangewise/Id", "equals", "(Ljava/lang/Object;)Z"⟩ : MethodName) prog_25_method_8_code 3 (some .boolean) :: ws) ({ frames := 0, cells := 0, slots := 0, locals := 0 } : Room)) (fun a U => a = #[(.ref a1), (.ref a2)] ∧ Z.Warmed39 U.vm ∧ U.heap = h0) (fun _ _ _ _ _ => True) (fun _ U o U' => ∃ v L, o = .returned v ∧ Q4x Z a1 a2 h0 n0 v U'.heap L ∧ FrameEnd U o U' L ({ frames := 0, cells := 0, slots := 0, locals := 0 } : Room).cells ({ frames := 0, cells := 0, slots := 0, locals := 0 } : Room).slots) := by
  refine MetFree.of_bodySF (plainFor_of_name pn_4) hisR ?_
  intro p e s m args below meth c s₁ Bd hml0 hP hK
  obtain ⟨rfl, hZ, hh⟩ := hP
  have hx := Bd.exec
  have hby := Bd.bytes
  have hml : c.maxLocals = 3 := hml0
  have hown : s.vm.findClass "com/example/rangewise/rangewise/Id" = some m.cls := findClass_of_methodNamed Bd.named
  have hnm := (name_of_methodNamed Bd.named Bd.method).1
  have X0 : Stand p l e ({ frames := 0, cells := 0, slots := 0, locals := 0 } : Room) s m #[(.ref a1), (.ref a2)] below meth c s₁ [] 0 0 := Stand.of_body Bd
  have e0 : s₁.heap = h0 := by rw [← hh, Bd.state]; rfl
  have N0 := Fr.nil n0
  apply own_in
  refine own_pre (B := s₁.setTop (mkF m 0 #[.val (.ref a1), .val (.ref a2), .unset] [])) (fun t k => castTop (ef_4x m a1 a2) k) ?_
  refine own_pre (B := s₁.setTop (mkF m 1 #[.val (.ref a1), .val (.ref a2), .unset] [(.ref a2)])) (fun t k => XS.aloadN X0.here hx rfl (hb hby d4_0) rfl rfl k) ?_
  obtain ⟨T3, X3, e3, st3⟩ := instNo X0 hx hZ hown (hw _ (ow 26 rfl)) e0 E_a2 (own_not hw) (g := (mkF m 1 #[.val (.ref a1), .val (.ref a2), .unset] [(.ref a2)])) rfl rfl (hb hby d4_1)
  refine own_pre (B := T3.setTop (mkF m 4 #[.val (.ref a1), .val (.ref a2), .unset] [(.int (0 : Int32))])) (fun t k => st3 t k) ?_
  refine own_pre (B := T3.setTop (mkF m 7 #[.val (.ref a1), .val (.ref a2), .unset] [])) (fun t k => XS.ifNo X3.here hx rfl (hb hby d4_4) rfl ((if0 _ _).trans (teq (rfl : (0 : Int32) = (0 : Int32))).2) k) ?_
  refine own_pre (B := T3.setTop (mkF m 8 #[.val (.ref a1), .val (.ref a2), .unset] [(.int (0 : Int32))])) (fun t k => XS.iconst X3.here hx rfl (hb hby d4_7) k) ?_
  obtain ⟨fsr4, hrr4, hrunr4, hendedr4, hWr4, hsamer4⟩ := X3.leave (v := some (.int (0 : Int32))) (fun h => by rw [Bd.returns] at h; cases h)
  refine ⟨_, _, (retN X3 hx (t := .boolean) Bd.returns (by simp) (hb hby d4_8) hrr4), hrunr4, hendedr4, _, _, rfl, ?_, ⟨_, rfl⟩, hWr4, hsamer4.mono (by decide) (by decide)⟩
  show Q4x Z a1 a2 h0 n0 _ T3.heap _
  rw [e3]
  exact ⟨rfl, N0, rfl⟩
theorem own_xb {w : Nat} (x y : BitVec w) : x = x ^^^ y ↔ y = 0#w := by
  constructor
  · intro h
    have h2 : x ^^^ x = x ^^^ (x ^^^ y) := by rw [← h]
    rw [← BitVec.xor_assoc, BitVec.xor_self, BitVec.zero_xor] at h2
    exact h2.symm
  · intro h; rw [h, BitVec.xor_zero]
theorem own_x64 (l d : Int64) : l = l ^^^ d ↔ d = 0 := by
  rw [← Int64.toBitVec_inj, Int64.toBitVec_xor, own_xb, ← Int64.toBitVec_inj]; rfl
theorem own_flip (w d : Int64) (sel i : Int32) : (w = own_f3 w d sel i) ↔ (((sel >>> (i &&& 31)) &&& 1) = 0 ∨ d = 0) := by
  unfold own_f3
  by_cases h : ((sel >>> (i &&& 31)) &&& 1) = 0
  · rw [if_pos h]; simp [h]
  · rw [if_neg h, own_x64]; simp [h]
theorem own_bits (sel : Int32) : (sel &&& 15) = 0 ↔ (((sel >>> ((0 : Int32) &&& 31)) &&& 1) = 0 ∧ ((sel >>> ((1 : Int32) &&& 31)) &&& 1) = 0 ∧ ((sel >>> ((2 : Int32) &&& 31)) &&& 1) = 0 ∧ ((sel >>> ((3 : Int32) &&& 31)) &&& 1) = 0) := by
  have m := c_mask sel 15 4 (by decide) (by decide)
  have m0 := c_mask (sel >>> ((0 : Int32) &&& 31)) 1 1 (by decide) (by decide)
  have m1 := c_mask (sel >>> ((1 : Int32) &&& 31)) 1 1 (by decide) (by decide)
  have m2 := c_mask (sel >>> ((2 : Int32) &&& 31)) 1 1 (by decide) (by decide)
  have m3 := c_mask (sel >>> ((3 : Int32) &&& 31)) 1 1 (by decide) (by decide)
  rw [c_ishr sel 0 0 (by decide)] at m0
  rw [c_ishr sel 1 1 (by decide)] at m1
  rw [c_ishr sel 2 2 (by decide)] at m2
  rw [c_ishr sel 3 3 (by decide)] at m3
  have e0 : (0 : Int32).toInt = 0 := by decide
  rw [← Int32.toInt_inj, ← Int32.toInt_inj, ← Int32.toInt_inj, ← Int32.toInt_inj, ← Int32.toInt_inj]
  omega
theorem own_ab (w0 w1 w2 w3 d : Int64) (sel : Int32) : own_f4 w0 (own_f3 w0 d sel 0) w1 (own_f3 w1 d sel 1) w2 (own_f3 w2 d sel 2) w3 (own_f3 w3 d sel 3) = (if (sel &&& 15) = 0 then (1 : Int32) else (if d = 0 then (1 : Int32) else 0)) := by
  unfold own_f4
  simp only [own_flip, own_bits]
  by_cases hd : d = 0
  · simp [hd]
  · simp only [hd, or_false, if_false]
    by_cases h0 : ((sel >>> ((0 : Int32) &&& 31)) &&& 1) = 0 <;> by_cases h1 : ((sel >>> ((1 : Int32) &&& 31)) &&& 1) = 0 <;> by_cases h2 : ((sel >>> ((2 : Int32) &&& 31)) &&& 1) = 0 <;> by_cases h3 : ((sel >>> ((3 : Int32) &&& 31)) &&& 1) = 0 <;> simp only [h0, h1, h2, h3, if_true, if_false, and_true, true_and, and_false, false_and, and_self]
theorem own_sym (a b c e f g h i : Int64) : own_f4 a b c e f g h i = own_f4 b a e c g f i h := by
  unfold own_f4; simp only [eq_comm]
theorem own_aa (a b c e : Int64) : ¬ own_f4 a a b b c c e e = 0 := by unfold own_f4; simp
theorem pd_2 : parseMethodDescriptor "(JJJJ)V" = some ⟨[.long, .long, .long, .long], none⟩ := by decide +kernel
theorem pd_3 : parseMethodDescriptor "(JJII)J" = some ⟨[.long, .long, .int, .int], some .long⟩ := by decide +kernel
theorem pd_4 : parseMethodDescriptor "(Ljava/lang/Object;)Z" = some ⟨[(.object "java/lang/Object")], some .boolean⟩ := by decide +kernel
theorem pd_5 : parseMethodDescriptor "(J)Ljava/lang/Long;" = some ⟨[.long], some (.object "java/lang/Long")⟩ := by decide +kernel
theorem pn_0 : plainName "com/example/rangewise/rangewise/IdEqualsPinLaw" = true := by first | (simp [plainName, overriddenIn]; done) | decide +kernel
theorem ef_0 (m : MethodId) (x0 : Int64) (x1 : Int64) (x2 : Int64) (x3 : Int64) (x4 : Int64) (x5 : Int32) : entryFrame m #[(.long x0), (.long x1), (.long x2), (.long x3), (.long x4), (.int x5)] maxLocals = mkF m 0 #[.val (.long x0), .second, .val (.long x1), .second, .val (.long x2), .second, .val (.long x3), .second, .val (.long x4), .second, .val (.int x5), .unset, .unset, .unset, .unset] [] := by first | (simp [entryFrame, mkF, argsToLocals, Value.category, maxLocals]; done) | rfl
def Q0 (Z : State) (q1 : Int64) (q2 : Int64) (q3 : Int64) (q4 : Int64) (q5 : Int64) (p6 : Int32) (ca : Addr) (cc : Cell) (h0 : Heap) (n0 : Nat) (v : Option Value) (h : Heap) (L : List Loc) : Prop := v = some (.int 1) ∧ Fr n0 L
set_option maxRecDepth 65536 in
set_option maxHeartbeats 40000000 in
theorem rm0 (l : Launch) (Z : State) (a0 : Array Value) (hw : ∀ d ∈ tables_1, d.before a0 Z = true) (ws : List Jvm.Cond) (q1 : Int64) (q2 : Int64) (q3 : Int64) (q4 : Int64) (q5 : Int64) (p6 : Int32) (ca : Addr) (cc : Cell) (h0 : Heap) (n0 : Nat) (Z0 : n0 ≤ h0.size) (O0 : Old Z n0 h0) (SC : Sta Z Z.heap "java/lang/Long$LongCache" "cache" "[Ljava/lang/Long;" (.ref ca)) (AC : Arr Z Z.heap ca cc (.object "java/lang/Long")) (SZ256 : cc.slots.size = 256) (EL : ∀ j, j < 256 → ∃ r, cc.slots[j]? = some (.ref r) ∧ Exa Z Z.heap r "java/lang/Long") :
    MetFree l x (head1 (Jvm.Cond.code x code maxLocals ret :: ws) room_1) (fun a U => a = #[(.long q1), (.long q2), (.long q3), (.long q4), (.long q5), (.int p6)] ∧ Z.Warmed39 U.vm ∧ U.heap = h0) (fun _ _ _ _ _ => True) (fun _ U o U' => ∃ v L, o = .returned v ∧ Q0 Z q1 q2 q3 q4 q5 p6 ca cc h0 n0 v U'.heap L ∧ FrameEnd U o U' L 3 9) := by
  refine MetFree.of_bodySF (plainFor_of_name pn_0) hisR ?_
  intro p e s m args below meth c s₁ Bd hml0 hP hK
  obtain ⟨rfl, hZ, hh⟩ := hP
  have hx := Bd.exec
  have hby := Bd.bytes
  have hml : c.maxLocals = 15 := hml0
  have hown : s.vm.findClass "com/example/rangewise/rangewise/IdEqualsPinLaw" = some m.cls := findClass_of_methodNamed Bd.named
  have hnm := (name_of_methodNamed Bd.named Bd.method).1
  have X0 : Stand p l e room_1 s m #[(.long q1), (.long q2), (.long q3), (.long q4), (.long q5), (.int p6)] below meth c s₁ [] 0 0 := Stand.of_body Bd
  have e0 : s₁.heap = h0 := by rw [← hh, Bd.state]; rfl
  have N0 := Fr.nil n0
  apply own_in
  refine own_pre (B := s₁.setTop (mkF m 0 #[.val (.long q1), .second, .val (.long q2), .second, .val (.long q3), .second, .val (.long q4), .second, .val (.long q5), .second, .val (.int p6), .unset, .unset, .unset, .unset] [])) (fun t k => castTop (ef_0 m q1 q2 q3 q4 q5 p6) k) ?_
  have K7 : Keep h0 h0 [] := (Keep.refl h0 [])
  obtain ⟨T8, h8, X8, e8, E8, A8, D8, -, st8⟩ := newO X0 hx hZ hown (hw _ (ow 0 rfl)) (hw _ (ow 1 rfl)) (hw _ (ow 2 rfl)) e0 (g := (mkF m 0 #[.val (.long q1), .second, .val (.long q2), .second, .val (.long q3), .second, .val (.long q4), .second, .val (.long q5), .second, .val (.int p6), .unset, .unset, .unset, .unset] [])) rfl (hb hby at_0) (by decide) (by decide)
  obtain ⟨b8, g8⟩ : ∃ z, z = h0.size := ⟨_, rfl⟩
  rw [← g8] at A8 D8 st8
  have g_b8 : n0 ≤ b8 := Nat.le_trans Z0 (Nat.le_of_eq g8.symm)
  have s_b8 : h0.size ≤ b8 := Nat.le_trans K7.1 (Nat.le_of_eq g8.symm)
  have F_word0_b8 : Fld Z h8 b8 "com/example/rangewise/rangewise/Id" "word0" "J" (.long (0 : Int64)) := D8 (Or.inr (hw _ (ow 10 rfl))) (ty := .long) (by decide)
  have F_word1_b8 : Fld Z h8 b8 "com/example/rangewise/rangewise/Id" "word1" "J" (.long (0 : Int64)) := D8 (Or.inr (hw _ (ow 12 rfl))) (ty := .long) (by decide)
  have F_word2_b8 : Fld Z h8 b8 "com/example/rangewise/rangewise/Id" "word2" "J" (.long (0 : Int64)) := D8 (Or.inr (hw _ (ow 14 rfl))) (ty := .long) (by decide)
  have F_word3_b8 : Fld Z h8 b8 "com/example/rangewise/rangewise/Id" "word3" "J" (.long (0 : Int64)) := D8 (Or.inr (hw _ (ow 16 rfl))) (ty := .long) (by decide)
  refine own_pre (B := T8.setTop (mkF m 3 #[.val (.long q1), .second, .val (.long q2), .second, .val (.long q3), .second, .val (.long q4), .second, .val (.long q5), .second, .val (.int p6), .unset, .unset, .unset, .unset] [(.ref b8)])) (fun t k => st8 t k) ?_
  refine own_pre (B := T8.setTop (mkF m 4 #[.val (.long q1), .second, .val (.long q2), .second, .val (.long q3), .second, .val (.long q4), .second, .val (.long q5), .second, .val (.int p6), .unset, .unset, .unset, .unset] [(.ref b8), (.ref b8)])) (fun t k => XS.dup X8.here hx rfl (hb hby at_3) rfl rfl k) ?_
  refine own_pre (B := T8.setTop (mkF m 5 #[.val (.long q1), .second, .val (.long q2), .second, .val (.long q3), .second, .val (.long q4), .second, .val (.long q5), .second, .val (.int p6), .unset, .unset, .unset, .unset] [(.long q1), (.ref b8), (.ref b8)])) (fun t k => XS.lloadN X8.here hx rfl (hb hby at_4) rfl k) ?_
  refine own_pre (B := T8.setTop (mkF m 6 #[.val (.long q1), .second, .val (.long q2), .second, .val (.long q3), .second, .val (.long q4), .second, .val (.long q5), .second, .val (.int p6), .unset, .unset, .unset, .unset] [(.long q2), (.long q1), (.ref b8), (.ref b8)])) (fun t k => XS.lloadN X8.here hx rfl (hb hby at_5) rfl k) ?_
  refine own_pre (B := T8.setTop (mkF m 8 #[.val (.long q1), .second, .val (.long q2), .second, .val (.long q3), .second, .val (.long q4), .second, .val (.long q5), .second, .val (.int p6), .unset, .unset, .unset, .unset] [(.long q3), (.long q2), (.long q1), (.ref b8), (.ref b8)])) (fun t k => XS.lload X8.here hx rfl (hb hby at_6) rfl k) ?_
  refine own_pre (B := T8.setTop (mkF m 10 #[.val (.long q1), .second, .val (.long q2), .second, .val (.long q3), .second, .val (.long q4), .second, .val (.long q5), .second, .val (.int p6), .unset, .unset, .unset, .unset] [(.long q4), (.long q3), (.long q2), (.long q1), (.ref b8), (.ref b8)])) (fun t k => XS.lload X8.here hx rfl (hb hby at_8) rfl k) ?_
  have sz9 : n0 ≤ h8.size := (Nat.le_trans Z0 E8.1)
  obtain ⟨_, _, ⟨T10, L10, k10, n10⟩, -, X10, ⟨Lc10, hQ10, l10, y10, z10⟩, st10⟩ := X8.specialBack hx (y := (⟨"com/example/rangewise/rangewise/Id", "<init>", "(JJJJ)V"⟩ : MethodName)) rfl hown (mvT hZ (hw _ (ow 3 rfl))) (mvT hZ (hw _ (ow 4 rfl))) (mvT hZ (hw _ (ow 5 rfl))) (by decide) (backOf (W := 1) (rm1 l Z a0 hw [] b8 q1 q2 q3 q4 (.long (0 : Int64)) (.long (0 : Int64)) (.long (0 : Int64)) (.long (0 : Int64)) h8 n0 sz9 A8 F_word0_b8 g_b8 F_word1_b8 F_word2_b8 F_word3_b8) hZ (hw _ (ow 5 rfl)) (hw _ (ow 2 rfl)) (by decide) (by decide)) (g := (mkF m 10 #[.val (.long q1), .second, .val (.long q2), .second, .val (.long q3), .second, .val (.long q4), .second, .val (.long q5), .second, .val (.int p6), .unset, .unset, .unset, .unset] [(.long q4), (.long q3), (.long q2), (.long q1), (.ref b8), (.ref b8)])) rfl (by rw [hml]; rfl) (Steps.refl _) (a := b8) (argsL := [(.long q1), (.long q2), (.long q3), (.long q4)]) (rest := [(.ref b8)]) (lenOf pd_2 rfl) rfl (by show 2 * 0 + _ ≤ _; exact Nat.le_of_eq rfl) (hb hby at_10) (fun _ _ => ⟨rfl, e8, (by decide : 1 + 0 ≤ _), (by decide : 4 + 0 ≤ _)⟩)
  dsimp only [Pt.U, Pt.locs, Pt.cells, Pt.slots] at X10 l10 y10 z10 st10 hQ10
  subst l10 y10 z10
  obtain ⟨rfl, N10q, K10, q10_0, q10_1, q10_2, q10_3, q10_4⟩ := hQ10
  have N10 := Fr.app N0 N10q
  have K11 : Keep h0 h8 [] := (Keep.ext K7 E8)
  refine own_pre (B := T10.setTop (mkF m 13 #[.val (.long q1), .second, .val (.long q2), .second, .val (.long q3), .second, .val (.long q4), .second, .val (.long q5), .second, .val (.int p6), .unset, .unset, .unset, .unset] [(.ref b8)])) (fun t k => st10.trans k) ?_
  refine own_pre (B := T10.setTop (mkF m 15 #[.val (.long q1), .second, .val (.long q2), .second, .val (.long q3), .second, .val (.long q4), .second, .val (.long q5), .second, .val (.int p6), .val (.ref b8), .unset, .unset, .unset] [])) (fun t k => XS.astore X10.here hx rfl (hb hby at_13) rfl rfl (l' := #[.val (.long q1), .second, .val (.long q2), .second, .val (.long q3), .second, .val (.long q4), .second, .val (.long q5), .second, .val (.int p6), .val (.ref b8), .unset, .unset, .unset]) rfl k) ?_
  have K12 : Keep h0 T10.heap [] := (Keep.trans K11 K10 (allS (P := fun x => x ∈ [] ∨ h0.size ≤ x) (Or.inr s_b8) all0))
  obtain ⟨T13, h13, X13, e13, E13, A13, D13, -, st13⟩ := newO X10 hx hZ hown (hw _ (ow 0 rfl)) (hw _ (ow 1 rfl)) (hw _ (ow 2 rfl)) rfl (g := (mkF m 15 #[.val (.long q1), .second, .val (.long q2), .second, .val (.long q3), .second, .val (.long q4), .second, .val (.long q5), .second, .val (.int p6), .val (.ref b8), .unset, .unset, .unset] [])) rfl (hb hby at_15) (by decide) (by decide)
  have sz14 : n0 ≤ T10.heap.size := (Nat.le_trans sz9 K10.1)
  obtain ⟨b13, g13⟩ : ∃ z, z = T10.heap.size := ⟨_, rfl⟩
  rw [← g13] at A13 D13 st13
  have g_b13 : n0 ≤ b13 := Nat.le_trans sz14 (Nat.le_of_eq g13.symm)
  have s_b13 : h0.size ≤ b13 := Nat.le_trans K12.1 (Nat.le_of_eq g13.symm)
  have ne15 : b8 ≠ b13 := Nat.ne_of_lt (Nat.lt_of_lt_of_le (Exa.lt q10_0) (Nat.le_of_eq g13.symm))
  have F_word0_b13 : Fld Z h13 b13 "com/example/rangewise/rangewise/Id" "word0" "J" (.long (0 : Int64)) := D13 (Or.inr (hw _ (ow 10 rfl))) (ty := .long) (by decide)
  have F_word1_b13 : Fld Z h13 b13 "com/example/rangewise/rangewise/Id" "word1" "J" (.long (0 : Int64)) := D13 (Or.inr (hw _ (ow 12 rfl))) (ty := .long) (by decide)
  have F_word2_b13 : Fld Z h13 b13 "com/example/rangewise/rangewise/Id" "word2" "J" (.long (0 : Int64)) := D13 (Or.inr (hw _ (ow 14 rfl))) (ty := .long) (by decide)
  have F_word3_b13 : Fld Z h13 b13 "com/example/rangewise/rangewise/Id" "word3" "J" (.long (0 : Int64)) := D13 (Or.inr (hw _ (ow 16 rfl))) (ty := .long) (by decide)
  refine own_pre (B := T13.setTop (mkF m 18 #[.val (.long q1), .second, .val (.long q2), .second, .val (.long q3), .second, .val (.long q4), .second, .val (.long q5), .second, .val (.int p6), .val (.ref b8), .unset, .unset, .unset] [(.ref b13)])) (fun t k => st13 t k) ?_
  refine own_pre (B := T13.setTop (mkF m 19 #[.val (.long q1), .second, .val (.long q2), .second, .val (.long q3), .second, .val (.long q4), .second, .val (.long q5), .second, .val (.int p6), .val (.ref b8), .unset, .unset, .unset] [(.ref b13), (.ref b13)])) (fun t k => XS.dup X13.here hx rfl (hb hby at_18) rfl rfl k) ?_
  refine own_pre (B := T13.setTop (mkF m 20 #[.val (.long q1), .second, .val (.long q2), .second, .val (.long q3), .second, .val (.long q4), .second, .val (.long q5), .second, .val (.int p6), .val (.ref b8), .unset, .unset, .unset] [(.long q1), (.ref b13), (.ref b13)])) (fun t k => XS.lloadN X13.here hx rfl (hb hby at_19) rfl k) ?_
  refine own_pre (B := T13.setTop (mkF m 22 #[.val (.long q1), .second, .val (.long q2), .second, .val (.long q3), .second, .val (.long q4), .second, .val (.long q5), .second, .val (.int p6), .val (.ref b8), .unset, .unset, .unset] [(.long q5), (.long q1), (.ref b13), (.ref b13)])) (fun t k => XS.lload X13.here hx rfl (hb hby at_20) rfl k) ?_
  refine own_pre (B := T13.setTop (mkF m 24 #[.val (.long q1), .second, .val (.long q2), .second, .val (.long q3), .second, .val (.long q4), .second, .val (.long q5), .second, .val (.int p6), .val (.ref b8), .unset, .unset, .unset] [(.int p6), (.long q5), (.long q1), (.ref b13), (.ref b13)])) (fun t k => XS.iload X13.here hx rfl (hb hby at_22) rfl k) ?_
  refine own_pre (B := T13.setTop (mkF m 25 #[.val (.long q1), .second, .val (.long q2), .second, .val (.long q3), .second, .val (.long q4), .second, .val (.long q5), .second, .val (.int p6), .val (.ref b8), .unset, .unset, .unset] [(.int (0 : Int32)), (.int p6), (.long q5), (.long q1), (.ref b13), (.ref b13)])) (fun t k => XS.iconst X13.here hx rfl (hb hby at_24) k) ?_
  have sz16 : n0 ≤ h13.size := (Nat.le_trans sz14 E13.1)
  obtain ⟨_, _, ⟨T17, L17, k17, n17⟩, -, X17, ⟨Lc17, hQ17, l17, y17, z17⟩, st17⟩ := Jvm.LawKit.callS X13 hx (y := (⟨"com/example/rangewise/rangewise/IdEqualsPinLaw", "flip", "(JJII)J"⟩ : MethodName)) hown (mvT hZ (hw _ (ow 17 rfl))) (mvT hZ (hw _ (ow 18 rfl))) (mvT hZ (hw _ (ow 19 rfl))) (mvT hZ (hw _ (ow 20 rfl))) (by decide) (backOf (W := 2) (rm3 l Z a0 hw [] q1 q5 p6 (0 : Int32) h13 n0 sz16 ) hZ (hw _ (ow 20 rfl)) (hw _ (ow 19 rfl)) (by decide) (by decide)) (g := (mkF m 25 #[.val (.long q1), .second, .val (.long q2), .second, .val (.long q3), .second, .val (.long q4), .second, .val (.long q5), .second, .val (.int p6), .val (.ref b8), .unset, .unset, .unset] [(.int (0 : Int32)), (.int p6), (.long q5), (.long q1), (.ref b13), (.ref b13)])) rfl (by rw [hml]; rfl) (argsL := [(.long q1), (.long q5), (.int p6), (.int (0 : Int32))]) (rest := [(.ref b13), (.ref b13)]) (lenOf pd_3 rfl) rfl (by show 2 * 0 + _ ≤ _; exact Nat.le_of_eq rfl) (hb hby at_25) (fun _ _ => ⟨rfl, e13, (by decide : 2 + 0 ≤ _), (by decide : 8 + 0 ≤ _)⟩)
  dsimp only [Pt.U, Pt.locs, Pt.cells, Pt.slots] at X17 l17 y17 z17 st17 hQ17
  subst l17 y17 z17
  obtain ⟨rfl, N17q, e17⟩ := hQ17
  have N17 := Fr.app N10 N17q
  refine own_pre (B := T17.setTop (mkF m 28 #[.val (.long q1), .second, .val (.long q2), .second, .val (.long q3), .second, .val (.long q4), .second, .val (.long q5), .second, .val (.int p6), .val (.ref b8), .unset, .unset, .unset] [(.long (own_f3 q1 q5 p6 (0 : Int32))), (.ref b13), (.ref b13)])) (fun t k => st17 t k) ?_
  refine own_pre (B := T17.setTop (mkF m 29 #[.val (.long q1), .second, .val (.long q2), .second, .val (.long q3), .second, .val (.long q4), .second, .val (.long q5), .second, .val (.int p6), .val (.ref b8), .unset, .unset, .unset] [(.long q2), (.long (own_f3 q1 q5 p6 (0 : Int32))), (.ref b13), (.ref b13)])) (fun t k => XS.lloadN X17.here hx rfl (hb hby at_28) rfl k) ?_
  refine own_pre (B := T17.setTop (mkF m 31 #[.val (.long q1), .second, .val (.long q2), .second, .val (.long q3), .second, .val (.long q4), .second, .val (.long q5), .second, .val (.int p6), .val (.ref b8), .unset, .unset, .unset] [(.long q5), (.long q2), (.long (own_f3 q1 q5 p6 (0 : Int32))), (.ref b13), (.ref b13)])) (fun t k => XS.lload X17.here hx rfl (hb hby at_29) rfl k) ?_
  refine own_pre (B := T17.setTop (mkF m 33 #[.val (.long q1), .second, .val (.long q2), .second, .val (.long q3), .second, .val (.long q4), .second, .val (.long q5), .second, .val (.int p6), .val (.ref b8), .unset, .unset, .unset] [(.int p6), (.long q5), (.long q2), (.long (own_f3 q1 q5 p6 (0 : Int32))), (.ref b13), (.ref b13)])) (fun t k => XS.iload X17.here hx rfl (hb hby at_31) rfl k) ?_
  refine own_pre (B := T17.setTop (mkF m 34 #[.val (.long q1), .second, .val (.long q2), .second, .val (.long q3), .second, .val (.long q4), .second, .val (.long q5), .second, .val (.int p6), .val (.ref b8), .unset, .unset, .unset] [(.int (1 : Int32)), (.int p6), (.long q5), (.long q2), (.long (own_f3 q1 q5 p6 (0 : Int32))), (.ref b13), (.ref b13)])) (fun t k => XS.iconst X17.here hx rfl (hb hby at_33) k) ?_
  obtain ⟨_, _, ⟨T18, L18, k18, n18⟩, -, X18, ⟨Lc18, hQ18, l18, y18, z18⟩, st18⟩ := Jvm.LawKit.callS X17 hx (y := (⟨"com/example/rangewise/rangewise/IdEqualsPinLaw", "flip", "(JJII)J"⟩ : MethodName)) hown (mvT hZ (hw _ (ow 17 rfl))) (mvT hZ (hw _ (ow 18 rfl))) (mvT hZ (hw _ (ow 19 rfl))) (mvT hZ (hw _ (ow 20 rfl))) (by decide) (backOf (W := 4) (rm3 l Z a0 hw [] q2 q5 p6 (1 : Int32) h13 n0 sz16 ) hZ (hw _ (ow 20 rfl)) (hw _ (ow 19 rfl)) (by decide) (by decide)) (g := (mkF m 34 #[.val (.long q1), .second, .val (.long q2), .second, .val (.long q3), .second, .val (.long q4), .second, .val (.long q5), .second, .val (.int p6), .val (.ref b8), .unset, .unset, .unset] [(.int (1 : Int32)), (.int p6), (.long q5), (.long q2), (.long (own_f3 q1 q5 p6 (0 : Int32))), (.ref b13), (.ref b13)])) rfl (by rw [hml]; rfl) (argsL := [(.long q2), (.long q5), (.int p6), (.int (1 : Int32))]) (rest := [(.long (own_f3 q1 q5 p6 (0 : Int32))), (.ref b13), (.ref b13)]) (lenOf pd_3 rfl) rfl (by show 2 * 0 + _ ≤ _; exact Nat.le_of_eq rfl) (hb hby at_34) (fun _ _ => ⟨rfl, e17, (by decide : 2 + 0 ≤ _), (by decide : 8 + 0 ≤ _)⟩)
  dsimp only [Pt.U, Pt.locs, Pt.cells, Pt.slots] at X18 l18 y18 z18 st18 hQ18
  subst l18 y18 z18
  obtain ⟨rfl, N18q, e18⟩ := hQ18
  have N18 := Fr.app N17 N18q
  refine own_pre (B := T18.setTop (mkF m 37 #[.val (.long q1), .second, .val (.long q2), .second, .val (.long q3), .second, .val (.long q4), .second, .val (.long q5), .second, .val (.int p6), .val (.ref b8), .unset, .unset, .unset] [(.long (own_f3 q2 q5 p6 (1 : Int32))), (.long (own_f3 q1 q5 p6 (0 : Int32))), (.ref b13), (.ref b13)])) (fun t k => st18 t k) ?_
  refine own_pre (B := T18.setTop (mkF m 39 #[.val (.long q1), .second, .val (.long q2), .second, .val (.long q3), .second, .val (.long q4), .second, .val (.long q5), .second, .val (.int p6), .val (.ref b8), .unset, .unset, .unset] [(.long q3), (.long (own_f3 q2 q5 p6 (1 : Int32))), (.long (own_f3 q1 q5 p6 (0 : Int32))), (.ref b13), (.ref b13)])) (fun t k => XS.lload X18.here hx rfl (hb hby at_37) rfl k) ?_
  refine own_pre (B := T18.setTop (mkF m 41 #[.val (.long q1), .second, .val (.long q2), .second, .val (.long q3), .second, .val (.long q4), .second, .val (.long q5), .second, .val (.int p6), .val (.ref b8), .unset, .unset, .unset] [(.long q5), (.long q3), (.long (own_f3 q2 q5 p6 (1 : Int32))), (.long (own_f3 q1 q5 p6 (0 : Int32))), (.ref b13), (.ref b13)])) (fun t k => XS.lload X18.here hx rfl (hb hby at_39) rfl k) ?_
  refine own_pre (B := T18.setTop (mkF m 43 #[.val (.long q1), .second, .val (.long q2), .second, .val (.long q3), .second, .val (.long q4), .second, .val (.long q5), .second, .val (.int p6), .val (.ref b8), .unset, .unset, .unset] [(.int p6), (.long q5), (.long q3), (.long (own_f3 q2 q5 p6 (1 : Int32))), (.long (own_f3 q1 q5 p6 (0 : Int32))), (.ref b13), (.ref b13)])) (fun t k => XS.iload X18.here hx rfl (hb hby at_41) rfl k) ?_
  refine own_pre (B := T18.setTop (mkF m 44 #[.val (.long q1), .second, .val (.long q2), .second, .val (.long q3), .second, .val (.long q4), .second, .val (.long q5), .second, .val (.int p6), .val (.ref b8), .unset, .unset, .unset] [(.int (2 : Int32)), (.int p6), (.long q5), (.long q3), (.long (own_f3 q2 q5 p6 (1 : Int32))), (.long (own_f3 q1 q5 p6 (0 : Int32))), (.ref b13), (.ref b13)])) (fun t k => XS.iconst X18.here hx rfl (hb hby at_43) k) ?_
  obtain ⟨_, _, ⟨T19, L19, k19, n19⟩, -, X19, ⟨Lc19, hQ19, l19, y19, z19⟩, st19⟩ := Jvm.LawKit.callS X18 hx (y := (⟨"com/example/rangewise/rangewise/IdEqualsPinLaw", "flip", "(JJII)J"⟩ : MethodName)) hown (mvT hZ (hw _ (ow 17 rfl))) (mvT hZ (hw _ (ow 18 rfl))) (mvT hZ (hw _ (ow 19 rfl))) (mvT hZ (hw _ (ow 20 rfl))) (by decide) (backOf (W := 6) (rm3 l Z a0 hw [] q3 q5 p6 (2 : Int32) h13 n0 sz16 ) hZ (hw _ (ow 20 rfl)) (hw _ (ow 19 rfl)) (by decide) (by decide)) (g := (mkF m 44 #[.val (.long q1), .second, .val (.long q2), .second, .val (.long q3), .second, .val (.long q4), .second, .val (.long q5), .second, .val (.int p6), .val (.ref b8), .unset, .unset, .unset] [(.int (2 : Int32)), (.int p6), (.long q5), (.long q3), (.long (own_f3 q2 q5 p6 (1 : Int32))), (.long (own_f3 q1 q5 p6 (0 : Int32))), (.ref b13), (.ref b13)])) rfl (by rw [hml]; rfl) (argsL := [(.long q3), (.long q5), (.int p6), (.int (2 : Int32))]) (rest := [(.long (own_f3 q2 q5 p6 (1 : Int32))), (.long (own_f3 q1 q5 p6 (0 : Int32))), (.ref b13), (.ref b13)]) (lenOf pd_3 rfl) rfl (by show 2 * 0 + _ ≤ _; exact Nat.le_of_eq rfl) (hb hby at_44) (fun _ _ => ⟨rfl, e18, (by decide : 2 + 0 ≤ _), (by decide : 8 + 0 ≤ _)⟩)
  dsimp only [Pt.U, Pt.locs, Pt.cells, Pt.slots] at X19 l19 y19 z19 st19 hQ19
  subst l19 y19 z19
  obtain ⟨rfl, N19q, e19⟩ := hQ19
  have N19 := Fr.app N18 N19q
  refine own_pre (B := T19.setTop (mkF m 47 #[.val (.long q1), .second, .val (.long q2), .second, .val (.long q3), .second, .val (.long q4), .second, .val (.long q5), .second, .val (.int p6), .val (.ref b8), .unset, .unset, .unset] [(.long (own_f3 q3 q5 p6 (2 : Int32))), (.long (own_f3 q2 q5 p6 (1 : Int32))), (.long (own_f3 q1 q5 p6 (0 : Int32))), (.ref b13), (.ref b13)])) (fun t k => st19 t k) ?_
  refine own_pre (B := T19.setTop (mkF m 49 #[.val (.long q1), .second, .val (.long q2), .second, .val (.long q3), .second, .val (.long q4), .second, .val (.long q5), .second, .val (.int p6), .val (.ref b8), .unset, .unset, .unset] [(.long q4), (.long (own_f3 q3 q5 p6 (2 : Int32))), (.long (own_f3 q2 q5 p6 (1 : Int32))), (.long (own_f3 q1 q5 p6 (0 : Int32))), (.ref b13), (.ref b13)])) (fun t k => XS.lload X19.here hx rfl (hb hby at_47) rfl k) ?_
  refine own_pre (B := T19.setTop (mkF m 51 #[.val (.long q1), .second, .val (.long q2), .second, .val (.long q3), .second, .val (.long q4), .second, .val (.long q5), .second, .val (.int p6), .val (.ref b8), .unset, .unset, .unset] [(.long q5), (.long q4), (.long (own_f3 q3 q5 p6 (2 : Int32))), (.long (own_f3 q2 q5 p6 (1 : Int32))), (.long (own_f3 q1 q5 p6 (0 : Int32))), (.ref b13), (.ref b13)])) (fun t k => XS.lload X19.here hx rfl (hb hby at_49) rfl k) ?_
  refine own_pre (B := T19.setTop (mkF m 53 #[.val (.long q1), .second, .val (.long q2), .second, .val (.long q3), .second, .val (.long q4), .second, .val (.long q5), .second, .val (.int p6), .val (.ref b8), .unset, .unset, .unset] [(.int p6), (.long q5), (.long q4), (.long (own_f3 q3 q5 p6 (2 : Int32))), (.long (own_f3 q2 q5 p6 (1 : Int32))), (.long (own_f3 q1 q5 p6 (0 : Int32))), (.ref b13), (.ref b13)])) (fun t k => XS.iload X19.here hx rfl (hb hby at_51) rfl k) ?_
  refine own_pre (B := T19.setTop (mkF m 54 #[.val (.long q1), .second, .val (.long q2), .second, .val (.long q3), .second, .val (.long q4), .second, .val (.long q5), .second, .val (.int p6), .val (.ref b8), .unset, .unset, .unset] [(.int (3 : Int32)), (.int p6), (.long q5), (.long q4), (.long (own_f3 q3 q5 p6 (2 : Int32))), (.long (own_f3 q2 q5 p6 (1 : Int32))), (.long (own_f3 q1 q5 p6 (0 : Int32))), (.ref b13), (.ref b13)])) (fun t k => XS.iconst X19.here hx rfl (hb hby at_53) k) ?_
  obtain ⟨_, _, ⟨T20, L20, k20, n20⟩, -, X20, ⟨Lc20, hQ20, l20, y20, z20⟩, st20⟩ := Jvm.LawKit.callS X19 hx (y := (⟨"com/example/rangewise/rangewise/IdEqualsPinLaw", "flip", "(JJII)J"⟩ : MethodName)) hown (mvT hZ (hw _ (ow 17 rfl))) (mvT hZ (hw _ (ow 18 rfl))) (mvT hZ (hw _ (ow 19 rfl))) (mvT hZ (hw _ (ow 20 rfl))) (by decide) (backOf (W := 8) (rm3 l Z a0 hw [] q4 q5 p6 (3 : Int32) h13 n0 sz16 ) hZ (hw _ (ow 20 rfl)) (hw _ (ow 19 rfl)) (by decide) (by decide)) (g := (mkF m 54 #[.val (.long q1), .second, .val (.long q2), .second, .val (.long q3), .second, .val (.long q4), .second, .val (.long q5), .second, .val (.int p6), .val (.ref b8), .unset, .unset, .unset] [(.int (3 : Int32)), (.int p6), (.long q5), (.long q4), (.long (own_f3 q3 q5 p6 (2 : Int32))), (.long (own_f3 q2 q5 p6 (1 : Int32))), (.long (own_f3 q1 q5 p6 (0 : Int32))), (.ref b13), (.ref b13)])) rfl (by rw [hml]; rfl) (argsL := [(.long q4), (.long q5), (.int p6), (.int (3 : Int32))]) (rest := [(.long (own_f3 q3 q5 p6 (2 : Int32))), (.long (own_f3 q2 q5 p6 (1 : Int32))), (.long (own_f3 q1 q5 p6 (0 : Int32))), (.ref b13), (.ref b13)]) (lenOf pd_3 rfl) rfl (by show 2 * 0 + _ ≤ _; exact Nat.le_of_eq rfl) (hb hby at_54) (fun _ _ => ⟨rfl, e19, (by decide : 2 + 0 ≤ _), (by decide : 8 + 0 ≤ _)⟩)
  dsimp only [Pt.U, Pt.locs, Pt.cells, Pt.slots] at X20 l20 y20 z20 st20 hQ20
  subst l20 y20 z20
  obtain ⟨rfl, N20q, e20⟩ := hQ20
  have N20 := Fr.app N19 N20q
  refine own_pre (B := T20.setTop (mkF m 57 #[.val (.long q1), .second, .val (.long q2), .second, .val (.long q3), .second, .val (.long q4), .second, .val (.long q5), .second, .val (.int p6), .val (.ref b8), .unset, .unset, .unset] [(.long (own_f3 q4 q5 p6 (3 : Int32))), (.long (own_f3 q3 q5 p6 (2 : Int32))), (.long (own_f3 q2 q5 p6 (1 : Int32))), (.long (own_f3 q1 q5 p6 (0 : Int32))), (.ref b13), (.ref b13)])) (fun t k => st20 t k) ?_
  obtain ⟨_, _, ⟨T21, L21, k21, n21⟩, -, X21, ⟨Lc21, hQ21, l21, y21, z21⟩, st21⟩ := X20.specialBack hx (y := (⟨"com/example/rangewise/rangewise/Id", "<init>", "(JJJJ)V"⟩ : MethodName)) rfl hown (mvT hZ (hw _ (ow 3 rfl))) (mvT hZ (hw _ (ow 4 rfl))) (mvT hZ (hw _ (ow 5 rfl))) (by decide) (backOf (W := 1) (rm1 l Z a0 hw [] b13 (own_f3 q1 q5 p6 (0 : Int32)) (own_f3 q2 q5 p6 (1 : Int32)) (own_f3 q3 q5 p6 (2 : Int32)) (own_f3 q4 q5 p6 (3 : Int32)) (.long (0 : Int64)) (.long (0 : Int64)) (.long (0 : Int64)) (.long (0 : Int64)) h13 n0 sz16 A13 F_word0_b13 g_b13 F_word1_b13 F_word2_b13 F_word3_b13) hZ (hw _ (ow 5 rfl)) (hw _ (ow 2 rfl)) (by decide) (by decide)) (g := (mkF m 57 #[.val (.long q1), .second, .val (.long q2), .second, .val (.long q3), .second, .val (.long q4), .second, .val (.long q5), .second, .val (.int p6), .val (.ref b8), .unset, .unset, .unset] [(.long (own_f3 q4 q5 p6 (3 : Int32))), (.long (own_f3 q3 q5 p6 (2 : Int32))), (.long (own_f3 q2 q5 p6 (1 : Int32))), (.long (own_f3 q1 q5 p6 (0 : Int32))), (.ref b13), (.ref b13)])) rfl (by rw [hml]; rfl) (Steps.refl _) (a := b13) (argsL := [(.long (own_f3 q1 q5 p6 (0 : Int32))), (.long (own_f3 q2 q5 p6 (1 : Int32))), (.long (own_f3 q3 q5 p6 (2 : Int32))), (.long (own_f3 q4 q5 p6 (3 : Int32)))]) (rest := [(.ref b13)]) (lenOf pd_2 rfl) rfl (by show 2 * 0 + _ ≤ _; exact Nat.le_of_eq rfl) (hb hby at_57) (fun _ _ => ⟨rfl, e20, (by decide : 2 + 0 ≤ _), (by decide : 8 + 0 ≤ _)⟩)
  dsimp only [Pt.U, Pt.locs, Pt.cells, Pt.slots] at X21 l21 y21 z21 st21 hQ21
  subst l21 y21 z21
  obtain ⟨rfl, N21q, K21, q21_0, q21_1, q21_2, q21_3, q21_4⟩ := hQ21
  have N21 := Fr.app N20 N21q
  have K22 : Keep h0 h13 [] := (Keep.ext K12 E13)
  refine own_pre (B := T21.setTop (mkF m 60 #[.val (.long q1), .second, .val (.long q2), .second, .val (.long q3), .second, .val (.long q4), .second, .val (.long q5), .second, .val (.int p6), .val (.ref b8), .unset, .unset, .unset] [(.ref b13)])) (fun t k => st21.trans k) ?_
  refine own_pre (B := T21.setTop (mkF m 62 #[.val (.long q1), .second, .val (.long q2), .second, .val (.long q3), .second, .val (.long q4), .second, .val (.long q5), .second, .val (.int p6), .val (.ref b8), .val (.ref b13), .unset, .unset] [])) (fun t k => XS.astore X21.here hx rfl (hb hby at_60) rfl rfl (l' := #[.val (.long q1), .second, .val (.long q2), .second, .val (.long q3), .second, .val (.long q4), .second, .val (.long q5), .second, .val (.int p6), .val (.ref b8), .val (.ref b13), .unset, .unset]) rfl k) ?_
  refine own_pre (B := T21.setTop (mkF m 64 #[.val (.long q1), .second, .val (.long q2), .second, .val (.long q3), .second, .val (.long q4), .second, .val (.long q5), .second, .val (.int p6), .val (.ref b8), .val (.ref b13), .unset, .unset] [(.int p6)])) (fun t k => XS.iload X21.here hx rfl (hb hby at_62) rfl k) ?_
  refine own_pre (B := T21.setTop (mkF m 65 #[.val (.long q1), .second, .val (.long q2), .second, .val (.long q3), .second, .val (.long q4), .second, .val (.long q5), .second, .val (.int p6), .val (.ref b8), .val (.ref b13), .unset, .unset] [(.int (4 : Int32)), (.int p6)])) (fun t k => XS.iconst X21.here hx rfl (hb hby at_64) k) ?_
  refine own_pre (B := T21.setTop (mkF m 66 #[.val (.long q1), .second, .val (.long q2), .second, .val (.long q3), .second, .val (.long q4), .second, .val (.long q5), .second, .val (.int p6), .val (.ref b8), .val (.ref b13), .unset, .unset] [(.int ((p6.toUInt32 >>> ((4 : Int32) &&& 31).toUInt32).toInt32))])) (fun t k => XS.iushr X21.here hx rfl (hb hby at_65) rfl k) ?_
  refine own_pre (B := T21.setTop (mkF m 67 #[.val (.long q1), .second, .val (.long q2), .second, .val (.long q3), .second, .val (.long q4), .second, .val (.long q5), .second, .val (.int p6), .val (.ref b8), .val (.ref b13), .unset, .unset] [(.int (3 : Int32)), (.int ((p6.toUInt32 >>> ((4 : Int32) &&& 31).toUInt32).toInt32))])) (fun t k => XS.iconst X21.here hx rfl (hb hby at_66) k) ?_
  refine own_pre (B := T21.setTop (mkF m 68 #[.val (.long q1), .second, .val (.long q2), .second, .val (.long q3), .second, .val (.long q4), .second, .val (.long q5), .second, .val (.int p6), .val (.ref b8), .val (.ref b13), .unset, .unset] [(.int (((p6.toUInt32 >>> ((4 : Int32) &&& 31).toUInt32).toInt32) &&& (3 : Int32)))])) (fun t k => XS.iand X21.here hx rfl (hb hby at_67) rfl k) ?_
  refine own_pre (B := T21.setTop (mkF m 70 #[.val (.long q1), .second, .val (.long q2), .second, .val (.long q3), .second, .val (.long q4), .second, .val (.long q5), .second, .val (.int p6), .val (.ref b8), .val (.ref b13), .val (.int (((p6.toUInt32 >>> ((4 : Int32) &&& 31).toUInt32).toInt32) &&& (3 : Int32))), .unset] [])) (fun t k => XS.istore X21.here hx rfl (hb hby at_68) rfl (l' := #[.val (.long q1), .second, .val (.long q2), .second, .val (.long q3), .second, .val (.long q4), .second, .val (.long q5), .second, .val (.int p6), .val (.ref b8), .val (.ref b13), .val (.int (((p6.toUInt32 >>> ((4 : Int32) &&& 31).toUInt32).toInt32) &&& (3 : Int32))), .unset]) rfl k) ?_
  refine own_pre (B := T21.setTop (mkF m 72 #[.val (.long q1), .second, .val (.long q2), .second, .val (.long q3), .second, .val (.long q4), .second, .val (.long q5), .second, .val (.int p6), .val (.ref b8), .val (.ref b13), .val (.int (((p6.toUInt32 >>> ((4 : Int32) &&& 31).toUInt32).toInt32) &&& (3 : Int32))), .unset] [(.int p6)])) (fun t k => XS.iload X21.here hx rfl (hb hby at_70) rfl k) ?_
  refine own_pre (B := T21.setTop (mkF m 74 #[.val (.long q1), .second, .val (.long q2), .second, .val (.long q3), .second, .val (.long q4), .second, .val (.long q5), .second, .val (.int p6), .val (.ref b8), .val (.ref b13), .val (.int (((p6.toUInt32 >>> ((4 : Int32) &&& 31).toUInt32).toInt32) &&& (3 : Int32))), .unset] [(.int (15 : Int32)), (.int p6)])) (fun t k => XS.bipush X21.here hx rfl (hb hby at_72) k) ?_
  refine own_pre (B := T21.setTop (mkF m 75 #[.val (.long q1), .second, .val (.long q2), .second, .val (.long q3), .second, .val (.long q4), .second, .val (.long q5), .second, .val (.int p6), .val (.ref b8), .val (.ref b13), .val (.int (((p6.toUInt32 >>> ((4 : Int32) &&& 31).toUInt32).toInt32) &&& (3 : Int32))), .unset] [(.int (p6 &&& (15 : Int32)))])) (fun t k => XS.iand X21.here hx rfl (hb hby at_74) rfl k) ?_
  obtain ⟨z23, hz23⟩ : ∃ z : Int32, z = (if (p6 &&& (15 : Int32)) = (0 : Int32) then (1 : Int32) else (if q5 = (0 : Int64) then (1 : Int32) else (0 : Int32))) := ⟨_, rfl⟩
  refine own_pre (B := T21.setTop (mkF m 90 #[.val (.long q1), .second, .val (.long q2), .second, .val (.long q3), .second, .val (.long q4), .second, .val (.long q5), .second, .val (.int p6), .val (.ref b8), .val (.ref b13), .val (.int (((p6.toUInt32 >>> ((4 : Int32) &&& 31).toUInt32).toInt32) &&& (3 : Int32))), .unset] [(.int z23)])) (fun t k => ?_) ?_
  · by_cases hc75_24 : (p6 &&& (15 : Int32)) = (0 : Int32)
    · refine XS.ifYes X21.here hx rfl (pc0 := 75) (pc' := 85) rfl (hb hby at_75) rfl ((if0 _ _).trans (teq hc75_24).1) (by decide) (by decide) ?_
      show Steps p.tables e below (T21.setTop (mkF m 85 #[.val (.long q1), .second, .val (.long q2), .second, .val (.long q3), .second, .val (.long q4), .second, .val (.long q5), .second, .val (.int p6), .val (.ref b8), .val (.ref b13), .val (.int (((p6.toUInt32 >>> ((4 : Int32) &&& 31).toUInt32).toInt32) &&& (3 : Int32))), .unset] [])) _
      refine XS.iconst X21.here hx rfl (hb hby at_85) ?_
      show Steps p.tables e below (T21.setTop (mkF m 86 #[.val (.long q1), .second, .val (.long q2), .second, .val (.long q3), .second, .val (.long q4), .second, .val (.long q5), .second, .val (.int p6), .val (.ref b8), .val (.ref b13), .val (.int (((p6.toUInt32 >>> ((4 : Int32) &&& 31).toUInt32).toInt32) &&& (3 : Int32))), .unset] [(.int (1 : Int32))])) _
      refine XS.goto X21.here hx rfl (pc0 := 86) (pc' := 90) rfl (hb hby at_86) (by decide) (by decide) ?_
      show Steps p.tables e below (T21.setTop (mkF m 90 #[.val (.long q1), .second, .val (.long q2), .second, .val (.long q3), .second, .val (.long q4), .second, .val (.long q5), .second, .val (.int p6), .val (.ref b8), .val (.ref b13), .val (.int (((p6.toUInt32 >>> ((4 : Int32) &&& 31).toUInt32).toInt32) &&& (3 : Int32))), .unset] [(.int (1 : Int32))])) _
      rw [if_pos hc75_24] at hz23
      subst hz23
      exact k
    · refine XS.ifNo X21.here hx rfl (hb hby at_75) rfl ((if0 _ _).trans (feq hc75_24).1) ?_
      show Steps p.tables e below (T21.setTop (mkF m 78 #[.val (.long q1), .second, .val (.long q2), .second, .val (.long q3), .second, .val (.long q4), .second, .val (.long q5), .second, .val (.int p6), .val (.ref b8), .val (.ref b13), .val (.int (((p6.toUInt32 >>> ((4 : Int32) &&& 31).toUInt32).toInt32) &&& (3 : Int32))), .unset] [])) _
      refine XS.lload X21.here hx rfl (hb hby at_78) rfl ?_
      show Steps p.tables e below (T21.setTop (mkF m 80 #[.val (.long q1), .second, .val (.long q2), .second, .val (.long q3), .second, .val (.long q4), .second, .val (.long q5), .second, .val (.int p6), .val (.ref b8), .val (.ref b13), .val (.int (((p6.toUInt32 >>> ((4 : Int32) &&& 31).toUInt32).toInt32) &&& (3 : Int32))), .unset] [(.long q5)])) _
      refine XS.lconst X21.here hx rfl (hb hby at_80) ?_
      show Steps p.tables e below (T21.setTop (mkF m 81 #[.val (.long q1), .second, .val (.long q2), .second, .val (.long q3), .second, .val (.long q4), .second, .val (.long q5), .second, .val (.int p6), .val (.ref b8), .val (.ref b13), .val (.int (((p6.toUInt32 >>> ((4 : Int32) &&& 31).toUInt32).toInt32) &&& (3 : Int32))), .unset] [(.long (0 : Int64)), (.long q5)])) _
      refine XS.lcmp X21.here hx rfl (hb hby at_81) rfl ?_
      show Steps p.tables e below (T21.setTop (mkF m 82 #[.val (.long q1), .second, .val (.long q2), .second, .val (.long q3), .second, .val (.long q4), .second, .val (.long q5), .second, .val (.int p6), .val (.ref b8), .val (.ref b13), .val (.int (((p6.toUInt32 >>> ((4 : Int32) &&& 31).toUInt32).toInt32) &&& (3 : Int32))), .unset] [(.int (lcmpW q5 (0 : Int64)))])) _
      by_cases hc82_25 : q5 = (0 : Int64)
      · refine XS.ifNo X21.here hx rfl (hb hby at_82) rfl ((if0 _ _).trans (teq ((lw_eq q5 (0 : Int64)).mpr hc82_25)).2) ?_
        show Steps p.tables e below (T21.setTop (mkF m 85 #[.val (.long q1), .second, .val (.long q2), .second, .val (.long q3), .second, .val (.long q4), .second, .val (.long q5), .second, .val (.int p6), .val (.ref b8), .val (.ref b13), .val (.int (((p6.toUInt32 >>> ((4 : Int32) &&& 31).toUInt32).toInt32) &&& (3 : Int32))), .unset] [])) _
        refine XS.iconst X21.here hx rfl (hb hby at_85) ?_
        show Steps p.tables e below (T21.setTop (mkF m 86 #[.val (.long q1), .second, .val (.long q2), .second, .val (.long q3), .second, .val (.long q4), .second, .val (.long q5), .second, .val (.int p6), .val (.ref b8), .val (.ref b13), .val (.int (((p6.toUInt32 >>> ((4 : Int32) &&& 31).toUInt32).toInt32) &&& (3 : Int32))), .unset] [(.int (1 : Int32))])) _
        refine XS.goto X21.here hx rfl (pc0 := 86) (pc' := 90) rfl (hb hby at_86) (by decide) (by decide) ?_
        show Steps p.tables e below (T21.setTop (mkF m 90 #[.val (.long q1), .second, .val (.long q2), .second, .val (.long q3), .second, .val (.long q4), .second, .val (.long q5), .second, .val (.int p6), .val (.ref b8), .val (.ref b13), .val (.int (((p6.toUInt32 >>> ((4 : Int32) &&& 31).toUInt32).toInt32) &&& (3 : Int32))), .unset] [(.int (1 : Int32))])) _
        rw [if_neg hc75_24, if_pos hc82_25] at hz23
        subst hz23
        exact k
      · refine XS.ifYes X21.here hx rfl (pc0 := 82) (pc' := 89) rfl (hb hby at_82) rfl ((if0 _ _).trans (feq (mt (lw_eq q5 (0 : Int64)).mp hc82_25)).2) (by decide) (by decide) ?_
        show Steps p.tables e below (T21.setTop (mkF m 89 #[.val (.long q1), .second, .val (.long q2), .second, .val (.long q3), .second, .val (.long q4), .second, .val (.long q5), .second, .val (.int p6), .val (.ref b8), .val (.ref b13), .val (.int (((p6.toUInt32 >>> ((4 : Int32) &&& 31).toUInt32).toInt32) &&& (3 : Int32))), .unset] [])) _
        refine XS.iconst X21.here hx rfl (hb hby at_89) ?_
        show Steps p.tables e below (T21.setTop (mkF m 90 #[.val (.long q1), .second, .val (.long q2), .second, .val (.long q3), .second, .val (.long q4), .second, .val (.long q5), .second, .val (.int p6), .val (.ref b8), .val (.ref b13), .val (.int (((p6.toUInt32 >>> ((4 : Int32) &&& 31).toUInt32).toInt32) &&& (3 : Int32))), .unset] [(.int (0 : Int32))])) _
        rw [if_neg hc75_24, if_neg hc82_25] at hz23
        subst hz23
        exact k
  refine own_pre (B := T21.setTop (mkF m 92 #[.val (.long q1), .second, .val (.long q2), .second, .val (.long q3), .second, .val (.long q4), .second, .val (.long q5), .second, .val (.int p6), .val (.ref b8), .val (.ref b13), .val (.int (((p6.toUInt32 >>> ((4 : Int32) &&& 31).toUInt32).toInt32) &&& (3 : Int32))), .val (.int z23)] [])) (fun t k => XS.istore X21.here hx rfl (hb hby at_90) rfl (l' := #[.val (.long q1), .second, .val (.long q2), .second, .val (.long q3), .second, .val (.long q4), .second, .val (.long q5), .second, .val (.int p6), .val (.ref b8), .val (.ref b13), .val (.int (((p6.toUInt32 >>> ((4 : Int32) &&& 31).toUInt32).toInt32) &&& (3 : Int32))), .val (.int z23)]) rfl k) ?_
  refine own_pre (B := T21.setTop (mkF m 94 #[.val (.long q1), .second, .val (.long q2), .second, .val (.long q3), .second, .val (.long q4), .second, .val (.long q5), .second, .val (.int p6), .val (.ref b8), .val (.ref b13), .val (.int (((p6.toUInt32 >>> ((4 : Int32) &&& 31).toUInt32).toInt32) &&& (3 : Int32))), .val (.int z23)] [(.int (((p6.toUInt32 >>> ((4 : Int32) &&& 31).toUInt32).toInt32) &&& (3 : Int32)))])) (fun t k => XS.iload X21.here hx rfl (hb hby at_92) rfl k) ?_
  refine own_pre (B := T21.setTop (mkF m 95 #[.val (.long q1), .second, .val (.long q2), .second, .val (.long q3), .second, .val (.long q4), .second, .val (.long q5), .second, .val (.int p6), .val (.ref b8), .val (.ref b13), .val (.int (((p6.toUInt32 >>> ((4 : Int32) &&& 31).toUInt32).toInt32) &&& (3 : Int32))), .val (.int z23)] [(.int (1 : Int32)), (.int (((p6.toUInt32 >>> ((4 : Int32) &&& 31).toUInt32).toInt32) &&& (3 : Int32)))])) (fun t k => XS.iconst X21.here hx rfl (hb hby at_94) k) ?_
  by_cases hc95_26 : (((p6.toUInt32 >>> ((4 : Int32) &&& 31).toUInt32).toInt32) &&& (3 : Int32)) = (1 : Int32)
  · refine own_pre (B := T21.setTop (mkF m 98 #[.val (.long q1), .second, .val (.long q2), .second, .val (.long q3), .second, .val (.long q4), .second, .val (.long q5), .second, .val (.int p6), .val (.ref b8), .val (.ref b13), .val (.int (((p6.toUInt32 >>> ((4 : Int32) &&& 31).toUInt32).toInt32) &&& (3 : Int32))), .val (.int z23)] [])) (fun t k => XS.icmpNo X21.here hx rfl (hb hby at_95) rfl (teq hc95_26).2 k) ?_
    refine own_pre (B := T21.setTop (mkF m 100 #[.val (.long q1), .second, .val (.long q2), .second, .val (.long q3), .second, .val (.long q4), .second, .val (.long q5), .second, .val (.int p6), .val (.ref b8), .val (.ref b13), .val (.int (((p6.toUInt32 >>> ((4 : Int32) &&& 31).toUInt32).toInt32) &&& (3 : Int32))), .val (.int z23)] [(.ref b8)])) (fun t k => XS.aload X21.here hx rfl (hb hby at_98) rfl rfl k) ?_
    refine own_pre (B := T21.setTop (mkF m 101 #[.val (.long q1), .second, .val (.long q2), .second, .val (.long q3), .second, .val (.long q4), .second, .val (.long q5), .second, .val (.int p6), .val (.ref b8), .val (.ref b13), .val (.int (((p6.toUInt32 >>> ((4 : Int32) &&& 31).toUInt32).toInt32) &&& (3 : Int32))), .val (.int z23)] [.null, (.ref b8)])) (fun t k => XS.aconstNull X21.here hx rfl (hb hby at_100) k) ?_
    have sz27 : n0 ≤ T21.heap.size := (Nat.le_trans sz16 K21.1)
    have c29 := (Exa.keep (q10_0.ext E13) K21)
    obtain ⟨cq28, kq28, q28a, q28b, q28c⟩ := isOf hZ rfl c29
    obtain ⟨_, _, ⟨T28, L28, k28, n28⟩, -, X28, ⟨Lc28, hQ28, l28, y28, z28⟩, st28⟩ := X21.virtualBack hx (y := (⟨"com/example/rangewise/rangewise/Id", "equals", "(Ljava/lang/Object;)Z"⟩ : MethodName)) (z := (⟨"com/example/rangewise/rangewise/Id", "equals", "(Ljava/lang/Object;)Z"⟩ : MethodName)) hown (mvT hZ (hw _ (ow 21 rfl))) (mvT hZ (hw _ (ow 22 rfl))) (notFace_of_selects (args := #[]) (mvT hZ (hw _ (ow 24 rfl)))) (mvT hZ (hw _ (ow 24 rfl))) (mvT hZ (hw _ (ow 23 rfl))) (by decide) (backOf (W := 0) (rm4n l Z a0 hw [] b8 T21.heap n0 sz27 ) hZ (hw _ (ow 25 rfl)) (hw _ (ow 2 rfl)) (by decide) (by decide)) q28a q28c (g := (mkF m 101 #[.val (.long q1), .second, .val (.long q2), .second, .val (.long q3), .second, .val (.long q4), .second, .val (.long q5), .second, .val (.int p6), .val (.ref b8), .val (.ref b13), .val (.int (((p6.toUInt32 >>> ((4 : Int32) &&& 31).toUInt32).toInt32) &&& (3 : Int32))), .val (.int z23)] [.null, (.ref b8)])) rfl (by rw [hml]; rfl) (Steps.refl _) (argsL := [.null]) (rest := []) (lenOf pd_4 rfl) rfl (by show 2 * 0 + _ ≤ _; exact Nat.le_of_eq rfl) (hb hby at_101) (fun _ _ => ⟨rfl, rfl, (by decide : 2 + 0 ≤ _), (by decide : 8 + 0 ≤ _)⟩)
    dsimp only [Pt.U, Pt.locs, Pt.cells, Pt.slots] at X28 l28 y28 z28 st28 hQ28
    subst l28 y28 z28
    obtain ⟨rfl, N28q, e28⟩ := hQ28
    have N28 := Fr.app N21 N28q
    refine own_pre (B := T28.setTop (mkF m 104 #[.val (.long q1), .second, .val (.long q2), .second, .val (.long q3), .second, .val (.long q4), .second, .val (.long q5), .second, .val (.int p6), .val (.ref b8), .val (.ref b13), .val (.int (((p6.toUInt32 >>> ((4 : Int32) &&& 31).toUInt32).toInt32) &&& (3 : Int32))), .val (.int z23)] [(.int own_f4n)])) (fun t k => st28.trans k) ?_
    refine own_pre (B := T28.setTop (mkF m 107 #[.val (.long q1), .second, .val (.long q2), .second, .val (.long q3), .second, .val (.long q4), .second, .val (.long q5), .second, .val (.int p6), .val (.ref b8), .val (.ref b13), .val (.int (((p6.toUInt32 >>> ((4 : Int32) &&& 31).toUInt32).toInt32) &&& (3 : Int32))), .val (.int z23)] [])) (fun t k => XS.ifNo X28.here hx rfl (hb hby at_104) rfl ((if0 _ _).trans (teq (by rfl : own_f4n = (0 : Int32))).2) k) ?_
    refine own_pre (B := T28.setTop (mkF m 108 #[.val (.long q1), .second, .val (.long q2), .second, .val (.long q3), .second, .val (.long q4), .second, .val (.long q5), .second, .val (.int p6), .val (.ref b8), .val (.ref b13), .val (.int (((p6.toUInt32 >>> ((4 : Int32) &&& 31).toUInt32).toInt32) &&& (3 : Int32))), .val (.int z23)] [(.int (1 : Int32))])) (fun t k => XS.iconst X28.here hx rfl (hb hby at_107) k) ?_
    refine own_pre (B := T28.setTop (mkF m 112 #[.val (.long q1), .second, .val (.long q2), .second, .val (.long q3), .second, .val (.long q4), .second, .val (.long q5), .second, .val (.int p6), .val (.ref b8), .val (.ref b13), .val (.int (((p6.toUInt32 >>> ((4 : Int32) &&& 31).toUInt32).toInt32) &&& (3 : Int32))), .val (.int z23)] [(.int (1 : Int32))])) (fun t k => XS.goto X28.here hx rfl (pc0 := 108) (pc' := 112) rfl (hb hby at_108) (by decide) (by decide) k) ?_
    obtain ⟨fsr30, hrr30, hrunr30, hendedr30, hWr30, hsamer30⟩ := X28.leave (v := some (.int (1 : Int32))) (fun h => by rw [Bd.returns] at h; cases h)
    refine ⟨_, _, (retN X28 hx (t := .boolean) Bd.returns (by simp) (hb hby at_112) hrr30), hrunr30, hendedr30, _, _, rfl, ?_, ⟨_, rfl⟩, hWr30, hsamer30.mono (by decide) (by decide)⟩
    show Q0 Z q1 q2 q3 q4 q5 p6 ca cc h0 n0 _ T28.heap _
    rw [e28]
    exact ⟨rfl, N28⟩
  · refine own_pre (B := T21.setTop (mkF m 113 #[.val (.long q1), .second, .val (.long q2), .second, .val (.long q3), .second, .val (.long q4), .second, .val (.long q5), .second, .val (.int p6), .val (.ref b8), .val (.ref b13), .val (.int (((p6.toUInt32 >>> ((4 : Int32) &&& 31).toUInt32).toInt32) &&& (3 : Int32))), .val (.int z23)] [])) (fun t k => XS.icmpYes X21.here hx rfl (pc0 := 95) (pc' := 113) rfl (hb hby at_95) rfl (feq hc95_26).2 (by decide) (by decide) k) ?_
    refine own_pre (B := T21.setTop (mkF m 115 #[.val (.long q1), .second, .val (.long q2), .second, .val (.long q3), .second, .val (.long q4), .second, .val (.long q5), .second, .val (.int p6), .val (.ref b8), .val (.ref b13), .val (.int (((p6.toUInt32 >>> ((4 : Int32) &&& 31).toUInt32).toInt32) &&& (3 : Int32))), .val (.int z23)] [(.int (((p6.toUInt32 >>> ((4 : Int32) &&& 31).toUInt32).toInt32) &&& (3 : Int32)))])) (fun t k => XS.iload X21.here hx rfl (hb hby at_113) rfl k) ?_
    refine own_pre (B := T21.setTop (mkF m 116 #[.val (.long q1), .second, .val (.long q2), .second, .val (.long q3), .second, .val (.long q4), .second, .val (.long q5), .second, .val (.int p6), .val (.ref b8), .val (.ref b13), .val (.int (((p6.toUInt32 >>> ((4 : Int32) &&& 31).toUInt32).toInt32) &&& (3 : Int32))), .val (.int z23)] [(.int (2 : Int32)), (.int (((p6.toUInt32 >>> ((4 : Int32) &&& 31).toUInt32).toInt32) &&& (3 : Int32)))])) (fun t k => XS.iconst X21.here hx rfl (hb hby at_115) k) ?_
    by_cases hc116_31 : (((p6.toUInt32 >>> ((4 : Int32) &&& 31).toUInt32).toInt32) &&& (3 : Int32)) = (2 : Int32)
    · refine own_pre (B := T21.setTop (mkF m 119 #[.val (.long q1), .second, .val (.long q2), .second, .val (.long q3), .second, .val (.long q4), .second, .val (.long q5), .second, .val (.int p6), .val (.ref b8), .val (.ref b13), .val (.int (((p6.toUInt32 >>> ((4 : Int32) &&& 31).toUInt32).toInt32) &&& (3 : Int32))), .val (.int z23)] [])) (fun t k => XS.icmpNo X21.here hx rfl (hb hby at_116) rfl (teq hc116_31).2 k) ?_
      refine own_pre (B := T21.setTop (mkF m 121 #[.val (.long q1), .second, .val (.long q2), .second, .val (.long q3), .second, .val (.long q4), .second, .val (.long q5), .second, .val (.int p6), .val (.ref b8), .val (.ref b13), .val (.int (((p6.toUInt32 >>> ((4 : Int32) &&& 31).toUInt32).toInt32) &&& (3 : Int32))), .val (.int z23)] [(.ref b8)])) (fun t k => XS.aload X21.here hx rfl (hb hby at_119) rfl rfl k) ?_
      refine own_pre (B := T21.setTop (mkF m 122 #[.val (.long q1), .second, .val (.long q2), .second, .val (.long q3), .second, .val (.long q4), .second, .val (.long q5), .second, .val (.int p6), .val (.ref b8), .val (.ref b13), .val (.int (((p6.toUInt32 >>> ((4 : Int32) &&& 31).toUInt32).toInt32) &&& (3 : Int32))), .val (.int z23)] [(.long q1), (.ref b8)])) (fun t k => XS.lloadN X21.here hx rfl (hb hby at_121) rfl k) ?_
      have O32 := (Old.keep (Old.ext (Old.keep (Old.ext O0 E8) K10 (allS (P := fun x => n0 ≤ x) g_b8 all0)) E13) K21 (allS (P := fun x => n0 ≤ x) g_b13 all0))
      have sz33 : n0 ≤ T21.heap.size := (Nat.le_trans sz16 K21.1)
      obtain ⟨_, _, ⟨T34, L34, k34, n34⟩, -, X34, ⟨Lc34, hQ34, l34, y34, z34⟩, st34⟩ := Jvm.LawKit.callS X21 hx (y := (⟨"java/lang/Long", "valueOf", "(J)Ljava/lang/Long;"⟩ : MethodName)) hown (mvT hZ (hw _ (ow 28 rfl))) (mvT hZ (hw _ (ow 29 rfl))) (mvT hZ (hw _ (ow 30 rfl))) (mvT hZ (hw _ (ow 31 rfl))) (by decide) (backOf (W := 1) (rm5 l Z a0 hw [] q1 ca cc T21.heap n0 sz33 O32 SC AC SZ256 EL) hZ (hw _ (ow 31 rfl)) (hw _ (ow 30 rfl)) (by decide) (by decide)) (g := (mkF m 122 #[.val (.long q1), .second, .val (.long q2), .second, .val (.long q3), .second, .val (.long q4), .second, .val (.long q5), .second, .val (.int p6), .val (.ref b8), .val (.ref b13), .val (.int (((p6.toUInt32 >>> ((4 : Int32) &&& 31).toUInt32).toInt32) &&& (3 : Int32))), .val (.int z23)] [(.long q1), (.ref b8)])) rfl (by rw [hml]; rfl) (argsL := [(.long q1)]) (rest := [(.ref b8)]) (lenOf pd_5 rfl) rfl (by show 2 * 0 + _ ≤ _; exact Nat.le_of_eq rfl) (hb hby at_122) (fun _ _ => ⟨rfl, rfl, (by decide : 2 + 1 ≤ _), (by decide : 8 + 1 ≤ _)⟩)
      dsimp only [Pt.U, Pt.locs, Pt.cells, Pt.slots] at X34 l34 y34 z34 st34 hQ34
      subst l34 y34 z34
      obtain ⟨b34_, rfl, N34q, K34, q34_0⟩ := hQ34
      have N34 := Fr.app N21 N34q
      have K35 : Keep h0 T21.heap [] := (Keep.trans K22 K21 (allS (P := fun x => x ∈ [] ∨ h0.size ≤ x) (Or.inr s_b13) all0))
      refine own_pre (B := T34.setTop (mkF m 125 #[.val (.long q1), .second, .val (.long q2), .second, .val (.long q3), .second, .val (.long q4), .second, .val (.long q5), .second, .val (.int p6), .val (.ref b8), .val (.ref b13), .val (.int (((p6.toUInt32 >>> ((4 : Int32) &&& 31).toUInt32).toInt32) &&& (3 : Int32))), .val (.int z23)] [(.ref b34_), (.ref b8)])) (fun t k => st34 t k) ?_
      have sz36 : n0 ≤ T34.heap.size := (Nat.le_trans sz33 K34.1)
      have c38 := (Exa.keep (Exa.keep (q10_0.ext E13) K21) K34)
      obtain ⟨cq37, kq37, q37a, q37b, q37c⟩ := isOf hZ rfl c38
      obtain ⟨_, _, ⟨T37, L37, k37, n37⟩, -, X37, ⟨Lc37, hQ37, l37, y37, z37⟩, st37⟩ := X34.virtualBack hx (y := (⟨"com/example/rangewise/rangewise/Id", "equals", "(Ljava/lang/Object;)Z"⟩ : MethodName)) (z := (⟨"com/example/rangewise/rangewise/Id", "equals", "(Ljava/lang/Object;)Z"⟩ : MethodName)) hown (mvT hZ (hw _ (ow 21 rfl))) (mvT hZ (hw _ (ow 22 rfl))) (notFace_of_selects (args := #[]) (mvT hZ (hw _ (ow 24 rfl)))) (mvT hZ (hw _ (ow 24 rfl))) (mvT hZ (hw _ (ow 23 rfl))) (by decide) (backOf (W := 0) (rm4x l Z a0 hw [] b8 b34_ T34.heap n0 sz36 q34_0) hZ (hw _ (ow 25 rfl)) (hw _ (ow 2 rfl)) (by decide) (by decide)) q37a q37c (g := (mkF m 125 #[.val (.long q1), .second, .val (.long q2), .second, .val (.long q3), .second, .val (.long q4), .second, .val (.long q5), .second, .val (.int p6), .val (.ref b8), .val (.ref b13), .val (.int (((p6.toUInt32 >>> ((4 : Int32) &&& 31).toUInt32).toInt32) &&& (3 : Int32))), .val (.int z23)] [(.ref b34_), (.ref b8)])) rfl (by rw [hml]; rfl) (Steps.refl _) (argsL := [(.ref b34_)]) (rest := []) (lenOf pd_4 rfl) rfl (by show 2 * 0 + _ ≤ _; exact Nat.le_of_eq rfl) (hb hby at_125) (fun _ _ => ⟨rfl, rfl, (by decide : 3 + 0 ≤ _), (by decide : 9 + 0 ≤ _)⟩)
      dsimp only [Pt.U, Pt.locs, Pt.cells, Pt.slots] at X37 l37 y37 z37 st37 hQ37
      subst l37 y37 z37
      obtain ⟨rfl, N37q, e37⟩ := hQ37
      have N37 := Fr.app N34 N37q
      refine own_pre (B := T37.setTop (mkF m 128 #[.val (.long q1), .second, .val (.long q2), .second, .val (.long q3), .second, .val (.long q4), .second, .val (.long q5), .second, .val (.int p6), .val (.ref b8), .val (.ref b13), .val (.int (((p6.toUInt32 >>> ((4 : Int32) &&& 31).toUInt32).toInt32) &&& (3 : Int32))), .val (.int z23)] [(.int own_f4x)])) (fun t k => st37.trans k) ?_
      refine own_pre (B := T37.setTop (mkF m 131 #[.val (.long q1), .second, .val (.long q2), .second, .val (.long q3), .second, .val (.long q4), .second, .val (.long q5), .second, .val (.int p6), .val (.ref b8), .val (.ref b13), .val (.int (((p6.toUInt32 >>> ((4 : Int32) &&& 31).toUInt32).toInt32) &&& (3 : Int32))), .val (.int z23)] [])) (fun t k => XS.ifNo X37.here hx rfl (hb hby at_128) rfl ((if0 _ _).trans (teq (by rfl : own_f4x = (0 : Int32))).2) k) ?_
      refine own_pre (B := T37.setTop (mkF m 132 #[.val (.long q1), .second, .val (.long q2), .second, .val (.long q3), .second, .val (.long q4), .second, .val (.long q5), .second, .val (.int p6), .val (.ref b8), .val (.ref b13), .val (.int (((p6.toUInt32 >>> ((4 : Int32) &&& 31).toUInt32).toInt32) &&& (3 : Int32))), .val (.int z23)] [(.int (1 : Int32))])) (fun t k => XS.iconst X37.here hx rfl (hb hby at_131) k) ?_
      refine own_pre (B := T37.setTop (mkF m 136 #[.val (.long q1), .second, .val (.long q2), .second, .val (.long q3), .second, .val (.long q4), .second, .val (.long q5), .second, .val (.int p6), .val (.ref b8), .val (.ref b13), .val (.int (((p6.toUInt32 >>> ((4 : Int32) &&& 31).toUInt32).toInt32) &&& (3 : Int32))), .val (.int z23)] [(.int (1 : Int32))])) (fun t k => XS.goto X37.here hx rfl (pc0 := 132) (pc' := 136) rfl (hb hby at_132) (by decide) (by decide) k) ?_
      obtain ⟨fsr39, hrr39, hrunr39, hendedr39, hWr39, hsamer39⟩ := X37.leave (v := some (.int (1 : Int32))) (fun h => by rw [Bd.returns] at h; cases h)
      refine ⟨_, _, (retN X37 hx (t := .boolean) Bd.returns (by simp) (hb hby at_136) hrr39), hrunr39, hendedr39, _, _, rfl, ?_, ⟨_, rfl⟩, hWr39, hsamer39.mono (by decide) (by decide)⟩
      show Q0 Z q1 q2 q3 q4 q5 p6 ca cc h0 n0 _ T37.heap _
      rw [e37]
      exact ⟨rfl, N37⟩
    · refine own_pre (B := T21.setTop (mkF m 137 #[.val (.long q1), .second, .val (.long q2), .second, .val (.long q3), .second, .val (.long q4), .second, .val (.long q5), .second, .val (.int p6), .val (.ref b8), .val (.ref b13), .val (.int (((p6.toUInt32 >>> ((4 : Int32) &&& 31).toUInt32).toInt32) &&& (3 : Int32))), .val (.int z23)] [])) (fun t k => XS.icmpYes X21.here hx rfl (pc0 := 116) (pc' := 137) rfl (hb hby at_116) rfl (feq hc116_31).2 (by decide) (by decide) k) ?_
      refine own_pre (B := T21.setTop (mkF m 139 #[.val (.long q1), .second, .val (.long q2), .second, .val (.long q3), .second, .val (.long q4), .second, .val (.long q5), .second, .val (.int p6), .val (.ref b8), .val (.ref b13), .val (.int (((p6.toUInt32 >>> ((4 : Int32) &&& 31).toUInt32).toInt32) &&& (3 : Int32))), .val (.int z23)] [(.int (((p6.toUInt32 >>> ((4 : Int32) &&& 31).toUInt32).toInt32) &&& (3 : Int32)))])) (fun t k => XS.iload X21.here hx rfl (hb hby at_137) rfl k) ?_
      refine own_pre (B := T21.setTop (mkF m 140 #[.val (.long q1), .second, .val (.long q2), .second, .val (.long q3), .second, .val (.long q4), .second, .val (.long q5), .second, .val (.int p6), .val (.ref b8), .val (.ref b13), .val (.int (((p6.toUInt32 >>> ((4 : Int32) &&& 31).toUInt32).toInt32) &&& (3 : Int32))), .val (.int z23)] [(.int (3 : Int32)), (.int (((p6.toUInt32 >>> ((4 : Int32) &&& 31).toUInt32).toInt32) &&& (3 : Int32)))])) (fun t k => XS.iconst X21.here hx rfl (hb hby at_139) k) ?_
      by_cases hc140_40 : (((p6.toUInt32 >>> ((4 : Int32) &&& 31).toUInt32).toInt32) &&& (3 : Int32)) = (3 : Int32)
      · refine own_pre (B := T21.setTop (mkF m 143 #[.val (.long q1), .second, .val (.long q2), .second, .val (.long q3), .second, .val (.long q4), .second, .val (.long q5), .second, .val (.int p6), .val (.ref b8), .val (.ref b13), .val (.int (((p6.toUInt32 >>> ((4 : Int32) &&& 31).toUInt32).toInt32) &&& (3 : Int32))), .val (.int z23)] [])) (fun t k => XS.icmpNo X21.here hx rfl (hb hby at_140) rfl (teq hc140_40).2 k) ?_
        refine own_pre (B := T21.setTop (mkF m 145 #[.val (.long q1), .second, .val (.long q2), .second, .val (.long q3), .second, .val (.long q4), .second, .val (.long q5), .second, .val (.int p6), .val (.ref b8), .val (.ref b13), .val (.int (((p6.toUInt32 >>> ((4 : Int32) &&& 31).toUInt32).toInt32) &&& (3 : Int32))), .val (.int z23)] [(.ref b8)])) (fun t k => XS.aload X21.here hx rfl (hb hby at_143) rfl rfl k) ?_
        refine own_pre (B := T21.setTop (mkF m 147 #[.val (.long q1), .second, .val (.long q2), .second, .val (.long q3), .second, .val (.long q4), .second, .val (.long q5), .second, .val (.int p6), .val (.ref b8), .val (.ref b13), .val (.int (((p6.toUInt32 >>> ((4 : Int32) &&& 31).toUInt32).toInt32) &&& (3 : Int32))), .val (.int z23)] [(.ref b8), (.ref b8)])) (fun t k => XS.aload X21.here hx rfl (hb hby at_145) rfl rfl k) ?_
        have c41 := (Exa.keep (q10_0.ext E13) K21)
        have c42 := (Fld.keep (q10_1.ext E13) K21 (ninS ne15 nin0))
        have c43 := (Fld.keep (q10_2.ext E13) K21 (ninS ne15 nin0))
        have c44 := (Fld.keep (q10_3.ext E13) K21 (ninS ne15 nin0))
        have c45 := (Fld.keep (q10_4.ext E13) K21 (ninS ne15 nin0))
        have sz46 : n0 ≤ T21.heap.size := (Nat.le_trans sz16 K21.1)
        obtain ⟨cq47, kq47, q47a, q47b, q47c⟩ := isOf hZ rfl c41
        obtain ⟨_, _, ⟨T47, L47, k47, n47⟩, -, X47, ⟨Lc47, hQ47, l47, y47, z47⟩, st47⟩ := X21.virtualBack hx (y := (⟨"com/example/rangewise/rangewise/Id", "equals", "(Ljava/lang/Object;)Z"⟩ : MethodName)) (z := (⟨"com/example/rangewise/rangewise/Id", "equals", "(Ljava/lang/Object;)Z"⟩ : MethodName)) hown (mvT hZ (hw _ (ow 21 rfl))) (mvT hZ (hw _ (ow 22 rfl))) (notFace_of_selects (args := #[]) (mvT hZ (hw _ (ow 24 rfl)))) (mvT hZ (hw _ (ow 24 rfl))) (mvT hZ (hw _ (ow 23 rfl))) (by decide) (backOf (W := 0) (rm4 l Z a0 hw [] b8 b8 q1 q1 q2 q2 q3 q3 q4 q4 T21.heap n0 sz46 c41 c42 c42 c43 c43 c44 c44 c45 c45) hZ (hw _ (ow 25 rfl)) (hw _ (ow 2 rfl)) (by decide) (by decide)) q47a q47c (g := (mkF m 147 #[.val (.long q1), .second, .val (.long q2), .second, .val (.long q3), .second, .val (.long q4), .second, .val (.long q5), .second, .val (.int p6), .val (.ref b8), .val (.ref b13), .val (.int (((p6.toUInt32 >>> ((4 : Int32) &&& 31).toUInt32).toInt32) &&& (3 : Int32))), .val (.int z23)] [(.ref b8), (.ref b8)])) rfl (by rw [hml]; rfl) (Steps.refl _) (argsL := [(.ref b8)]) (rest := []) (lenOf pd_4 rfl) rfl (by show 2 * 0 + _ ≤ _; exact Nat.le_of_eq rfl) (hb hby at_147) (fun _ _ => ⟨rfl, rfl, (by decide : 2 + 0 ≤ _), (by decide : 8 + 0 ≤ _)⟩)
        dsimp only [Pt.U, Pt.locs, Pt.cells, Pt.slots] at X47 l47 y47 z47 st47 hQ47
        subst l47 y47 z47
        obtain ⟨rfl, N47q, e47⟩ := hQ47
        have N47 := Fr.app N21 N47q
        refine own_pre (B := T47.setTop (mkF m 150 #[.val (.long q1), .second, .val (.long q2), .second, .val (.long q3), .second, .val (.long q4), .second, .val (.long q5), .second, .val (.int p6), .val (.ref b8), .val (.ref b13), .val (.int (((p6.toUInt32 >>> ((4 : Int32) &&& 31).toUInt32).toInt32) &&& (3 : Int32))), .val (.int z23)] [(.int (own_f4 q1 q1 q2 q2 q3 q3 q4 q4))])) (fun t k => st47.trans k) ?_
        refine own_pre (B := T47.setTop (mkF m 153 #[.val (.long q1), .second, .val (.long q2), .second, .val (.long q3), .second, .val (.long q4), .second, .val (.long q5), .second, .val (.int p6), .val (.ref b8), .val (.ref b13), .val (.int (((p6.toUInt32 >>> ((4 : Int32) &&& 31).toUInt32).toInt32) &&& (3 : Int32))), .val (.int z23)] [])) (fun t k => XS.ifNo X47.here hx rfl (hb hby at_150) rfl ((if0 _ _).trans (feq (own_aa _ _ _ _)).1) k) ?_
        refine own_pre (B := T47.setTop (mkF m 155 #[.val (.long q1), .second, .val (.long q2), .second, .val (.long q3), .second, .val (.long q4), .second, .val (.long q5), .second, .val (.int p6), .val (.ref b8), .val (.ref b13), .val (.int (((p6.toUInt32 >>> ((4 : Int32) &&& 31).toUInt32).toInt32) &&& (3 : Int32))), .val (.int z23)] [(.ref b13)])) (fun t k => XS.aload X47.here hx rfl (hb hby at_153) rfl rfl k) ?_
        refine own_pre (B := T47.setTop (mkF m 157 #[.val (.long q1), .second, .val (.long q2), .second, .val (.long q3), .second, .val (.long q4), .second, .val (.long q5), .second, .val (.int p6), .val (.ref b8), .val (.ref b13), .val (.int (((p6.toUInt32 >>> ((4 : Int32) &&& 31).toUInt32).toInt32) &&& (3 : Int32))), .val (.int z23)] [(.ref b8), (.ref b13)])) (fun t k => XS.aload X47.here hx rfl (hb hby at_155) rfl rfl k) ?_
        obtain ⟨cq48, kq48, q48a, q48b, q48c⟩ := isOf hZ e47 q21_0
        obtain ⟨_, _, ⟨T48, L48, k48, n48⟩, -, X48, ⟨Lc48, hQ48, l48, y48, z48⟩, st48⟩ := X47.virtualBack hx (y := (⟨"com/example/rangewise/rangewise/Id", "equals", "(Ljava/lang/Object;)Z"⟩ : MethodName)) (z := (⟨"com/example/rangewise/rangewise/Id", "equals", "(Ljava/lang/Object;)Z"⟩ : MethodName)) hown (mvT hZ (hw _ (ow 21 rfl))) (mvT hZ (hw _ (ow 22 rfl))) (notFace_of_selects (args := #[]) (mvT hZ (hw _ (ow 24 rfl)))) (mvT hZ (hw _ (ow 24 rfl))) (mvT hZ (hw _ (ow 23 rfl))) (by decide) (backOf (W := 0) (rm4 l Z a0 hw [] b13 b8 (own_f3 q1 q5 p6 (0 : Int32)) q1 (own_f3 q2 q5 p6 (1 : Int32)) q2 (own_f3 q3 q5 p6 (2 : Int32)) q3 (own_f3 q4 q5 p6 (3 : Int32)) q4 T21.heap n0 sz46 c41 q21_1 c42 q21_2 c43 q21_3 c44 q21_4 c45) hZ (hw _ (ow 25 rfl)) (hw _ (ow 2 rfl)) (by decide) (by decide)) q48a q48c (g := (mkF m 157 #[.val (.long q1), .second, .val (.long q2), .second, .val (.long q3), .second, .val (.long q4), .second, .val (.long q5), .second, .val (.int p6), .val (.ref b8), .val (.ref b13), .val (.int (((p6.toUInt32 >>> ((4 : Int32) &&& 31).toUInt32).toInt32) &&& (3 : Int32))), .val (.int z23)] [(.ref b8), (.ref b13)])) rfl (by rw [hml]; rfl) (Steps.refl _) (argsL := [(.ref b8)]) (rest := []) (lenOf pd_4 rfl) rfl (by show 2 * 0 + _ ≤ _; exact Nat.le_of_eq rfl) (hb hby at_157) (fun _ _ => ⟨rfl, e47, (by decide : 2 + 0 ≤ _), (by decide : 8 + 0 ≤ _)⟩)
        dsimp only [Pt.U, Pt.locs, Pt.cells, Pt.slots] at X48 l48 y48 z48 st48 hQ48
        subst l48 y48 z48
        obtain ⟨rfl, N48q, e48⟩ := hQ48
        have N48 := Fr.app N47 N48q
        refine own_pre (B := T48.setTop (mkF m 160 #[.val (.long q1), .second, .val (.long q2), .second, .val (.long q3), .second, .val (.long q4), .second, .val (.long q5), .second, .val (.int p6), .val (.ref b8), .val (.ref b13), .val (.int (((p6.toUInt32 >>> ((4 : Int32) &&& 31).toUInt32).toInt32) &&& (3 : Int32))), .val (.int z23)] [(.int (own_f4 (own_f3 q1 q5 p6 (0 : Int32)) q1 (own_f3 q2 q5 p6 (1 : Int32)) q2 (own_f3 q3 q5 p6 (2 : Int32)) q3 (own_f3 q4 q5 p6 (3 : Int32)) q4))])) (fun t k => st48.trans k) ?_
        refine own_pre (B := T48.setTop (mkF m 162 #[.val (.long q1), .second, .val (.long q2), .second, .val (.long q3), .second, .val (.long q4), .second, .val (.long q5), .second, .val (.int p6), .val (.ref b8), .val (.ref b13), .val (.int (((p6.toUInt32 >>> ((4 : Int32) &&& 31).toUInt32).toInt32) &&& (3 : Int32))), .val (.int z23)] [(.int z23), (.int (own_f4 (own_f3 q1 q5 p6 (0 : Int32)) q1 (own_f3 q2 q5 p6 (1 : Int32)) q2 (own_f3 q3 q5 p6 (2 : Int32)) q3 (own_f3 q4 q5 p6 (3 : Int32)) q4))])) (fun t k => XS.iload X48.here hx rfl (hb hby at_160) rfl k) ?_
        refine own_pre (B := T48.setTop (mkF m 165 #[.val (.long q1), .second, .val (.long q2), .second, .val (.long q3), .second, .val (.long q4), .second, .val (.long q5), .second, .val (.int p6), .val (.ref b8), .val (.ref b13), .val (.int (((p6.toUInt32 >>> ((4 : Int32) &&& 31).toUInt32).toInt32) &&& (3 : Int32))), .val (.int z23)] [])) (fun t k => XS.icmpNo X48.here hx rfl (hb hby at_162) rfl (teq (by rw [hz23, own_sym]; exact own_ab _ _ _ _ _ _)).2 k) ?_
        refine own_pre (B := T48.setTop (mkF m 166 #[.val (.long q1), .second, .val (.long q2), .second, .val (.long q3), .second, .val (.long q4), .second, .val (.long q5), .second, .val (.int p6), .val (.ref b8), .val (.ref b13), .val (.int (((p6.toUInt32 >>> ((4 : Int32) &&& 31).toUInt32).toInt32) &&& (3 : Int32))), .val (.int z23)] [(.int (1 : Int32))])) (fun t k => XS.iconst X48.here hx rfl (hb hby at_165) k) ?_
        refine own_pre (B := T48.setTop (mkF m 170 #[.val (.long q1), .second, .val (.long q2), .second, .val (.long q3), .second, .val (.long q4), .second, .val (.long q5), .second, .val (.int p6), .val (.ref b8), .val (.ref b13), .val (.int (((p6.toUInt32 >>> ((4 : Int32) &&& 31).toUInt32).toInt32) &&& (3 : Int32))), .val (.int z23)] [(.int (1 : Int32))])) (fun t k => XS.goto X48.here hx rfl (pc0 := 166) (pc' := 170) rfl (hb hby at_166) (by decide) (by decide) k) ?_
        obtain ⟨fsr49, hrr49, hrunr49, hendedr49, hWr49, hsamer49⟩ := X48.leave (v := some (.int (1 : Int32))) (fun h => by rw [Bd.returns] at h; cases h)
        refine ⟨_, _, (retN X48 hx (t := .boolean) Bd.returns (by simp) (hb hby at_170) hrr49), hrunr49, hendedr49, _, _, rfl, ?_, ⟨_, rfl⟩, hWr49, hsamer49.mono (by decide) (by decide)⟩
        show Q0 Z q1 q2 q3 q4 q5 p6 ca cc h0 n0 _ T48.heap _
        rw [e48]
        exact ⟨rfl, N48⟩
      · refine own_pre (B := T21.setTop (mkF m 171 #[.val (.long q1), .second, .val (.long q2), .second, .val (.long q3), .second, .val (.long q4), .second, .val (.long q5), .second, .val (.int p6), .val (.ref b8), .val (.ref b13), .val (.int (((p6.toUInt32 >>> ((4 : Int32) &&& 31).toUInt32).toInt32) &&& (3 : Int32))), .val (.int z23)] [])) (fun t k => XS.icmpYes X21.here hx rfl (pc0 := 140) (pc' := 171) rfl (hb hby at_140) rfl (feq hc140_40).2 (by decide) (by decide) k) ?_
        refine own_pre (B := T21.setTop (mkF m 173 #[.val (.long q1), .second, .val (.long q2), .second, .val (.long q3), .second, .val (.long q4), .second, .val (.long q5), .second, .val (.int p6), .val (.ref b8), .val (.ref b13), .val (.int (((p6.toUInt32 >>> ((4 : Int32) &&& 31).toUInt32).toInt32) &&& (3 : Int32))), .val (.int z23)] [(.ref b8)])) (fun t k => XS.aload X21.here hx rfl (hb hby at_171) rfl rfl k) ?_
        refine own_pre (B := T21.setTop (mkF m 175 #[.val (.long q1), .second, .val (.long q2), .second, .val (.long q3), .second, .val (.long q4), .second, .val (.long q5), .second, .val (.int p6), .val (.ref b8), .val (.ref b13), .val (.int (((p6.toUInt32 >>> ((4 : Int32) &&& 31).toUInt32).toInt32) &&& (3 : Int32))), .val (.int z23)] [(.ref b13), (.ref b8)])) (fun t k => XS.aload X21.here hx rfl (hb hby at_173) rfl rfl k) ?_
        have c50 := (Fld.keep (q10_1.ext E13) K21 (ninS ne15 nin0))
        have c51 := (Fld.keep (q10_2.ext E13) K21 (ninS ne15 nin0))
        have c52 := (Fld.keep (q10_3.ext E13) K21 (ninS ne15 nin0))
        have c53 := (Fld.keep (q10_4.ext E13) K21 (ninS ne15 nin0))
        have sz54 : n0 ≤ T21.heap.size := (Nat.le_trans sz16 K21.1)
        have c56 := (Exa.keep (q10_0.ext E13) K21)
        obtain ⟨cq55, kq55, q55a, q55b, q55c⟩ := isOf hZ rfl c56
        obtain ⟨_, _, ⟨T55, L55, k55, n55⟩, -, X55, ⟨Lc55, hQ55, l55, y55, z55⟩, st55⟩ := X21.virtualBack hx (y := (⟨"com/example/rangewise/rangewise/Id", "equals", "(Ljava/lang/Object;)Z"⟩ : MethodName)) (z := (⟨"com/example/rangewise/rangewise/Id", "equals", "(Ljava/lang/Object;)Z"⟩ : MethodName)) hown (mvT hZ (hw _ (ow 21 rfl))) (mvT hZ (hw _ (ow 22 rfl))) (notFace_of_selects (args := #[]) (mvT hZ (hw _ (ow 24 rfl)))) (mvT hZ (hw _ (ow 24 rfl))) (mvT hZ (hw _ (ow 23 rfl))) (by decide) (backOf (W := 0) (rm4 l Z a0 hw [] b8 b13 q1 (own_f3 q1 q5 p6 (0 : Int32)) q2 (own_f3 q2 q5 p6 (1 : Int32)) q3 (own_f3 q3 q5 p6 (2 : Int32)) q4 (own_f3 q4 q5 p6 (3 : Int32)) T21.heap n0 sz54 q21_0 c50 q21_1 c51 q21_2 c52 q21_3 c53 q21_4) hZ (hw _ (ow 25 rfl)) (hw _ (ow 2 rfl)) (by decide) (by decide)) q55a q55c (g := (mkF m 175 #[.val (.long q1), .second, .val (.long q2), .second, .val (.long q3), .second, .val (.long q4), .second, .val (.long q5), .second, .val (.int p6), .val (.ref b8), .val (.ref b13), .val (.int (((p6.toUInt32 >>> ((4 : Int32) &&& 31).toUInt32).toInt32) &&& (3 : Int32))), .val (.int z23)] [(.ref b13), (.ref b8)])) rfl (by rw [hml]; rfl) (Steps.refl _) (argsL := [(.ref b13)]) (rest := []) (lenOf pd_4 rfl) rfl (by show 2 * 0 + _ ≤ _; exact Nat.le_of_eq rfl) (hb hby at_175) (fun _ _ => ⟨rfl, rfl, (by decide : 2 + 0 ≤ _), (by decide : 8 + 0 ≤ _)⟩)
        dsimp only [Pt.U, Pt.locs, Pt.cells, Pt.slots] at X55 l55 y55 z55 st55 hQ55
        subst l55 y55 z55
        obtain ⟨rfl, N55q, e55⟩ := hQ55
        have N55 := Fr.app N21 N55q
        refine own_pre (B := T55.setTop (mkF m 178 #[.val (.long q1), .second, .val (.long q2), .second, .val (.long q3), .second, .val (.long q4), .second, .val (.long q5), .second, .val (.int p6), .val (.ref b8), .val (.ref b13), .val (.int (((p6.toUInt32 >>> ((4 : Int32) &&& 31).toUInt32).toInt32) &&& (3 : Int32))), .val (.int z23)] [(.int (own_f4 q1 (own_f3 q1 q5 p6 (0 : Int32)) q2 (own_f3 q2 q5 p6 (1 : Int32)) q3 (own_f3 q3 q5 p6 (2 : Int32)) q4 (own_f3 q4 q5 p6 (3 : Int32))))])) (fun t k => st55.trans k) ?_
        refine own_pre (B := T55.setTop (mkF m 180 #[.val (.long q1), .second, .val (.long q2), .second, .val (.long q3), .second, .val (.long q4), .second, .val (.long q5), .second, .val (.int p6), .val (.ref b8), .val (.ref b13), .val (.int (((p6.toUInt32 >>> ((4 : Int32) &&& 31).toUInt32).toInt32) &&& (3 : Int32))), .val (.int z23)] [(.int z23), (.int (own_f4 q1 (own_f3 q1 q5 p6 (0 : Int32)) q2 (own_f3 q2 q5 p6 (1 : Int32)) q3 (own_f3 q3 q5 p6 (2 : Int32)) q4 (own_f3 q4 q5 p6 (3 : Int32))))])) (fun t k => XS.iload X55.here hx rfl (hb hby at_178) rfl k) ?_
        refine own_pre (B := T55.setTop (mkF m 183 #[.val (.long q1), .second, .val (.long q2), .second, .val (.long q3), .second, .val (.long q4), .second, .val (.long q5), .second, .val (.int p6), .val (.ref b8), .val (.ref b13), .val (.int (((p6.toUInt32 >>> ((4 : Int32) &&& 31).toUInt32).toInt32) &&& (3 : Int32))), .val (.int z23)] [])) (fun t k => XS.icmpNo X55.here hx rfl (hb hby at_180) rfl (teq (by rw [hz23]; exact own_ab _ _ _ _ _ _)).2 k) ?_
        refine own_pre (B := T55.setTop (mkF m 184 #[.val (.long q1), .second, .val (.long q2), .second, .val (.long q3), .second, .val (.long q4), .second, .val (.long q5), .second, .val (.int p6), .val (.ref b8), .val (.ref b13), .val (.int (((p6.toUInt32 >>> ((4 : Int32) &&& 31).toUInt32).toInt32) &&& (3 : Int32))), .val (.int z23)] [(.int (1 : Int32))])) (fun t k => XS.iconst X55.here hx rfl (hb hby at_183) k) ?_
        refine own_pre (B := T55.setTop (mkF m 188 #[.val (.long q1), .second, .val (.long q2), .second, .val (.long q3), .second, .val (.long q4), .second, .val (.long q5), .second, .val (.int p6), .val (.ref b8), .val (.ref b13), .val (.int (((p6.toUInt32 >>> ((4 : Int32) &&& 31).toUInt32).toInt32) &&& (3 : Int32))), .val (.int z23)] [(.int (1 : Int32))])) (fun t k => XS.goto X55.here hx rfl (pc0 := 184) (pc' := 188) rfl (hb hby at_184) (by decide) (by decide) k) ?_
        obtain ⟨fsr57, hrr57, hrunr57, hendedr57, hWr57, hsamer57⟩ := X55.leave (v := some (.int (1 : Int32))) (fun h => by rw [Bd.returns] at h; cases h)
        refine ⟨_, _, (retN X55 hx (t := .boolean) Bd.returns (by simp) (hb hby at_188) hrr57), hrunr57, hendedr57, _, _, rfl, ?_, ⟨_, rfl⟩, hWr57, hsamer57.mono (by decide) (by decide)⟩
        show Q0 Z q1 q2 q3 q4 q5 p6 ca cc h0 n0 _ T55.heap _
        rw [e55]
        exact ⟨rfl, N55⟩
set_option maxRecDepth 65536 in
set_option maxHeartbeats 40000000 in
theorem comes_1 {Post : Tables → Env → Array Value → State → Outcome → State → Prop} (hpost : ∀ tb e args s v u, (limb_1_1.after args s (.returned v) u = true ∧ limb_1_2.after args s (.returned v) u = true ∧ True) → FrameEnd s (.returned v) u (Jvm.fieldLocs frame_1_writes args s ++ Jvm.arrayLocs frame_1_arrays args s ++ Jvm.staticLocs frame_1_statics s) 16 128 → Post tb e args s (.returned v) u) :
    ArmFor flags0 classFile x code maxLocals ret World_1 tables_1 room_1 Calls_1 rest_1 Pre_1 Post := by
  intro l hfl _ _ p e ha hc hk s m args below hf hA hF happ hP
  obtain ⟨hcalls, hrest, hpre⟩ := hP
  obtain ⟨-, -, -, hnamed, -, -, -, hat⟩ := (Spec.applies_iff hf).mp happ
  obtain ⟨hg, hn⟩ := and_e (Cond.before_iff.mp (show (Jvm.Cond.and given_1 narrow_1).before args s = true from hpre))
  obtain ⟨g1, g2⟩ := and_e hg
  obtain ⟨g3, g4⟩ := and_e g2
  obtain ⟨g5, g6⟩ := and_e g4
  obtain ⟨g7, g8⟩ := and_e g6
  obtain ⟨g9, g10⟩ := and_e g8
  obtain ⟨g11, g12⟩ := and_e g10
  obtain ⟨w0, w1, w2, w3, w4, w5, rfl⟩ : ∃ w0 w1 w2 w3 w4 w5 : Value, args = #[w0, w1, w2, w3, w4, w5] := by
    have hs : args.size = 6 := by simpa [Cond.value, given_1] using g1
    obtain ⟨L⟩ := args
    match L, hs with
    | [w0, w1, w2, w3, w4, w5], _ => exact ⟨w0, w1, w2, w3, w4, w5, rfl⟩
  have hw := fun d (hd : d ∈ tables_1) => atoms_spec (ws := Jvm.Cond.code x code maxLocals ret :: tables_1) hat d (List.mem_cons_of_mem _ hd)
  have hfit : Fit s := fun {y c} hc i hi => by
    obtain ⟨ha, rfl⟩ := Array.getElem?_eq_some_iff.mp hc
    have q := List.all_eq_true.mp ((Array.all_eq_true_iff_forall_mem.mp hF) _ (Array.getElem_mem ha)) i (List.mem_range.mpr hi)
    simpa [Array.getElem?_eq_getElem hi] using q
  obtain ⟨hsets, hown0⟩ := atoms_of _ (rest_1_c_eq ▸ (show rest_1_c.before _ s = true from hrest))
  have hr0 := Cond.before_iff.mp hown0
  obtain ⟨i0, ei0⟩ := isL_v g3
  obtain rfl : w0 = (.long i0) := Option.some.inj ei0
  obtain ⟨i1, ei1⟩ := isL_v g5
  obtain rfl : w1 = (.long i1) := Option.some.inj ei1
  obtain ⟨i2, ei2⟩ := isL_v g7
  obtain rfl : w2 = (.long i2) := Option.some.inj ei2
  obtain ⟨i3, ei3⟩ := isL_v g9
  obtain rfl : w3 = (.long i3) := Option.some.inj ei3
  obtain ⟨i4, ei4⟩ := isL_v g11
  obtain rfl : w4 = (.long i4) := Option.some.inj ei4
  obtain ⟨i5, ei5⟩ := is_v g12
  obtain rfl : w5 = (.int i5) := Option.some.inj ei5
  obtain ⟨ca, cc, eC, AC, SZ256, EL⟩ := own_cache (hsets _ (List.mem_of_getElem? (i := 2) rfl)) (hsets _ (List.mem_of_getElem? (i := 4) rfl)) (hsets _ (List.mem_of_getElem? (i := 5) rfl))
  have SC : Sta s s.heap "java/lang/Long$LongCache" "cache" "[Ljava/lang/Long;" (.ref ca) := Sta.start eC (Or.inl (hsets _ (List.mem_of_getElem? (i := 1) rfl)))
  obtain ⟨n, o, h1, h2, h3, _, L, rfl, ⟨rfl, N⟩, hq⟩ := rm0 l s _ hw tables_1 i0 i1 i2 i3 i4 i5 ca cc s.heap s.heap.size (Nat.le_refl _) (Old.start s) SC AC SZ256 EL p e ha hc hk s m _ below hf ((Spec.applies_iff_loose hf).mp happ).1 ⟨rfl, State.Warmed39.refl s, rfl⟩ trivial
  refine ⟨n, _, h1, h2, h3, hpost _ _ _ _ _ _ ⟨Cond.after_iff.mpr rfl, Cond.after_iff.mpr (eq_i res_at (Term.int_eval (1)) rfl), trivial⟩ ⟨hq.1, hq.2.1, (hq.2.2.sift fun y hy => Or.inr (N y hy)).mono (by decide) (by decide)⟩⟩
theorem main_1_1 : Claimed_1_1 := comes_1 fun _ _ _ _ _ _ h hF => ⟨h.1, hF⟩
theorem main_1_2 : Claimed_1_2 := comes_1 fun _ _ _ _ _ _ h hF => ⟨h.2.1, hF⟩
end Jvm.Pilot.@@N@@
namespace Jvm.Pilot.@@N@@
open Jvm Jvm.ClassFile Sem Op Lib Jvm.Free Jvm.Stand Jvm.Pilot.@@N@@.Jvm.D
/-! MADE BY PROGRAM (witnessworld.py) out of the Statement's table words and the real class files: 16 classes; the members and pool entries that the words name. The judged class is class 1, her method 2. -/
namespace start1
open Jvm.ClassFile
def u (s : String) : CpInfo := .utf8 (stringToUtf16 s)
/-- a pool by its gaps: so many unusable entries, then the entry; so many at the end -/
def gap : Nat → List CpInfo → List CpInfo
  | 0, r => r
  | n + 1, r => .unusable :: gap n r
def poolList (es : List (Nat × CpInfo)) (last : Nat) : List CpInfo := es.foldr (fun e r => gap e.1 (e.2 :: r)) (gap last [])
def pool (es : List (Nat × CpInfo)) (last : Nat) : Array CpInfo := ⟨poolList es last⟩
def fileOf (pool : Array CpInfo) (this : Nat) (attrs : Array Attribute := #[]) (ms : Array MethodInfo := #[]) (fl : Nat := 33) (sup : Nat := 0) (ifs : Array Nat := #[]) (fds : Array FieldInfo := #[]) : ClassFile where
  minorVersion := 0
  majorVersion := 65
  constantPool := pool
  accessFlags := fl
  thisClass := this
  superClass := sup
  interfaces := ifs
  fields := fds
  methods := ms
  attributes := attrs
def plain (name : String) (sup : Option ClassId) : Class where
  name := name
  kind := .ordinary
  loader := none
  accessFlags := 33
  super := sup
  interfaces := #[]
  cf := none
  fields := #[]
  methods := #[]
  instanceTypes := #[]
  staticTypes := #[]
  resolved := #[]
  callSites := []
  init := .initialized
  statics := none
  mirror := none

def pool0 : Array CpInfo := pool [(5, u "<init>"), (0, u "()V"), (1, .class_ 10), (1, u "java/lang/Object")] 113

def k0c0 : Code := { maxStack := 0, maxLocals := 1, code := object_method_1_code, exceptionTable := #[], attributes := #[] }
def k0m0 : Method := { name := "<init>", desc := "()V", sig := { parameters := [], returnType := none }, accessFlags := 1, code := some k0c0 }
/-- java/lang/Object -/
def k0 : Class := { plain "java/lang/Object" none with
  accessFlags := 33
  interfaces := #[]
  cf := some (fileOf pool0 8 #[] #[{ accessFlags := 1, nameIndex := 5, descriptorIndex := 6, attributes := #[] }] 33 0 #[] #[])
  fields := #[]
  methods := #[k0m0]
  instanceTypes := #[]
  staticTypes := #[]
  resolved := Array.replicate 124 none
  statics := none }

def pool1 : Array CpInfo := pool [(2, .class_ 4), (1, u "java/lang/Object"), (0, u "<init>"), (0, u "()V"), (0, .class_ 8), (0, u "com/example/rangewise/rangewise/Id"), (0, .methodref 7 10), (0, .nameAndType 5 11), (0, u "(JJJJ)V"), (0, .methodref 13 14), (0, .class_ 15), (0, .nameAndType 16 17), (0, u "com/example/rangewise/rangewise/IdEqualsPinLaw"), (0, u "flip"), (0, u "(JJII)J"), (0, .methodref 7 19), (0, .nameAndType 20 21), (0, u "equals"), (0, u "(Ljava/lang/Object;)Z"), (0, .methodref 23 24), (0, .class_ 25), (0, .nameAndType 26 27), (0, u "java/lang/Long"), (0, u "valueOf"), (0, u "(J)Ljava/lang/Long;"), (3, u "law"), (0, u "(JJJJJI)Z")] 2

def k1m0 : Method := { name := "<init>", desc := "()V", sig := { parameters := [], returnType := none }, accessFlags := 1, code := none }
def k1c1 : Code := { maxStack := 4, maxLocals := 6, code := method_2_code, exceptionTable := #[], attributes := #[] }
def k1m1 : Method := { name := "flip", desc := "(JJII)J", sig := { parameters := [.long, .long, .int, .int], returnType := some .long }, accessFlags := 10, code := some k1c1 }
def k1c2 : Code := { maxStack := 14, maxLocals := 15, code := code, exceptionTable := #[], attributes := #[] }
def k1m2 : Method := { name := "law", desc := "(JJJJJI)Z", sig := { parameters := [.long, .long, .long, .long, .long, .int], returnType := some .boolean }, accessFlags := 9, code := some k1c2 }
/-- com/example/rangewise/rangewise/IdEqualsPinLaw -/
def k1 : Class := { plain "com/example/rangewise/rangewise/IdEqualsPinLaw" (some 0) with
  accessFlags := 49
  interfaces := #[]
  cf := some (fileOf pool1 13 #[] #[{ accessFlags := 1, nameIndex := 5, descriptorIndex := 6, attributes := #[] }, { accessFlags := 10, nameIndex := 16, descriptorIndex := 17, attributes := #[] }, { accessFlags := 9, nameIndex := 31, descriptorIndex := 32, attributes := #[] }] 49 2 #[] #[])
  fields := #[]
  methods := #[k1m0, k1m1, k1m2]
  instanceTypes := #[]
  staticTypes := #[]
  resolved := Array.replicate 35 none
  statics := none }

def pool2 : Array CpInfo := pool [(1, .class_ 2), (0, u "java/lang/Comparable"), (0, .class_ 4), (0, u "java/lang/Object")] 7

/-- java/lang/Comparable -/
def k2 : Class := { plain "java/lang/Comparable" (some 0) with
  accessFlags := 1537
  interfaces := #[]
  cf := some (fileOf pool2 1 #[] #[] 1537 3 #[] #[])
  fields := #[]
  methods := #[]
  instanceTypes := #[]
  staticTypes := #[]
  resolved := Array.replicate 12 none
  statics := none }

def pool3 : Array CpInfo := pool [(1, .class_ 2), (0, u "com/example/rangewise/rangewise/Id"), (2, .methodref 6 7), (0, .class_ 8), (0, .nameAndType 9 10), (0, u "java/lang/Object"), (0, u "<init>"), (0, u "()V"), (0, .fieldref 1 12), (0, .nameAndType 13 14), (0, u "word0"), (0, u "J"), (0, .fieldref 1 16), (0, .nameAndType 17 14), (0, u "word1"), (0, .fieldref 1 19), (0, .nameAndType 20 14), (0, u "word2"), (0, .fieldref 1 22), (0, .nameAndType 23 14), (0, u "word3"), (12, u "(JJJJ)V"), (64, u "ZERO"), (0, u "Lcom/example/rangewise/rangewise/Id;"), (0, .class_ 104), (0, u "java/lang/Comparable"), (0, u "LENGTH"), (0, u "I"), (2, u "HEX_LENGTH"), (1, u "HEX_PER_WORD"), (13, u "equals"), (0, u "(Ljava/lang/Object;)Z")] 22

def k3c0 : Code := { maxStack := 3, maxLocals := 9, code := prog_25_method_1_code, exceptionTable := #[], attributes := #[] }
def k3m0 : Method := { name := "<init>", desc := "(JJJJ)V", sig := { parameters := [.long, .long, .long, .long], returnType := none }, accessFlags := 0, code := some k3c0 }
def k3c1 : Code := { maxStack := 4, maxLocals := 3, code := prog_25_method_8_code, exceptionTable := #[], attributes := #[] }
def k3m1 : Method := { name := "equals", desc := "(Ljava/lang/Object;)Z", sig := { parameters := [(.object "java/lang/Object")], returnType := some .boolean }, accessFlags := 1, code := some k3c1 }
/-- com/example/rangewise/rangewise/Id -/
def k3 : Class := { plain "com/example/rangewise/rangewise/Id" (some 0) with
  accessFlags := 49
  interfaces := #[2]
  cf := some (fileOf pool3 1 #[] #[{ accessFlags := 0, nameIndex := 9, descriptorIndex := 36, attributes := #[] }, { accessFlags := 1, nameIndex := 125, descriptorIndex := 126, attributes := #[] }] 49 6 #[103] #[{ accessFlags := 25, nameIndex := 105, descriptorIndex := 106, attributes := #[] }, { accessFlags := 25, nameIndex := 101, descriptorIndex := 102, attributes := #[] }, { accessFlags := 26, nameIndex := 109, descriptorIndex := 106, attributes := #[] }, { accessFlags := 26, nameIndex := 111, descriptorIndex := 106, attributes := #[] }, { accessFlags := 18, nameIndex := 13, descriptorIndex := 14, attributes := #[] }, { accessFlags := 18, nameIndex := 17, descriptorIndex := 14, attributes := #[] }, { accessFlags := 18, nameIndex := 20, descriptorIndex := 14, attributes := #[] }, { accessFlags := 18, nameIndex := 23, descriptorIndex := 14, attributes := #[] }])
  fields := #[{ name := "LENGTH", type := .int, accessFlags := 25, slot := 0, constantValue := 0 }, { name := "ZERO", type := (.object "com/example/rangewise/rangewise/Id"), accessFlags := 25, slot := 1, constantValue := 0 }, { name := "HEX_LENGTH", type := .int, accessFlags := 26, slot := 2, constantValue := 0 }, { name := "HEX_PER_WORD", type := .int, accessFlags := 26, slot := 3, constantValue := 0 }, { name := "word0", type := .long, accessFlags := 18, slot := 0, constantValue := 0 }, { name := "word1", type := .long, accessFlags := 18, slot := 1, constantValue := 0 }, { name := "word2", type := .long, accessFlags := 18, slot := 2, constantValue := 0 }, { name := "word3", type := .long, accessFlags := 18, slot := 3, constantValue := 0 }]
  methods := #[k3m0, k3m1]
  instanceTypes := #[.long, .long, .long, .long]
  staticTypes := #[.int, (.object "com/example/rangewise/rangewise/Id"), .int, .int]
  resolved := Array.replicate 149 none
  statics := none }

def pool4 : Array CpInfo := pool [(1, .class_ 2), (0, u "java/io/Serializable"), (0, .class_ 4), (0, u "java/lang/Object")] 2

/-- java/io/Serializable -/
def k4 : Class := { plain "java/io/Serializable" (some 0) with
  accessFlags := 1537
  interfaces := #[]
  cf := some (fileOf pool4 1 #[] #[] 1537 3 #[] #[])
  fields := #[]
  methods := #[]
  instanceTypes := #[]
  staticTypes := #[]
  resolved := Array.replicate 7 none
  statics := none }

def pool5 : Array CpInfo := pool [(1, .methodref 2 3), (0, .class_ 4), (0, .nameAndType 5 6), (0, u "java/lang/Object"), (0, u "<init>"), (0, u "()V"), (1, .class_ 10), (1, u "java/lang/Number"), (2, .class_ 14), (0, u "java/io/Serializable"), (0, u "serialVersionUID"), (0, u "J")] 20

def k5c0 : Code := { maxStack := 1, maxLocals := 1, code := jdk_18_method_1_code, exceptionTable := #[], attributes := #[] }
def k5m0 : Method := { name := "<init>", desc := "()V", sig := { parameters := [], returnType := none }, accessFlags := 1, code := some k5c0 }
/-- java/lang/Number -/
def k5 : Class := { plain "java/lang/Number" (some 0) with
  accessFlags := 1057
  interfaces := #[4]
  cf := some (fileOf pool5 8 #[] #[{ accessFlags := 1, nameIndex := 5, descriptorIndex := 6, attributes := #[] }] 1057 2 #[13] #[{ accessFlags := 26, nameIndex := 15, descriptorIndex := 16, attributes := #[] }])
  fields := #[{ name := "serialVersionUID", type := .long, accessFlags := 26, slot := 0, constantValue := 0 }]
  methods := #[k5m0]
  instanceTypes := #[]
  staticTypes := #[.long]
  resolved := Array.replicate 37 none
  statics := none }

def pool6 : Array CpInfo := pool [(1, .class_ 2), (0, u "java/lang/constant/Constable"), (0, .class_ 4), (0, u "java/lang/Object")] 6

/-- java/lang/constant/Constable -/
def k6 : Class := { plain "java/lang/constant/Constable" (some 0) with
  accessFlags := 1537
  interfaces := #[]
  cf := some (fileOf pool6 1 #[] #[] 1537 3 #[] #[])
  fields := #[]
  methods := #[]
  instanceTypes := #[]
  staticTypes := #[]
  resolved := Array.replicate 11 none
  statics := none }

def pool7 : Array CpInfo := pool [(1, .class_ 2), (0, u "java/lang/constant/ConstantDesc"), (0, .class_ 4), (0, u "java/lang/Object")] 32

/-- java/lang/constant/ConstantDesc -/
def k7 : Class := { plain "java/lang/constant/ConstantDesc" (some 0) with
  accessFlags := 1537
  interfaces := #[]
  cf := some (fileOf pool7 1 #[] #[] 1537 3 #[] #[])
  fields := #[]
  methods := #[]
  instanceTypes := #[]
  staticTypes := #[]
  resolved := Array.replicate 37 none
  statics := none }

def pool8 : Array CpInfo := pool [(1, .class_ 2), (0, u "java/lang/Long"), (55, .nameAndType 59 60), (0, u "<init>"), (0, u "()V"), (24, u "valueOf"), (143, u "(J)Ljava/lang/Long;"), (0, .long 18446744073709551488), (1, .long 127), (1, .fieldref 235 236), (0, .class_ 237), (0, .nameAndType 238 239), (0, u "java/lang/Long$LongCache"), (0, u "cache"), (0, u "[Ljava/lang/Long;"), (0, .methodref 1 241), (0, .nameAndType 59 242), (0, u "(J)V"), (27, .methodref 271 58), (0, .class_ 272), (0, u "java/lang/Number"), (0, .fieldref 1 274), (0, .nameAndType 275 276), (0, u "value"), (0, u "J"), (84, u "TYPE"), (0, u "Ljava/lang/Class;"), (0, .class_ 364), (0, u "java/lang/Comparable"), (0, .class_ 366), (0, u "java/lang/constant/Constable"), (0, .class_ 368), (0, u "java/lang/constant/ConstantDesc"), (0, u "MIN_VALUE"), (1, u "MAX_VALUE"), (4, u "SIZE"), (0, u "I"), (1, u "BYTES"), (1, u "serialVersionUID")] 142

def k8c0 : Code := { maxStack := 4, maxLocals := 3, code := jdk_35_method_24_code, exceptionTable := #[], attributes := #[] }
def k8m0 : Method := { name := "valueOf", desc := "(J)Ljava/lang/Long;", sig := { parameters := [.long], returnType := some (.object "java/lang/Long") }, accessFlags := 9, code := some k8c0 }
def k8c1 : Code := { maxStack := 3, maxLocals := 3, code := jdk_35_method_26_code, exceptionTable := #[], attributes := #[] }
def k8m1 : Method := { name := "<init>", desc := "(J)V", sig := { parameters := [.long], returnType := none }, accessFlags := 1, code := some k8c1 }
/-- java/lang/Long -/
def k8 : Class := { plain "java/lang/Long" (some 5) with
  accessFlags := 49
  interfaces := #[2, 6, 7]
  cf := some (fileOf pool8 1 #[.nestMembers #[235]] #[{ accessFlags := 9, nameIndex := 85, descriptorIndex := 229, attributes := #[] }, { accessFlags := 1, nameIndex := 59, descriptorIndex := 242, attributes := #[] }] 49 271 #[363, 365, 367] #[{ accessFlags := 25, nameIndex := 369, descriptorIndex := 276, attributes := #[] }, { accessFlags := 25, nameIndex := 371, descriptorIndex := 276, attributes := #[] }, { accessFlags := 25, nameIndex := 361, descriptorIndex := 362, attributes := #[] }, { accessFlags := 18, nameIndex := 275, descriptorIndex := 276, attributes := #[] }, { accessFlags := 25, nameIndex := 376, descriptorIndex := 377, attributes := #[] }, { accessFlags := 25, nameIndex := 379, descriptorIndex := 377, attributes := #[] }, { accessFlags := 26, nameIndex := 381, descriptorIndex := 276, attributes := #[] }])
  fields := #[{ name := "MIN_VALUE", type := .long, accessFlags := 25, slot := 0, constantValue := 0 }, { name := "MAX_VALUE", type := .long, accessFlags := 25, slot := 1, constantValue := 0 }, { name := "TYPE", type := (.object "java/lang/Class"), accessFlags := 25, slot := 2, constantValue := 0 }, { name := "value", type := .long, accessFlags := 18, slot := 0, constantValue := 0 }, { name := "SIZE", type := .int, accessFlags := 25, slot := 3, constantValue := 0 }, { name := "BYTES", type := .int, accessFlags := 25, slot := 4, constantValue := 0 }, { name := "serialVersionUID", type := .long, accessFlags := 26, slot := 5, constantValue := 0 }]
  methods := #[k8m0, k8m1]
  instanceTypes := #[.long]
  staticTypes := #[.long, .long, (.object "java/lang/Class"), .int, .int, .long]
  resolved := Array.replicate 524 none
  statics := none }

def pool9 : Array CpInfo := pool [(2, .class_ 4), (1, u "java/lang/Object"), (0, u "<init>"), (0, u "()V"), (0, .class_ 8), (0, u "java/lang/Long"), (7, .class_ 18), (1, u "java/lang/Long$LongCache"), (0, u "$assertionsDisabled"), (0, u "Z"), (8, u "archivedCache"), (0, u "[Ljava/lang/Long;"), (7, u "cache")] 24

def k9m0 : Method := { name := "<init>", desc := "()V", sig := { parameters := [], returnType := none }, accessFlags := 2, code := none }
/-- java/lang/Long$LongCache -/
def k9 : Class := { plain "java/lang/Long$LongCache" (some 0) with
  accessFlags := 48
  interfaces := #[]
  cf := some (fileOf pool9 16 #[.nestHost 7] #[{ accessFlags := 2, nameIndex := 5, descriptorIndex := 6, attributes := #[] }] 48 2 #[] #[{ accessFlags := 24, nameIndex := 38, descriptorIndex := 30, attributes := #[] }, { accessFlags := 8, nameIndex := 29, descriptorIndex := 30, attributes := #[] }, { accessFlags := 4120, nameIndex := 19, descriptorIndex := 20, attributes := #[] }])
  fields := #[{ name := "cache", type := (.array (.object "java/lang/Long")), accessFlags := 24, slot := 0, constantValue := 0 }, { name := "archivedCache", type := (.array (.object "java/lang/Long")), accessFlags := 8, slot := 1, constantValue := 0 }, { name := "$assertionsDisabled", type := .boolean, accessFlags := 4120, slot := 2, constantValue := 0 }]
  methods := #[k9m0]
  instanceTypes := #[]
  staticTypes := #[(.array (.object "java/lang/Long")), (.array (.object "java/lang/Long")), .boolean]
  resolved := Array.replicate 63 none
  statics := some 0 }

def pool10 : Array CpInfo := pool [(1, u "java/lang/Cloneable"), (0, .class_ 1), (0, u "java/lang/Object"), (0, .class_ 3)] 3

/-- java/lang/Cloneable -/
def k10 : Class := { plain "java/lang/Cloneable" (some 0) with
  accessFlags := 1537
  interfaces := #[]
  cf := some (fileOf pool10 2 #[] #[] 1537 4 #[] #[])
  fields := #[]
  methods := #[]
  instanceTypes := #[]
  staticTypes := #[]
  resolved := Array.replicate 8 none
  statics := none }

/-- the primitive byte -/
def k11 : Class := { plain "byte" none with kind := .primitive 'B', accessFlags := 0x411 }
/-- [B -/
def k12 : Class := { plain "[B" (some 0) with kind := .array 11 .byte, interfaces := #[10, 4], accessFlags := 1041 }

/-- the primitive int -/
def k13 : Class := { plain "int" none with kind := .primitive 'I', accessFlags := 0x411 }
/-- [I -/
def k14 : Class := { plain "[I" (some 0) with kind := .array 13 .int, interfaces := #[10, 4], accessFlags := 1041 }

/-- [Ljava/lang/Long; -/
def k15 : Class := { plain "[Ljava/lang/Long;" (some 0) with kind := .array 8 (.object "java/lang/Long"), interfaces := #[10, 4], accessFlags := 1041 }

def heap : Heap := #[{ cls := 9, slots := #[.ref 1, .null, .int 0], vm := .statics 9 },
  { cls := 15, slots := #[.ref 2, .ref 3, .ref 4, .ref 5, .ref 6, .ref 7, .ref 8, .ref 9, .ref 10, .ref 11, .ref 12, .ref 13, .ref 14, .ref 15, .ref 16, .ref 17, .ref 18, .ref 19, .ref 20, .ref 21, .ref 22, .ref 23, .ref 24, .ref 25, .ref 26, .ref 27, .ref 28, .ref 29, .ref 30, .ref 31, .ref 32, .ref 33, .ref 34, .ref 35, .ref 36, .ref 37, .ref 38, .ref 39, .ref 40, .ref 41, .ref 42, .ref 43, .ref 44, .ref 45, .ref 46, .ref 47, .ref 48, .ref 49, .ref 50, .ref 51, .ref 52, .ref 53, .ref 54, .ref 55, .ref 56, .ref 57, .ref 58, .ref 59, .ref 60, .ref 61, .ref 62, .ref 63, .ref 64, .ref 65, .ref 66, .ref 67, .ref 68, .ref 69, .ref 70, .ref 71, .ref 72, .ref 73, .ref 74, .ref 75, .ref 76, .ref 77, .ref 78, .ref 79, .ref 80, .ref 81, .ref 82, .ref 83, .ref 84, .ref 85, .ref 86, .ref 87, .ref 88, .ref 89, .ref 90, .ref 91, .ref 92, .ref 93, .ref 94, .ref 95, .ref 96, .ref 97, .ref 98, .ref 99, .ref 100, .ref 101, .ref 102, .ref 103, .ref 104, .ref 105, .ref 106, .ref 107, .ref 108, .ref 109, .ref 110, .ref 111, .ref 112, .ref 113, .ref 114, .ref 115, .ref 116, .ref 117, .ref 118, .ref 119, .ref 120, .ref 121, .ref 122, .ref 123, .ref 124, .ref 125, .ref 126, .ref 127, .ref 128, .ref 129, .ref 130, .ref 131, .ref 132, .ref 133, .ref 134, .ref 135, .ref 136, .ref 137, .ref 138, .ref 139, .ref 140, .ref 141, .ref 142, .ref 143, .ref 144, .ref 145, .ref 146, .ref 147, .ref 148, .ref 149, .ref 150, .ref 151, .ref 152, .ref 153, .ref 154, .ref 155, .ref 156, .ref 157, .ref 158, .ref 159, .ref 160, .ref 161, .ref 162, .ref 163, .ref 164, .ref 165, .ref 166, .ref 167, .ref 168, .ref 169, .ref 170, .ref 171, .ref 172, .ref 173, .ref 174, .ref 175, .ref 176, .ref 177, .ref 178, .ref 179, .ref 180, .ref 181, .ref 182, .ref 183, .ref 184, .ref 185, .ref 186, .ref 187, .ref 188, .ref 189, .ref 190, .ref 191, .ref 192, .ref 193, .ref 194, .ref 195, .ref 196, .ref 197, .ref 198, .ref 199, .ref 200, .ref 201, .ref 202, .ref 203, .ref 204, .ref 205, .ref 206, .ref 207, .ref 208, .ref 209, .ref 210, .ref 211, .ref 212, .ref 213, .ref 214, .ref 215, .ref 216, .ref 217, .ref 218, .ref 219, .ref 220, .ref 221, .ref 222, .ref 223, .ref 224, .ref 225, .ref 226, .ref 227, .ref 228, .ref 229, .ref 230, .ref 231, .ref 232, .ref 233, .ref 234, .ref 235, .ref 236, .ref 237, .ref 238, .ref 239, .ref 240, .ref 241, .ref 242, .ref 243, .ref 244, .ref 245, .ref 246, .ref 247, .ref 248, .ref 249, .ref 250, .ref 251, .ref 252, .ref 253, .ref 254, .ref 255, .ref 256, .ref 257], vm := .none },
  { cls := 8, slots := #[.long (-128)], vm := .none },
  { cls := 8, slots := #[.long (-127)], vm := .none },
  { cls := 8, slots := #[.long (-126)], vm := .none },
  { cls := 8, slots := #[.long (-125)], vm := .none },
  { cls := 8, slots := #[.long (-124)], vm := .none },
  { cls := 8, slots := #[.long (-123)], vm := .none },
  { cls := 8, slots := #[.long (-122)], vm := .none },
  { cls := 8, slots := #[.long (-121)], vm := .none },
  { cls := 8, slots := #[.long (-120)], vm := .none },
  { cls := 8, slots := #[.long (-119)], vm := .none },
  { cls := 8, slots := #[.long (-118)], vm := .none },
  { cls := 8, slots := #[.long (-117)], vm := .none },
  { cls := 8, slots := #[.long (-116)], vm := .none },
  { cls := 8, slots := #[.long (-115)], vm := .none },
  { cls := 8, slots := #[.long (-114)], vm := .none },
  { cls := 8, slots := #[.long (-113)], vm := .none },
  { cls := 8, slots := #[.long (-112)], vm := .none },
  { cls := 8, slots := #[.long (-111)], vm := .none },
  { cls := 8, slots := #[.long (-110)], vm := .none },
  { cls := 8, slots := #[.long (-109)], vm := .none },
  { cls := 8, slots := #[.long (-108)], vm := .none },
  { cls := 8, slots := #[.long (-107)], vm := .none },
  { cls := 8, slots := #[.long (-106)], vm := .none },
  { cls := 8, slots := #[.long (-105)], vm := .none },
  { cls := 8, slots := #[.long (-104)], vm := .none },
  { cls := 8, slots := #[.long (-103)], vm := .none },
  { cls := 8, slots := #[.long (-102)], vm := .none },
  { cls := 8, slots := #[.long (-101)], vm := .none },
  { cls := 8, slots := #[.long (-100)], vm := .none },
  { cls := 8, slots := #[.long (-99)], vm := .none },
  { cls := 8, slots := #[.long (-98)], vm := .none },
  { cls := 8, slots := #[.long (-97)], vm := .none },
  { cls := 8, slots := #[.long (-96)], vm := .none },
  { cls := 8, slots := #[.long (-95)], vm := .none },
  { cls := 8, slots := #[.long (-94)], vm := .none },
  { cls := 8, slots := #[.long (-93)], vm := .none },
  { cls := 8, slots := #[.long (-92)], vm := .none },
  { cls := 8, slots := #[.long (-91)], vm := .none },
  { cls := 8, slots := #[.long (-90)], vm := .none },
  { cls := 8, slots := #[.long (-89)], vm := .none },
  { cls := 8, slots := #[.long (-88)], vm := .none },
  { cls := 8, slots := #[.long (-87)], vm := .none },
  { cls := 8, slots := #[.long (-86)], vm := .none },
  { cls := 8, slots := #[.long (-85)], vm := .none },
  { cls := 8, slots := #[.long (-84)], vm := .none },
  { cls := 8, slots := #[.long (-83)], vm := .none },
  { cls := 8, slots := #[.long (-82)], vm := .none },
  { cls := 8, slots := #[.long (-81)], vm := .none },
  { cls := 8, slots := #[.long (-80)], vm := .none },
  { cls := 8, slots := #[.long (-79)], vm := .none },
  { cls := 8, slots := #[.long (-78)], vm := .none },
  { cls := 8, slots := #[.long (-77)], vm := .none },
  { cls := 8, slots := #[.long (-76)], vm := .none },
  { cls := 8, slots := #[.long (-75)], vm := .none },
  { cls := 8, slots := #[.long (-74)], vm := .none },
  { cls := 8, slots := #[.long (-73)], vm := .none },
  { cls := 8, slots := #[.long (-72)], vm := .none },
  { cls := 8, slots := #[.long (-71)], vm := .none },
  { cls := 8, slots := #[.long (-70)], vm := .none },
  { cls := 8, slots := #[.long (-69)], vm := .none },
  { cls := 8, slots := #[.long (-68)], vm := .none },
  { cls := 8, slots := #[.long (-67)], vm := .none },
  { cls := 8, slots := #[.long (-66)], vm := .none },
  { cls := 8, slots := #[.long (-65)], vm := .none },
  { cls := 8, slots := #[.long (-64)], vm := .none },
  { cls := 8, slots := #[.long (-63)], vm := .none },
  { cls := 8, slots := #[.long (-62)], vm := .none },
  { cls := 8, slots := #[.long (-61)], vm := .none },
  { cls := 8, slots := #[.long (-60)], vm := .none },
  { cls := 8, slots := #[.long (-59)], vm := .none },
  { cls := 8, slots := #[.long (-58)], vm := .none },
  { cls := 8, slots := #[.long (-57)], vm := .none },
  { cls := 8, slots := #[.long (-56)], vm := .none },
  { cls := 8, slots := #[.long (-55)], vm := .none },
  { cls := 8, slots := #[.long (-54)], vm := .none },
  { cls := 8, slots := #[.long (-53)], vm := .none },
  { cls := 8, slots := #[.long (-52)], vm := .none },
  { cls := 8, slots := #[.long (-51)], vm := .none },
  { cls := 8, slots := #[.long (-50)], vm := .none },
  { cls := 8, slots := #[.long (-49)], vm := .none },
  { cls := 8, slots := #[.long (-48)], vm := .none },
  { cls := 8, slots := #[.long (-47)], vm := .none },
  { cls := 8, slots := #[.long (-46)], vm := .none },
  { cls := 8, slots := #[.long (-45)], vm := .none },
  { cls := 8, slots := #[.long (-44)], vm := .none },
  { cls := 8, slots := #[.long (-43)], vm := .none },
  { cls := 8, slots := #[.long (-42)], vm := .none },
  { cls := 8, slots := #[.long (-41)], vm := .none },
  { cls := 8, slots := #[.long (-40)], vm := .none },
  { cls := 8, slots := #[.long (-39)], vm := .none },
  { cls := 8, slots := #[.long (-38)], vm := .none },
  { cls := 8, slots := #[.long (-37)], vm := .none },
  { cls := 8, slots := #[.long (-36)], vm := .none },
  { cls := 8, slots := #[.long (-35)], vm := .none },
  { cls := 8, slots := #[.long (-34)], vm := .none },
  { cls := 8, slots := #[.long (-33)], vm := .none },
  { cls := 8, slots := #[.long (-32)], vm := .none },
  { cls := 8, slots := #[.long (-31)], vm := .none },
  { cls := 8, slots := #[.long (-30)], vm := .none },
  { cls := 8, slots := #[.long (-29)], vm := .none },
  { cls := 8, slots := #[.long (-28)], vm := .none },
  { cls := 8, slots := #[.long (-27)], vm := .none },
  { cls := 8, slots := #[.long (-26)], vm := .none },
  { cls := 8, slots := #[.long (-25)], vm := .none },
  { cls := 8, slots := #[.long (-24)], vm := .none },
  { cls := 8, slots := #[.long (-23)], vm := .none },
  { cls := 8, slots := #[.long (-22)], vm := .none },
  { cls := 8, slots := #[.long (-21)], vm := .none },
  { cls := 8, slots := #[.long (-20)], vm := .none },
  { cls := 8, slots := #[.long (-19)], vm := .none },
  { cls := 8, slots := #[.long (-18)], vm := .none },
  { cls := 8, slots := #[.long (-17)], vm := .none },
  { cls := 8, slots := #[.long (-16)], vm := .none },
  { cls := 8, slots := #[.long (-15)], vm := .none },
  { cls := 8, slots := #[.long (-14)], vm := .none },
  { cls := 8, slots := #[.long (-13)], vm := .none },
  { cls := 8, slots := #[.long (-12)], vm := .none },
  { cls := 8, slots := #[.long (-11)], vm := .none },
  { cls := 8, slots := #[.long (-10)], vm := .none },
  { cls := 8, slots := #[.long (-9)], vm := .none },
  { cls := 8, slots := #[.long (-8)], vm := .none },
  { cls := 8, slots := #[.long (-7)], vm := .none },
  { cls := 8, slots := #[.long (-6)], vm := .none },
  { cls := 8, slots := #[.long (-5)], vm := .none },
  { cls := 8, slots := #[.long (-4)], vm := .none },
  { cls := 8, slots := #[.long (-3)], vm := .none },
  { cls := 8, slots := #[.long (-2)], vm := .none },
  { cls := 8, slots := #[.long (-1)], vm := .none },
  { cls := 8, slots := #[.long 0], vm := .none },
  { cls := 8, slots := #[.long 1], vm := .none },
  { cls := 8, slots := #[.long 2], vm := .none },
  { cls := 8, slots := #[.long 3], vm := .none },
  { cls := 8, slots := #[.long 4], vm := .none },
  { cls := 8, slots := #[.long 5], vm := .none },
  { cls := 8, slots := #[.long 6], vm := .none },
  { cls := 8, slots := #[.long 7], vm := .none },
  { cls := 8, slots := #[.long 8], vm := .none },
  { cls := 8, slots := #[.long 9], vm := .none },
  { cls := 8, slots := #[.long 10], vm := .none },
  { cls := 8, slots := #[.long 11], vm := .none },
  { cls := 8, slots := #[.long 12], vm := .none },
  { cls := 8, slots := #[.long 13], vm := .none },
  { cls := 8, slots := #[.long 14], vm := .none },
  { cls := 8, slots := #[.long 15], vm := .none },
  { cls := 8, slots := #[.long 16], vm := .none },
  { cls := 8, slots := #[.long 17], vm := .none },
  { cls := 8, slots := #[.long 18], vm := .none },
  { cls := 8, slots := #[.long 19], vm := .none },
  { cls := 8, slots := #[.long 20], vm := .none },
  { cls := 8, slots := #[.long 21], vm := .none },
  { cls := 8, slots := #[.long 22], vm := .none },
  { cls := 8, slots := #[.long 23], vm := .none },
  { cls := 8, slots := #[.long 24], vm := .none },
  { cls := 8, slots := #[.long 25], vm := .none },
  { cls := 8, slots := #[.long 26], vm := .none },
  { cls := 8, slots := #[.long 27], vm := .none },
  { cls := 8, slots := #[.long 28], vm := .none },
  { cls := 8, slots := #[.long 29], vm := .none },
  { cls := 8, slots := #[.long 30], vm := .none },
  { cls := 8, slots := #[.long 31], vm := .none },
  { cls := 8, slots := #[.long 32], vm := .none },
  { cls := 8, slots := #[.long 33], vm := .none },
  { cls := 8, slots := #[.long 34], vm := .none },
  { cls := 8, slots := #[.long 35], vm := .none },
  { cls := 8, slots := #[.long 36], vm := .none },
  { cls := 8, slots := #[.long 37], vm := .none },
  { cls := 8, slots := #[.long 38], vm := .none },
  { cls := 8, slots := #[.long 39], vm := .none },
  { cls := 8, slots := #[.long 40], vm := .none },
  { cls := 8, slots := #[.long 41], vm := .none },
  { cls := 8, slots := #[.long 42], vm := .none },
  { cls := 8, slots := #[.long 43], vm := .none },
  { cls := 8, slots := #[.long 44], vm := .none },
  { cls := 8, slots := #[.long 45], vm := .none },
  { cls := 8, slots := #[.long 46], vm := .none },
  { cls := 8, slots := #[.long 47], vm := .none },
  { cls := 8, slots := #[.long 48], vm := .none },
  { cls := 8, slots := #[.long 49], vm := .none },
  { cls := 8, slots := #[.long 50], vm := .none },
  { cls := 8, slots := #[.long 51], vm := .none },
  { cls := 8, slots := #[.long 52], vm := .none },
  { cls := 8, slots := #[.long 53], vm := .none },
  { cls := 8, slots := #[.long 54], vm := .none },
  { cls := 8, slots := #[.long 55], vm := .none },
  { cls := 8, slots := #[.long 56], vm := .none },
  { cls := 8, slots := #[.long 57], vm := .none },
  { cls := 8, slots := #[.long 58], vm := .none },
  { cls := 8, slots := #[.long 59], vm := .none },
  { cls := 8, slots := #[.long 60], vm := .none },
  { cls := 8, slots := #[.long 61], vm := .none },
  { cls := 8, slots := #[.long 62], vm := .none },
  { cls := 8, slots := #[.long 63], vm := .none },
  { cls := 8, slots := #[.long 64], vm := .none },
  { cls := 8, slots := #[.long 65], vm := .none },
  { cls := 8, slots := #[.long 66], vm := .none },
  { cls := 8, slots := #[.long 67], vm := .none },
  { cls := 8, slots := #[.long 68], vm := .none },
  { cls := 8, slots := #[.long 69], vm := .none },
  { cls := 8, slots := #[.long 70], vm := .none },
  { cls := 8, slots := #[.long 71], vm := .none },
  { cls := 8, slots := #[.long 72], vm := .none },
  { cls := 8, slots := #[.long 73], vm := .none },
  { cls := 8, slots := #[.long 74], vm := .none },
  { cls := 8, slots := #[.long 75], vm := .none },
  { cls := 8, slots := #[.long 76], vm := .none },
  { cls := 8, slots := #[.long 77], vm := .none },
  { cls := 8, slots := #[.long 78], vm := .none },
  { cls := 8, slots := #[.long 79], vm := .none },
  { cls := 8, slots := #[.long 80], vm := .none },
  { cls := 8, slots := #[.long 81], vm := .none },
  { cls := 8, slots := #[.long 82], vm := .none },
  { cls := 8, slots := #[.long 83], vm := .none },
  { cls := 8, slots := #[.long 84], vm := .none },
  { cls := 8, slots := #[.long 85], vm := .none },
  { cls := 8, slots := #[.long 86], vm := .none },
  { cls := 8, slots := #[.long 87], vm := .none },
  { cls := 8, slots := #[.long 88], vm := .none },
  { cls := 8, slots := #[.long 89], vm := .none },
  { cls := 8, slots := #[.long 90], vm := .none },
  { cls := 8, slots := #[.long 91], vm := .none },
  { cls := 8, slots := #[.long 92], vm := .none },
  { cls := 8, slots := #[.long 93], vm := .none },
  { cls := 8, slots := #[.long 94], vm := .none },
  { cls := 8, slots := #[.long 95], vm := .none },
  { cls := 8, slots := #[.long 96], vm := .none },
  { cls := 8, slots := #[.long 97], vm := .none },
  { cls := 8, slots := #[.long 98], vm := .none },
  { cls := 8, slots := #[.long 99], vm := .none },
  { cls := 8, slots := #[.long 100], vm := .none },
  { cls := 8, slots := #[.long 101], vm := .none },
  { cls := 8, slots := #[.long 102], vm := .none },
  { cls := 8, slots := #[.long 103], vm := .none },
  { cls := 8, slots := #[.long 104], vm := .none },
  { cls := 8, slots := #[.long 105], vm := .none },
  { cls := 8, slots := #[.long 106], vm := .none },
  { cls := 8, slots := #[.long 107], vm := .none },
  { cls := 8, slots := #[.long 108], vm := .none },
  { cls := 8, slots := #[.long 109], vm := .none },
  { cls := 8, slots := #[.long 110], vm := .none },
  { cls := 8, slots := #[.long 111], vm := .none },
  { cls := 8, slots := #[.long 112], vm := .none },
  { cls := 8, slots := #[.long 113], vm := .none },
  { cls := 8, slots := #[.long 114], vm := .none },
  { cls := 8, slots := #[.long 115], vm := .none },
  { cls := 8, slots := #[.long 116], vm := .none },
  { cls := 8, slots := #[.long 117], vm := .none },
  { cls := 8, slots := #[.long 118], vm := .none },
  { cls := 8, slots := #[.long 119], vm := .none },
  { cls := 8, slots := #[.long 120], vm := .none },
  { cls := 8, slots := #[.long 121], vm := .none },
  { cls := 8, slots := #[.long 122], vm := .none },
  { cls := 8, slots := #[.long 123], vm := .none },
  { cls := 8, slots := #[.long 124], vm := .none },
  { cls := 8, slots := #[.long 125], vm := .none },
  { cls := 8, slots := #[.long 126], vm := .none },
  { cls := 8, slots := #[.long 127], vm := .none }]
def classes : Array Class := #[k0, k1, k2, k3, k4, k5, k6, k7, k8, k9, k10, k11, k12, k13, k14, k15]
def interned : List (Array UInt16 × Addr) := []
def slotsUsed : Nat := 515
def theMethod : MethodId := ⟨1, 2⟩
def args0 : Array Value := #[.long 5, .long 6, .long 7, .long 8, .long 9, .int 25]
def aboutOver (below : List Frame) : State where
  vm := { classes := classes, interned := interned.toArray }
  heap := heap
  slotsUsed := slotsUsed
  threads := #[{ frames := .invoking theMethod args0 :: below }]
def below0 : List Frame := [.native { method := ⟨0, 0⟩, args := #[] }]
def about1 : State := aboutOver below0
def p0 : Program := .bare "" "" ""
def e0 : Env := launch0.env 0 0 0
theorem w_frames : about1.frames = Frame.invoking theMethod args0 :: below0 := rfl
set_option maxRecDepth 65536 in
theorem w_args : argsFit about1.vm theMethod args0 = true := by decide +kernel
set_option maxRecDepth 65536 in
theorem w_heap : heapFits about1 = true := by decide +kernel
set_option maxRecDepth 65536 in
theorem w_runnable : about1.curStatus? = some .runnable := by decide +kernel
set_option maxRecDepth 65536 in
theorem w_alone : about1.alone = true := by decide +kernel
set_option maxRecDepth 65536 in
theorem w_named : about1.methodNamed? x = some theMethod := by decide +kernel
set_option maxRecDepth 65536 in
theorem w_hears : about1.hears theMethod below0 = true := by decide +kernel
set_option maxRecDepth 65536 in
theorem w_ripe : about1.ripe theMethod args0 below0 = true := by decide +kernel
theorem w_running : about1.status = .running := rfl
set_option maxRecDepth 65536 in
theorem w_room : about1.hasRoom e0.platform room_1 = true :=
  launch0.hasRoom_least _ room_1 (by decide +kernel) (by decide +kernel) (by decide +kernel) (by decide +kernel) (by decide +kernel) (by decide +kernel)
theorem allAtoms_all (ts : List Jvm.Cond) (a : Array Jvm.Value) (st : Jvm.State) : (allAtoms ts).before a st = ts.all (fun c => c.before a st) := by
  induction ts with
  | nil => rfl
  | cons c t ih =>
    show (Jvm.Cond.and c (allAtoms t)).before a st = _
    rw [Jvm.Cond.before_and, ih, List.all_cons]
def words1 : List Jvm.Cond := Jvm.Cond.code x code maxLocals ret :: tables_1
/-- a 'code' word, met by the world's own term for the bytes: nothing is compared byte by byte -/
theorem code_word {y : MethodName} {bytes : ByteArray} {mx : Nat} {rt : Option FieldType} {a : Array Value} {s : State} {m : MethodId} {meth : Method} {c : Code} (h1 : s.methodNamed? y = some m) (h2 : s.vm.method? m = some meth) (h3 : meth.code = some c) (h4 : c.code = bytes)
    (h5 : (c.maxLocals == mx && c.exceptionTable.isEmpty && decide (c.maxStack ≤ mostOperands) && decide (meth.sig.returnType = rt) && !meth.locks && decide (parseMethodDescriptor y.desc = some meth.sig)) = true) : (Jvm.Cond.code y bytes mx rt).before a s = true := by
  simp only [Bool.and_eq_true, beq_iff_eq, Bool.not_eq_true', decide_eq_true_eq] at h5
  obtain ⟨⟨⟨⟨⟨g1, g2⟩, g3⟩, g4⟩, g5⟩, g6⟩ := h5
  simp [Cond.before, Cond.holds, Cond.value, h1, h2, h3, h4, g1, g2, g3, g4, g5, g6]
def isCode : Jvm.Cond → Bool
  | .code _ _ _ _ => true
  | _ => false
theorem all_split {L : List Jvm.Cond} {P : Jvm.Cond → Bool} (h1 : L.all (fun c => isCode c || P c) = true) (h2 : ∀ c ∈ L.filter isCode, P c = true) : L.all P = true := by
  refine List.all_eq_true.mpr fun c hc => ?_
  have h := List.all_eq_true.mp h1 c hc
  rcases Bool.eq_false_or_eq_true (isCode c) with hi | hi
  · exact h2 c (List.mem_filter.mpr ⟨hc, hi⟩)
  · simpa [hi] using h
set_option maxRecDepth 65536 in
theorem w_c0 : (Jvm.Cond.code x code maxLocals ret).before args0 about1 = true := code_word (m := ⟨1, 2⟩) (meth := k1m2) (c := k1c2) (by decide +kernel) rfl rfl rfl (by decide +kernel)
set_option maxRecDepth 65536 in
theorem w_c1 : (Jvm.Cond.code ({ cls := "com/example/rangewise/rangewise/Id", name := "<init>", desc := "(JJJJ)V" } : Jvm.MethodName) prog_25_method_1_code (9 : Nat) (Option.none : Option Jvm.ClassFile.FieldType)).before args0 about1 = true := code_word (m := ⟨3, 0⟩) (meth := k3m0) (c := k3c0) (by decide +kernel) rfl rfl rfl (by decide +kernel)
set_option maxRecDepth 65536 in
theorem w_c2 : (Jvm.Cond.code ({ cls := "java/lang/Object", name := "<init>", desc := "()V" } : Jvm.MethodName) object_method_1_code (1 : Nat) (Option.none : Option Jvm.ClassFile.FieldType)).before args0 about1 = true := code_word (m := ⟨0, 0⟩) (meth := k0m0) (c := k0c0) (by decide +kernel) rfl rfl rfl (by decide +kernel)
set_option maxRecDepth 65536 in
theorem w_c3 : (Jvm.Cond.code ({ cls := "com/example/rangewise/rangewise/IdEqualsPinLaw", name := "flip", desc := "(JJII)J" } : Jvm.MethodName) method_2_code (6 : Nat) (Option.some Jvm.ClassFile.FieldType.long)).before args0 about1 = true := code_word (m := ⟨1, 1⟩) (meth := k1m1) (c := k1c1) (by decide +kernel) rfl rfl rfl (by decide +kernel)
set_option maxRecDepth 65536 in
theorem w_c4 : (Jvm.Cond.code ({ cls := "com/example/rangewise/rangewise/Id", name := "equals", desc := "(Ljava/lang/Object;)Z" } : Jvm.MethodName) prog_25_method_8_code (3 : Nat) (Option.some Jvm.ClassFile.FieldType.boolean)).before args0 about1 = true := code_word (m := ⟨3, 1⟩) (meth := k3m1) (c := k3c1) (by decide +kernel) rfl rfl rfl (by decide +kernel)
set_option maxRecDepth 65536 in
theorem w_c5 : (Jvm.Cond.code ({ cls := "java/lang/Long", name := "valueOf", desc := "(J)Ljava/lang/Long;" } : Jvm.MethodName) jdk_35_method_24_code (3 : Nat) (Option.some (Jvm.ClassFile.FieldType.object "java/lang/Long"))).before args0 about1 = true := code_word (m := ⟨8, 0⟩) (meth := k8m0) (c := k8c0) (by decide +kernel) rfl rfl rfl (by decide +kernel)
set_option maxRecDepth 65536 in
theorem w_c6 : (Jvm.Cond.code ({ cls := "java/lang/Long", name := "<init>", desc := "(J)V" } : Jvm.MethodName) jdk_35_method_26_code (3 : Nat) (Option.none : Option Jvm.ClassFile.FieldType)).before args0 about1 = true := code_word (m := ⟨8, 1⟩) (meth := k8m1) (c := k8c1) (by decide +kernel) rfl rfl rfl (by decide +kernel)
set_option maxRecDepth 65536 in
theorem w_c7 : (Jvm.Cond.code ({ cls := "java/lang/Number", name := "<init>", desc := "()V" } : Jvm.MethodName) jdk_18_method_1_code (1 : Nat) (Option.none : Option Jvm.ClassFile.FieldType)).before args0 about1 = true := code_word (m := ⟨5, 0⟩) (meth := k5m0) (c := k5c0) (by decide +kernel) rfl rfl rfl (by decide +kernel)
def codes1 : List Jvm.Cond := [Jvm.Cond.code x code maxLocals ret, Jvm.Cond.code ({ cls := "com/example/rangewise/rangewise/Id", name := "<init>", desc := "(JJJJ)V" } : Jvm.MethodName) prog_25_method_1_code (9 : Nat) (Option.none : Option Jvm.ClassFile.FieldType), Jvm.Cond.code ({ cls := "java/lang/Object", name := "<init>", desc := "()V" } : Jvm.MethodName) object_method_1_code (1 : Nat) (Option.none : Option Jvm.ClassFile.FieldType), Jvm.Cond.code ({ cls := "com/example/rangewise/rangewise/IdEqualsPinLaw", name := "flip", desc := "(JJII)J" } : Jvm.MethodName) method_2_code (6 : Nat) (Option.some Jvm.ClassFile.FieldType.long), Jvm.Cond.code ({ cls := "com/example/rangewise/rangewise/Id", name := "equals", desc := "(Ljava/lang/Object;)Z" } : Jvm.MethodName) prog_25_method_8_code (3 : Nat) (Option.some Jvm.ClassFile.FieldType.boolean), Jvm.Cond.code ({ cls := "java/lang/Long", name := "valueOf", desc := "(J)Ljava/lang/Long;" } : Jvm.MethodName) jdk_35_method_24_code (3 : Nat) (Option.some (Jvm.ClassFile.FieldType.object "java/lang/Long")), Jvm.Cond.code ({ cls := "java/lang/Long", name := "<init>", desc := "(J)V" } : Jvm.MethodName) jdk_35_method_26_code (3 : Nat) (Option.none : Option Jvm.ClassFile.FieldType), Jvm.Cond.code ({ cls := "java/lang/Number", name := "<init>", desc := "()V" } : Jvm.MethodName) jdk_18_method_1_code (1 : Nat) (Option.none : Option Jvm.ClassFile.FieldType)]
set_option maxRecDepth 65536 in
theorem codes_eq : words1.filter isCode = codes1 := rfl
theorem w_codes : ∀ c ∈ words1.filter isCode, c.before args0 about1 = true := by
  rw [codes_eq]
  intro c hc
  simp only [codes1, List.mem_cons, List.not_mem_nil, or_false] at hc
  rcases hc with rfl | rfl | rfl | rfl | rfl | rfl | rfl | rfl
  · exact w_c0
  · exact w_c1
  · exact w_c2
  · exact w_c3
  · exact w_c4
  · exact w_c5
  · exact w_c6
  · exact w_c7
set_option maxRecDepth 65536 in
theorem w_t1 : (words1.take 24).all (fun c => isCode c || c.before args0 about1) = true := by decide +kernel
set_option maxRecDepth 65536 in
theorem w_t2 : ((words1.drop 24).take 24).all (fun c => isCode c || c.before args0 about1) = true := by decide +kernel
set_option maxRecDepth 65536 in
theorem w_t3 : ((words1.drop 24).drop 24).all (fun c => isCode c || c.before args0 about1) = true := by decide +kernel
theorem w_tables : (allAtoms (Jvm.Cond.code x code maxLocals ret :: tables_1)).before args0 about1 = true := by
  rw [allAtoms_all]
  show words1.all (fun c => c.before args0 about1) = true
  refine all_split ?_ w_codes
  rw [← List.take_append_drop 24 words1, List.all_append, w_t1, ← List.take_append_drop 24 (words1.drop 24), List.all_append, w_t2, w_t3]
  rfl
set_option maxRecDepth 65536 in
theorem w_rest : rest_1_c.before args0 about1 = true := by decide +kernel
set_option maxRecDepth 65536 in
theorem w_case : (Jvm.Cond.and given_1 narrow_1).before args0 about1 = true := by decide +kernel
theorem w_applies : (headSpec (Jvm.Cond.code x code maxLocals ret :: tables_1) room_1).applies x e0.platform about1 = true :=
  (Spec.applies_iff w_frames).mpr ⟨w_running, w_runnable, w_alone, w_named, w_hears, w_ripe, w_room, w_tables⟩
theorem atStart : AtStart classFile x code maxLocals ret World_1 tables_1 room_1 Calls_1 rest_1 Pre_1 launch0 p0 e0 about1 theMethod args0 below0 :=
  ⟨lists_1, trivial, launch0.admits_env _ _ _, launch0.least_env, fairChoices_fair.cas, fairChoices_fair.clock, w_frames, w_args, w_heap, w_applies, trivial, w_rest, w_case⟩
end start1
theorem witness_1 : WitnessClaimed_1 := ⟨start1.p0, start1.e0, start1.about1, start1.theMethod, start1.args0, start1.below0, start1.atStart⟩
end Jvm.Pilot.@@N@@
